import JvmDerived
import JvmDerived.Pilot.@@N@@Statement
import JvmDerived.Pilot.@@N@@Code
set_option linter.unusedVariables false
set_option linter.unusedSimpArgs false
namespace Jvm.Pilot.@@N@@
open Jvm Jvm.ClassFile Sem Op Lib Jvm.Free Jvm.Stand Jvm.LawKit Jvm.RoadKit Bundle Jvm.Pilot.@@N@@.Jvm.D
section OwnKit
variable {p : Program} {l : Launch} {e : Env} {R : Room} {s : State} {m : MethodId} {args : Array Value} {below : List Frame} {meth : Method} {c : Code} {T : State} {locs : List Loc} {cells slots : Nat}
/-- from U the walk comes to its end, and there Q holds -/
def own_Go (p : Program) (e : Env) (below : List Frame) (Q : Option Value → Heap → List Loc → Prop) (F : List Loc → Outcome → State → Prop) (U : State) : Prop :=
  ∃ t o, Steps p.tables e below U t ∧ t.status = .running ∧ Ended t below o ∧ ∃ v L, o = .returned v ∧ Q v t.heap L ∧ F L o t
def own_Fr (s : State) (C S : Nat) (L : List Loc) (o : Outcome) (t : State) : Prop := FrameEnd s o t L C S
def own_FrW (s : State) (C S : Nat) (L : List Loc) (o : Outcome) (t : State) : Prop := ReturnedEndW s o t L C S
variable {Q : Option Value → Heap → List Loc → Prop} {F : List Loc → Outcome → State → Prop} {C S : Nat}
theorem own_by {U U' : State} (k : ∀ t, Steps p.tables e below U' t → Steps p.tables e below U t) (h : own_Go p e below Q F U') : own_Go p e below Q F U := by
  obtain ⟨t, o, h1, h2⟩ := h
  exact ⟨t, o, k t h1, h2⟩
theorem own_via {U U' : State} (k : Steps p.tables e below U U') (h : own_Go p e below Q F U') : own_Go p e below Q F U := own_by (fun _ q => k.trans q) h
theorem own_ret (X : Stand p l e R s m args below meth c T locs cells slots) (hx : p.tables.exec = Jvm.exec) {pc : Nat} {Ls : Array Slot} {w : Value} {t : FieldType} {i : Instr} {rest : List Value} (hret : meth.sig.returnType = some t) (hlocks : meth.locks = false)
    (hi : (i = .ireturn ∧ (t = .int ∨ t = .boolean ∨ t = .byte ∨ t = .char ∨ t = .short) ∧ ∃ z, w = .int z) ∨ (i = .lreturn ∧ t = .long ∧ ∃ z, w = .long z) ∨ (i = .dreturn ∧ t = .double ∧ ∃ z, w = .double z) ∨ (i = .freturn ∧ t = .float ∧ ∃ z, w = .float z) ∨ (i = .areturn ∧ t.isReference = true ∧ w.isRef = true))
    (hd : decode c.code pc = .ok (i, 1)) (hn : narrow t w = w) (hc : cells ≤ C) (hs : slots ≤ S) (hQ : Q (some w) T.heap locs) : own_Go p e below Q (own_Fr s C S) (T.setTop (mkF m pc Ls (w :: rest))) := by
  obtain ⟨fs, hr, hrun, hended, hW, hsame⟩ := X.leave (v := some w) (fun h => by rw [hret] at h; cases h) hlocks
  exact ⟨_, _, retOut X hx hret hn hi hd hr, hrun, hended, _, _, rfl, hQ, ⟨_, rfl⟩, hW, hsame.mono hc hs⟩
theorem own_ret0 (X : Stand p l e R s m args below meth c T locs cells slots) (hx : p.tables.exec = Jvm.exec) {pc : Nat} {Ls : Array Slot} {st : List Value} (hret : meth.sig.returnType = none) (hlocks : meth.locks = false)
    (hd : decode c.code pc = .ok (.return_, 1)) (hst : st = []) (hc : cells ≤ C) (hs : slots ≤ S) (hQ : Q none T.heap locs) : own_Go p e below Q (own_Fr s C S) (T.setTop (mkF m pc Ls st)) := by
  subst hst
  obtain ⟨fs, hr, hrun, hended, hW, hsame⟩ := X.leave (v := none) (fun _ => rfl) hlocks
  exact ⟨_, _, X.returnOut hx hret hd hr, hrun, hended, _, _, rfl, hQ, ⟨_, rfl⟩, hW, hsame.mono hc hs⟩
theorem own_retW {s : State} {vm₁ : Vm} {nn : Nat} (X : Stand p l e R (s.setVm vm₁) m args below meth c T locs cells slots) (hx : p.tables.exec = Jvm.exec) {pc : Nat} {Ls : Array Slot} {w : Value} {t : FieldType} {i : Instr} {rest : List Value} (hret : meth.sig.returnType = some t) (hlocks : meth.locks = false) (hS : s.Since vm₁ nn) (hk : nn ≤ T.heap.size)
    (hi : (i = .ireturn ∧ (t = .int ∨ t = .boolean ∨ t = .byte ∨ t = .char ∨ t = .short) ∧ ∃ z, w = .int z) ∨ (i = .lreturn ∧ t = .long ∧ ∃ z, w = .long z) ∨ (i = .dreturn ∧ t = .double ∧ ∃ z, w = .double z) ∨ (i = .freturn ∧ t = .float ∧ ∃ z, w = .float z) ∨ (i = .areturn ∧ t.isReference = true ∧ w.isRef = true))
    (hd : decode c.code pc = .ok (i, 1)) (hn : narrow t w = w) (hc : cells ≤ C) (hs : slots ≤ S) (hQ : Q (some w) T.heap locs) : own_Go p e below Q (own_FrW s C S) (T.setTop (mkF m pc Ls (w :: rest))) := by
  obtain ⟨fs, hr, hrun, hended, hW⟩ := X.leaveW hS hk (v := some w) (fun h => by rw [hret] at h; cases h) hlocks
  exact ⟨_, _, retOut X hx hret hn hi hd hr, hrun, hended, _, _, rfl, hQ, hW.1, hW.2.1, hW.2.2.1, hW.2.2.2.mono hc hs⟩
theorem own_ret0W {s : State} {vm₁ : Vm} {nn : Nat} (X : Stand p l e R (s.setVm vm₁) m args below meth c T locs cells slots) (hx : p.tables.exec = Jvm.exec) {pc : Nat} {Ls : Array Slot} {st : List Value} (hret : meth.sig.returnType = none) (hlocks : meth.locks = false) (hS : s.Since vm₁ nn) (hk : nn ≤ T.heap.size)
    (hd : decode c.code pc = .ok (.return_, 1)) (hst : st = []) (hc : cells ≤ C) (hs : slots ≤ S) (hQ : Q none T.heap locs) : own_Go p e below Q (own_FrW s C S) (T.setTop (mkF m pc Ls st)) := by
  subst hst
  obtain ⟨fs, hr, hrun, hended, hW⟩ := X.leaveW hS hk (v := none) (fun _ => rfl) hlocks
  exact ⟨_, _, X.returnOut hx hret hd hr, hrun, hended, _, _, rfl, hQ, hW.1, hW.2.1, hW.2.2.1, hW.2.2.2.mono hc hs⟩
theorem own_nz {z : Int32} (h : z.toInt = 0 ∨ z.toInt = 1) : narrow .boolean (.int z) = .int z := by
  rcases h with h | h
  · obtain rfl : z = 0 := Int32.toInt_inj.mp h
    rfl
  · obtain rfl : z = 1 := Int32.toInt_inj.mp h
    rfl
theorem own_nb {z : Int32} (h : -128 ≤ z.toInt ∧ z.toInt < 128) : nar .byte z = z := by
  have q := c_i2b z
  exact Int32.toInt_inj.mp (by show z.toInt8.toInt32.toInt = z.toInt; omega)
theorem own_fb {z : Int32} (h : -128 ≤ z.toInt ∧ z.toInt < 128) : fits .byte (.int z) = true := by
  have q := fits_nar_byte z
  rw [show z.toInt8.toInt32 = z from own_nb h] at q
  exact q
theorem own_nc {z : Int32} (h : 0 ≤ z.toInt ∧ z.toInt < 65536) : nar .char z = z := by
  have q := c_i2c z
  exact Int32.toInt_inj.mp (by show z.toUInt32.toUInt16.toUInt32.toInt32.toInt = z.toInt; omega)
theorem own_fc {z : Int32} (h : 0 ≤ z.toInt ∧ z.toInt < 65536) : fits .char (.int z) = true := by
  have q := fits_nar_char z
  rw [own_nc h] at q
  exact q
theorem own_nch {z : Int32} (h : 0 ≤ z.toInt ∧ z.toInt < 65536) : narrow .char (.int z) = .int z := by
  show Value.int (nar .char z) = _
  rw [own_nc h]
theorem own_b01 {z : Int32} (h : z.toInt = 0 ∨ z.toInt = 1) : z = 0 ∨ z = 1 := h.imp (fun q => Int32.toInt_inj.mp q) (fun q => Int32.toInt_inj.mp q)
theorem own_nbool {z : Int32} (h : z.toInt = 0 ∨ z.toInt = 1) : nar .boolean z = z := by rcases own_b01 h with rfl | rfl <;> decide
theorem own_fbool {z : Int32} (h : z.toInt = 0 ∨ z.toInt = 1) : fits .boolean (.int z) = true := by rcases own_b01 h with rfl | rfl <;> decide
theorem own_lt {x y : Int32} : x.toInt < y.toInt ↔ x < y := Int32.lt_iff_toInt_lt.symm
theorem own_yes_lt {x y : Int32} {a b : Int} (ha : x.toInt = a) (hb : y.toInt = b) (h : a < b) : if_icmp.holds .lt x y = true := by subst ha hb; exact (tlt (own_lt.mp h)).1
theorem own_no_lt {x y : Int32} {a b : Int} (ha : x.toInt = a) (hb : y.toInt = b) (h : ¬ a < b) : if_icmp.holds .lt x y = false := by subst ha hb; exact (flt (fun q => h (own_lt.mpr q))).1
theorem own_yes_ge {x y : Int32} {a b : Int} (ha : x.toInt = a) (hb : y.toInt = b) (h : ¬ a < b) : if_icmp.holds .ge x y = true := by subst ha hb; exact (flt (fun q => h (own_lt.mpr q))).2.1
theorem own_no_ge {x y : Int32} {a b : Int} (ha : x.toInt = a) (hb : y.toInt = b) (h : a < b) : if_icmp.holds .ge x y = false := by subst ha hb; exact (tlt (own_lt.mp h)).2.1
theorem own_yes_gt {x y : Int32} {a b : Int} (ha : x.toInt = a) (hb : y.toInt = b) (h : b < a) : if_icmp.holds .gt x y = true := by subst ha hb; exact (tlt (own_lt.mp h)).2.2.1
theorem own_no_gt {x y : Int32} {a b : Int} (ha : x.toInt = a) (hb : y.toInt = b) (h : ¬ b < a) : if_icmp.holds .gt x y = false := by subst ha hb; exact (flt (fun q => h (own_lt.mpr q))).2.2.1
theorem own_yes_le {x y : Int32} {a b : Int} (ha : x.toInt = a) (hb : y.toInt = b) (h : ¬ b < a) : if_icmp.holds .le x y = true := by subst ha hb; exact (flt (fun q => h (own_lt.mpr q))).2.2.2
theorem own_no_le {x y : Int32} {a b : Int} (ha : x.toInt = a) (hb : y.toInt = b) (h : b < a) : if_icmp.holds .le x y = false := by subst ha hb; exact (tlt (own_lt.mp h)).2.2.2
theorem own_yes_eq {x y : Int32} {a b : Int} (ha : x.toInt = a) (hb : y.toInt = b) (h : a = b) : if_icmp.holds .eq x y = true := by subst ha hb; exact (teq (Int32.toInt_inj.mp h)).1
theorem own_no_eq {x y : Int32} {a b : Int} (ha : x.toInt = a) (hb : y.toInt = b) (h : ¬ a = b) : if_icmp.holds .eq x y = false := by subst ha hb; exact (feq (fun q => h (congrArg Int32.toInt q))).1
theorem own_yes_ne {x y : Int32} {a b : Int} (ha : x.toInt = a) (hb : y.toInt = b) (h : ¬ a = b) : if_icmp.holds .ne x y = true := by subst ha hb; exact (feq (fun q => h (congrArg Int32.toInt q))).2
theorem own_no_ne {x y : Int32} {a b : Int} (ha : x.toInt = a) (hb : y.toInt = b) (h : a = b) : if_icmp.holds .ne x y = false := by subst ha hb; exact (teq (Int32.toInt_inj.mp h)).2
theorem own_z {cd : ClassFile.Cond} {x : Int32} {b : Bool} (h : if_icmp.holds cd x 0 = b) : ifCond.holds cd x = b := (if0 cd x).trans h
theorem own_lcm {x y : Int64} {a b : Int} (ha : x.toInt = a) (hb : y.toInt = b) : (a < b ∧ (lcmpW x y).toInt = -1) ∨ (a = b ∧ (lcmpW x y).toInt = 0) ∨ (b < a ∧ (lcmpW x y).toInt = 1) := by
  subst ha hb
  obtain ⟨h1, h2, h3⟩ := c_lcmp x y
  omega
theorem own_ne0 {x : Int32} {a : Int} (ha : x.toInt = a) (h : ¬ a = 0) : x ≠ 0 := fun q => h (by rw [← ha, q]; rfl)
theorem own_iloadN (X : Stand p l e R s m args below meth c T locs cells slots) (hx : p.tables.exec = Jvm.exec) {pc pc' : Nat} {Ls : Array Slot} {st : List Value} {k : Fin 4} {v : Int32} (hl : Ls[k.val]? = some (.val (.int v))) (hd : decode c.code pc = .ok (.iload_n k, 1)) (hp : pc + 1 = pc') (h : own_Go p e below Q F (T.setTop (mkF m pc' Ls (.int v :: st)))) : own_Go p e below Q F (T.setTop (mkF m pc Ls st)) := by
  subst hp
  exact own_by (fun _ q => XS.iloadN X.here hx rfl hd hl q) h
theorem own_iload (X : Stand p l e R s m args below meth c T locs cells slots) (hx : p.tables.exec = Jvm.exec) {pc pc' : Nat} {Ls : Array Slot} {st : List Value} {k : Nat} {v : Int32} (hl : Ls[k]? = some (.val (.int v))) (hd : decode c.code pc = .ok (.iload k, 2)) (hp : pc + 2 = pc') (h : own_Go p e below Q F (T.setTop (mkF m pc' Ls (.int v :: st)))) : own_Go p e below Q F (T.setTop (mkF m pc Ls st)) := by
  subst hp
  exact own_by (fun _ q => XS.iload X.here hx rfl hd hl q) h
theorem own_lloadN (X : Stand p l e R s m args below meth c T locs cells slots) (hx : p.tables.exec = Jvm.exec) {pc pc' : Nat} {Ls : Array Slot} {st : List Value} {k : Fin 4} {v : Int64} (hl : Ls[k.val]? = some (.val (.long v))) (hd : decode c.code pc = .ok (.lload_n k, 1)) (hp : pc + 1 = pc') (h : own_Go p e below Q F (T.setTop (mkF m pc' Ls (.long v :: st)))) : own_Go p e below Q F (T.setTop (mkF m pc Ls st)) := by
  subst hp
  exact own_by (fun _ q => XS.lloadN X.here hx rfl hd hl q) h
theorem own_lload (X : Stand p l e R s m args below meth c T locs cells slots) (hx : p.tables.exec = Jvm.exec) {pc pc' : Nat} {Ls : Array Slot} {st : List Value} {k : Nat} {v : Int64} (hl : Ls[k]? = some (.val (.long v))) (hd : decode c.code pc = .ok (.lload k, 2)) (hp : pc + 2 = pc') (h : own_Go p e below Q F (T.setTop (mkF m pc' Ls (.long v :: st)))) : own_Go p e below Q F (T.setTop (mkF m pc Ls st)) := by
  subst hp
  exact own_by (fun _ q => XS.lload X.here hx rfl hd hl q) h
theorem own_aloadN (X : Stand p l e R s m args below meth c T locs cells slots) (hx : p.tables.exec = Jvm.exec) {pc pc' : Nat} {Ls : Array Slot} {st : List Value} {k : Fin 4} {v : Value} (hl : Ls[k.val]? = some (.val v)) (hv : v.isRef = true) (hd : decode c.code pc = .ok (.aload_n k, 1)) (hp : pc + 1 = pc') (h : own_Go p e below Q F (T.setTop (mkF m pc' Ls (v :: st)))) : own_Go p e below Q F (T.setTop (mkF m pc Ls st)) := by
  subst hp
  exact own_by (fun _ q => XS.aloadN X.here hx rfl hd hl hv q) h
theorem own_aload (X : Stand p l e R s m args below meth c T locs cells slots) (hx : p.tables.exec = Jvm.exec) {pc pc' : Nat} {Ls : Array Slot} {st : List Value} {k : Nat} {v : Value} (hl : Ls[k]? = some (.val v)) (hv : v.isRef = true) (hd : decode c.code pc = .ok (.aload k, 2)) (hp : pc + 2 = pc') (h : own_Go p e below Q F (T.setTop (mkF m pc' Ls (v :: st)))) : own_Go p e below Q F (T.setTop (mkF m pc Ls st)) := by
  subst hp
  exact own_by (fun _ q => XS.aload X.here hx rfl hd hl hv q) h
theorem own_iconst (X : Stand p l e R s m args below meth c T locs cells slots) (hx : p.tables.exec = Jvm.exec) {pc pc' : Nat} {Ls : Array Slot} {st : List Value} {i : Int} (z : Int32) (hz : Int32.ofInt i = z) (hd : decode c.code pc = .ok (.iconst i, 1)) (hp : pc + 1 = pc') (h : own_Go p e below Q F (T.setTop (mkF m pc' Ls (.int z :: st)))) : own_Go p e below Q F (T.setTop (mkF m pc Ls st)) := by
  subst hp hz
  exact own_by (fun _ q => XS.iconst X.here hx rfl hd q) h
theorem own_bipush (X : Stand p l e R s m args below meth c T locs cells slots) (hx : p.tables.exec = Jvm.exec) {pc pc' : Nat} {Ls : Array Slot} {st : List Value} {i : Int} (z : Int32) (hz : (Int8.ofInt i).toInt32 = z) (hd : decode c.code pc = .ok (.bipush i, 2)) (hp : pc + 2 = pc') (h : own_Go p e below Q F (T.setTop (mkF m pc' Ls (.int z :: st)))) : own_Go p e below Q F (T.setTop (mkF m pc Ls st)) := by
  subst hp hz
  exact own_by (fun _ q => XS.bipush X.here hx rfl hd q) h
theorem own_sipush (X : Stand p l e R s m args below meth c T locs cells slots) (hx : p.tables.exec = Jvm.exec) {pc pc' : Nat} {Ls : Array Slot} {st : List Value} {i : Int} (z : Int32) (hz : (Int16.ofInt i).toInt32 = z) (hd : decode c.code pc = .ok (.sipush i, 3)) (hp : pc + 3 = pc') (h : own_Go p e below Q F (T.setTop (mkF m pc' Ls (.int z :: st)))) : own_Go p e below Q F (T.setTop (mkF m pc Ls st)) := by
  subst hp hz
  exact own_by (fun _ q => XS.sipush X.here hx rfl hd q) h
theorem own_lconst (X : Stand p l e R s m args below meth c T locs cells slots) (hx : p.tables.exec = Jvm.exec) {pc pc' : Nat} {Ls : Array Slot} {st : List Value} {k : Fin 2} (z : Int64) (hz : Int64.ofNat k = z) (hd : decode c.code pc = .ok (.lconst k, 1)) (hp : pc + 1 = pc') (h : own_Go p e below Q F (T.setTop (mkF m pc' Ls (.long z :: st)))) : own_Go p e below Q F (T.setTop (mkF m pc Ls st)) := by
  subst hp hz
  exact own_by (fun _ q => XS.lconst X.here hx rfl hd q) h
theorem own_aconstNull (X : Stand p l e R s m args below meth c T locs cells slots) (hx : p.tables.exec = Jvm.exec) {pc pc' : Nat} {Ls : Array Slot} {st : List Value}  (hd : decode c.code pc = .ok (.aconst_null, 1)) (hp : pc + 1 = pc') (h : own_Go p e below Q F (T.setTop (mkF m pc' Ls (.null :: st)))) : own_Go p e below Q F (T.setTop (mkF m pc Ls st)) := by
  subst hp
  exact own_by (fun _ q => XS.aconstNull X.here hx rfl hd q) h
theorem own_iadd (X : Stand p l e R s m args below meth c T locs cells slots) (hx : p.tables.exec = Jvm.exec) {pc pc' : Nat} {Ls : Array Slot} {st : List Value} {x y z : Int32} (hz : x + y = z) (hd : decode c.code pc = .ok (.iadd, 1)) (hp : pc + 1 = pc') (h : own_Go p e below Q F (T.setTop (mkF m pc' Ls (.int z :: st)))) : own_Go p e below Q F (T.setTop (mkF m pc Ls (.int y :: .int x :: st))) := by
  subst hp hz
  exact own_by (fun _ q => XS.iadd X.here hx rfl hd rfl q) h
theorem own_isub (X : Stand p l e R s m args below meth c T locs cells slots) (hx : p.tables.exec = Jvm.exec) {pc pc' : Nat} {Ls : Array Slot} {st : List Value} {x y z : Int32} (hz : x - y = z) (hd : decode c.code pc = .ok (.isub, 1)) (hp : pc + 1 = pc') (h : own_Go p e below Q F (T.setTop (mkF m pc' Ls (.int z :: st)))) : own_Go p e below Q F (T.setTop (mkF m pc Ls (.int y :: .int x :: st))) := by
  subst hp hz
  exact own_by (fun _ q => XS.isub X.here hx rfl hd rfl q) h
theorem own_imul (X : Stand p l e R s m args below meth c T locs cells slots) (hx : p.tables.exec = Jvm.exec) {pc pc' : Nat} {Ls : Array Slot} {st : List Value} {x y z : Int32} (hz : x * y = z) (hd : decode c.code pc = .ok (.imul, 1)) (hp : pc + 1 = pc') (h : own_Go p e below Q F (T.setTop (mkF m pc' Ls (.int z :: st)))) : own_Go p e below Q F (T.setTop (mkF m pc Ls (.int y :: .int x :: st))) := by
  subst hp hz
  exact own_by (fun _ q => XS.imul X.here hx rfl hd rfl q) h
theorem own_iand (X : Stand p l e R s m args below meth c T locs cells slots) (hx : p.tables.exec = Jvm.exec) {pc pc' : Nat} {Ls : Array Slot} {st : List Value} {x y z : Int32} (hz : x &&& y = z) (hd : decode c.code pc = .ok (.iand, 1)) (hp : pc + 1 = pc') (h : own_Go p e below Q F (T.setTop (mkF m pc' Ls (.int z :: st)))) : own_Go p e below Q F (T.setTop (mkF m pc Ls (.int y :: .int x :: st))) := by
  subst hp hz
  exact own_by (fun _ q => XS.iand X.here hx rfl hd rfl q) h
theorem own_ior (X : Stand p l e R s m args below meth c T locs cells slots) (hx : p.tables.exec = Jvm.exec) {pc pc' : Nat} {Ls : Array Slot} {st : List Value} {x y z : Int32} (hz : x ||| y = z) (hd : decode c.code pc = .ok (.ior, 1)) (hp : pc + 1 = pc') (h : own_Go p e below Q F (T.setTop (mkF m pc' Ls (.int z :: st)))) : own_Go p e below Q F (T.setTop (mkF m pc Ls (.int y :: .int x :: st))) := by
  subst hp hz
  exact own_by (fun _ q => XS.ior X.here hx rfl hd rfl q) h
theorem own_ixor (X : Stand p l e R s m args below meth c T locs cells slots) (hx : p.tables.exec = Jvm.exec) {pc pc' : Nat} {Ls : Array Slot} {st : List Value} {x y z : Int32} (hz : x ^^^ y = z) (hd : decode c.code pc = .ok (.ixor, 1)) (hp : pc + 1 = pc') (h : own_Go p e below Q F (T.setTop (mkF m pc' Ls (.int z :: st)))) : own_Go p e below Q F (T.setTop (mkF m pc Ls (.int y :: .int x :: st))) := by
  subst hp hz
  exact own_by (fun _ q => XS.ixor X.here hx rfl hd rfl q) h
theorem own_ishl (X : Stand p l e R s m args below meth c T locs cells slots) (hx : p.tables.exec = Jvm.exec) {pc pc' : Nat} {Ls : Array Slot} {st : List Value} {x y z : Int32} (hz : x <<< (y &&& 31) = z) (hd : decode c.code pc = .ok (.ishl, 1)) (hp : pc + 1 = pc') (h : own_Go p e below Q F (T.setTop (mkF m pc' Ls (.int z :: st)))) : own_Go p e below Q F (T.setTop (mkF m pc Ls (.int y :: .int x :: st))) := by
  subst hp hz
  exact own_by (fun _ q => XS.ishl X.here hx rfl hd rfl q) h
theorem own_ishr (X : Stand p l e R s m args below meth c T locs cells slots) (hx : p.tables.exec = Jvm.exec) {pc pc' : Nat} {Ls : Array Slot} {st : List Value} {x y z : Int32} (hz : x >>> (y &&& 31) = z) (hd : decode c.code pc = .ok (.ishr, 1)) (hp : pc + 1 = pc') (h : own_Go p e below Q F (T.setTop (mkF m pc' Ls (.int z :: st)))) : own_Go p e below Q F (T.setTop (mkF m pc Ls (.int y :: .int x :: st))) := by
  subst hp hz
  exact own_by (fun _ q => XS.ishr X.here hx rfl hd rfl q) h
theorem own_iushr (X : Stand p l e R s m args below meth c T locs cells slots) (hx : p.tables.exec = Jvm.exec) {pc pc' : Nat} {Ls : Array Slot} {st : List Value} {x y z : Int32} (hz : (x.toUInt32 >>> (y &&& 31).toUInt32).toInt32 = z) (hd : decode c.code pc = .ok (.iushr, 1)) (hp : pc + 1 = pc') (h : own_Go p e below Q F (T.setTop (mkF m pc' Ls (.int z :: st)))) : own_Go p e below Q F (T.setTop (mkF m pc Ls (.int y :: .int x :: st))) := by
  subst hp hz
  exact own_by (fun _ q => XS.iushr X.here hx rfl hd rfl q) h
theorem own_idiv (X : Stand p l e R s m args below meth c T locs cells slots) (hx : p.tables.exec = Jvm.exec) {pc pc' : Nat} {Ls : Array Slot} {st : List Value} {x y z : Int32} (hy : y ≠ 0) (hz : x / y = z) (hd : decode c.code pc = .ok (.idiv, 1)) (hp : pc + 1 = pc') (h : own_Go p e below Q F (T.setTop (mkF m pc' Ls (.int z :: st)))) : own_Go p e below Q F (T.setTop (mkF m pc Ls (.int y :: .int x :: st))) := by
  subst hp hz
  exact own_by (fun _ q => XS.idiv X.here hx rfl hd rfl hy q) h
theorem own_irem (X : Stand p l e R s m args below meth c T locs cells slots) (hx : p.tables.exec = Jvm.exec) {pc pc' : Nat} {Ls : Array Slot} {st : List Value} {x y z : Int32} (hy : y ≠ 0) (hz : x % y = z) (hd : decode c.code pc = .ok (.irem, 1)) (hp : pc + 1 = pc') (h : own_Go p e below Q F (T.setTop (mkF m pc' Ls (.int z :: st)))) : own_Go p e below Q F (T.setTop (mkF m pc Ls (.int y :: .int x :: st))) := by
  subst hp hz
  exact own_by (fun _ q => iremM X hx rfl hd rfl hy q) h
theorem own_ladd (X : Stand p l e R s m args below meth c T locs cells slots) (hx : p.tables.exec = Jvm.exec) {pc pc' : Nat} {Ls : Array Slot} {st : List Value} {x y z : Int64} (hz : x + y = z) (hd : decode c.code pc = .ok (.ladd, 1)) (hp : pc + 1 = pc') (h : own_Go p e below Q F (T.setTop (mkF m pc' Ls (.long z :: st)))) : own_Go p e below Q F (T.setTop (mkF m pc Ls (.long y :: .long x :: st))) := by
  subst hp hz
  exact own_by (fun _ q => XS.ladd X.here hx rfl hd rfl q) h
theorem own_lsub (X : Stand p l e R s m args below meth c T locs cells slots) (hx : p.tables.exec = Jvm.exec) {pc pc' : Nat} {Ls : Array Slot} {st : List Value} {x y z : Int64} (hz : x - y = z) (hd : decode c.code pc = .ok (.lsub, 1)) (hp : pc + 1 = pc') (h : own_Go p e below Q F (T.setTop (mkF m pc' Ls (.long z :: st)))) : own_Go p e below Q F (T.setTop (mkF m pc Ls (.long y :: .long x :: st))) := by
  subst hp hz
  exact own_by (fun _ q => XS.lsub X.here hx rfl hd rfl q) h
theorem own_lmul (X : Stand p l e R s m args below meth c T locs cells slots) (hx : p.tables.exec = Jvm.exec) {pc pc' : Nat} {Ls : Array Slot} {st : List Value} {x y z : Int64} (hz : x * y = z) (hd : decode c.code pc = .ok (.lmul, 1)) (hp : pc + 1 = pc') (h : own_Go p e below Q F (T.setTop (mkF m pc' Ls (.long z :: st)))) : own_Go p e below Q F (T.setTop (mkF m pc Ls (.long y :: .long x :: st))) := by
  subst hp hz
  exact own_by (fun _ q => XS.lmul X.here hx rfl hd rfl q) h
theorem own_land (X : Stand p l e R s m args below meth c T locs cells slots) (hx : p.tables.exec = Jvm.exec) {pc pc' : Nat} {Ls : Array Slot} {st : List Value} {x y z : Int64} (hz : x &&& y = z) (hd : decode c.code pc = .ok (.land, 1)) (hp : pc + 1 = pc') (h : own_Go p e below Q F (T.setTop (mkF m pc' Ls (.long z :: st)))) : own_Go p e below Q F (T.setTop (mkF m pc Ls (.long y :: .long x :: st))) := by
  subst hp hz
  exact own_by (fun _ q => XS.land X.here hx rfl hd rfl q) h
theorem own_lor (X : Stand p l e R s m args below meth c T locs cells slots) (hx : p.tables.exec = Jvm.exec) {pc pc' : Nat} {Ls : Array Slot} {st : List Value} {x y z : Int64} (hz : x ||| y = z) (hd : decode c.code pc = .ok (.lor, 1)) (hp : pc + 1 = pc') (h : own_Go p e below Q F (T.setTop (mkF m pc' Ls (.long z :: st)))) : own_Go p e below Q F (T.setTop (mkF m pc Ls (.long y :: .long x :: st))) := by
  subst hp hz
  exact own_by (fun _ q => XS.lor X.here hx rfl hd rfl q) h
theorem own_lcmp (X : Stand p l e R s m args below meth c T locs cells slots) (hx : p.tables.exec = Jvm.exec) {pc pc' : Nat} {Ls : Array Slot} {st : List Value} {x y : Int64} {z : Int32} (hz : lcmpW x y = z) (hd : decode c.code pc = .ok (.lcmp, 1)) (hp : pc + 1 = pc') (h : own_Go p e below Q F (T.setTop (mkF m pc' Ls (.int z :: st)))) : own_Go p e below Q F (T.setTop (mkF m pc Ls (.long y :: .long x :: st))) := by
  subst hp hz
  exact own_by (fun _ q => XS.lcmp X.here hx rfl hd rfl q) h
theorem own_ineg (X : Stand p l e R s m args below meth c T locs cells slots) (hx : p.tables.exec = Jvm.exec) {pc pc' : Nat} {Ls : Array Slot} {st : List Value} {x z : Int32} (hz : -x = z) (hd : decode c.code pc = .ok (.ineg, 1)) (hp : pc + 1 = pc') (h : own_Go p e below Q F (T.setTop (mkF m pc' Ls (.int z :: st)))) : own_Go p e below Q F (T.setTop (mkF m pc Ls (.int x :: st))) := by
  subst hp hz
  exact own_by (fun _ q => XS.ineg X.here hx rfl hd rfl q) h
theorem own_i2l (X : Stand p l e R s m args below meth c T locs cells slots) (hx : p.tables.exec = Jvm.exec) {pc pc' : Nat} {Ls : Array Slot} {st : List Value} {x : Int32} {z : Int64} (hz : x.toInt64 = z) (hd : decode c.code pc = .ok (.i2l, 1)) (hp : pc + 1 = pc') (h : own_Go p e below Q F (T.setTop (mkF m pc' Ls (.long z :: st)))) : own_Go p e below Q F (T.setTop (mkF m pc Ls (.int x :: st))) := by
  subst hp hz
  exact own_by (fun _ q => XS.i2l X.here hx rfl hd rfl q) h
theorem own_l2i (X : Stand p l e R s m args below meth c T locs cells slots) (hx : p.tables.exec = Jvm.exec) {pc pc' : Nat} {Ls : Array Slot} {st : List Value} {x : Int64} {z : Int32} (hz : x.toInt32 = z) (hd : decode c.code pc = .ok (.l2i, 1)) (hp : pc + 1 = pc') (h : own_Go p e below Q F (T.setTop (mkF m pc' Ls (.int z :: st)))) : own_Go p e below Q F (T.setTop (mkF m pc Ls (.long x :: st))) := by
  subst hp hz
  exact own_by (fun _ q => XS.l2i X.here hx rfl hd rfl q) h
theorem own_i2b (X : Stand p l e R s m args below meth c T locs cells slots) (hx : p.tables.exec = Jvm.exec) {pc pc' : Nat} {Ls : Array Slot} {st : List Value} {x z : Int32} (hz : x.toInt8.toInt32 = z) (hd : decode c.code pc = .ok (.i2b, 1)) (hp : pc + 1 = pc') (h : own_Go p e below Q F (T.setTop (mkF m pc' Ls (.int z :: st)))) : own_Go p e below Q F (T.setTop (mkF m pc Ls (.int x :: st))) := by
  subst hp hz
  exact own_by (fun _ q => XS.i2b X.here hx rfl hd rfl q) h
theorem own_i2c (X : Stand p l e R s m args below meth c T locs cells slots) (hx : p.tables.exec = Jvm.exec) {pc pc' : Nat} {Ls : Array Slot} {st : List Value} {x z : Int32} (hz : x.toUInt32.toUInt16.toUInt32.toInt32 = z) (hd : decode c.code pc = .ok (.i2c, 1)) (hp : pc + 1 = pc') (h : own_Go p e below Q F (T.setTop (mkF m pc' Ls (.int z :: st)))) : own_Go p e below Q F (T.setTop (mkF m pc Ls (.int x :: st))) := by
  subst hp hz
  exact own_by (fun _ q => XS.i2c X.here hx rfl hd rfl q) h
theorem own_i2s (X : Stand p l e R s m args below meth c T locs cells slots) (hx : p.tables.exec = Jvm.exec) {pc pc' : Nat} {Ls : Array Slot} {st : List Value} {x z : Int32} (hz : x.toInt16.toInt32 = z) (hd : decode c.code pc = .ok (.i2s, 1)) (hp : pc + 1 = pc') (h : own_Go p e below Q F (T.setTop (mkF m pc' Ls (.int z :: st)))) : own_Go p e below Q F (T.setTop (mkF m pc Ls (.int x :: st))) := by
  subst hp hz
  exact own_by (fun _ q => XS.i2s X.here hx rfl hd rfl q) h
theorem own_dup (X : Stand p l e R s m args below meth c T locs cells slots) (hx : p.tables.exec = Jvm.exec) {pc pc' : Nat} {Ls : Array Slot} {st : List Value} {x : Value} (hc : x.category = 1) (hd : decode c.code pc = .ok (.dup, 1)) (hp : pc + 1 = pc') (h : own_Go p e below Q F (T.setTop (mkF m pc' Ls (x :: x :: st)))) : own_Go p e below Q F (T.setTop (mkF m pc Ls (x :: st))) := by
  subst hp
  exact own_by (fun _ q => XS.dup X.here hx rfl hd rfl hc q) h
theorem own_dupX1 (X : Stand p l e R s m args below meth c T locs cells slots) (hx : p.tables.exec = Jvm.exec) {pc pc' : Nat} {Ls : Array Slot} {st : List Value} {x y : Value} (hc : x.category = 1) (hc2 : y.category = 1) (hd : decode c.code pc = .ok (.dup_x1, 1)) (hp : pc + 1 = pc') (h : own_Go p e below Q F (T.setTop (mkF m pc' Ls (x :: y :: x :: st)))) : own_Go p e below Q F (T.setTop (mkF m pc Ls (x :: y :: st))) := by
  subst hp
  exact own_by (fun _ q => XS.dupX1 X.here hx rfl hd rfl hc hc2 q) h
theorem own_pop (X : Stand p l e R s m args below meth c T locs cells slots) (hx : p.tables.exec = Jvm.exec) {pc pc' : Nat} {Ls : Array Slot} {st : List Value} {x : Value} (hc : x.category = 1) (hd : decode c.code pc = .ok (.pop, 1)) (hp : pc + 1 = pc') (h : own_Go p e below Q F (T.setTop (mkF m pc' Ls st))) : own_Go p e below Q F (T.setTop (mkF m pc Ls (x :: st))) := by
  subst hp
  exact own_by (fun _ q => XS.pop X.here hx rfl hd rfl hc q) h
theorem own_istoreN (X : Stand p l e R s m args below meth c T locs cells slots) (hx : p.tables.exec = Jvm.exec) {pc pc' : Nat} {Ls : Array Slot} {st : List Value} {k : Fin 4} {x : Int32} (L' : Array Slot) (hl : storeLocals Ls k.val (.int x) = some L') (hd : decode c.code pc = .ok (.istore_n k, 1)) (hp : pc + 1 = pc') (h : own_Go p e below Q F (T.setTop (mkF m pc' L' st))) : own_Go p e below Q F (T.setTop (mkF m pc Ls (.int x :: st))) := by
  subst hp
  exact own_by (fun _ q => XS.istoreN X.here hx rfl hd rfl hl q) h
theorem own_istore (X : Stand p l e R s m args below meth c T locs cells slots) (hx : p.tables.exec = Jvm.exec) {pc pc' : Nat} {Ls : Array Slot} {st : List Value} {k : Nat} {x : Int32} (L' : Array Slot) (hl : storeLocals Ls k (.int x) = some L') (hd : decode c.code pc = .ok (.istore k, 2)) (hp : pc + 2 = pc') (h : own_Go p e below Q F (T.setTop (mkF m pc' L' st))) : own_Go p e below Q F (T.setTop (mkF m pc Ls (.int x :: st))) := by
  subst hp
  exact own_by (fun _ q => XS.istore X.here hx rfl hd rfl hl q) h
theorem own_lstoreN (X : Stand p l e R s m args below meth c T locs cells slots) (hx : p.tables.exec = Jvm.exec) {pc pc' : Nat} {Ls : Array Slot} {st : List Value} {k : Fin 4} {x : Int64} (L' : Array Slot) (hl : storeLocals Ls k.val (.long x) = some L') (hd : decode c.code pc = .ok (.lstore_n k, 1)) (hp : pc + 1 = pc') (h : own_Go p e below Q F (T.setTop (mkF m pc' L' st))) : own_Go p e below Q F (T.setTop (mkF m pc Ls (.long x :: st))) := by
  subst hp
  exact own_by (fun _ q => XS.lstoreN X.here hx rfl hd rfl hl q) h
theorem own_lstore (X : Stand p l e R s m args below meth c T locs cells slots) (hx : p.tables.exec = Jvm.exec) {pc pc' : Nat} {Ls : Array Slot} {st : List Value} {k : Nat} {x : Int64} (L' : Array Slot) (hl : storeLocals Ls k (.long x) = some L') (hd : decode c.code pc = .ok (.lstore k, 2)) (hp : pc + 2 = pc') (h : own_Go p e below Q F (T.setTop (mkF m pc' L' st))) : own_Go p e below Q F (T.setTop (mkF m pc Ls (.long x :: st))) := by
  subst hp
  exact own_by (fun _ q => XS.lstore X.here hx rfl hd rfl hl q) h
theorem own_astoreN (X : Stand p l e R s m args below meth c T locs cells slots) (hx : p.tables.exec = Jvm.exec) {pc pc' : Nat} {Ls : Array Slot} {st : List Value} {k : Fin 4} {x : Value} (L' : Array Slot) (hv : x.isRef = true) (hl : storeLocals Ls k.val x = some L') (hd : decode c.code pc = .ok (.astore_n k, 1)) (hp : pc + 1 = pc') (h : own_Go p e below Q F (T.setTop (mkF m pc' L' st))) : own_Go p e below Q F (T.setTop (mkF m pc Ls (x :: st))) := by
  subst hp
  exact own_by (fun _ q => XS.astoreN X.here hx rfl hd rfl hv hl q) h
theorem own_astore (X : Stand p l e R s m args below meth c T locs cells slots) (hx : p.tables.exec = Jvm.exec) {pc pc' : Nat} {Ls : Array Slot} {st : List Value} {k : Nat} {x : Value} (L' : Array Slot) (hv : x.isRef = true) (hl : storeLocals Ls k x = some L') (hd : decode c.code pc = .ok (.astore k, 2)) (hp : pc + 2 = pc') (h : own_Go p e below Q F (T.setTop (mkF m pc' L' st))) : own_Go p e below Q F (T.setTop (mkF m pc Ls (x :: st))) := by
  subst hp
  exact own_by (fun _ q => XS.astore X.here hx rfl hd rfl hv hl q) h
theorem own_iinc (X : Stand p l e R s m args below meth c T locs cells slots) (hx : p.tables.exec = Jvm.exec) {pc pc' : Nat} {Ls : Array Slot} {st : List Value} {k : Nat} {cst : Int} {x z : Int32} (L' : Array Slot) (hv : Ls[k]? = some (.val (.int x))) (hz : x + Int32.ofInt cst = z) (hl : storeLocals Ls k (.int z) = some L') (hd : decode c.code pc = .ok (.iinc k cst, 3)) (hp : pc + 3 = pc') (h : own_Go p e below Q F (T.setTop (mkF m pc' L' st))) : own_Go p e below Q F (T.setTop (mkF m pc Ls st)) := by
  subst hp hz
  exact own_by (fun _ q => XS.iinc X.here hx rfl hd hv hl q) h
theorem own_goto (X : Stand p l e R s m args below meth c T locs cells slots) (hx : p.tables.exec = Jvm.exec) {pc pc' : Nat} {Ls : Array Slot} {st : List Value} {o : Int}  (hd : decode c.code pc = .ok (.goto o, 3))  (ho : 0 ≤ (pc : Int) + o) (hp : ((pc : Int) + o).toNat = pc') (h : own_Go p e below Q F (T.setTop (mkF m pc' Ls st))) : own_Go p e below Q F (T.setTop (mkF m pc Ls st)) := by
  exact own_by (fun _ q => XS.goto X.here hx rfl rfl hd ho hp q) h
theorem own_ifYes (X : Stand p l e R s m args below meth c T locs cells slots) (hx : p.tables.exec = Jvm.exec) {pc pc' : Nat} {Ls : Array Slot} {st : List Value} {o : Int} {cd : ClassFile.Cond} {x : Int32} (hd : decode c.code pc = .ok (.ifCond cd o, 3)) (hc : ifCond.holds cd x = true) (ho : 0 ≤ (pc : Int) + o) (hp : ((pc : Int) + o).toNat = pc') (h : own_Go p e below Q F (T.setTop (mkF m pc' Ls st))) : own_Go p e below Q F (T.setTop (mkF m pc Ls (.int x :: st))) := by
  exact own_by (fun _ q => XS.ifYes X.here hx rfl rfl hd rfl hc ho hp q) h
theorem own_icmpYes (X : Stand p l e R s m args below meth c T locs cells slots) (hx : p.tables.exec = Jvm.exec) {pc pc' : Nat} {Ls : Array Slot} {st : List Value} {o : Int} {cd : ClassFile.Cond} {x y : Int32} (hd : decode c.code pc = .ok (.if_icmp cd o, 3)) (hc : if_icmp.holds cd x y = true) (ho : 0 ≤ (pc : Int) + o) (hp : ((pc : Int) + o).toNat = pc') (h : own_Go p e below Q F (T.setTop (mkF m pc' Ls st))) : own_Go p e below Q F (T.setTop (mkF m pc Ls (.int y :: .int x :: st))) := by
  exact own_by (fun _ q => XS.icmpYes X.here hx rfl rfl hd rfl hc ho hp q) h
theorem own_ifnullYes (X : Stand p l e R s m args below meth c T locs cells slots) (hx : p.tables.exec = Jvm.exec) {pc pc' : Nat} {Ls : Array Slot} {st : List Value} {o : Int}  (hd : decode c.code pc = .ok (.ifnull o, 3))  (ho : 0 ≤ (pc : Int) + o) (hp : ((pc : Int) + o).toNat = pc') (h : own_Go p e below Q F (T.setTop (mkF m pc' Ls st))) : own_Go p e below Q F (T.setTop (mkF m pc Ls (.null :: st))) := by
  exact own_by (fun _ q => XS.ifnullYes X.here hx rfl rfl hd rfl ho hp q) h
theorem own_ifnonnullYes (X : Stand p l e R s m args below meth c T locs cells slots) (hx : p.tables.exec = Jvm.exec) {pc pc' : Nat} {Ls : Array Slot} {st : List Value} {o : Int} {b : Addr} (hd : decode c.code pc = .ok (.ifnonnull o, 3))  (ho : 0 ≤ (pc : Int) + o) (hp : ((pc : Int) + o).toNat = pc') (h : own_Go p e below Q F (T.setTop (mkF m pc' Ls st))) : own_Go p e below Q F (T.setTop (mkF m pc Ls (.ref b :: st))) := by
  exact own_by (fun _ q => XS.ifnonnullYes X.here hx rfl rfl hd rfl ho hp q) h
theorem own_acmpYes (X : Stand p l e R s m args below meth c T locs cells slots) (hx : p.tables.exec = Jvm.exec) {pc pc' : Nat} {Ls : Array Slot} {st : List Value} {o : Int} {cd : ClassFile.ACond} {a b : Addr} (hd : decode c.code pc = .ok (.if_acmp cd o, 3)) (hc : if_acmp.holds cd (some a) (some b) = true) (ho : 0 ≤ (pc : Int) + o) (hp : ((pc : Int) + o).toNat = pc') (h : own_Go p e below Q F (T.setTop (mkF m pc' Ls st))) : own_Go p e below Q F (T.setTop (mkF m pc Ls (.ref b :: .ref a :: st))) := by
  exact own_by (fun _ q => XS.acmpYes X.here hx rfl rfl hd rfl hc ho hp q) h
theorem own_ifNo (X : Stand p l e R s m args below meth c T locs cells slots) (hx : p.tables.exec = Jvm.exec) {pc pc' : Nat} {Ls : Array Slot} {st : List Value} {cd : ClassFile.Cond} {x : Int32} {o : Int} (hc : ifCond.holds cd x = false) (hd : decode c.code pc = .ok (.ifCond cd o, 3)) (hp : pc + 3 = pc') (h : own_Go p e below Q F (T.setTop (mkF m pc' Ls st))) : own_Go p e below Q F (T.setTop (mkF m pc Ls (.int x :: st))) := by
  subst hp
  exact own_by (fun _ q => XS.ifNo X.here hx rfl hd rfl hc q) h
theorem own_icmpNo (X : Stand p l e R s m args below meth c T locs cells slots) (hx : p.tables.exec = Jvm.exec) {pc pc' : Nat} {Ls : Array Slot} {st : List Value} {cd : ClassFile.Cond} {x y : Int32} {o : Int} (hc : if_icmp.holds cd x y = false) (hd : decode c.code pc = .ok (.if_icmp cd o, 3)) (hp : pc + 3 = pc') (h : own_Go p e below Q F (T.setTop (mkF m pc' Ls st))) : own_Go p e below Q F (T.setTop (mkF m pc Ls (.int y :: .int x :: st))) := by
  subst hp
  exact own_by (fun _ q => XS.icmpNo X.here hx rfl hd rfl hc q) h
theorem own_ifnullNo (X : Stand p l e R s m args below meth c T locs cells slots) (hx : p.tables.exec = Jvm.exec) {pc pc' : Nat} {Ls : Array Slot} {st : List Value} {b : Addr} {o : Int}  (hd : decode c.code pc = .ok (.ifnull o, 3)) (hp : pc + 3 = pc') (h : own_Go p e below Q F (T.setTop (mkF m pc' Ls st))) : own_Go p e below Q F (T.setTop (mkF m pc Ls (.ref b :: st))) := by
  subst hp
  exact own_by (fun _ q => XS.ifnullNo X.here hx rfl hd rfl q) h
theorem own_ifnonnullNo (X : Stand p l e R s m args below meth c T locs cells slots) (hx : p.tables.exec = Jvm.exec) {pc pc' : Nat} {Ls : Array Slot} {st : List Value} {o : Int}  (hd : decode c.code pc = .ok (.ifnonnull o, 3)) (hp : pc + 3 = pc') (h : own_Go p e below Q F (T.setTop (mkF m pc' Ls st))) : own_Go p e below Q F (T.setTop (mkF m pc Ls (.null :: st))) := by
  subst hp
  exact own_by (fun _ q => XS.ifnonnullNo X.here hx rfl hd rfl q) h
theorem own_acmpNo (X : Stand p l e R s m args below meth c T locs cells slots) (hx : p.tables.exec = Jvm.exec) {pc pc' : Nat} {Ls : Array Slot} {st : List Value} {cd : ClassFile.ACond} {a b : Addr} {o : Int} (hc : if_acmp.holds cd (some a) (some b) = false) (hd : decode c.code pc = .ok (.if_acmp cd o, 3)) (hp : pc + 3 = pc') (h : own_Go p e below Q F (T.setTop (mkF m pc' Ls st))) : own_Go p e below Q F (T.setTop (mkF m pc Ls (.ref b :: .ref a :: st))) := by
  subst hp
  exact own_by (fun _ q => XS.acmpNo X.here hx rfl hd rfl hc q) h
theorem own_ldcInt (X : Stand p l e R s m args below meth c T locs cells slots) (hx : p.tables.exec = Jvm.exec) {pc pc' : Nat} {Ls : Array Slot} {st : List Value} {Z : State} {a0 : Array Value} {own : String} {index : Nat} {v : Int32} (hZ : Z.Warmed39 s.vm) (hown : s.vm.findClass own = some m.cls) (w : (Jvm.Cond.constant own index v).before a0 Z = true) (hd : decode c.code pc = .ok (.ldc index, 2)) (hp : pc + 2 = pc') (h : own_Go p e below Q F (T.setTop (mkF m pc' Ls (.int v :: st)))) : own_Go p e below Q F (T.setTop (mkF m pc Ls st)) := by
  subst hp
  exact own_by (fun _ q => X.ldcInt hx hown (mv hZ w) (g := mkF m pc Ls st) rfl hd _ q) h
theorem own_ldc2Long (X : Stand p l e R s m args below meth c T locs cells slots) (hx : p.tables.exec = Jvm.exec) {pc pc' : Nat} {Ls : Array Slot} {st : List Value} {Z : State} {a0 : Array Value} {own : String} {index : Nat} {v : Int64} (hZ : Z.Warmed39 s.vm) (hown : s.vm.findClass own = some m.cls) (w : (Jvm.Cond.constantLong own index v).before a0 Z = true) (hd : decode c.code pc = .ok (.ldc2_w index, 3)) (hp : pc + 3 = pc') (h : own_Go p e below Q F (T.setTop (mkF m pc' Ls (.long v :: st)))) : own_Go p e below Q F (T.setTop (mkF m pc Ls st)) := by
  subst hp
  exact own_by (fun _ q => X.ldc2Long hx hown (mv hZ w) (g := mkF m pc Ls st) rfl hd _ q) h
theorem own_lyes_lt {x y : Int64} {a b : Int} (ha : x.toInt = a) (hb : y.toInt = b) (h : a < b) : ifCond.holds .lt (lcmpW x y) = true := by
  have q := own_lcm ha hb
  have r :  (lcmpW x y).toInt < 0 := by omega
  exact own_z (own_yes_lt rfl rfl r)
theorem own_lno_lt {x y : Int64} {a b : Int} (ha : x.toInt = a) (hb : y.toInt = b) (h : ¬ a < b) : ifCond.holds .lt (lcmpW x y) = false := by
  have q := own_lcm ha hb
  have r : ¬ (lcmpW x y).toInt < 0 := by omega
  exact own_z (own_no_lt rfl rfl r)
theorem own_lyes_ge {x y : Int64} {a b : Int} (ha : x.toInt = a) (hb : y.toInt = b) (h : ¬ a < b) : ifCond.holds .ge (lcmpW x y) = true := by
  have q := own_lcm ha hb
  have r : ¬ (lcmpW x y).toInt < 0 := by omega
  exact own_z (own_yes_ge rfl rfl r)
theorem own_lno_ge {x y : Int64} {a b : Int} (ha : x.toInt = a) (hb : y.toInt = b) (h : a < b) : ifCond.holds .ge (lcmpW x y) = false := by
  have q := own_lcm ha hb
  have r :  (lcmpW x y).toInt < 0 := by omega
  exact own_z (own_no_ge rfl rfl r)
theorem own_lyes_gt {x y : Int64} {a b : Int} (ha : x.toInt = a) (hb : y.toInt = b) (h : b < a) : ifCond.holds .gt (lcmpW x y) = true := by
  have q := own_lcm ha hb
  have r :  0 < (lcmpW x y).toInt := by omega
  exact own_z (own_yes_gt rfl rfl r)
theorem own_lno_gt {x y : Int64} {a b : Int} (ha : x.toInt = a) (hb : y.toInt = b) (h : ¬ b < a) : ifCond.holds .gt (lcmpW x y) = false := by
  have q := own_lcm ha hb
  have r : ¬ 0 < (lcmpW x y).toInt := by omega
  exact own_z (own_no_gt rfl rfl r)
theorem own_lyes_le {x y : Int64} {a b : Int} (ha : x.toInt = a) (hb : y.toInt = b) (h : ¬ b < a) : ifCond.holds .le (lcmpW x y) = true := by
  have q := own_lcm ha hb
  have r : ¬ 0 < (lcmpW x y).toInt := by omega
  exact own_z (own_yes_le rfl rfl r)
theorem own_lno_le {x y : Int64} {a b : Int} (ha : x.toInt = a) (hb : y.toInt = b) (h : b < a) : ifCond.holds .le (lcmpW x y) = false := by
  have q := own_lcm ha hb
  have r :  0 < (lcmpW x y).toInt := by omega
  exact own_z (own_no_le rfl rfl r)
theorem own_lyes_eq {x y : Int64} {a b : Int} (ha : x.toInt = a) (hb : y.toInt = b) (h : a = b) : ifCond.holds .eq (lcmpW x y) = true := by
  have q := own_lcm ha hb
  have r :  (lcmpW x y).toInt = 0 := by omega
  exact own_z (own_yes_eq rfl rfl r)
theorem own_lno_eq {x y : Int64} {a b : Int} (ha : x.toInt = a) (hb : y.toInt = b) (h : ¬ a = b) : ifCond.holds .eq (lcmpW x y) = false := by
  have q := own_lcm ha hb
  have r : ¬ (lcmpW x y).toInt = 0 := by omega
  exact own_z (own_no_eq rfl rfl r)
theorem own_lyes_ne {x y : Int64} {a b : Int} (ha : x.toInt = a) (hb : y.toInt = b) (h : ¬ a = b) : ifCond.holds .ne (lcmpW x y) = true := by
  have q := own_lcm ha hb
  have r : ¬ (lcmpW x y).toInt = 0 := by omega
  exact own_z (own_yes_ne rfl rfl r)
theorem own_lno_ne {x y : Int64} {a b : Int} (ha : x.toInt = a) (hb : y.toInt = b) (h : a = b) : ifCond.holds .ne (lcmpW x y) = false := by
  have q := own_lcm ha hb
  have r :  (lcmpW x y).toInt = 0 := by omega
  exact own_z (own_no_ne rfl rfl r)
theorem own_tswIn (X : Stand p l e R s m args below meth c T locs cells slots) (hx : p.tables.exec = Jvm.exec) {pc pc' : Nat} {Ls : Array Slot} {st : List Value} {dflt low high : Int} {offs : Array Int} {len : Nat} (o : Int) {i : Int32} (hd : decode c.code pc = .ok (.tableswitch dflt low high offs, len)) (hin : ¬ (i.toInt < low ∨ i.toInt > high)) (hoff : offs[(i.toInt - low).toNat]? = some o) (ho : 0 ≤ (pc : Int) + o) (hp : ((pc : Int) + o).toNat = pc') (h : own_Go p e below Q F (T.setTop (mkF m pc' Ls st))) : own_Go p e below Q F (T.setTop (mkF m pc Ls (.int i :: st))) := by
  exact own_by (fun _ q => XS.tswIn X.here hx rfl rfl hd rfl hin hoff ho hp q) h
theorem own_tswOut (X : Stand p l e R s m args below meth c T locs cells slots) (hx : p.tables.exec = Jvm.exec) {pc pc' : Nat} {Ls : Array Slot} {st : List Value} {dflt low high : Int} {offs : Array Int} {len : Nat} {i : Int32} (hd : decode c.code pc = .ok (.tableswitch dflt low high offs, len)) (hout : i.toInt < low ∨ i.toInt > high) (ho : 0 ≤ (pc : Int) + dflt) (hp : ((pc : Int) + dflt).toNat = pc') (h : own_Go p e below Q F (T.setTop (mkF m pc' Ls st))) : own_Go p e below Q F (T.setTop (mkF m pc Ls (.int i :: st))) := by
  exact own_by (fun _ q => XS.tswOut X.here hx rfl rfl hd rfl hout ho hp q) h
end OwnKit
theorem own_backW {p : Program} {l : Launch} {e : Env} {R : Room} {s : State} {args : Array Value} {below : List Frame} {Z : State} {a0 : Array Value} {h : Heap} {y : MethodName} {bytes : ByteArray} {maxL : Nat} {ret : Option FieldType} {rm : Room} {len W : Nat} {as' : Array Value} {Q : Option Value → Heap → List Loc → Prop}
    (hM : MetFree l y (head1 [Jvm.Cond.code y bytes maxL ret] rm) (fun a U => a = as' ∧ (Z.Warmed39 U.vm ∧ U.vm.interned = Z.vm.interned) ∧ U.heap = h) (fun _ _ _ _ _ => True) (fun _ U o U' => ∃ v L, o = .returned v ∧ Q v U'.heap L ∧ ReturnedEndW U o U' L rm.cells rm.slots))
    (hZ : Z.Warmed39 s.vm) (hI : s.vm.interned = Z.vm.interned) (wc : (Jvm.Cond.code y bytes maxL ret).before a0 Z = true) (wz : (Jvm.Cond.initialized y.cls).before a0 Z = true) (hf : rm.frames + 1 ≤ R.frames) (hl : W + (maxL + 11) + rm.locals ≤ R.locals) :
    BackS l R p e below s args y len W (fun A a => a = as' ∧ A.U.heap = h ∧ A.cells + rm.cells ≤ R.cells ∧ A.slots + rm.slots ≤ R.slots)
      (fun A _ v B => ∃ L, Q v B.U.heap L ∧ B.locs = A.locs ++ L ∧ B.cells = A.cells + rm.cells ∧ B.slots = A.slots + rm.slots) :=
  BackS.of_freeW (bytes := bytes) (maxL := maxL) (ret := ret) (E := fun _ _ o t L k n => k = rm.cells ∧ n = rm.slots ∧ ∃ v, o = .returned v ∧ Q v t.heap L) hM hf hl
    (fun m meth c A a Y hp => have hU : Z.Warmed39 A.U.vm := wtrans hZ Y.warmed
      ⟨by show (Jvm.Cond.and _ .tt).before a A.U = true; rw [Cond.before_and, mv hU wc]; rfl, mv hU wc, mv hU wz, hp.2.2.1, hp.2.2.2⟩)
    (fun m meth c A a g mk Y hp => ⟨hp.1, ⟨wtrans hZ Y.warmed, Y.warmed.interned_eq.trans hI⟩, hp.2.1⟩) (fun _ _ _ _ _ _ _ _ _ => trivial)
    (fun _ _ _ _ ⟨v, L, h1, h2, h3⟩ => ⟨L, _, _, h3, rfl, rfl, v, h1, h2⟩)
    (fun m meth c A a g mk v t L k n Y hp _ _ ⟨e1, e2, v', e3, e4⟩ => by cases e3; subst e1 e2; exact ⟨L, e4, rfl, rfl, rfl⟩)
theorem pd_0 : parseMethodDescriptor "([CI[BII)I" = some ⟨[(.array .char), .int, (.array .byte), .int, .int], some .int⟩ := by decide +kernel
theorem da1_0 : decode jdk_52_method_21_code 0 = .ok (.iconst 0, 1) := by decide +kernel
theorem da1_1 : decode jdk_52_method_21_code 1 = .ok (.istore 5, 2) := by decide +kernel
theorem da1_3 : decode jdk_52_method_21_code 3 = .ok (.iload 5, 2) := by decide +kernel
theorem da1_5 : decode jdk_52_method_21_code 5 = .ok (.iload 4, 2) := by decide +kernel
theorem da1_7 : decode jdk_52_method_21_code 7 = .ok (.if_icmp .ge 37, 3) := by decide +kernel
theorem da1_10 : decode jdk_52_method_21_code 10 = .ok (.aload_n 0, 1) := by decide +kernel
theorem da1_11 : decode jdk_52_method_21_code 11 = .ok (.iload_n 1, 1) := by decide +kernel
theorem da1_12 : decode jdk_52_method_21_code 12 = .ok (.caload, 1) := by decide +kernel
theorem da1_13 : decode jdk_52_method_21_code 13 = .ok (.istore 6, 2) := by decide +kernel
theorem da1_15 : decode jdk_52_method_21_code 15 = .ok (.iload 6, 2) := by decide +kernel
theorem da1_17 : decode jdk_52_method_21_code 17 = .ok (.sipush 255, 3) := by decide +kernel
theorem da1_20 : decode jdk_52_method_21_code 20 = .ok (.if_icmp .le 6, 3) := by decide +kernel
theorem da1_23 : decode jdk_52_method_21_code 23 = .ok (.iload 5, 2) := by decide +kernel
theorem da1_25 : decode jdk_52_method_21_code 25 = .ok (.ireturn, 1) := by decide +kernel
theorem da1_26 : decode jdk_52_method_21_code 26 = .ok (.aload_n 2, 1) := by decide +kernel
theorem da1_27 : decode jdk_52_method_21_code 27 = .ok (.iload_n 3, 1) := by decide +kernel
theorem da1_28 : decode jdk_52_method_21_code 28 = .ok (.iload 6, 2) := by decide +kernel
theorem da1_30 : decode jdk_52_method_21_code 30 = .ok (.i2b, 1) := by decide +kernel
theorem da1_31 : decode jdk_52_method_21_code 31 = .ok (.bastore, 1) := by decide +kernel
theorem da1_32 : decode jdk_52_method_21_code 32 = .ok (.iinc 1 1, 3) := by decide +kernel
theorem da1_35 : decode jdk_52_method_21_code 35 = .ok (.iinc 3 1, 3) := by decide +kernel
theorem da1_38 : decode jdk_52_method_21_code 38 = .ok (.iinc 5 1, 3) := by decide +kernel
theorem da1_41 : decode jdk_52_method_21_code 41 = .ok (.goto (-38), 3) := by decide +kernel
theorem da1_44 : decode jdk_52_method_21_code 44 = .ok (.iload 4, 2) := by decide +kernel
theorem da1_46 : decode jdk_52_method_21_code 46 = .ok (.ireturn, 1) := by decide +kernel
theorem pn_0 : plainName "java/lang/StringUTF16" = true := by first | (simp [plainName, overriddenIn]; done) | decide +kernel
theorem ef_a1 (m : MethodId) (x0 : Addr) (x2 : Addr) : entryFrame m #[(.ref x0), (.int (0 : Int32)), (.ref x2), (.int (0 : Int32)), (.int (1 : Int32))] 7 = mkF m 0 #[.val (.ref x0), .val (.int (0 : Int32)), .val (.ref x2), .val (.int (0 : Int32)), .val (.int (1 : Int32)), .unset, .unset] [] := by first | (simp [entryFrame, mkF, argsToLocals, Value.category, maxLocals]; done) | rfl
def Qa1 (Z : State) (a1 : Addr) (a2 : Addr) (kc : ClassId) (ch0 : Int32) (kb : ClassId) (h0 : Heap) (n0 : Nat) (v : Option Value) (h : Heap) (L : List Loc) : Prop := ∃ by0 : Int32, v = some (.int (1 : Int32)) ∧ (-128 ≤ by0.toInt ∧ by0.toInt < 128 ∧ by0.toInt % 256 = ch0.toInt) ∧ Fr n0 L ∧ Keep h0 h [a2] ∧ Arv Z h a2 kb .byte (1 : Int32) [(.int by0)] (.int (0 : Int32))
set_option maxRecDepth 65536 in
set_option maxHeartbeats 40000000 in
theorem rma1 (l : Launch) (Z : State) (a0 : Array Value) (hw : ∀ d ∈ tables_1, d.before a0 Z = true) (ws : List Jvm.Cond) (a1 : Addr) (a2 : Addr) (kc : ClassId) (ch0 : Int32) (kb : ClassId) (h0 : Heap) (n0 : Nat) (Z0 : n0 ≤ h0.size) (A_a1 : Arv Z h0 a1 kc .char (1 : Int32) [(.int ch0)] (.int (0 : Int32))) (A_a2 : Arv Z h0 a2 kb .byte (1 : Int32) [(.int (0 : Int32))] (.int (0 : Int32))) (g_a2 : n0 ≤ a2) (ne_a1_a2 : a1 ≠ a2) (hc0 : 0 ≤ ch0.toInt ∧ ch0.toInt < 256) :
    MetFree l (⟨"java/lang/StringUTF16", "compress", "([CI[BII)I"⟩ : MethodName) (head1 (Jvm.Cond.code (⟨"java/lang/StringUTF16", "compress", "([CI[BII)I"⟩ : MethodName) jdk_52_method_21_code 7 (some .int) :: ws) ({ frames := 0, cells := 0, slots := 0, locals := 0 } : Room)) (fun a U => a = #[(.ref a1), (.int (0 : Int32)), (.ref a2), (.int (0 : Int32)), (.int (1 : Int32))] ∧ Z.Warmed39 U.vm ∧ U.heap = h0) (fun _ _ _ _ _ => True) (fun _ U o U' => ∃ v L, o = .returned v ∧ Qa1 Z a1 a2 kc ch0 kb h0 n0 v U'.heap L ∧ FrameEnd U o U' L ({ frames := 0, cells := 0, slots := 0, locals := 0 } : Room).cells ({ frames := 0, cells := 0, slots := 0, locals := 0 } : Room).slots) := by
  refine MetFree.of_bodySF (plainFor_of_name pn_0) hisR ?_
  intro p e s m args below meth c s₁ Bd hml0 hP hK
  obtain ⟨rfl, hZ, hh⟩ := hP
  have hx := Bd.exec
  have hby := Bd.bytes
  have hml : c.maxLocals = 7 := hml0
  have hown : s.vm.findClass "java/lang/StringUTF16" = some m.cls := findClass_of_methodNamed Bd.named
  have hnm := (name_of_methodNamed Bd.named Bd.method).1
  have X0 : Stand p l e ({ frames := 0, cells := 0, slots := 0, locals := 0 } : Room) s m #[(.ref a1), (.int (0 : Int32)), (.ref a2), (.int (0 : Int32)), (.int (1 : Int32))] below meth c s₁ [] 0 0 := Stand.of_body Bd
  have e0 : s₁.heap = h0 := by rw [← hh, Bd.state]; rfl
  have N0 := Fr.nil n0
  change own_Go p e below (Qa1 Z a1 a2 kc ch0 kb h0 n0) (own_Fr s ({ frames := 0, cells := 0, slots := 0, locals := 0 } : Room).cells ({ frames := 0, cells := 0, slots := 0, locals := 0 } : Room).slots) (s₁.setTop (entryFrame m #[(.ref a1), (.int (0 : Int32)), (.ref a2), (.int (0 : Int32)), (.int (1 : Int32))] 7))
  rw [ef_a1 m a1 a2]
  have rch0 := rng32 ch0
  have K0 : Keep h0 h0 [a2] := Keep.refl h0 [a2]
  refine own_iconst (pc' := 1) X0 hx (0 : Int32) (by decide) (hb hby da1_0) rfl ?_
  refine own_istore (pc' := 3) X0 hx #[.val (.ref a1), .val (.int (0 : Int32)), .val (.ref a2), .val (.int (0 : Int32)), .val (.int (1 : Int32)), .val (.int (0 : Int32)), .unset] rfl (hb hby da1_1) rfl ?_
  refine own_iload (pc' := 5) X0 hx rfl (hb hby da1_3) rfl ?_
  refine own_iload (pc' := 7) X0 hx rfl (hb hby da1_5) rfl ?_
  refine own_icmpNo (pc' := 10) X0 hx (by decide) (hb hby da1_7) rfl ?_
  refine own_aloadN (pc' := 11) X0 hx rfl rfl (hb hby da1_10) rfl ?_
  refine own_iloadN (pc' := 12) X0 hx rfl (hb hby da1_11) rfl ?_
  obtain ⟨c101, B101, q101, s101, u101, H101, G101⟩ := id A_a1
  have i101 := inb_of s101 (j := (0 : Int32)) (by decide)
  refine own_by (X0.caload hx (j := (0 : Int32)) (v := (.int ch0)) (by rw [e0]; exact B101.1) (State.isArrayOf_alike hZ.alike B101.2.1) B101.2.2 i101 (H101.at i101 rfl) (g := (mkF m 12 #[.val (.ref a1), .val (.int (0 : Int32)), .val (.ref a2), .val (.int (0 : Int32)), .val (.int (1 : Int32)), .val (.int (0 : Int32)), .unset] [(.int (0 : Int32)), (.ref a1)])) rfl rfl (hb hby da1_12)) ?_
  show own_Go p e below (Qa1 Z a1 a2 kc ch0 kb h0 n0) (own_Fr s ({ frames := 0, cells := 0, slots := 0, locals := 0 } : Room).cells ({ frames := 0, cells := 0, slots := 0, locals := 0 } : Room).slots) (s₁.setTop (mkF m 13 #[.val (.ref a1), .val (.int (0 : Int32)), .val (.ref a2), .val (.int (0 : Int32)), .val (.int (1 : Int32)), .val (.int (0 : Int32)), .unset] [(.int ch0)]))
  refine own_istore (pc' := 15) X0 hx #[.val (.ref a1), .val (.int (0 : Int32)), .val (.ref a2), .val (.int (0 : Int32)), .val (.int (1 : Int32)), .val (.int (0 : Int32)), .val (.int ch0)] rfl (hb hby da1_13) rfl ?_
  refine own_iload (pc' := 17) X0 hx rfl (hb hby da1_15) rfl ?_
  refine own_sipush (pc' := 20) X0 hx (255 : Int32) (by decide) (hb hby da1_17) rfl ?_
  have b102 : ¬ 255 < ch0.toInt := by omega
  refine own_icmpYes (pc' := 26) X0 hx (hb hby da1_20) (own_yes_le rfl (by decide) b102) (by decide) (by decide) ?_
  refine own_aloadN (pc' := 27) X0 hx rfl rfl (hb hby da1_26) rfl ?_
  refine own_iloadN (pc' := 28) X0 hx rfl (hb hby da1_27) rfl ?_
  refine own_iload (pc' := 30) X0 hx rfl (hb hby da1_28) rfl ?_
  obtain ⟨v103, hv103⟩ : ∃ z, ch0.toInt8.toInt32 = z := ⟨_, rfl⟩
  have f104 : (v103.toInt - ch0.toInt) % 256 = 0 ∧ -128 ≤ v103.toInt ∧ v103.toInt < 128 := by rw [← hv103]; exact c_i2b ch0
  refine own_i2b (pc' := 31) X0 hx (z := v103) hv103 (hb hby da1_30) rfl ?_
  obtain ⟨c105, B105, q105, s105, u105, H105, G105⟩ := id A_a2
  obtain ⟨T105, h105, X105, e105, W105, st105⟩ := stB X0 hx hZ e0 B105 (j := (0 : Int32)) (x := v103) (inb_of s105 (by decide)) (g := (mkF m 31 #[.val (.ref a1), .val (.int (0 : Int32)), .val (.ref a2), .val (.int (0 : Int32)), .val (.int (1 : Int32)), .val (.int (0 : Int32)), .val (.int ch0)] [(.int v103), (.int (0 : Int32)), (.ref a2)])) rfl rfl (hb hby da1_31)
  have m105 : nar .byte v103 = v103 := own_nb (by omega)
  rw [m105] at W105
  have A105 : Arv Z h105 a2 kb .byte (1 : Int32) [(.int v103)] (.int (0 : Int32)) := Arv.set B105 q105 s105 u105 H105 G105 (own_fb (by omega)) W105 0 (by decide) (by simp)
  have A106 : Arv Z h105 a1 kc .char (1 : Int32) [(.int ch0)] (.int (0 : Int32)) := A_a1.other W105 ne_a1_a2
  have Z107 : n0 ≤ h105.size := Nat.le_trans Z0 (Nat.le_of_eq W105.size.symm)
  have N108 := Fr.snoc X105 N0 g_a2
  have K109 : Keep h0 h105 [a2] := K0.wr W105 (Or.inl (List.mem_of_getElem? (i := 0) rfl))
  refine own_by st105 ?_
  show own_Go p e below (Qa1 Z a1 a2 kc ch0 kb h0 n0) (own_Fr s ({ frames := 0, cells := 0, slots := 0, locals := 0 } : Room).cells ({ frames := 0, cells := 0, slots := 0, locals := 0 } : Room).slots) (T105.setTop (mkF m 32 #[.val (.ref a1), .val (.int (0 : Int32)), .val (.ref a2), .val (.int (0 : Int32)), .val (.int (1 : Int32)), .val (.int (0 : Int32)), .val (.int ch0)] []))
  refine own_iinc (pc' := 35) X105 hx #[.val (.ref a1), .val (.int (1 : Int32)), .val (.ref a2), .val (.int (0 : Int32)), .val (.int (1 : Int32)), .val (.int (0 : Int32)), .val (.int ch0)] rfl (by decide) rfl (hb hby da1_32) rfl ?_
  refine own_iinc (pc' := 38) X105 hx #[.val (.ref a1), .val (.int (1 : Int32)), .val (.ref a2), .val (.int (1 : Int32)), .val (.int (1 : Int32)), .val (.int (0 : Int32)), .val (.int ch0)] rfl (by decide) rfl (hb hby da1_35) rfl ?_
  refine own_iinc (pc' := 41) X105 hx #[.val (.ref a1), .val (.int (1 : Int32)), .val (.ref a2), .val (.int (1 : Int32)), .val (.int (1 : Int32)), .val (.int (1 : Int32)), .val (.int ch0)] rfl (by decide) rfl (hb hby da1_38) rfl ?_
  refine own_goto (pc' := 3) X105 hx (hb hby da1_41) (by decide) (by decide) ?_
  refine own_iload (pc' := 5) X105 hx rfl (hb hby da1_3) rfl ?_
  refine own_iload (pc' := 7) X105 hx rfl (hb hby da1_5) rfl ?_
  refine own_icmpYes (pc' := 44) X105 hx (hb hby da1_7) (by decide) (by decide) (by decide) ?_
  refine own_iload (pc' := 46) X105 hx rfl (hb hby da1_44) rfl ?_
  refine own_ret X105 hx Bd.returns Bd.notSynchronized (Or.inl ⟨rfl, by simp, _, rfl⟩) (hb hby da1_46) rfl (by decide) (by decide) ?_
  show Qa1 Z a1 a2 kc ch0 kb h0 n0 _ T105.heap _
  rw [e105]
  exact ⟨v103, rfl, by omega, N108, K109, A105⟩
theorem ef_a2 (m : MethodId) (x0 : Addr) (x2 : Addr) : entryFrame m #[(.ref x0), (.int (0 : Int32)), (.ref x2), (.int (0 : Int32)), (.int (2 : Int32))] 7 = mkF m 0 #[.val (.ref x0), .val (.int (0 : Int32)), .val (.ref x2), .val (.int (0 : Int32)), .val (.int (2 : Int32)), .unset, .unset] [] := by first | (simp [entryFrame, mkF, argsToLocals, Value.category, maxLocals]; done) | rfl
def Qa2 (Z : State) (a1 : Addr) (a2 : Addr) (kc : ClassId) (ch0 : Int32) (ch1 : Int32) (kb : ClassId) (h0 : Heap) (n0 : Nat) (v : Option Value) (h : Heap) (L : List Loc) : Prop := ∃ by0 : Int32, ∃ by1 : Int32, v = some (.int (2 : Int32)) ∧ (-128 ≤ by0.toInt ∧ by0.toInt < 128 ∧ by0.toInt % 256 = ch0.toInt ∧ -128 ≤ by1.toInt ∧ by1.toInt < 128 ∧ by1.toInt % 256 = ch1.toInt) ∧ Fr n0 L ∧ Keep h0 h [a2] ∧ Arv Z h a2 kb .byte (2 : Int32) [(.int by0), (.int by1)] (.int (0 : Int32))
set_option maxRecDepth 65536 in
set_option maxHeartbeats 40000000 in
theorem rma2 (l : Launch) (Z : State) (a0 : Array Value) (hw : ∀ d ∈ tables_1, d.before a0 Z = true) (ws : List Jvm.Cond) (a1 : Addr) (a2 : Addr) (kc : ClassId) (ch0 : Int32) (ch1 : Int32) (kb : ClassId) (h0 : Heap) (n0 : Nat) (Z0 : n0 ≤ h0.size) (A_a1 : Arv Z h0 a1 kc .char (2 : Int32) [(.int ch0), (.int ch1)] (.int (0 : Int32))) (A_a2 : Arv Z h0 a2 kb .byte (2 : Int32) [(.int (0 : Int32)), (.int (0 : Int32))] (.int (0 : Int32))) (g_a2 : n0 ≤ a2) (ne_a1_a2 : a1 ≠ a2) (hc0 : 0 ≤ ch0.toInt ∧ ch0.toInt < 256) (hc1 : 0 ≤ ch1.toInt ∧ ch1.toInt < 256) :
    MetFree l (⟨"java/lang/StringUTF16", "compress", "([CI[BII)I"⟩ : MethodName) (head1 (Jvm.Cond.code (⟨"java/lang/StringUTF16", "compress", "([CI[BII)I"⟩ : MethodName) jdk_52_method_21_code 7 (some .int) :: ws) ({ frames := 0, cells := 0, slots := 0, locals := 0 } : Room)) (fun a U => a = #[(.ref a1), (.int (0 : Int32)), (.ref a2), (.int (0 : Int32)), (.int (2 : Int32))] ∧ Z.Warmed39 U.vm ∧ U.heap = h0) (fun _ _ _ _ _ => True) (fun _ U o U' => ∃ v L, o = .returned v ∧ Qa2 Z a1 a2 kc ch0 ch1 kb h0 n0 v U'.heap L ∧ FrameEnd U o U' L ({ frames := 0, cells := 0, slots := 0, locals := 0 } : Room).cells ({ frames := 0, cells := 0, slots := 0, locals := 0 } : Room).slots) := by
  refine MetFree.of_bodySF (plainFor_of_name pn_0) hisR ?_
  intro p e s m args below meth c s₁ Bd hml0 hP hK
  obtain ⟨rfl, hZ, hh⟩ := hP
  have hx := Bd.exec
  have hby := Bd.bytes
  have hml : c.maxLocals = 7 := hml0
  have hown : s.vm.findClass "java/lang/StringUTF16" = some m.cls := findClass_of_methodNamed Bd.named
  have hnm := (name_of_methodNamed Bd.named Bd.method).1
  have X0 : Stand p l e ({ frames := 0, cells := 0, slots := 0, locals := 0 } : Room) s m #[(.ref a1), (.int (0 : Int32)), (.ref a2), (.int (0 : Int32)), (.int (2 : Int32))] below meth c s₁ [] 0 0 := Stand.of_body Bd
  have e0 : s₁.heap = h0 := by rw [← hh, Bd.state]; rfl
  have N0 := Fr.nil n0
  change own_Go p e below (Qa2 Z a1 a2 kc ch0 ch1 kb h0 n0) (own_Fr s ({ frames := 0, cells := 0, slots := 0, locals := 0 } : Room).cells ({ frames := 0, cells := 0, slots := 0, locals := 0 } : Room).slots) (s₁.setTop (entryFrame m #[(.ref a1), (.int (0 : Int32)), (.ref a2), (.int (0 : Int32)), (.int (2 : Int32))] 7))
  rw [ef_a2 m a1 a2]
  have rch0 := rng32 ch0
  have rch1 := rng32 ch1
  have K0 : Keep h0 h0 [a2] := Keep.refl h0 [a2]
  refine own_iconst (pc' := 1) X0 hx (0 : Int32) (by decide) (hb hby da1_0) rfl ?_
  refine own_istore (pc' := 3) X0 hx #[.val (.ref a1), .val (.int (0 : Int32)), .val (.ref a2), .val (.int (0 : Int32)), .val (.int (2 : Int32)), .val (.int (0 : Int32)), .unset] rfl (hb hby da1_1) rfl ?_
  refine own_iload (pc' := 5) X0 hx rfl (hb hby da1_3) rfl ?_
  refine own_iload (pc' := 7) X0 hx rfl (hb hby da1_5) rfl ?_
  refine own_icmpNo (pc' := 10) X0 hx (by decide) (hb hby da1_7) rfl ?_
  refine own_aloadN (pc' := 11) X0 hx rfl rfl (hb hby da1_10) rfl ?_
  refine own_iloadN (pc' := 12) X0 hx rfl (hb hby da1_11) rfl ?_
  obtain ⟨c101, B101, q101, s101, u101, H101, G101⟩ := id A_a1
  have i101 := inb_of s101 (j := (0 : Int32)) (by decide)
  refine own_by (X0.caload hx (j := (0 : Int32)) (v := (.int ch0)) (by rw [e0]; exact B101.1) (State.isArrayOf_alike hZ.alike B101.2.1) B101.2.2 i101 (H101.at i101 rfl) (g := (mkF m 12 #[.val (.ref a1), .val (.int (0 : Int32)), .val (.ref a2), .val (.int (0 : Int32)), .val (.int (2 : Int32)), .val (.int (0 : Int32)), .unset] [(.int (0 : Int32)), (.ref a1)])) rfl rfl (hb hby da1_12)) ?_
  show own_Go p e below (Qa2 Z a1 a2 kc ch0 ch1 kb h0 n0) (own_Fr s ({ frames := 0, cells := 0, slots := 0, locals := 0 } : Room).cells ({ frames := 0, cells := 0, slots := 0, locals := 0 } : Room).slots) (s₁.setTop (mkF m 13 #[.val (.ref a1), .val (.int (0 : Int32)), .val (.ref a2), .val (.int (0 : Int32)), .val (.int (2 : Int32)), .val (.int (0 : Int32)), .unset] [(.int ch0)]))
  refine own_istore (pc' := 15) X0 hx #[.val (.ref a1), .val (.int (0 : Int32)), .val (.ref a2), .val (.int (0 : Int32)), .val (.int (2 : Int32)), .val (.int (0 : Int32)), .val (.int ch0)] rfl (hb hby da1_13) rfl ?_
  refine own_iload (pc' := 17) X0 hx rfl (hb hby da1_15) rfl ?_
  refine own_sipush (pc' := 20) X0 hx (255 : Int32) (by decide) (hb hby da1_17) rfl ?_
  have b102 : ¬ 255 < ch0.toInt := by omega
  refine own_icmpYes (pc' := 26) X0 hx (hb hby da1_20) (own_yes_le rfl (by decide) b102) (by decide) (by decide) ?_
  refine own_aloadN (pc' := 27) X0 hx rfl rfl (hb hby da1_26) rfl ?_
  refine own_iloadN (pc' := 28) X0 hx rfl (hb hby da1_27) rfl ?_
  refine own_iload (pc' := 30) X0 hx rfl (hb hby da1_28) rfl ?_
  obtain ⟨v103, hv103⟩ : ∃ z, ch0.toInt8.toInt32 = z := ⟨_, rfl⟩
  have f104 : (v103.toInt - ch0.toInt) % 256 = 0 ∧ -128 ≤ v103.toInt ∧ v103.toInt < 128 := by rw [← hv103]; exact c_i2b ch0
  refine own_i2b (pc' := 31) X0 hx (z := v103) hv103 (hb hby da1_30) rfl ?_
  obtain ⟨c105, B105, q105, s105, u105, H105, G105⟩ := id A_a2
  obtain ⟨T105, h105, X105, e105, W105, st105⟩ := stB X0 hx hZ e0 B105 (j := (0 : Int32)) (x := v103) (inb_of s105 (by decide)) (g := (mkF m 31 #[.val (.ref a1), .val (.int (0 : Int32)), .val (.ref a2), .val (.int (0 : Int32)), .val (.int (2 : Int32)), .val (.int (0 : Int32)), .val (.int ch0)] [(.int v103), (.int (0 : Int32)), (.ref a2)])) rfl rfl (hb hby da1_31)
  have m105 : nar .byte v103 = v103 := own_nb (by omega)
  rw [m105] at W105
  have A105 : Arv Z h105 a2 kb .byte (2 : Int32) [(.int v103), (.int (0 : Int32))] (.int (0 : Int32)) := Arv.set B105 q105 s105 u105 H105 G105 (own_fb (by omega)) W105 0 (by decide) (by simp)
  have A106 : Arv Z h105 a1 kc .char (2 : Int32) [(.int ch0), (.int ch1)] (.int (0 : Int32)) := A_a1.other W105 ne_a1_a2
  have Z107 : n0 ≤ h105.size := Nat.le_trans Z0 (Nat.le_of_eq W105.size.symm)
  have N108 := Fr.snoc X105 N0 g_a2
  have K109 : Keep h0 h105 [a2] := K0.wr W105 (Or.inl (List.mem_of_getElem? (i := 0) rfl))
  refine own_by st105 ?_
  show own_Go p e below (Qa2 Z a1 a2 kc ch0 ch1 kb h0 n0) (own_Fr s ({ frames := 0, cells := 0, slots := 0, locals := 0 } : Room).cells ({ frames := 0, cells := 0, slots := 0, locals := 0 } : Room).slots) (T105.setTop (mkF m 32 #[.val (.ref a1), .val (.int (0 : Int32)), .val (.ref a2), .val (.int (0 : Int32)), .val (.int (2 : Int32)), .val (.int (0 : Int32)), .val (.int ch0)] []))
  refine own_iinc (pc' := 35) X105 hx #[.val (.ref a1), .val (.int (1 : Int32)), .val (.ref a2), .val (.int (0 : Int32)), .val (.int (2 : Int32)), .val (.int (0 : Int32)), .val (.int ch0)] rfl (by decide) rfl (hb hby da1_32) rfl ?_
  refine own_iinc (pc' := 38) X105 hx #[.val (.ref a1), .val (.int (1 : Int32)), .val (.ref a2), .val (.int (1 : Int32)), .val (.int (2 : Int32)), .val (.int (0 : Int32)), .val (.int ch0)] rfl (by decide) rfl (hb hby da1_35) rfl ?_
  refine own_iinc (pc' := 41) X105 hx #[.val (.ref a1), .val (.int (1 : Int32)), .val (.ref a2), .val (.int (1 : Int32)), .val (.int (2 : Int32)), .val (.int (1 : Int32)), .val (.int ch0)] rfl (by decide) rfl (hb hby da1_38) rfl ?_
  refine own_goto (pc' := 3) X105 hx (hb hby da1_41) (by decide) (by decide) ?_
  refine own_iload (pc' := 5) X105 hx rfl (hb hby da1_3) rfl ?_
  refine own_iload (pc' := 7) X105 hx rfl (hb hby da1_5) rfl ?_
  refine own_icmpNo (pc' := 10) X105 hx (by decide) (hb hby da1_7) rfl ?_
  refine own_aloadN (pc' := 11) X105 hx rfl rfl (hb hby da1_10) rfl ?_
  refine own_iloadN (pc' := 12) X105 hx rfl (hb hby da1_11) rfl ?_
  obtain ⟨c110, B110, q110, s110, u110, H110, G110⟩ := id A106
  have i110 := inb_of s110 (j := (1 : Int32)) (by decide)
  refine own_by (X105.caload hx (j := (1 : Int32)) (v := (.int ch1)) (by rw [e105]; exact B110.1) (State.isArrayOf_alike hZ.alike B110.2.1) B110.2.2 i110 (H110.at i110 rfl) (g := (mkF m 12 #[.val (.ref a1), .val (.int (1 : Int32)), .val (.ref a2), .val (.int (1 : Int32)), .val (.int (2 : Int32)), .val (.int (1 : Int32)), .val (.int ch0)] [(.int (1 : Int32)), (.ref a1)])) rfl rfl (hb hby da1_12)) ?_
  show own_Go p e below (Qa2 Z a1 a2 kc ch0 ch1 kb h0 n0) (own_Fr s ({ frames := 0, cells := 0, slots := 0, locals := 0 } : Room).cells ({ frames := 0, cells := 0, slots := 0, locals := 0 } : Room).slots) (T105.setTop (mkF m 13 #[.val (.ref a1), .val (.int (1 : Int32)), .val (.ref a2), .val (.int (1 : Int32)), .val (.int (2 : Int32)), .val (.int (1 : Int32)), .val (.int ch0)] [(.int ch1)]))
  refine own_istore (pc' := 15) X105 hx #[.val (.ref a1), .val (.int (1 : Int32)), .val (.ref a2), .val (.int (1 : Int32)), .val (.int (2 : Int32)), .val (.int (1 : Int32)), .val (.int ch1)] rfl (hb hby da1_13) rfl ?_
  refine own_iload (pc' := 17) X105 hx rfl (hb hby da1_15) rfl ?_
  refine own_sipush (pc' := 20) X105 hx (255 : Int32) (by decide) (hb hby da1_17) rfl ?_
  have b111 : ¬ 255 < ch1.toInt := by omega
  refine own_icmpYes (pc' := 26) X105 hx (hb hby da1_20) (own_yes_le rfl (by decide) b111) (by decide) (by decide) ?_
  refine own_aloadN (pc' := 27) X105 hx rfl rfl (hb hby da1_26) rfl ?_
  refine own_iloadN (pc' := 28) X105 hx rfl (hb hby da1_27) rfl ?_
  refine own_iload (pc' := 30) X105 hx rfl (hb hby da1_28) rfl ?_
  obtain ⟨v112, hv112⟩ : ∃ z, ch1.toInt8.toInt32 = z := ⟨_, rfl⟩
  have f113 : (v112.toInt - ch1.toInt) % 256 = 0 ∧ -128 ≤ v112.toInt ∧ v112.toInt < 128 := by rw [← hv112]; exact c_i2b ch1
  refine own_i2b (pc' := 31) X105 hx (z := v112) hv112 (hb hby da1_30) rfl ?_
  obtain ⟨c114, B114, q114, s114, u114, H114, G114⟩ := id A105
  obtain ⟨T114, h114, X114, e114, W114, st114⟩ := stB X105 hx hZ e105 B114 (j := (1 : Int32)) (x := v112) (inb_of s114 (by decide)) (g := (mkF m 31 #[.val (.ref a1), .val (.int (1 : Int32)), .val (.ref a2), .val (.int (1 : Int32)), .val (.int (2 : Int32)), .val (.int (1 : Int32)), .val (.int ch1)] [(.int v112), (.int (1 : Int32)), (.ref a2)])) rfl rfl (hb hby da1_31)
  have m114 : nar .byte v112 = v112 := own_nb (by omega)
  rw [m114] at W114
  have A114 : Arv Z h114 a2 kb .byte (2 : Int32) [(.int v103), (.int v112)] (.int (0 : Int32)) := Arv.set B114 q114 s114 u114 H114 G114 (own_fb (by omega)) W114 1 (by decide) (by simp)
  have A115 : Arv Z h114 a1 kc .char (2 : Int32) [(.int ch0), (.int ch1)] (.int (0 : Int32)) := A106.other W114 ne_a1_a2
  have Z116 : n0 ≤ h114.size := Nat.le_trans Z107 (Nat.le_of_eq W114.size.symm)
  have N117 := Fr.snoc X114 N108 g_a2
  have K118 : Keep h0 h114 [a2] := K109.wr W114 (Or.inl (List.mem_of_getElem? (i := 0) rfl))
  refine own_by st114 ?_
  show own_Go p e below (Qa2 Z a1 a2 kc ch0 ch1 kb h0 n0) (own_Fr s ({ frames := 0, cells := 0, slots := 0, locals := 0 } : Room).cells ({ frames := 0, cells := 0, slots := 0, locals := 0 } : Room).slots) (T114.setTop (mkF m 32 #[.val (.ref a1), .val (.int (1 : Int32)), .val (.ref a2), .val (.int (1 : Int32)), .val (.int (2 : Int32)), .val (.int (1 : Int32)), .val (.int ch1)] []))
  refine own_iinc (pc' := 35) X114 hx #[.val (.ref a1), .val (.int (2 : Int32)), .val (.ref a2), .val (.int (1 : Int32)), .val (.int (2 : Int32)), .val (.int (1 : Int32)), .val (.int ch1)] rfl (by decide) rfl (hb hby da1_32) rfl ?_
  refine own_iinc (pc' := 38) X114 hx #[.val (.ref a1), .val (.int (2 : Int32)), .val (.ref a2), .val (.int (2 : Int32)), .val (.int (2 : Int32)), .val (.int (1 : Int32)), .val (.int ch1)] rfl (by decide) rfl (hb hby da1_35) rfl ?_
  refine own_iinc (pc' := 41) X114 hx #[.val (.ref a1), .val (.int (2 : Int32)), .val (.ref a2), .val (.int (2 : Int32)), .val (.int (2 : Int32)), .val (.int (2 : Int32)), .val (.int ch1)] rfl (by decide) rfl (hb hby da1_38) rfl ?_
  refine own_goto (pc' := 3) X114 hx (hb hby da1_41) (by decide) (by decide) ?_
  refine own_iload (pc' := 5) X114 hx rfl (hb hby da1_3) rfl ?_
  refine own_iload (pc' := 7) X114 hx rfl (hb hby da1_5) rfl ?_
  refine own_icmpYes (pc' := 44) X114 hx (hb hby da1_7) (by decide) (by decide) (by decide) ?_
  refine own_iload (pc' := 46) X114 hx rfl (hb hby da1_44) rfl ?_
  refine own_ret X114 hx Bd.returns Bd.notSynchronized (Or.inl ⟨rfl, by simp, _, rfl⟩) (hb hby da1_46) rfl (by decide) (by decide) ?_
  show Qa2 Z a1 a2 kc ch0 ch1 kb h0 n0 _ T114.heap _
  rw [e114]
  exact ⟨v103, v112, rfl, by omega, N117, K118, A114⟩
theorem ef_a3 (m : MethodId) (x0 : Addr) (x2 : Addr) : entryFrame m #[(.ref x0), (.int (0 : Int32)), (.ref x2), (.int (0 : Int32)), (.int (3 : Int32))] 7 = mkF m 0 #[.val (.ref x0), .val (.int (0 : Int32)), .val (.ref x2), .val (.int (0 : Int32)), .val (.int (3 : Int32)), .unset, .unset] [] := by first | (simp [entryFrame, mkF, argsToLocals, Value.category, maxLocals]; done) | rfl
def Qa3 (Z : State) (a1 : Addr) (a2 : Addr) (kc : ClassId) (ch0 : Int32) (ch1 : Int32) (ch2 : Int32) (kb : ClassId) (h0 : Heap) (n0 : Nat) (v : Option Value) (h : Heap) (L : List Loc) : Prop := ∃ by0 : Int32, ∃ by1 : Int32, ∃ by2 : Int32, v = some (.int (3 : Int32)) ∧ (-128 ≤ by0.toInt ∧ by0.toInt < 128 ∧ by0.toInt % 256 = ch0.toInt ∧ -128 ≤ by1.toInt ∧ by1.toInt < 128 ∧ by1.toInt % 256 = ch1.toInt ∧ -128 ≤ by2.toInt ∧ by2.toInt < 128 ∧ by2.toInt % 256 = ch2.toInt) ∧ Fr n0 L ∧ Keep h0 h [a2] ∧ Arv Z h a2 kb .byte (3 : Int32) [(.int by0), (.int by1), (.int by2)] (.int (0 : Int32))
set_option maxRecDepth 65536 in
set_option maxHeartbeats 40000000 in
theorem rma3 (l : Launch) (Z : State) (a0 : Array Value) (hw : ∀ d ∈ tables_1, d.before a0 Z = true) (ws : List Jvm.Cond) (a1 : Addr) (a2 : Addr) (kc : ClassId) (ch0 : Int32) (ch1 : Int32) (ch2 : Int32) (kb : ClassId) (h0 : Heap) (n0 : Nat) (Z0 : n0 ≤ h0.size) (A_a1 : Arv Z h0 a1 kc .char (3 : Int32) [(.int ch0), (.int ch1), (.int ch2)] (.int (0 : Int32))) (A_a2 : Arv Z h0 a2 kb .byte (3 : Int32) [(.int (0 : Int32)), (.int (0 : Int32)), (.int (0 : Int32))] (.int (0 : Int32))) (g_a2 : n0 ≤ a2) (ne_a1_a2 : a1 ≠ a2) (hc0 : 0 ≤ ch0.toInt ∧ ch0.toInt < 256) (hc1 : 0 ≤ ch1.toInt ∧ ch1.toInt < 256) (hc2 : 0 ≤ ch2.toInt ∧ ch2.toInt < 256) :
    MetFree l (⟨"java/lang/StringUTF16", "compress", "([CI[BII)I"⟩ : MethodName) (head1 (Jvm.Cond.code (⟨"java/lang/StringUTF16", "compress", "([CI[BII)I"⟩ : MethodName) jdk_52_method_21_code 7 (some .int) :: ws) ({ frames := 0, cells := 0, slots := 0, locals := 0 } : Room)) (fun a U => a = #[(.ref a1), (.int (0 : Int32)), (.ref a2), (.int (0 : Int32)), (.int (3 : Int32))] ∧ Z.Warmed39 U.vm ∧ U.heap = h0) (fun _ _ _ _ _ => True) (fun _ U o U' => ∃ v L, o = .returned v ∧ Qa3 Z a1 a2 kc ch0 ch1 ch2 kb h0 n0 v U'.heap L ∧ FrameEnd U o U' L ({ frames := 0, cells := 0, slots := 0, locals := 0 } : Room).cells ({ frames := 0, cells := 0, slots := 0, locals := 0 } : Room).slots) := by
  refine MetFree.of_bodySF (plainFor_of_name pn_0) hisR ?_
  intro p e s m args below meth c s₁ Bd hml0 hP hK
  obtain ⟨rfl, hZ, hh⟩ := hP
  have hx := Bd.exec
  have hby := Bd.bytes
  have hml : c.maxLocals = 7 := hml0
  have hown : s.vm.findClass "java/lang/StringUTF16" = some m.cls := findClass_of_methodNamed Bd.named
  have hnm := (name_of_methodNamed Bd.named Bd.method).1
  have X0 : Stand p l e ({ frames := 0, cells := 0, slots := 0, locals := 0 } : Room) s m #[(.ref a1), (.int (0 : Int32)), (.ref a2), (.int (0 : Int32)), (.int (3 : Int32))] below meth c s₁ [] 0 0 := Stand.of_body Bd
  have e0 : s₁.heap = h0 := by rw [← hh, Bd.state]; rfl
  have N0 := Fr.nil n0
  change own_Go p e below (Qa3 Z a1 a2 kc ch0 ch1 ch2 kb h0 n0) (own_Fr s ({ frames := 0, cells := 0, slots := 0, locals := 0 } : Room).cells ({ frames := 0, cells := 0, slots := 0, locals := 0 } : Room).slots) (s₁.setTop (entryFrame m #[(.ref a1), (.int (0 : Int32)), (.ref a2), (.int (0 : Int32)), (.int (3 : Int32))] 7))
  rw [ef_a3 m a1 a2]
  have rch0 := rng32 ch0
  have rch1 := rng32 ch1
  have rch2 := rng32 ch2
  have K0 : Keep h0 h0 [a2] := Keep.refl h0 [a2]
  refine own_iconst (pc' := 1) X0 hx (0 : Int32) (by decide) (hb hby da1_0) rfl ?_
  refine own_istore (pc' := 3) X0 hx #[.val (.ref a1), .val (.int (0 : Int32)), .val (.ref a2), .val (.int (0 : Int32)), .val (.int (3 : Int32)), .val (.int (0 : Int32)), .unset] rfl (hb hby da1_1) rfl ?_
  refine own_iload (pc' := 5) X0 hx rfl (hb hby da1_3) rfl ?_
  refine own_iload (pc' := 7) X0 hx rfl (hb hby da1_5) rfl ?_
  refine own_icmpNo (pc' := 10) X0 hx (by decide) (hb hby da1_7) rfl ?_
  refine own_aloadN (pc' := 11) X0 hx rfl rfl (hb hby da1_10) rfl ?_
  refine own_iloadN (pc' := 12) X0 hx rfl (hb hby da1_11) rfl ?_
  obtain ⟨c101, B101, q101, s101, u101, H101, G101⟩ := id A_a1
  have i101 := inb_of s101 (j := (0 : Int32)) (by decide)
  refine own_by (X0.caload hx (j := (0 : Int32)) (v := (.int ch0)) (by rw [e0]; exact B101.1) (State.isArrayOf_alike hZ.alike B101.2.1) B101.2.2 i101 (H101.at i101 rfl) (g := (mkF m 12 #[.val (.ref a1), .val (.int (0 : Int32)), .val (.ref a2), .val (.int (0 : Int32)), .val (.int (3 : Int32)), .val (.int (0 : Int32)), .unset] [(.int (0 : Int32)), (.ref a1)])) rfl rfl (hb hby da1_12)) ?_
  show own_Go p e below (Qa3 Z a1 a2 kc ch0 ch1 ch2 kb h0 n0) (own_Fr s ({ frames := 0, cells := 0, slots := 0, locals := 0 } : Room).cells ({ frames := 0, cells := 0, slots := 0, locals := 0 } : Room).slots) (s₁.setTop (mkF m 13 #[.val (.ref a1), .val (.int (0 : Int32)), .val (.ref a2), .val (.int (0 : Int32)), .val (.int (3 : Int32)), .val (.int (0 : Int32)), .unset] [(.int ch0)]))
  refine own_istore (pc' := 15) X0 hx #[.val (.ref a1), .val (.int (0 : Int32)), .val (.ref a2), .val (.int (0 : Int32)), .val (.int (3 : Int32)), .val (.int (0 : Int32)), .val (.int ch0)] rfl (hb hby da1_13) rfl ?_
  refine own_iload (pc' := 17) X0 hx rfl (hb hby da1_15) rfl ?_
  refine own_sipush (pc' := 20) X0 hx (255 : Int32) (by decide) (hb hby da1_17) rfl ?_
  have b102 : ¬ 255 < ch0.toInt := by omega
  refine own_icmpYes (pc' := 26) X0 hx (hb hby da1_20) (own_yes_le rfl (by decide) b102) (by decide) (by decide) ?_
  refine own_aloadN (pc' := 27) X0 hx rfl rfl (hb hby da1_26) rfl ?_
  refine own_iloadN (pc' := 28) X0 hx rfl (hb hby da1_27) rfl ?_
  refine own_iload (pc' := 30) X0 hx rfl (hb hby da1_28) rfl ?_
  obtain ⟨v103, hv103⟩ : ∃ z, ch0.toInt8.toInt32 = z := ⟨_, rfl⟩
  have f104 : (v103.toInt - ch0.toInt) % 256 = 0 ∧ -128 ≤ v103.toInt ∧ v103.toInt < 128 := by rw [← hv103]; exact c_i2b ch0
  refine own_i2b (pc' := 31) X0 hx (z := v103) hv103 (hb hby da1_30) rfl ?_
  obtain ⟨c105, B105, q105, s105, u105, H105, G105⟩ := id A_a2
  obtain ⟨T105, h105, X105, e105, W105, st105⟩ := stB X0 hx hZ e0 B105 (j := (0 : Int32)) (x := v103) (inb_of s105 (by decide)) (g := (mkF m 31 #[.val (.ref a1), .val (.int (0 : Int32)), .val (.ref a2), .val (.int (0 : Int32)), .val (.int (3 : Int32)), .val (.int (0 : Int32)), .val (.int ch0)] [(.int v103), (.int (0 : Int32)), (.ref a2)])) rfl rfl (hb hby da1_31)
  have m105 : nar .byte v103 = v103 := own_nb (by omega)
  rw [m105] at W105
  have A105 : Arv Z h105 a2 kb .byte (3 : Int32) [(.int v103), (.int (0 : Int32)), (.int (0 : Int32))] (.int (0 : Int32)) := Arv.set B105 q105 s105 u105 H105 G105 (own_fb (by omega)) W105 0 (by decide) (by simp)
  have A106 : Arv Z h105 a1 kc .char (3 : Int32) [(.int ch0), (.int ch1), (.int ch2)] (.int (0 : Int32)) := A_a1.other W105 ne_a1_a2
  have Z107 : n0 ≤ h105.size := Nat.le_trans Z0 (Nat.le_of_eq W105.size.symm)
  have N108 := Fr.snoc X105 N0 g_a2
  have K109 : Keep h0 h105 [a2] := K0.wr W105 (Or.inl (List.mem_of_getElem? (i := 0) rfl))
  refine own_by st105 ?_
  show own_Go p e below (Qa3 Z a1 a2 kc ch0 ch1 ch2 kb h0 n0) (own_Fr s ({ frames := 0, cells := 0, slots := 0, locals := 0 } : Room).cells ({ frames := 0, cells := 0, slots := 0, locals := 0 } : Room).slots) (T105.setTop (mkF m 32 #[.val (.ref a1), .val (.int (0 : Int32)), .val (.ref a2), .val (.int (0 : Int32)), .val (.int (3 : Int32)), .val (.int (0 : Int32)), .val (.int ch0)] []))
  refine own_iinc (pc' := 35) X105 hx #[.val (.ref a1), .val (.int (1 : Int32)), .val (.ref a2), .val (.int (0 : Int32)), .val (.int (3 : Int32)), .val (.int (0 : Int32)), .val (.int ch0)] rfl (by decide) rfl (hb hby da1_32) rfl ?_
  refine own_iinc (pc' := 38) X105 hx #[.val (.ref a1), .val (.int (1 : Int32)), .val (.ref a2), .val (.int (1 : Int32)), .val (.int (3 : Int32)), .val (.int (0 : Int32)), .val (.int ch0)] rfl (by decide) rfl (hb hby da1_35) rfl ?_
  refine own_iinc (pc' := 41) X105 hx #[.val (.ref a1), .val (.int (1 : Int32)), .val (.ref a2), .val (.int (1 : Int32)), .val (.int (3 : Int32)), .val (.int (1 : Int32)), .val (.int ch0)] rfl (by decide) rfl (hb hby da1_38) rfl ?_
  refine own_goto (pc' := 3) X105 hx (hb hby da1_41) (by decide) (by decide) ?_
  refine own_iload (pc' := 5) X105 hx rfl (hb hby da1_3) rfl ?_
  refine own_iload (pc' := 7) X105 hx rfl (hb hby da1_5) rfl ?_
  refine own_icmpNo (pc' := 10) X105 hx (by decide) (hb hby da1_7) rfl ?_
  refine own_aloadN (pc' := 11) X105 hx rfl rfl (hb hby da1_10) rfl ?_
  refine own_iloadN (pc' := 12) X105 hx rfl (hb hby da1_11) rfl ?_
  obtain ⟨c110, B110, q110, s110, u110, H110, G110⟩ := id A106
  have i110 := inb_of s110 (j := (1 : Int32)) (by decide)
  refine own_by (X105.caload hx (j := (1 : Int32)) (v := (.int ch1)) (by rw [e105]; exact B110.1) (State.isArrayOf_alike hZ.alike B110.2.1) B110.2.2 i110 (H110.at i110 rfl) (g := (mkF m 12 #[.val (.ref a1), .val (.int (1 : Int32)), .val (.ref a2), .val (.int (1 : Int32)), .val (.int (3 : Int32)), .val (.int (1 : Int32)), .val (.int ch0)] [(.int (1 : Int32)), (.ref a1)])) rfl rfl (hb hby da1_12)) ?_
  show own_Go p e below (Qa3 Z a1 a2 kc ch0 ch1 ch2 kb h0 n0) (own_Fr s ({ frames := 0, cells := 0, slots := 0, locals := 0 } : Room).cells ({ frames := 0, cells := 0, slots := 0, locals := 0 } : Room).slots) (T105.setTop (mkF m 13 #[.val (.ref a1), .val (.int (1 : Int32)), .val (.ref a2), .val (.int (1 : Int32)), .val (.int (3 : Int32)), .val (.int (1 : Int32)), .val (.int ch0)] [(.int ch1)]))
  refine own_istore (pc' := 15) X105 hx #[.val (.ref a1), .val (.int (1 : Int32)), .val (.ref a2), .val (.int (1 : Int32)), .val (.int (3 : Int32)), .val (.int (1 : Int32)), .val (.int ch1)] rfl (hb hby da1_13) rfl ?_
  refine own_iload (pc' := 17) X105 hx rfl (hb hby da1_15) rfl ?_
  refine own_sipush (pc' := 20) X105 hx (255 : Int32) (by decide) (hb hby da1_17) rfl ?_
  have b111 : ¬ 255 < ch1.toInt := by omega
  refine own_icmpYes (pc' := 26) X105 hx (hb hby da1_20) (own_yes_le rfl (by decide) b111) (by decide) (by decide) ?_
  refine own_aloadN (pc' := 27) X105 hx rfl rfl (hb hby da1_26) rfl ?_
  refine own_iloadN (pc' := 28) X105 hx rfl (hb hby da1_27) rfl ?_
  refine own_iload (pc' := 30) X105 hx rfl (hb hby da1_28) rfl ?_
  obtain ⟨v112, hv112⟩ : ∃ z, ch1.toInt8.toInt32 = z := ⟨_, rfl⟩
  have f113 : (v112.toInt - ch1.toInt) % 256 = 0 ∧ -128 ≤ v112.toInt ∧ v112.toInt < 128 := by rw [← hv112]; exact c_i2b ch1
  refine own_i2b (pc' := 31) X105 hx (z := v112) hv112 (hb hby da1_30) rfl ?_
  obtain ⟨c114, B114, q114, s114, u114, H114, G114⟩ := id A105
  obtain ⟨T114, h114, X114, e114, W114, st114⟩ := stB X105 hx hZ e105 B114 (j := (1 : Int32)) (x := v112) (inb_of s114 (by decide)) (g := (mkF m 31 #[.val (.ref a1), .val (.int (1 : Int32)), .val (.ref a2), .val (.int (1 : Int32)), .val (.int (3 : Int32)), .val (.int (1 : Int32)), .val (.int ch1)] [(.int v112), (.int (1 : Int32)), (.ref a2)])) rfl rfl (hb hby da1_31)
  have m114 : nar .byte v112 = v112 := own_nb (by omega)
  rw [m114] at W114
  have A114 : Arv Z h114 a2 kb .byte (3 : Int32) [(.int v103), (.int v112), (.int (0 : Int32))] (.int (0 : Int32)) := Arv.set B114 q114 s114 u114 H114 G114 (own_fb (by omega)) W114 1 (by decide) (by simp)
  have A115 : Arv Z h114 a1 kc .char (3 : Int32) [(.int ch0), (.int ch1), (.int ch2)] (.int (0 : Int32)) := A106.other W114 ne_a1_a2
  have Z116 : n0 ≤ h114.size := Nat.le_trans Z107 (Nat.le_of_eq W114.size.symm)
  have N117 := Fr.snoc X114 N108 g_a2
  have K118 : Keep h0 h114 [a2] := K109.wr W114 (Or.inl (List.mem_of_getElem? (i := 0) rfl))
  refine own_by st114 ?_
  show own_Go p e below (Qa3 Z a1 a2 kc ch0 ch1 ch2 kb h0 n0) (own_Fr s ({ frames := 0, cells := 0, slots := 0, locals := 0 } : Room).cells ({ frames := 0, cells := 0, slots := 0, locals := 0 } : Room).slots) (T114.setTop (mkF m 32 #[.val (.ref a1), .val (.int (1 : Int32)), .val (.ref a2), .val (.int (1 : Int32)), .val (.int (3 : Int32)), .val (.int (1 : Int32)), .val (.int ch1)] []))
  refine own_iinc (pc' := 35) X114 hx #[.val (.ref a1), .val (.int (2 : Int32)), .val (.ref a2), .val (.int (1 : Int32)), .val (.int (3 : Int32)), .val (.int (1 : Int32)), .val (.int ch1)] rfl (by decide) rfl (hb hby da1_32) rfl ?_
  refine own_iinc (pc' := 38) X114 hx #[.val (.ref a1), .val (.int (2 : Int32)), .val (.ref a2), .val (.int (2 : Int32)), .val (.int (3 : Int32)), .val (.int (1 : Int32)), .val (.int ch1)] rfl (by decide) rfl (hb hby da1_35) rfl ?_
  refine own_iinc (pc' := 41) X114 hx #[.val (.ref a1), .val (.int (2 : Int32)), .val (.ref a2), .val (.int (2 : Int32)), .val (.int (3 : Int32)), .val (.int (2 : Int32)), .val (.int ch1)] rfl (by decide) rfl (hb hby da1_38) rfl ?_
  refine own_goto (pc' := 3) X114 hx (hb hby da1_41) (by decide) (by decide) ?_
  refine own_iload (pc' := 5) X114 hx rfl (hb hby da1_3) rfl ?_
  refine own_iload (pc' := 7) X114 hx rfl (hb hby da1_5) rfl ?_
  refine own_icmpNo (pc' := 10) X114 hx (by decide) (hb hby da1_7) rfl ?_
  refine own_aloadN (pc' := 11) X114 hx rfl rfl (hb hby da1_10) rfl ?_
  refine own_iloadN (pc' := 12) X114 hx rfl (hb hby da1_11) rfl ?_
  obtain ⟨c119, B119, q119, s119, u119, H119, G119⟩ := id A115
  have i119 := inb_of s119 (j := (2 : Int32)) (by decide)
  refine own_by (X114.caload hx (j := (2 : Int32)) (v := (.int ch2)) (by rw [e114]; exact B119.1) (State.isArrayOf_alike hZ.alike B119.2.1) B119.2.2 i119 (H119.at i119 rfl) (g := (mkF m 12 #[.val (.ref a1), .val (.int (2 : Int32)), .val (.ref a2), .val (.int (2 : Int32)), .val (.int (3 : Int32)), .val (.int (2 : Int32)), .val (.int ch1)] [(.int (2 : Int32)), (.ref a1)])) rfl rfl (hb hby da1_12)) ?_
  show own_Go p e below (Qa3 Z a1 a2 kc ch0 ch1 ch2 kb h0 n0) (own_Fr s ({ frames := 0, cells := 0, slots := 0, locals := 0 } : Room).cells ({ frames := 0, cells := 0, slots := 0, locals := 0 } : Room).slots) (T114.setTop (mkF m 13 #[.val (.ref a1), .val (.int (2 : Int32)), .val (.ref a2), .val (.int (2 : Int32)), .val (.int (3 : Int32)), .val (.int (2 : Int32)), .val (.int ch1)] [(.int ch2)]))
  refine own_istore (pc' := 15) X114 hx #[.val (.ref a1), .val (.int (2 : Int32)), .val (.ref a2), .val (.int (2 : Int32)), .val (.int (3 : Int32)), .val (.int (2 : Int32)), .val (.int ch2)] rfl (hb hby da1_13) rfl ?_
  refine own_iload (pc' := 17) X114 hx rfl (hb hby da1_15) rfl ?_
  refine own_sipush (pc' := 20) X114 hx (255 : Int32) (by decide) (hb hby da1_17) rfl ?_
  have b120 : ¬ 255 < ch2.toInt := by omega
  refine own_icmpYes (pc' := 26) X114 hx (hb hby da1_20) (own_yes_le rfl (by decide) b120) (by decide) (by decide) ?_
  refine own_aloadN (pc' := 27) X114 hx rfl rfl (hb hby da1_26) rfl ?_
  refine own_iloadN (pc' := 28) X114 hx rfl (hb hby da1_27) rfl ?_
  refine own_iload (pc' := 30) X114 hx rfl (hb hby da1_28) rfl ?_
  obtain ⟨v121, hv121⟩ : ∃ z, ch2.toInt8.toInt32 = z := ⟨_, rfl⟩
  have f122 : (v121.toInt - ch2.toInt) % 256 = 0 ∧ -128 ≤ v121.toInt ∧ v121.toInt < 128 := by rw [← hv121]; exact c_i2b ch2
  refine own_i2b (pc' := 31) X114 hx (z := v121) hv121 (hb hby da1_30) rfl ?_
  obtain ⟨c123, B123, q123, s123, u123, H123, G123⟩ := id A114
  obtain ⟨T123, h123, X123, e123, W123, st123⟩ := stB X114 hx hZ e114 B123 (j := (2 : Int32)) (x := v121) (inb_of s123 (by decide)) (g := (mkF m 31 #[.val (.ref a1), .val (.int (2 : Int32)), .val (.ref a2), .val (.int (2 : Int32)), .val (.int (3 : Int32)), .val (.int (2 : Int32)), .val (.int ch2)] [(.int v121), (.int (2 : Int32)), (.ref a2)])) rfl rfl (hb hby da1_31)
  have m123 : nar .byte v121 = v121 := own_nb (by omega)
  rw [m123] at W123
  have A123 : Arv Z h123 a2 kb .byte (3 : Int32) [(.int v103), (.int v112), (.int v121)] (.int (0 : Int32)) := Arv.set B123 q123 s123 u123 H123 G123 (own_fb (by omega)) W123 2 (by decide) (by simp)
  have A124 : Arv Z h123 a1 kc .char (3 : Int32) [(.int ch0), (.int ch1), (.int ch2)] (.int (0 : Int32)) := A115.other W123 ne_a1_a2
  have Z125 : n0 ≤ h123.size := Nat.le_trans Z116 (Nat.le_of_eq W123.size.symm)
  have N126 := Fr.snoc X123 N117 g_a2
  have K127 : Keep h0 h123 [a2] := K118.wr W123 (Or.inl (List.mem_of_getElem? (i := 0) rfl))
  refine own_by st123 ?_
  show own_Go p e below (Qa3 Z a1 a2 kc ch0 ch1 ch2 kb h0 n0) (own_Fr s ({ frames := 0, cells := 0, slots := 0, locals := 0 } : Room).cells ({ frames := 0, cells := 0, slots := 0, locals := 0 } : Room).slots) (T123.setTop (mkF m 32 #[.val (.ref a1), .val (.int (2 : Int32)), .val (.ref a2), .val (.int (2 : Int32)), .val (.int (3 : Int32)), .val (.int (2 : Int32)), .val (.int ch2)] []))
  refine own_iinc (pc' := 35) X123 hx #[.val (.ref a1), .val (.int (3 : Int32)), .val (.ref a2), .val (.int (2 : Int32)), .val (.int (3 : Int32)), .val (.int (2 : Int32)), .val (.int ch2)] rfl (by decide) rfl (hb hby da1_32) rfl ?_
  refine own_iinc (pc' := 38) X123 hx #[.val (.ref a1), .val (.int (3 : Int32)), .val (.ref a2), .val (.int (3 : Int32)), .val (.int (3 : Int32)), .val (.int (2 : Int32)), .val (.int ch2)] rfl (by decide) rfl (hb hby da1_35) rfl ?_
  refine own_iinc (pc' := 41) X123 hx #[.val (.ref a1), .val (.int (3 : Int32)), .val (.ref a2), .val (.int (3 : Int32)), .val (.int (3 : Int32)), .val (.int (3 : Int32)), .val (.int ch2)] rfl (by decide) rfl (hb hby da1_38) rfl ?_
  refine own_goto (pc' := 3) X123 hx (hb hby da1_41) (by decide) (by decide) ?_
  refine own_iload (pc' := 5) X123 hx rfl (hb hby da1_3) rfl ?_
  refine own_iload (pc' := 7) X123 hx rfl (hb hby da1_5) rfl ?_
  refine own_icmpYes (pc' := 44) X123 hx (hb hby da1_7) (by decide) (by decide) (by decide) ?_
  refine own_iload (pc' := 46) X123 hx rfl (hb hby da1_44) rfl ?_
  refine own_ret X123 hx Bd.returns Bd.notSynchronized (Or.inl ⟨rfl, by simp, _, rfl⟩) (hb hby da1_46) rfl (by decide) (by decide) ?_
  show Qa3 Z a1 a2 kc ch0 ch1 ch2 kb h0 n0 _ T123.heap _
  rw [e123]
  exact ⟨v103, v112, v121, rfl, by omega, N126, K127, A123⟩
theorem pd_1 : parseMethodDescriptor "([CII)[B" = some ⟨[(.array .char), .int, .int], some (.array .byte)⟩ := by decide +kernel
theorem db1_0 : decode jdk_52_method_16_code 0 = .ok (.iload_n 2, 1) := by decide +kernel
theorem db1_1 : decode jdk_52_method_16_code 1 = .ok (.newarray .byte, 2) := by decide +kernel
theorem db1_3 : decode jdk_52_method_16_code 3 = .ok (.astore_n 3, 1) := by decide +kernel
theorem db1_4 : decode jdk_52_method_16_code 4 = .ok (.aload_n 0, 1) := by decide +kernel
theorem db1_5 : decode jdk_52_method_16_code 5 = .ok (.iload_n 1, 1) := by decide +kernel
theorem db1_6 : decode jdk_52_method_16_code 6 = .ok (.aload_n 3, 1) := by decide +kernel
theorem db1_7 : decode jdk_52_method_16_code 7 = .ok (.iconst 0, 1) := by decide +kernel
theorem db1_8 : decode jdk_52_method_16_code 8 = .ok (.iload_n 2, 1) := by decide +kernel
theorem db1_9 : decode jdk_52_method_16_code 9 = .ok (.invokestatic 115, 3) := by decide +kernel
theorem db1_12 : decode jdk_52_method_16_code 12 = .ok (.istore 4, 2) := by decide +kernel
theorem db1_14 : decode jdk_52_method_16_code 14 = .ok (.iload 4, 2) := by decide +kernel
theorem db1_16 : decode jdk_52_method_16_code 16 = .ok (.iload_n 2, 1) := by decide +kernel
theorem db1_17 : decode jdk_52_method_16_code 17 = .ok (.if_icmp .eq 40, 3) := by decide +kernel
theorem db1_20 : decode jdk_52_method_16_code 20 = .ok (.aload_n 0, 1) := by decide +kernel
theorem db1_21 : decode jdk_52_method_16_code 21 = .ok (.iload_n 1, 1) := by decide +kernel
theorem db1_22 : decode jdk_52_method_16_code 22 = .ok (.iload_n 2, 1) := by decide +kernel
theorem db1_26 : decode jdk_52_method_16_code 26 = .ok (.astore 5, 2) := by decide +kernel
theorem db1_28 : decode jdk_52_method_16_code 28 = .ok (.aload 5, 2) := by decide +kernel
theorem db1_30 : decode jdk_52_method_16_code 30 = .ok (.iload 4, 2) := by decide +kernel
theorem db1_35 : decode jdk_52_method_16_code 35 = .ok (.sipush 255, 3) := by decide +kernel
theorem db1_38 : decode jdk_52_method_16_code 38 = .ok (.if_icmp .gt 16, 3) := by decide +kernel
theorem db1_41 : decode jdk_52_method_16_code 41 = .ok (.aload 5, 2) := by decide +kernel
theorem db1_43 : decode jdk_52_method_16_code 43 = .ok (.iconst 0, 1) := by decide +kernel
theorem db1_44 : decode jdk_52_method_16_code 44 = .ok (.aload_n 3, 1) := by decide +kernel
theorem db1_45 : decode jdk_52_method_16_code 45 = .ok (.iconst 0, 1) := by decide +kernel
theorem db1_46 : decode jdk_52_method_16_code 46 = .ok (.iload_n 2, 1) := by decide +kernel
theorem db1_50 : decode jdk_52_method_16_code 50 = .ok (.iload_n 2, 1) := by decide +kernel
theorem db1_51 : decode jdk_52_method_16_code 51 = .ok (.if_icmp .eq 6, 3) := by decide +kernel
theorem db1_54 : decode jdk_52_method_16_code 54 = .ok (.aload 5, 2) := by decide +kernel
theorem db1_56 : decode jdk_52_method_16_code 56 = .ok (.areturn, 1) := by decide +kernel
theorem db1_57 : decode jdk_52_method_16_code 57 = .ok (.aload_n 3, 1) := by decide +kernel
theorem db1_58 : decode jdk_52_method_16_code 58 = .ok (.areturn, 1) := by decide +kernel
theorem ef_b1 (m : MethodId) (x0 : Addr) : entryFrame m #[(.ref x0), (.int (0 : Int32)), (.int (1 : Int32))] 6 = mkF m 0 #[.val (.ref x0), .val (.int (0 : Int32)), .val (.int (1 : Int32)), .unset, .unset, .unset] [] := by first | (simp [entryFrame, mkF, argsToLocals, Value.category, maxLocals]; done) | rfl
def Qb1 (Z : State) (a1 : Addr) (kc : ClassId) (ch0 : Int32) (h0 : Heap) (n0 : Nat) (v : Option Value) (h : Heap) (L : List Loc) : Prop := ∃ q : Addr, ∃ kb : ClassId, ∃ by0 : Int32, v = some (.ref q) ∧ (-128 ≤ by0.toInt ∧ by0.toInt < 128 ∧ by0.toInt % 256 = ch0.toInt) ∧ Fr n0 L ∧ Keep h0 h [] ∧ h0.size ≤ q ∧ Arv Z h q kb .byte (1 : Int32) [(.int by0)] (.int (0 : Int32))
set_option maxRecDepth 65536 in
set_option maxHeartbeats 40000000 in
theorem rmb1 (l : Launch) (Z : State) (a0 : Array Value) (hw : ∀ d ∈ tables_1, d.before a0 Z = true) (ws : List Jvm.Cond) (a1 : Addr) (kc : ClassId) (ch0 : Int32) (h0 : Heap) (n0 : Nat) (Z0 : n0 ≤ h0.size) (A_a1 : Arv Z h0 a1 kc .char (1 : Int32) [(.int ch0)] (.int (0 : Int32))) (hc0 : 0 ≤ ch0.toInt ∧ ch0.toInt < 256) :
    MetFree l (⟨"java/lang/StringUTF16", "compress", "([CII)[B"⟩ : MethodName) (head1 (Jvm.Cond.code (⟨"java/lang/StringUTF16", "compress", "([CII)[B"⟩ : MethodName) jdk_52_method_16_code 6 (some (.array .byte)) :: ws) ({ frames := 1, cells := 1, slots := 1, locals := 20 } : Room)) (fun a U => a = #[(.ref a1), (.int (0 : Int32)), (.int (1 : Int32))] ∧ Z.Warmed39 U.vm ∧ U.heap = h0) (fun _ _ _ _ _ => True) (fun _ U o U' => ∃ v L, o = .returned v ∧ Qb1 Z a1 kc ch0 h0 n0 v U'.heap L ∧ FrameEnd U o U' L ({ frames := 1, cells := 1, slots := 1, locals := 20 } : Room).cells ({ frames := 1, cells := 1, slots := 1, locals := 20 } : Room).slots) := by
  refine MetFree.of_bodySF (plainFor_of_name pn_0) hisR ?_
  intro p e s m args below meth c s₁ Bd hml0 hP hK
  obtain ⟨rfl, hZ, hh⟩ := hP
  have hx := Bd.exec
  have hby := Bd.bytes
  have hml : c.maxLocals = 6 := hml0
  have hown : s.vm.findClass "java/lang/StringUTF16" = some m.cls := findClass_of_methodNamed Bd.named
  have hnm := (name_of_methodNamed Bd.named Bd.method).1
  have X0 : Stand p l e ({ frames := 1, cells := 1, slots := 1, locals := 20 } : Room) s m #[(.ref a1), (.int (0 : Int32)), (.int (1 : Int32))] below meth c s₁ [] 0 0 := Stand.of_body Bd
  have e0 : s₁.heap = h0 := by rw [← hh, Bd.state]; rfl
  have N0 := Fr.nil n0
  change own_Go p e below (Qb1 Z a1 kc ch0 h0 n0) (own_Fr s ({ frames := 1, cells := 1, slots := 1, locals := 20 } : Room).cells ({ frames := 1, cells := 1, slots := 1, locals := 20 } : Room).slots) (s₁.setTop (entryFrame m #[(.ref a1), (.int (0 : Int32)), (.int (1 : Int32))] 6))
  rw [ef_b1 m a1]
  have rch0 := rng32 ch0
  have K0 : Keep h0 h0 [] := Keep.refl h0 []
  refine own_iloadN (pc' := 1) X0 hx rfl (hb hby db1_0) rfl ?_
  obtain ⟨T101, h101, cA101, X101, e101, E101, Ar101, st101⟩ := newP X0 hx hZ (hw _ (List.mem_of_getElem? (i := 15) rfl)) e0 (g := (mkF m 1 #[.val (.ref a1), .val (.int (0 : Int32)), .val (.int (1 : Int32)), .unset, .unset, .unset] [(.int (1 : Int32))])) rfl (hb hby db1_1) (n := (1 : Int32)) rfl (by decide) (cap := 1) (by decide) (by decide) (by decide) (by decide)
  obtain ⟨a101, ga101⟩ : ∃ z, z = h0.size := ⟨_, rfl⟩
  rw [← ga101] at Ar101 st101
  have y101 : h0.size ≤ h0.size := K0.1
  have n102 : a1 ≠ a101 := Nat.ne_of_lt (ga101.symm ▸ A_a1.lt)
  have A103 : Arv Z h101 a1 kc .char (1 : Int32) [(.int ch0)] (.int (0 : Int32)) := A_a1.ext E101
  have fr101 : n0 ≤ a101 := Nat.le_trans Z0 (Nat.le_of_eq ga101.symm)
  have Z104 : n0 ≤ h101.size := Nat.le_trans Z0 E101.1
  have K105 : Keep h0 h101 [] := K0.ext E101
  have A101 : Arv Z h101 a101 cA101 .byte (1 : Int32) [(.int (0 : Int32))] (.int (0 : Int32)) := (Arv.new Ar101 (by decide)).pad (fun i => pad_rep [] (.int (0 : Int32)) 1 i)
  refine own_by st101 ?_
  show own_Go p e below (Qb1 Z a1 kc ch0 h0 n0) (own_Fr s ({ frames := 1, cells := 1, slots := 1, locals := 20 } : Room).cells ({ frames := 1, cells := 1, slots := 1, locals := 20 } : Room).slots) (T101.setTop (mkF m 3 #[.val (.ref a1), .val (.int (0 : Int32)), .val (.int (1 : Int32)), .unset, .unset, .unset] [(.ref a101)]))
  refine own_astoreN (pc' := 4) X101 hx #[.val (.ref a1), .val (.int (0 : Int32)), .val (.int (1 : Int32)), .val (.ref a101), .unset, .unset] rfl rfl (hb hby db1_3) rfl ?_
  refine own_aloadN (pc' := 5) X101 hx rfl rfl (hb hby db1_4) rfl ?_
  refine own_iloadN (pc' := 6) X101 hx rfl (hb hby db1_5) rfl ?_
  refine own_aloadN (pc' := 7) X101 hx rfl rfl (hb hby db1_6) rfl ?_
  refine own_iconst (pc' := 8) X101 hx (0 : Int32) (by decide) (hb hby db1_7) rfl ?_
  refine own_iloadN (pc' := 9) X101 hx rfl (hb hby db1_8) rfl ?_
  obtain ⟨_, _, ⟨T106, L106, k106, n106⟩, -, X106, ⟨Lc106, hQ106, l106, y106, z106⟩, st106⟩ := Jvm.LawKit.callS X101 hx (y := (⟨"java/lang/StringUTF16", "compress", "([CI[BII)I"⟩ : MethodName)) hown (mvT hZ (hw _ (List.mem_of_getElem? (i := 69) rfl))) (mvT hZ (hw _ (List.mem_of_getElem? (i := 70) rfl))) (mvT hZ (hw _ (List.mem_of_getElem? (i := 67) rfl))) (mvT hZ (hw _ (List.mem_of_getElem? (i := 71) rfl))) (by decide) (backOf (W := 0) (rma1 l Z a0 hw [] a1 a101 kc ch0 cA101 h101 n0 Z104 A103 A101 fr101 n102 (by omega)) hZ (hw _ (List.mem_of_getElem? (i := 71) rfl)) (hw _ (List.mem_of_getElem? (i := 67) rfl)) (by decide) (by decide)) (g := (mkF m 9 #[.val (.ref a1), .val (.int (0 : Int32)), .val (.int (1 : Int32)), .val (.ref a101), .unset, .unset] [(.int (1 : Int32)), (.int (0 : Int32)), (.ref a101), (.int (0 : Int32)), (.ref a1)])) rfl (by rw [hml]; rfl) (argsL := [(.ref a1), (.int (0 : Int32)), (.ref a101), (.int (0 : Int32)), (.int (1 : Int32))]) (rest := []) (lenOf pd_0 rfl) rfl (by show 2 * 0 + _ ≤ _; exact Nat.le_of_eq rfl) (hb hby db1_9) (fun _ _ => ⟨rfl, e101, (by decide : 1 + 0 ≤ _), (by decide : 1 + 0 ≤ _)⟩)
  dsimp only [Pt.U, Pt.locs, Pt.cells, Pt.slots] at X106 l106 y106 z106 st106 hQ106
  subst y106 z106
  obtain ⟨by0_106, rfl, pp106, N106, Kc106, Ac106_a2⟩ := hQ106
  have A107 : Arv Z T106.heap a1 kc .char (1 : Int32) [(.int ch0)] (.int (0 : Int32)) := A103.keep Kc106 (ninS n102 nin0)
  have Z108 : n0 ≤ T106.heap.size := Nat.le_trans Z104 Kc106.1
  have K109 : Keep h0 T106.heap [] := K105.trans Kc106 (allS (Or.inr (Nat.le_trans y101 (Nat.le_of_eq ga101.symm))) all0)
  have rby0_106 := rng32 by0_106
  have N106a : Fr n0 L106 := by rw [l106]; exact Fr.app N0 N106
  refine own_by st106 ?_
  show own_Go p e below (Qb1 Z a1 kc ch0 h0 n0) (own_Fr s ({ frames := 1, cells := 1, slots := 1, locals := 20 } : Room).cells ({ frames := 1, cells := 1, slots := 1, locals := 20 } : Room).slots) (T106.setTop (mkF m 12 #[.val (.ref a1), .val (.int (0 : Int32)), .val (.int (1 : Int32)), .val (.ref a101), .unset, .unset] [(.int (1 : Int32))]))
  refine own_istore (pc' := 14) X106 hx #[.val (.ref a1), .val (.int (0 : Int32)), .val (.int (1 : Int32)), .val (.ref a101), .val (.int (1 : Int32)), .unset] rfl (hb hby db1_12) rfl ?_
  refine own_iload (pc' := 16) X106 hx rfl (hb hby db1_14) rfl ?_
  refine own_iloadN (pc' := 17) X106 hx rfl (hb hby db1_16) rfl ?_
  refine own_icmpYes (pc' := 57) X106 hx (hb hby db1_17) (by decide) (by decide) (by decide) ?_
  refine own_aloadN (pc' := 58) X106 hx rfl rfl (hb hby db1_57) rfl ?_
  refine own_ret X106 hx Bd.returns Bd.notSynchronized (Or.inr (Or.inr (Or.inr (Or.inr ⟨rfl, rfl, rfl⟩)))) (hb hby db1_58) rfl (by decide) (by decide) ?_
  show Qb1 Z a1 kc ch0 h0 n0 _ T106.heap _
  exact ⟨a101, cA101, by0_106, rfl, by omega, N106a, K109, Nat.le_trans y101 (Nat.le_of_eq ga101.symm), Ac106_a2⟩
theorem pd_2 : parseMethodDescriptor "([BI)B" = some ⟨[(.array .byte), .int], some .byte⟩ := by decide +kernel
theorem df1_0 : decode jdk_52_method_15_code 0 = .ok (.iload_n 1, 1) := by decide +kernel
theorem df1_1 : decode jdk_52_method_15_code 1 = .ok (.aload_n 0, 1) := by decide +kernel
theorem df1_2 : decode jdk_52_method_15_code 2 = .ok (.arraylength, 1) := by decide +kernel
theorem df1_3 : decode jdk_52_method_15_code 3 = .ok (.isub, 1) := by decide +kernel
theorem df1_4 : decode jdk_52_method_15_code 4 = .ok (.bipush 31, 2) := by decide +kernel
theorem df1_6 : decode jdk_52_method_15_code 6 = .ok (.iushr, 1) := by decide +kernel
theorem df1_7 : decode jdk_52_method_15_code 7 = .ok (.i2b, 1) := by decide +kernel
theorem df1_8 : decode jdk_52_method_15_code 8 = .ok (.ireturn, 1) := by decide +kernel
theorem ef_f1 (m : MethodId) (x0 : Addr) : entryFrame m #[(.ref x0), (.int (1 : Int32))] 2 = mkF m 0 #[.val (.ref x0), .val (.int (1 : Int32))] [] := by first | (simp [entryFrame, mkF, argsToLocals, Value.category, maxLocals]; done) | rfl
def Qf1 (Z : State) (a1 : Addr) (kb : ClassId) (by0 : Int32) (h0 : Heap) (n0 : Nat) (v : Option Value) (h : Heap) (L : List Loc) : Prop := v = some (.int (0 : Int32)) ∧ (True) ∧ Fr n0 L ∧ h = h0
set_option maxRecDepth 65536 in
set_option maxHeartbeats 40000000 in
theorem rmf1 (l : Launch) (Z : State) (a0 : Array Value) (hw : ∀ d ∈ tables_1, d.before a0 Z = true) (ws : List Jvm.Cond) (a1 : Addr) (kb : ClassId) (by0 : Int32) (h0 : Heap) (n0 : Nat) (Z0 : n0 ≤ h0.size) (A_a1 : Arv Z h0 a1 kb .byte (1 : Int32) [(.int by0)] (.int (0 : Int32))) :
    MetFree l (⟨"java/lang/StringUTF16", "coderFromArrayLen", "([BI)B"⟩ : MethodName) (head1 (Jvm.Cond.code (⟨"java/lang/StringUTF16", "coderFromArrayLen", "([BI)B"⟩ : MethodName) jdk_52_method_15_code 2 (some .byte) :: ws) ({ frames := 0, cells := 0, slots := 0, locals := 0 } : Room)) (fun a U => a = #[(.ref a1), (.int (1 : Int32))] ∧ Z.Warmed39 U.vm ∧ U.heap = h0) (fun _ _ _ _ _ => True) (fun _ U o U' => ∃ v L, o = .returned v ∧ Qf1 Z a1 kb by0 h0 n0 v U'.heap L ∧ FrameEnd U o U' L ({ frames := 0, cells := 0, slots := 0, locals := 0 } : Room).cells ({ frames := 0, cells := 0, slots := 0, locals := 0 } : Room).slots) := by
  refine MetFree.of_bodySF (plainFor_of_name pn_0) hisR ?_
  intro p e s m args below meth c s₁ Bd hml0 hP hK
  obtain ⟨rfl, hZ, hh⟩ := hP
  have hx := Bd.exec
  have hby := Bd.bytes
  have hml : c.maxLocals = 2 := hml0
  have hown : s.vm.findClass "java/lang/StringUTF16" = some m.cls := findClass_of_methodNamed Bd.named
  have hnm := (name_of_methodNamed Bd.named Bd.method).1
  have X0 : Stand p l e ({ frames := 0, cells := 0, slots := 0, locals := 0 } : Room) s m #[(.ref a1), (.int (1 : Int32))] below meth c s₁ [] 0 0 := Stand.of_body Bd
  have e0 : s₁.heap = h0 := by rw [← hh, Bd.state]; rfl
  have N0 := Fr.nil n0
  change own_Go p e below (Qf1 Z a1 kb by0 h0 n0) (own_Fr s ({ frames := 0, cells := 0, slots := 0, locals := 0 } : Room).cells ({ frames := 0, cells := 0, slots := 0, locals := 0 } : Room).slots) (s₁.setTop (entryFrame m #[(.ref a1), (.int (1 : Int32))] 2))
  rw [ef_f1 m a1]
  have rby0 := rng32 by0
  refine own_iloadN (pc' := 1) X0 hx rfl (hb hby df1_0) rfl ?_
  refine own_aloadN (pc' := 2) X0 hx rfl rfl (hb hby df1_1) rfl ?_
  obtain ⟨c101, B101, q101, s101, u101, H101, G101⟩ := id A_a1
  refine own_by (X0.arraylength hx (by rw [e0]; exact B101.1) (State.isArrayOf_alike hZ.alike B101.2.1) (g := (mkF m 2 #[.val (.ref a1), .val (.int (1 : Int32))] [(.ref a1), (.int (1 : Int32))])) rfl rfl (hb hby df1_2)) ?_
  rw [len_of s101 u101]
  show own_Go p e below (Qf1 Z a1 kb by0 h0 n0) (own_Fr s ({ frames := 0, cells := 0, slots := 0, locals := 0 } : Room).cells ({ frames := 0, cells := 0, slots := 0, locals := 0 } : Room).slots) (s₁.setTop (mkF m 3 #[.val (.ref a1), .val (.int (1 : Int32))] [(.int (1 : Int32)), (.int (1 : Int32))]))
  refine own_isub (pc' := 4) X0 hx (z := (0 : Int32)) (by decide) (hb hby df1_3) rfl ?_
  refine own_bipush (pc' := 6) X0 hx (31 : Int32) (by decide) (hb hby df1_4) rfl ?_
  refine own_iushr (pc' := 7) X0 hx (z := (0 : Int32)) (by decide) (hb hby df1_6) rfl ?_
  refine own_i2b (pc' := 8) X0 hx (z := (0 : Int32)) (by decide) (hb hby df1_7) rfl ?_
  refine own_ret X0 hx Bd.returns Bd.notSynchronized (Or.inl ⟨rfl, by simp, _, rfl⟩) (hb hby df1_8) rfl (by decide) (by decide) ?_
  show Qf1 Z a1 kb by0 h0 n0 _ s₁.heap _
  rw [e0]
  exact ⟨rfl, trivial, N0, rfl⟩
theorem ef_b2 (m : MethodId) (x0 : Addr) : entryFrame m #[(.ref x0), (.int (0 : Int32)), (.int (2 : Int32))] 6 = mkF m 0 #[.val (.ref x0), .val (.int (0 : Int32)), .val (.int (2 : Int32)), .unset, .unset, .unset] [] := by first | (simp [entryFrame, mkF, argsToLocals, Value.category, maxLocals]; done) | rfl
def Qb2 (Z : State) (a1 : Addr) (kc : ClassId) (ch0 : Int32) (ch1 : Int32) (h0 : Heap) (n0 : Nat) (v : Option Value) (h : Heap) (L : List Loc) : Prop := ∃ q : Addr, ∃ kb : ClassId, ∃ by0 : Int32, ∃ by1 : Int32, v = some (.ref q) ∧ (-128 ≤ by0.toInt ∧ by0.toInt < 128 ∧ by0.toInt % 256 = ch0.toInt ∧ -128 ≤ by1.toInt ∧ by1.toInt < 128 ∧ by1.toInt % 256 = ch1.toInt) ∧ Fr n0 L ∧ Keep h0 h [] ∧ h0.size ≤ q ∧ Arv Z h q kb .byte (2 : Int32) [(.int by0), (.int by1)] (.int (0 : Int32))
set_option maxRecDepth 65536 in
set_option maxHeartbeats 40000000 in
theorem rmb2 (l : Launch) (Z : State) (a0 : Array Value) (hw : ∀ d ∈ tables_1, d.before a0 Z = true) (ws : List Jvm.Cond) (a1 : Addr) (kc : ClassId) (ch0 : Int32) (ch1 : Int32) (h0 : Heap) (n0 : Nat) (Z0 : n0 ≤ h0.size) (A_a1 : Arv Z h0 a1 kc .char (2 : Int32) [(.int ch0), (.int ch1)] (.int (0 : Int32))) (hc0 : 0 ≤ ch0.toInt ∧ ch0.toInt < 256) (hc1 : 0 ≤ ch1.toInt ∧ ch1.toInt < 256) :
    MetFree l (⟨"java/lang/StringUTF16", "compress", "([CII)[B"⟩ : MethodName) (head1 (Jvm.Cond.code (⟨"java/lang/StringUTF16", "compress", "([CII)[B"⟩ : MethodName) jdk_52_method_16_code 6 (some (.array .byte)) :: ws) ({ frames := 1, cells := 1, slots := 2, locals := 20 } : Room)) (fun a U => a = #[(.ref a1), (.int (0 : Int32)), (.int (2 : Int32))] ∧ Z.Warmed39 U.vm ∧ U.heap = h0) (fun _ _ _ _ _ => True) (fun _ U o U' => ∃ v L, o = .returned v ∧ Qb2 Z a1 kc ch0 ch1 h0 n0 v U'.heap L ∧ FrameEnd U o U' L ({ frames := 1, cells := 1, slots := 2, locals := 20 } : Room).cells ({ frames := 1, cells := 1, slots := 2, locals := 20 } : Room).slots) := by
  refine MetFree.of_bodySF (plainFor_of_name pn_0) hisR ?_
  intro p e s m args below meth c s₁ Bd hml0 hP hK
  obtain ⟨rfl, hZ, hh⟩ := hP
  have hx := Bd.exec
  have hby := Bd.bytes
  have hml : c.maxLocals = 6 := hml0
  have hown : s.vm.findClass "java/lang/StringUTF16" = some m.cls := findClass_of_methodNamed Bd.named
  have hnm := (name_of_methodNamed Bd.named Bd.method).1
  have X0 : Stand p l e ({ frames := 1, cells := 1, slots := 2, locals := 20 } : Room) s m #[(.ref a1), (.int (0 : Int32)), (.int (2 : Int32))] below meth c s₁ [] 0 0 := Stand.of_body Bd
  have e0 : s₁.heap = h0 := by rw [← hh, Bd.state]; rfl
  have N0 := Fr.nil n0
  change own_Go p e below (Qb2 Z a1 kc ch0 ch1 h0 n0) (own_Fr s ({ frames := 1, cells := 1, slots := 2, locals := 20 } : Room).cells ({ frames := 1, cells := 1, slots := 2, locals := 20 } : Room).slots) (s₁.setTop (entryFrame m #[(.ref a1), (.int (0 : Int32)), (.int (2 : Int32))] 6))
  rw [ef_b2 m a1]
  have rch0 := rng32 ch0
  have rch1 := rng32 ch1
  have K0 : Keep h0 h0 [] := Keep.refl h0 []
  refine own_iloadN (pc' := 1) X0 hx rfl (hb hby db1_0) rfl ?_
  obtain ⟨T101, h101, cA101, X101, e101, E101, Ar101, st101⟩ := newP X0 hx hZ (hw _ (List.mem_of_getElem? (i := 15) rfl)) e0 (g := (mkF m 1 #[.val (.ref a1), .val (.int (0 : Int32)), .val (.int (2 : Int32)), .unset, .unset, .unset] [(.int (2 : Int32))])) rfl (hb hby db1_1) (n := (2 : Int32)) rfl (by decide) (cap := 2) (by decide) (by decide) (by decide) (by decide)
  obtain ⟨a101, ga101⟩ : ∃ z, z = h0.size := ⟨_, rfl⟩
  rw [← ga101] at Ar101 st101
  have y101 : h0.size ≤ h0.size := K0.1
  have n102 : a1 ≠ a101 := Nat.ne_of_lt (ga101.symm ▸ A_a1.lt)
  have A103 : Arv Z h101 a1 kc .char (2 : Int32) [(.int ch0), (.int ch1)] (.int (0 : Int32)) := A_a1.ext E101
  have fr101 : n0 ≤ a101 := Nat.le_trans Z0 (Nat.le_of_eq ga101.symm)
  have Z104 : n0 ≤ h101.size := Nat.le_trans Z0 E101.1
  have K105 : Keep h0 h101 [] := K0.ext E101
  have A101 : Arv Z h101 a101 cA101 .byte (2 : Int32) [(.int (0 : Int32)), (.int (0 : Int32))] (.int (0 : Int32)) := (Arv.new Ar101 (by decide)).pad (fun i => pad_rep [] (.int (0 : Int32)) 2 i)
  refine own_by st101 ?_
  show own_Go p e below (Qb2 Z a1 kc ch0 ch1 h0 n0) (own_Fr s ({ frames := 1, cells := 1, slots := 2, locals := 20 } : Room).cells ({ frames := 1, cells := 1, slots := 2, locals := 20 } : Room).slots) (T101.setTop (mkF m 3 #[.val (.ref a1), .val (.int (0 : Int32)), .val (.int (2 : Int32)), .unset, .unset, .unset] [(.ref a101)]))
  refine own_astoreN (pc' := 4) X101 hx #[.val (.ref a1), .val (.int (0 : Int32)), .val (.int (2 : Int32)), .val (.ref a101), .unset, .unset] rfl rfl (hb hby db1_3) rfl ?_
  refine own_aloadN (pc' := 5) X101 hx rfl rfl (hb hby db1_4) rfl ?_
  refine own_iloadN (pc' := 6) X101 hx rfl (hb hby db1_5) rfl ?_
  refine own_aloadN (pc' := 7) X101 hx rfl rfl (hb hby db1_6) rfl ?_
  refine own_iconst (pc' := 8) X101 hx (0 : Int32) (by decide) (hb hby db1_7) rfl ?_
  refine own_iloadN (pc' := 9) X101 hx rfl (hb hby db1_8) rfl ?_
  obtain ⟨_, _, ⟨T106, L106, k106, n106⟩, -, X106, ⟨Lc106, hQ106, l106, y106, z106⟩, st106⟩ := Jvm.LawKit.callS X101 hx (y := (⟨"java/lang/StringUTF16", "compress", "([CI[BII)I"⟩ : MethodName)) hown (mvT hZ (hw _ (List.mem_of_getElem? (i := 69) rfl))) (mvT hZ (hw _ (List.mem_of_getElem? (i := 70) rfl))) (mvT hZ (hw _ (List.mem_of_getElem? (i := 67) rfl))) (mvT hZ (hw _ (List.mem_of_getElem? (i := 71) rfl))) (by decide) (backOf (W := 0) (rma2 l Z a0 hw [] a1 a101 kc ch0 ch1 cA101 h101 n0 Z104 A103 A101 fr101 n102 (by omega) (by omega)) hZ (hw _ (List.mem_of_getElem? (i := 71) rfl)) (hw _ (List.mem_of_getElem? (i := 67) rfl)) (by decide) (by decide)) (g := (mkF m 9 #[.val (.ref a1), .val (.int (0 : Int32)), .val (.int (2 : Int32)), .val (.ref a101), .unset, .unset] [(.int (2 : Int32)), (.int (0 : Int32)), (.ref a101), (.int (0 : Int32)), (.ref a1)])) rfl (by rw [hml]; rfl) (argsL := [(.ref a1), (.int (0 : Int32)), (.ref a101), (.int (0 : Int32)), (.int (2 : Int32))]) (rest := []) (lenOf pd_0 rfl) rfl (by show 2 * 0 + _ ≤ _; exact Nat.le_of_eq rfl) (hb hby db1_9) (fun _ _ => ⟨rfl, e101, (by decide : 1 + 0 ≤ _), (by decide : 2 + 0 ≤ _)⟩)
  dsimp only [Pt.U, Pt.locs, Pt.cells, Pt.slots] at X106 l106 y106 z106 st106 hQ106
  subst y106 z106
  obtain ⟨by0_106, by1_106, rfl, pp106, N106, Kc106, Ac106_a2⟩ := hQ106
  have A107 : Arv Z T106.heap a1 kc .char (2 : Int32) [(.int ch0), (.int ch1)] (.int (0 : Int32)) := A103.keep Kc106 (ninS n102 nin0)
  have Z108 : n0 ≤ T106.heap.size := Nat.le_trans Z104 Kc106.1
  have K109 : Keep h0 T106.heap [] := K105.trans Kc106 (allS (Or.inr (Nat.le_trans y101 (Nat.le_of_eq ga101.symm))) all0)
  have rby0_106 := rng32 by0_106
  have rby1_106 := rng32 by1_106
  have N106a : Fr n0 L106 := by rw [l106]; exact Fr.app N0 N106
  refine own_by st106 ?_
  show own_Go p e below (Qb2 Z a1 kc ch0 ch1 h0 n0) (own_Fr s ({ frames := 1, cells := 1, slots := 2, locals := 20 } : Room).cells ({ frames := 1, cells := 1, slots := 2, locals := 20 } : Room).slots) (T106.setTop (mkF m 12 #[.val (.ref a1), .val (.int (0 : Int32)), .val (.int (2 : Int32)), .val (.ref a101), .unset, .unset] [(.int (2 : Int32))]))
  refine own_istore (pc' := 14) X106 hx #[.val (.ref a1), .val (.int (0 : Int32)), .val (.int (2 : Int32)), .val (.ref a101), .val (.int (2 : Int32)), .unset] rfl (hb hby db1_12) rfl ?_
  refine own_iload (pc' := 16) X106 hx rfl (hb hby db1_14) rfl ?_
  refine own_iloadN (pc' := 17) X106 hx rfl (hb hby db1_16) rfl ?_
  refine own_icmpYes (pc' := 57) X106 hx (hb hby db1_17) (by decide) (by decide) (by decide) ?_
  refine own_aloadN (pc' := 58) X106 hx rfl rfl (hb hby db1_57) rfl ?_
  refine own_ret X106 hx Bd.returns Bd.notSynchronized (Or.inr (Or.inr (Or.inr (Or.inr ⟨rfl, rfl, rfl⟩)))) (hb hby db1_58) rfl (by decide) (by decide) ?_
  show Qb2 Z a1 kc ch0 ch1 h0 n0 _ T106.heap _
  exact ⟨a101, cA101, by0_106, by1_106, rfl, by omega, N106a, K109, Nat.le_trans y101 (Nat.le_of_eq ga101.symm), Ac106_a2⟩
theorem ef_f2 (m : MethodId) (x0 : Addr) : entryFrame m #[(.ref x0), (.int (2 : Int32))] 2 = mkF m 0 #[.val (.ref x0), .val (.int (2 : Int32))] [] := by first | (simp [entryFrame, mkF, argsToLocals, Value.category, maxLocals]; done) | rfl
def Qf2 (Z : State) (a1 : Addr) (kb : ClassId) (by0 : Int32) (by1 : Int32) (h0 : Heap) (n0 : Nat) (v : Option Value) (h : Heap) (L : List Loc) : Prop := v = some (.int (0 : Int32)) ∧ (True) ∧ Fr n0 L ∧ h = h0
set_option maxRecDepth 65536 in
set_option maxHeartbeats 40000000 in
theorem rmf2 (l : Launch) (Z : State) (a0 : Array Value) (hw : ∀ d ∈ tables_1, d.before a0 Z = true) (ws : List Jvm.Cond) (a1 : Addr) (kb : ClassId) (by0 : Int32) (by1 : Int32) (h0 : Heap) (n0 : Nat) (Z0 : n0 ≤ h0.size) (A_a1 : Arv Z h0 a1 kb .byte (2 : Int32) [(.int by0), (.int by1)] (.int (0 : Int32))) :
    MetFree l (⟨"java/lang/StringUTF16", "coderFromArrayLen", "([BI)B"⟩ : MethodName) (head1 (Jvm.Cond.code (⟨"java/lang/StringUTF16", "coderFromArrayLen", "([BI)B"⟩ : MethodName) jdk_52_method_15_code 2 (some .byte) :: ws) ({ frames := 0, cells := 0, slots := 0, locals := 0 } : Room)) (fun a U => a = #[(.ref a1), (.int (2 : Int32))] ∧ Z.Warmed39 U.vm ∧ U.heap = h0) (fun _ _ _ _ _ => True) (fun _ U o U' => ∃ v L, o = .returned v ∧ Qf2 Z a1 kb by0 by1 h0 n0 v U'.heap L ∧ FrameEnd U o U' L ({ frames := 0, cells := 0, slots := 0, locals := 0 } : Room).cells ({ frames := 0, cells := 0, slots := 0, locals := 0 } : Room).slots) := by
  refine MetFree.of_bodySF (plainFor_of_name pn_0) hisR ?_
  intro p e s m args below meth c s₁ Bd hml0 hP hK
  obtain ⟨rfl, hZ, hh⟩ := hP
  have hx := Bd.exec
  have hby := Bd.bytes
  have hml : c.maxLocals = 2 := hml0
  have hown : s.vm.findClass "java/lang/StringUTF16" = some m.cls := findClass_of_methodNamed Bd.named
  have hnm := (name_of_methodNamed Bd.named Bd.method).1
  have X0 : Stand p l e ({ frames := 0, cells := 0, slots := 0, locals := 0 } : Room) s m #[(.ref a1), (.int (2 : Int32))] below meth c s₁ [] 0 0 := Stand.of_body Bd
  have e0 : s₁.heap = h0 := by rw [← hh, Bd.state]; rfl
  have N0 := Fr.nil n0
  change own_Go p e below (Qf2 Z a1 kb by0 by1 h0 n0) (own_Fr s ({ frames := 0, cells := 0, slots := 0, locals := 0 } : Room).cells ({ frames := 0, cells := 0, slots := 0, locals := 0 } : Room).slots) (s₁.setTop (entryFrame m #[(.ref a1), (.int (2 : Int32))] 2))
  rw [ef_f2 m a1]
  have rby0 := rng32 by0
  have rby1 := rng32 by1
  refine own_iloadN (pc' := 1) X0 hx rfl (hb hby df1_0) rfl ?_
  refine own_aloadN (pc' := 2) X0 hx rfl rfl (hb hby df1_1) rfl ?_
  obtain ⟨c101, B101, q101, s101, u101, H101, G101⟩ := id A_a1
  refine own_by (X0.arraylength hx (by rw [e0]; exact B101.1) (State.isArrayOf_alike hZ.alike B101.2.1) (g := (mkF m 2 #[.val (.ref a1), .val (.int (2 : Int32))] [(.ref a1), (.int (2 : Int32))])) rfl rfl (hb hby df1_2)) ?_
  rw [len_of s101 u101]
  show own_Go p e below (Qf2 Z a1 kb by0 by1 h0 n0) (own_Fr s ({ frames := 0, cells := 0, slots := 0, locals := 0 } : Room).cells ({ frames := 0, cells := 0, slots := 0, locals := 0 } : Room).slots) (s₁.setTop (mkF m 3 #[.val (.ref a1), .val (.int (2 : Int32))] [(.int (2 : Int32)), (.int (2 : Int32))]))
  refine own_isub (pc' := 4) X0 hx (z := (0 : Int32)) (by decide) (hb hby df1_3) rfl ?_
  refine own_bipush (pc' := 6) X0 hx (31 : Int32) (by decide) (hb hby df1_4) rfl ?_
  refine own_iushr (pc' := 7) X0 hx (z := (0 : Int32)) (by decide) (hb hby df1_6) rfl ?_
  refine own_i2b (pc' := 8) X0 hx (z := (0 : Int32)) (by decide) (hb hby df1_7) rfl ?_
  refine own_ret X0 hx Bd.returns Bd.notSynchronized (Or.inl ⟨rfl, by simp, _, rfl⟩) (hb hby df1_8) rfl (by decide) (by decide) ?_
  show Qf2 Z a1 kb by0 by1 h0 n0 _ s₁.heap _
  rw [e0]
  exact ⟨rfl, trivial, N0, rfl⟩
theorem ef_b3 (m : MethodId) (x0 : Addr) : entryFrame m #[(.ref x0), (.int (0 : Int32)), (.int (3 : Int32))] 6 = mkF m 0 #[.val (.ref x0), .val (.int (0 : Int32)), .val (.int (3 : Int32)), .unset, .unset, .unset] [] := by first | (simp [entryFrame, mkF, argsToLocals, Value.category, maxLocals]; done) | rfl
def Qb3 (Z : State) (a1 : Addr) (kc : ClassId) (ch0 : Int32) (ch1 : Int32) (ch2 : Int32) (h0 : Heap) (n0 : Nat) (v : Option Value) (h : Heap) (L : List Loc) : Prop := ∃ q : Addr, ∃ kb : ClassId, ∃ by0 : Int32, ∃ by1 : Int32, ∃ by2 : Int32, v = some (.ref q) ∧ (-128 ≤ by0.toInt ∧ by0.toInt < 128 ∧ by0.toInt % 256 = ch0.toInt ∧ -128 ≤ by1.toInt ∧ by1.toInt < 128 ∧ by1.toInt % 256 = ch1.toInt ∧ -128 ≤ by2.toInt ∧ by2.toInt < 128 ∧ by2.toInt % 256 = ch2.toInt) ∧ Fr n0 L ∧ Keep h0 h [] ∧ h0.size ≤ q ∧ Arv Z h q kb .byte (3 : Int32) [(.int by0), (.int by1), (.int by2)] (.int (0 : Int32))
set_option maxRecDepth 65536 in
set_option maxHeartbeats 40000000 in
theorem rmb3 (l : Launch) (Z : State) (a0 : Array Value) (hw : ∀ d ∈ tables_1, d.before a0 Z = true) (ws : List Jvm.Cond) (a1 : Addr) (kc : ClassId) (ch0 : Int32) (ch1 : Int32) (ch2 : Int32) (h0 : Heap) (n0 : Nat) (Z0 : n0 ≤ h0.size) (A_a1 : Arv Z h0 a1 kc .char (3 : Int32) [(.int ch0), (.int ch1), (.int ch2)] (.int (0 : Int32))) (hc0 : 0 ≤ ch0.toInt ∧ ch0.toInt < 256) (hc1 : 0 ≤ ch1.toInt ∧ ch1.toInt < 256) (hc2 : 0 ≤ ch2.toInt ∧ ch2.toInt < 256) :
    MetFree l (⟨"java/lang/StringUTF16", "compress", "([CII)[B"⟩ : MethodName) (head1 (Jvm.Cond.code (⟨"java/lang/StringUTF16", "compress", "([CII)[B"⟩ : MethodName) jdk_52_method_16_code 6 (some (.array .byte)) :: ws) ({ frames := 1, cells := 1, slots := 3, locals := 20 } : Room)) (fun a U => a = #[(.ref a1), (.int (0 : Int32)), (.int (3 : Int32))] ∧ Z.Warmed39 U.vm ∧ U.heap = h0) (fun _ _ _ _ _ => True) (fun _ U o U' => ∃ v L, o = .returned v ∧ Qb3 Z a1 kc ch0 ch1 ch2 h0 n0 v U'.heap L ∧ FrameEnd U o U' L ({ frames := 1, cells := 1, slots := 3, locals := 20 } : Room).cells ({ frames := 1, cells := 1, slots := 3, locals := 20 } : Room).slots) := by
  refine MetFree.of_bodySF (plainFor_of_name pn_0) hisR ?_
  intro p e s m args below meth c s₁ Bd hml0 hP hK
  obtain ⟨rfl, hZ, hh⟩ := hP
  have hx := Bd.exec
  have hby := Bd.bytes
  have hml : c.maxLocals = 6 := hml0
  have hown : s.vm.findClass "java/lang/StringUTF16" = some m.cls := findClass_of_methodNamed Bd.named
  have hnm := (name_of_methodNamed Bd.named Bd.method).1
  have X0 : Stand p l e ({ frames := 1, cells := 1, slots := 3, locals := 20 } : Room) s m #[(.ref a1), (.int (0 : Int32)), (.int (3 : Int32))] below meth c s₁ [] 0 0 := Stand.of_body Bd
  have e0 : s₁.heap = h0 := by rw [← hh, Bd.state]; rfl
  have N0 := Fr.nil n0
  change own_Go p e below (Qb3 Z a1 kc ch0 ch1 ch2 h0 n0) (own_Fr s ({ frames := 1, cells := 1, slots := 3, locals := 20 } : Room).cells ({ frames := 1, cells := 1, slots := 3, locals := 20 } : Room).slots) (s₁.setTop (entryFrame m #[(.ref a1), (.int (0 : Int32)), (.int (3 : Int32))] 6))
  rw [ef_b3 m a1]
  have rch0 := rng32 ch0
  have rch1 := rng32 ch1
  have rch2 := rng32 ch2
  have K0 : Keep h0 h0 [] := Keep.refl h0 []
  refine own_iloadN (pc' := 1) X0 hx rfl (hb hby db1_0) rfl ?_
  obtain ⟨T101, h101, cA101, X101, e101, E101, Ar101, st101⟩ := newP X0 hx hZ (hw _ (List.mem_of_getElem? (i := 15) rfl)) e0 (g := (mkF m 1 #[.val (.ref a1), .val (.int (0 : Int32)), .val (.int (3 : Int32)), .unset, .unset, .unset] [(.int (3 : Int32))])) rfl (hb hby db1_1) (n := (3 : Int32)) rfl (by decide) (cap := 3) (by decide) (by decide) (by decide) (by decide)
  obtain ⟨a101, ga101⟩ : ∃ z, z = h0.size := ⟨_, rfl⟩
  rw [← ga101] at Ar101 st101
  have y101 : h0.size ≤ h0.size := K0.1
  have n102 : a1 ≠ a101 := Nat.ne_of_lt (ga101.symm ▸ A_a1.lt)
  have A103 : Arv Z h101 a1 kc .char (3 : Int32) [(.int ch0), (.int ch1), (.int ch2)] (.int (0 : Int32)) := A_a1.ext E101
  have fr101 : n0 ≤ a101 := Nat.le_trans Z0 (Nat.le_of_eq ga101.symm)
  have Z104 : n0 ≤ h101.size := Nat.le_trans Z0 E101.1
  have K105 : Keep h0 h101 [] := K0.ext E101
  have A101 : Arv Z h101 a101 cA101 .byte (3 : Int32) [(.int (0 : Int32)), (.int (0 : Int32)), (.int (0 : Int32))] (.int (0 : Int32)) := (Arv.new Ar101 (by decide)).pad (fun i => pad_rep [] (.int (0 : Int32)) 3 i)
  refine own_by st101 ?_
  show own_Go p e below (Qb3 Z a1 kc ch0 ch1 ch2 h0 n0) (own_Fr s ({ frames := 1, cells := 1, slots := 3, locals := 20 } : Room).cells ({ frames := 1, cells := 1, slots := 3, locals := 20 } : Room).slots) (T101.setTop (mkF m 3 #[.val (.ref a1), .val (.int (0 : Int32)), .val (.int (3 : Int32)), .unset, .unset, .unset] [(.ref a101)]))
  refine own_astoreN (pc' := 4) X101 hx #[.val (.ref a1), .val (.int (0 : Int32)), .val (.int (3 : Int32)), .val (.ref a101), .unset, .unset] rfl rfl (hb hby db1_3) rfl ?_
  refine own_aloadN (pc' := 5) X101 hx rfl rfl (hb hby db1_4) rfl ?_
  refine own_iloadN (pc' := 6) X101 hx rfl (hb hby db1_5) rfl ?_
  refine own_aloadN (pc' := 7) X101 hx rfl rfl (hb hby db1_6) rfl ?_
  refine own_iconst (pc' := 8) X101 hx (0 : Int32) (by decide) (hb hby db1_7) rfl ?_
  refine own_iloadN (pc' := 9) X101 hx rfl (hb hby db1_8) rfl ?_
  obtain ⟨_, _, ⟨T106, L106, k106, n106⟩, -, X106, ⟨Lc106, hQ106, l106, y106, z106⟩, st106⟩ := Jvm.LawKit.callS X101 hx (y := (⟨"java/lang/StringUTF16", "compress", "([CI[BII)I"⟩ : MethodName)) hown (mvT hZ (hw _ (List.mem_of_getElem? (i := 69) rfl))) (mvT hZ (hw _ (List.mem_of_getElem? (i := 70) rfl))) (mvT hZ (hw _ (List.mem_of_getElem? (i := 67) rfl))) (mvT hZ (hw _ (List.mem_of_getElem? (i := 71) rfl))) (by decide) (backOf (W := 0) (rma3 l Z a0 hw [] a1 a101 kc ch0 ch1 ch2 cA101 h101 n0 Z104 A103 A101 fr101 n102 (by omega) (by omega) (by omega)) hZ (hw _ (List.mem_of_getElem? (i := 71) rfl)) (hw _ (List.mem_of_getElem? (i := 67) rfl)) (by decide) (by decide)) (g := (mkF m 9 #[.val (.ref a1), .val (.int (0 : Int32)), .val (.int (3 : Int32)), .val (.ref a101), .unset, .unset] [(.int (3 : Int32)), (.int (0 : Int32)), (.ref a101), (.int (0 : Int32)), (.ref a1)])) rfl (by rw [hml]; rfl) (argsL := [(.ref a1), (.int (0 : Int32)), (.ref a101), (.int (0 : Int32)), (.int (3 : Int32))]) (rest := []) (lenOf pd_0 rfl) rfl (by show 2 * 0 + _ ≤ _; exact Nat.le_of_eq rfl) (hb hby db1_9) (fun _ _ => ⟨rfl, e101, (by decide : 1 + 0 ≤ _), (by decide : 3 + 0 ≤ _)⟩)
  dsimp only [Pt.U, Pt.locs, Pt.cells, Pt.slots] at X106 l106 y106 z106 st106 hQ106
  subst y106 z106
  obtain ⟨by0_106, by1_106, by2_106, rfl, pp106, N106, Kc106, Ac106_a2⟩ := hQ106
  have A107 : Arv Z T106.heap a1 kc .char (3 : Int32) [(.int ch0), (.int ch1), (.int ch2)] (.int (0 : Int32)) := A103.keep Kc106 (ninS n102 nin0)
  have Z108 : n0 ≤ T106.heap.size := Nat.le_trans Z104 Kc106.1
  have K109 : Keep h0 T106.heap [] := K105.trans Kc106 (allS (Or.inr (Nat.le_trans y101 (Nat.le_of_eq ga101.symm))) all0)
  have rby0_106 := rng32 by0_106
  have rby1_106 := rng32 by1_106
  have rby2_106 := rng32 by2_106
  have N106a : Fr n0 L106 := by rw [l106]; exact Fr.app N0 N106
  refine own_by st106 ?_
  show own_Go p e below (Qb3 Z a1 kc ch0 ch1 ch2 h0 n0) (own_Fr s ({ frames := 1, cells := 1, slots := 3, locals := 20 } : Room).cells ({ frames := 1, cells := 1, slots := 3, locals := 20 } : Room).slots) (T106.setTop (mkF m 12 #[.val (.ref a1), .val (.int (0 : Int32)), .val (.int (3 : Int32)), .val (.ref a101), .unset, .unset] [(.int (3 : Int32))]))
  refine own_istore (pc' := 14) X106 hx #[.val (.ref a1), .val (.int (0 : Int32)), .val (.int (3 : Int32)), .val (.ref a101), .val (.int (3 : Int32)), .unset] rfl (hb hby db1_12) rfl ?_
  refine own_iload (pc' := 16) X106 hx rfl (hb hby db1_14) rfl ?_
  refine own_iloadN (pc' := 17) X106 hx rfl (hb hby db1_16) rfl ?_
  refine own_icmpYes (pc' := 57) X106 hx (hb hby db1_17) (by decide) (by decide) (by decide) ?_
  refine own_aloadN (pc' := 58) X106 hx rfl rfl (hb hby db1_57) rfl ?_
  refine own_ret X106 hx Bd.returns Bd.notSynchronized (Or.inr (Or.inr (Or.inr (Or.inr ⟨rfl, rfl, rfl⟩)))) (hb hby db1_58) rfl (by decide) (by decide) ?_
  show Qb3 Z a1 kc ch0 ch1 ch2 h0 n0 _ T106.heap _
  exact ⟨a101, cA101, by0_106, by1_106, by2_106, rfl, by omega, N106a, K109, Nat.le_trans y101 (Nat.le_of_eq ga101.symm), Ac106_a2⟩
theorem ef_f3 (m : MethodId) (x0 : Addr) : entryFrame m #[(.ref x0), (.int (3 : Int32))] 2 = mkF m 0 #[.val (.ref x0), .val (.int (3 : Int32))] [] := by first | (simp [entryFrame, mkF, argsToLocals, Value.category, maxLocals]; done) | rfl
def Qf3 (Z : State) (a1 : Addr) (kb : ClassId) (by0 : Int32) (by1 : Int32) (by2 : Int32) (h0 : Heap) (n0 : Nat) (v : Option Value) (h : Heap) (L : List Loc) : Prop := v = some (.int (0 : Int32)) ∧ (True) ∧ Fr n0 L ∧ h = h0
set_option maxRecDepth 65536 in
set_option maxHeartbeats 40000000 in
theorem rmf3 (l : Launch) (Z : State) (a0 : Array Value) (hw : ∀ d ∈ tables_1, d.before a0 Z = true) (ws : List Jvm.Cond) (a1 : Addr) (kb : ClassId) (by0 : Int32) (by1 : Int32) (by2 : Int32) (h0 : Heap) (n0 : Nat) (Z0 : n0 ≤ h0.size) (A_a1 : Arv Z h0 a1 kb .byte (3 : Int32) [(.int by0), (.int by1), (.int by2)] (.int (0 : Int32))) :
    MetFree l (⟨"java/lang/StringUTF16", "coderFromArrayLen", "([BI)B"⟩ : MethodName) (head1 (Jvm.Cond.code (⟨"java/lang/StringUTF16", "coderFromArrayLen", "([BI)B"⟩ : MethodName) jdk_52_method_15_code 2 (some .byte) :: ws) ({ frames := 0, cells := 0, slots := 0, locals := 0 } : Room)) (fun a U => a = #[(.ref a1), (.int (3 : Int32))] ∧ Z.Warmed39 U.vm ∧ U.heap = h0) (fun _ _ _ _ _ => True) (fun _ U o U' => ∃ v L, o = .returned v ∧ Qf3 Z a1 kb by0 by1 by2 h0 n0 v U'.heap L ∧ FrameEnd U o U' L ({ frames := 0, cells := 0, slots := 0, locals := 0 } : Room).cells ({ frames := 0, cells := 0, slots := 0, locals := 0 } : Room).slots) := by
  refine MetFree.of_bodySF (plainFor_of_name pn_0) hisR ?_
  intro p e s m args below meth c s₁ Bd hml0 hP hK
  obtain ⟨rfl, hZ, hh⟩ := hP
  have hx := Bd.exec
  have hby := Bd.bytes
  have hml : c.maxLocals = 2 := hml0
  have hown : s.vm.findClass "java/lang/StringUTF16" = some m.cls := findClass_of_methodNamed Bd.named
  have hnm := (name_of_methodNamed Bd.named Bd.method).1
  have X0 : Stand p l e ({ frames := 0, cells := 0, slots := 0, locals := 0 } : Room) s m #[(.ref a1), (.int (3 : Int32))] below meth c s₁ [] 0 0 := Stand.of_body Bd
  have e0 : s₁.heap = h0 := by rw [← hh, Bd.state]; rfl
  have N0 := Fr.nil n0
  change own_Go p e below (Qf3 Z a1 kb by0 by1 by2 h0 n0) (own_Fr s ({ frames := 0, cells := 0, slots := 0, locals := 0 } : Room).cells ({ frames := 0, cells := 0, slots := 0, locals := 0 } : Room).slots) (s₁.setTop (entryFrame m #[(.ref a1), (.int (3 : Int32))] 2))
  rw [ef_f3 m a1]
  have rby0 := rng32 by0
  have rby1 := rng32 by1
  have rby2 := rng32 by2
  refine own_iloadN (pc' := 1) X0 hx rfl (hb hby df1_0) rfl ?_
  refine own_aloadN (pc' := 2) X0 hx rfl rfl (hb hby df1_1) rfl ?_
  obtain ⟨c101, B101, q101, s101, u101, H101, G101⟩ := id A_a1
  refine own_by (X0.arraylength hx (by rw [e0]; exact B101.1) (State.isArrayOf_alike hZ.alike B101.2.1) (g := (mkF m 2 #[.val (.ref a1), .val (.int (3 : Int32))] [(.ref a1), (.int (3 : Int32))])) rfl rfl (hb hby df1_2)) ?_
  rw [len_of s101 u101]
  show own_Go p e below (Qf3 Z a1 kb by0 by1 by2 h0 n0) (own_Fr s ({ frames := 0, cells := 0, slots := 0, locals := 0 } : Room).cells ({ frames := 0, cells := 0, slots := 0, locals := 0 } : Room).slots) (s₁.setTop (mkF m 3 #[.val (.ref a1), .val (.int (3 : Int32))] [(.int (3 : Int32)), (.int (3 : Int32))]))
  refine own_isub (pc' := 4) X0 hx (z := (0 : Int32)) (by decide) (hb hby df1_3) rfl ?_
  refine own_bipush (pc' := 6) X0 hx (31 : Int32) (by decide) (hb hby df1_4) rfl ?_
  refine own_iushr (pc' := 7) X0 hx (z := (0 : Int32)) (by decide) (hb hby df1_6) rfl ?_
  refine own_i2b (pc' := 8) X0 hx (z := (0 : Int32)) (by decide) (hb hby df1_7) rfl ?_
  refine own_ret X0 hx Bd.returns Bd.notSynchronized (Or.inl ⟨rfl, by simp, _, rfl⟩) (hb hby df1_8) rfl (by decide) (by decide) ?_
  show Qf3 Z a1 kb by0 by1 by2 h0 n0 _ s₁.heap _
  rw [e0]
  exact ⟨rfl, trivial, N0, rfl⟩
theorem pd_3 : parseMethodDescriptor "([CIILjava/lang/Void;)V" = some ⟨[(.array .char), .int, .int, .object "java/lang/Void"], none⟩ := by decide +kernel
theorem dv1_0 : decode jdk_42_method_149_code 0 = .ok (.aload_n 0, 1) := by decide +kernel
theorem dv1_1 : decode jdk_42_method_149_code 1 = .ok (.invokespecial 1, 3) := by decide +kernel
theorem dv1_4 : decode jdk_42_method_149_code 4 = .ok (.iload_n 3, 1) := by decide +kernel
theorem dv1_5 : decode jdk_42_method_149_code 5 = .ok (.ifCond .ne 22, 3) := by decide +kernel
theorem dv1_8 : decode jdk_42_method_149_code 8 = .ok (.aload_n 0, 1) := by decide +kernel
theorem dv1_9 : decode jdk_42_method_149_code 9 = .ok (.ldc 7, 2) := by decide +kernel
theorem dv1_11 : decode jdk_42_method_149_code 11 = .ok (.getfield 9, 3) := by decide +kernel
theorem dv1_14 : decode jdk_42_method_149_code 14 = .ok (.putfield 9, 3) := by decide +kernel
theorem dv1_17 : decode jdk_42_method_149_code 17 = .ok (.aload_n 0, 1) := by decide +kernel
theorem dv1_18 : decode jdk_42_method_149_code 18 = .ok (.ldc 7, 2) := by decide +kernel
theorem dv1_20 : decode jdk_42_method_149_code 20 = .ok (.getfield 15, 3) := by decide +kernel
theorem dv1_23 : decode jdk_42_method_149_code 23 = .ok (.putfield 15, 3) := by decide +kernel
theorem dv1_26 : decode jdk_42_method_149_code 26 = .ok (.return_, 1) := by decide +kernel
theorem dv1_27 : decode jdk_42_method_149_code 27 = .ok (.getstatic 38, 3) := by decide +kernel
theorem dv1_30 : decode jdk_42_method_149_code 30 = .ok (.ifCond .eq 28, 3) := by decide +kernel
theorem dv1_33 : decode jdk_42_method_149_code 33 = .ok (.aload_n 1, 1) := by decide +kernel
theorem dv1_34 : decode jdk_42_method_149_code 34 = .ok (.iload_n 2, 1) := by decide +kernel
theorem dv1_35 : decode jdk_42_method_149_code 35 = .ok (.iload_n 3, 1) := by decide +kernel
theorem dv1_36 : decode jdk_42_method_149_code 36 = .ok (.invokestatic 177, 3) := by decide +kernel
theorem dv1_39 : decode jdk_42_method_149_code 39 = .ok (.astore 5, 2) := by decide +kernel
theorem dv1_41 : decode jdk_42_method_149_code 41 = .ok (.aload_n 0, 1) := by decide +kernel
theorem dv1_42 : decode jdk_42_method_149_code 42 = .ok (.aload 5, 2) := by decide +kernel
theorem dv1_44 : decode jdk_42_method_149_code 44 = .ok (.iload_n 3, 1) := by decide +kernel
theorem dv1_45 : decode jdk_42_method_149_code 45 = .ok (.invokestatic 47, 3) := by decide +kernel
theorem dv1_48 : decode jdk_42_method_149_code 48 = .ok (.putfield 15, 3) := by decide +kernel
theorem dv1_51 : decode jdk_42_method_149_code 51 = .ok (.aload_n 0, 1) := by decide +kernel
theorem dv1_52 : decode jdk_42_method_149_code 52 = .ok (.aload 5, 2) := by decide +kernel
theorem dv1_54 : decode jdk_42_method_149_code 54 = .ok (.putfield 9, 3) := by decide +kernel
theorem dv1_57 : decode jdk_42_method_149_code 57 = .ok (.return_, 1) := by decide +kernel
theorem dv1_58 : decode jdk_42_method_149_code 58 = .ok (.aload_n 0, 1) := by decide +kernel
theorem dv1_59 : decode jdk_42_method_149_code 59 = .ok (.iconst 1, 1) := by decide +kernel
theorem dv1_60 : decode jdk_42_method_149_code 60 = .ok (.putfield 15, 3) := by decide +kernel
theorem dv1_63 : decode jdk_42_method_149_code 63 = .ok (.aload_n 0, 1) := by decide +kernel
theorem dv1_64 : decode jdk_42_method_149_code 64 = .ok (.aload_n 1, 1) := by decide +kernel
theorem dv1_65 : decode jdk_42_method_149_code 65 = .ok (.iload_n 2, 1) := by decide +kernel
theorem dv1_66 : decode jdk_42_method_149_code 66 = .ok (.iload_n 3, 1) := by decide +kernel
theorem dv1_70 : decode jdk_42_method_149_code 70 = .ok (.putfield 9, 3) := by decide +kernel
theorem dv1_73 : decode jdk_42_method_149_code 73 = .ok (.return_, 1) := by decide +kernel
theorem pn_1 : plainName "java/lang/String" = true := by first | (simp [plainName, overriddenIn]; done) | decide +kernel
theorem ef_v1 (m : MethodId) (x0 : Addr) (x1 : Addr) : entryFrame m #[(.ref x0), (.ref x1), (.int (0 : Int32)), (.int (1 : Int32)), .null] 6 = mkF m 0 #[.val (.ref x0), .val (.ref x1), .val (.int (0 : Int32)), .val (.int (1 : Int32)), .val .null, .unset] [] := by first | (simp [entryFrame, mkF, argsToLocals, Value.category, maxLocals]; done) | rfl
def Qv1 (Z : State) (a1 : Addr) (a2 : Addr) (kc : ClassId) (ch0 : Int32) (cs : Int32) (h0 : Heap) (n0 : Nat) (v : Option Value) (h : Heap) (L : List Loc) : Prop := ∃ q : Addr, ∃ kb : ClassId, ∃ by0 : Int32, v = none ∧ (-128 ≤ by0.toInt ∧ by0.toInt < 128 ∧ by0.toInt % 256 = ch0.toInt) ∧ Fr n0 L ∧ Keep h0 h [a1] ∧ h0.size ≤ q ∧ Exa Z h a1 "java/lang/String" ∧ Fld Z h a1 "java/lang/String" "value" "[B" (.ref q) ∧ Fld Z h a1 "java/lang/String" "coder" "B" (.int (0 : Int32)) ∧ Arv Z h q kb .byte (1 : Int32) [(.int by0)] (.int (0 : Int32))
set_option maxRecDepth 65536 in
set_option maxHeartbeats 40000000 in
theorem rmv1 (l : Launch) (Z : State) (a0 : Array Value) (hw : ∀ d ∈ tables_1, d.before a0 Z = true) (ws : List Jvm.Cond) (a1 : Addr) (a2 : Addr) (kc : ClassId) (ch0 : Int32) (cs : Int32) (h0 : Heap) (n0 : Nat) (Z0 : n0 ≤ h0.size) (E_a1 : Exa Z h0 a1 "java/lang/String") (F_value_a1 : Fld Z h0 a1 "java/lang/String" "value" "[B" .null) (F_coder_a1 : Fld Z h0 a1 "java/lang/String" "coder" "B" (.int (0 : Int32))) (A_a2 : Arv Z h0 a2 kc .char (1 : Int32) [(.int ch0)] (.int (0 : Int32))) (S_COMPACT_STRINGS : Sta Z h0 "java/lang/String" "COMPACT_STRINGS" "Z" (.int cs)) (g_a1 : n0 ≤ a1) (ne_a1_a2 : a1 ≠ a2) (hc0 : 0 ≤ ch0.toInt ∧ ch0.toInt < 256) (hcs : ¬ cs.toInt = 0) :
    MetFree l (⟨"java/lang/String", "<init>", "([CIILjava/lang/Void;)V"⟩ : MethodName) (head1 (Jvm.Cond.code (⟨"java/lang/String", "<init>", "([CIILjava/lang/Void;)V"⟩ : MethodName) jdk_42_method_149_code 6 none :: ws) ({ frames := 2, cells := 1, slots := 1, locals := 40 } : Room)) (fun a U => a = #[(.ref a1), (.ref a2), (.int (0 : Int32)), (.int (1 : Int32)), .null] ∧ Z.Warmed39 U.vm ∧ U.heap = h0) (fun _ _ _ _ _ => True) (fun _ U o U' => ∃ v L, o = .returned v ∧ Qv1 Z a1 a2 kc ch0 cs h0 n0 v U'.heap L ∧ FrameEnd U o U' L ({ frames := 2, cells := 1, slots := 1, locals := 40 } : Room).cells ({ frames := 2, cells := 1, slots := 1, locals := 40 } : Room).slots) := by
  refine MetFree.of_bodySF (plainFor_of_name pn_1) hisR ?_
  intro p e s m args below meth c s₁ Bd hml0 hP hK
  obtain ⟨rfl, hZ, hh⟩ := hP
  have hx := Bd.exec
  have hby := Bd.bytes
  have hml : c.maxLocals = 6 := hml0
  have hown : s.vm.findClass "java/lang/String" = some m.cls := findClass_of_methodNamed Bd.named
  have hnm := (name_of_methodNamed Bd.named Bd.method).1
  have X0 : Stand p l e ({ frames := 2, cells := 1, slots := 1, locals := 40 } : Room) s m #[(.ref a1), (.ref a2), (.int (0 : Int32)), (.int (1 : Int32)), .null] below meth c s₁ [] 0 0 := Stand.of_body Bd
  have e0 : s₁.heap = h0 := by rw [← hh, Bd.state]; rfl
  have N0 := Fr.nil n0
  change own_Go p e below (Qv1 Z a1 a2 kc ch0 cs h0 n0) (own_Fr s ({ frames := 2, cells := 1, slots := 1, locals := 40 } : Room).cells ({ frames := 2, cells := 1, slots := 1, locals := 40 } : Room).slots) (s₁.setTop (entryFrame m #[(.ref a1), (.ref a2), (.int (0 : Int32)), (.int (1 : Int32)), .null] 6))
  rw [ef_v1 m a1 a2]
  have rch0 := rng32 ch0
  have rcs := rng32 cs
  have K0 : Keep h0 h0 [a1] := Keep.refl h0 [a1]
  refine own_aloadN (pc' := 1) X0 hx rfl rfl (hb hby dv1_0) rfl ?_
  obtain ⟨T101, X101, e101, st101⟩ := initO X0 hx hZ hown (hw _ (List.mem_of_getElem? (i := 11) rfl)) (hw _ (List.mem_of_getElem? (i := 12) rfl)) (hw _ (List.mem_of_getElem? (i := 13) rfl)) e0 (g := (mkF m 1 #[.val (.ref a1), .val (.ref a2), .val (.int (0 : Int32)), .val (.int (1 : Int32)), .val .null, .unset] [(.ref a1)])) rfl (by rw [hml]; rfl) rfl (hb hby dv1_1) (by decide) (W := 0) (by show 2 * 0 + _ ≤ _; exact Nat.le_of_eq rfl) (by decide)
  refine own_by st101 ?_
  show own_Go p e below (Qv1 Z a1 a2 kc ch0 cs h0 n0) (own_Fr s ({ frames := 2, cells := 1, slots := 1, locals := 40 } : Room).cells ({ frames := 2, cells := 1, slots := 1, locals := 40 } : Room).slots) (T101.setTop (mkF m 4 #[.val (.ref a1), .val (.ref a2), .val (.int (0 : Int32)), .val (.int (1 : Int32)), .val .null, .unset] []))
  refine own_iloadN (pc' := 5) X101 hx rfl (hb hby dv1_4) rfl ?_
  refine own_ifYes (pc' := 27) X101 hx (hb hby dv1_5) (by decide) (by decide) (by decide) ?_
  obtain ⟨T102, X102, e102, st102⟩ := getS X101 hx hZ (host := "") hown (hw _ (List.mem_of_getElem? (i := 59) rfl)) Via.refl e101 S_COMPACT_STRINGS (g := (mkF m 27 #[.val (.ref a1), .val (.ref a2), .val (.int (0 : Int32)), .val (.int (1 : Int32)), .val .null, .unset] [])) rfl (hb hby dv1_27)
  refine own_by st102 ?_
  show own_Go p e below (Qv1 Z a1 a2 kc ch0 cs h0 n0) (own_Fr s ({ frames := 2, cells := 1, slots := 1, locals := 40 } : Room).cells ({ frames := 2, cells := 1, slots := 1, locals := 40 } : Room).slots) (T102.setTop (mkF m 30 #[.val (.ref a1), .val (.ref a2), .val (.int (0 : Int32)), .val (.int (1 : Int32)), .val .null, .unset] [(.int cs)]))
  have b103 : ¬ cs.toInt = 0 := by omega
  refine own_ifNo (pc' := 33) X102 hx (own_z (own_no_eq rfl (by decide) b103)) (hb hby dv1_30) rfl ?_
  refine own_aloadN (pc' := 34) X102 hx rfl rfl (hb hby dv1_33) rfl ?_
  refine own_iloadN (pc' := 35) X102 hx rfl (hb hby dv1_34) rfl ?_
  refine own_iloadN (pc' := 36) X102 hx rfl (hb hby dv1_35) rfl ?_
  obtain ⟨_, _, ⟨T104, L104, k104, n104⟩, -, X104, ⟨Lc104, hQ104, l104, y104, z104⟩, st104⟩ := Jvm.LawKit.callS X102 hx (y := (⟨"java/lang/StringUTF16", "compress", "([CII)[B"⟩ : MethodName)) hown (mvT hZ (hw _ (List.mem_of_getElem? (i := 65) rfl))) (mvT hZ (hw _ (List.mem_of_getElem? (i := 66) rfl))) (mvT hZ (hw _ (List.mem_of_getElem? (i := 67) rfl))) (mvT hZ (hw _ (List.mem_of_getElem? (i := 68) rfl))) (by decide) (backOf (W := 0) (rmb1 l Z a0 hw [] a2 kc ch0 h0 n0 Z0 A_a2 (by omega)) hZ (hw _ (List.mem_of_getElem? (i := 68) rfl)) (hw _ (List.mem_of_getElem? (i := 67) rfl)) (by decide) (by decide)) (g := (mkF m 36 #[.val (.ref a1), .val (.ref a2), .val (.int (0 : Int32)), .val (.int (1 : Int32)), .val .null, .unset] [(.int (1 : Int32)), (.int (0 : Int32)), (.ref a2)])) rfl (by rw [hml]; rfl) (argsL := [(.ref a2), (.int (0 : Int32)), (.int (1 : Int32))]) (rest := []) (lenOf pd_1 rfl) rfl (by show 2 * 0 + _ ≤ _; exact Nat.le_of_eq rfl) (hb hby dv1_36) (fun _ _ => ⟨rfl, e102, (by decide : 0 + 1 ≤ _), (by decide : 0 + 1 ≤ _)⟩)
  dsimp only [Pt.U, Pt.locs, Pt.cells, Pt.slots] at X104 l104 y104 z104 st104 hQ104
  subst y104 z104
  obtain ⟨q_104, kb_104, by0_104, rfl, pp104, N104, Kc104, gc104_q, Ac104_q⟩ := hQ104
  have n105 : a1 ≠ q_104 := Nat.ne_of_lt (Nat.lt_of_lt_of_le E_a1.lt gc104_q)
  have n106 : a2 ≠ q_104 := Nat.ne_of_lt (Nat.lt_of_lt_of_le A_a2.lt gc104_q)
  have frq_104 : n0 ≤ q_104 := Nat.le_trans Z0 gc104_q
  have y107 : h0.size ≤ q_104 := Nat.le_trans K0.1 gc104_q
  have F108 : Fld Z T104.heap a1 "java/lang/String" "value" "[B" .null := F_value_a1.keep Kc104 nin0
  have F109 : Fld Z T104.heap a1 "java/lang/String" "coder" "B" (.int (0 : Int32)) := F_coder_a1.keep Kc104 nin0
  have E110 : Exa Z T104.heap a1 "java/lang/String" := E_a1.keep Kc104
  have A111 : Arv Z T104.heap a2 kc .char (1 : Int32) [(.int ch0)] (.int (0 : Int32)) := A_a2.keep Kc104 nin0
  have Z112 : n0 ≤ T104.heap.size := Nat.le_trans Z0 Kc104.1
  have K113 : Keep h0 T104.heap [a1] := K0.trans Kc104 all0
  have rby0_104 := rng32 by0_104
  have N104a : Fr n0 L104 := by rw [l104]; exact Fr.app N0 N104
  refine own_by st104 ?_
  show own_Go p e below (Qv1 Z a1 a2 kc ch0 cs h0 n0) (own_Fr s ({ frames := 2, cells := 1, slots := 1, locals := 40 } : Room).cells ({ frames := 2, cells := 1, slots := 1, locals := 40 } : Room).slots) (T104.setTop (mkF m 39 #[.val (.ref a1), .val (.ref a2), .val (.int (0 : Int32)), .val (.int (1 : Int32)), .val .null, .unset] [(.ref q_104)]))
  refine own_astore (pc' := 41) X104 hx #[.val (.ref a1), .val (.ref a2), .val (.int (0 : Int32)), .val (.int (1 : Int32)), .val .null, .val (.ref q_104)] rfl rfl (hb hby dv1_39) rfl ?_
  refine own_aloadN (pc' := 42) X104 hx rfl rfl (hb hby dv1_41) rfl ?_
  refine own_aload (pc' := 44) X104 hx rfl rfl (hb hby dv1_42) rfl ?_
  refine own_iloadN (pc' := 45) X104 hx rfl (hb hby dv1_44) rfl ?_
  obtain ⟨_, _, ⟨T114, L114, k114, n114⟩, -, X114, ⟨Lc114, hQ114, l114, y114, z114⟩, st114⟩ := Jvm.LawKit.callS X104 hx (y := (⟨"java/lang/StringUTF16", "coderFromArrayLen", "([BI)B"⟩ : MethodName)) hown (mvT hZ (hw _ (List.mem_of_getElem? (i := 72) rfl))) (mvT hZ (hw _ (List.mem_of_getElem? (i := 73) rfl))) (mvT hZ (hw _ (List.mem_of_getElem? (i := 67) rfl))) (mvT hZ (hw _ (List.mem_of_getElem? (i := 74) rfl))) (by decide) (backOf (W := 1) (rmf1 l Z a0 hw [] q_104 kb_104 by0_104 T104.heap n0 Z112 Ac104_q) hZ (hw _ (List.mem_of_getElem? (i := 74) rfl)) (hw _ (List.mem_of_getElem? (i := 67) rfl)) (by decide) (by decide)) (g := (mkF m 45 #[.val (.ref a1), .val (.ref a2), .val (.int (0 : Int32)), .val (.int (1 : Int32)), .val .null, .val (.ref q_104)] [(.int (1 : Int32)), (.ref q_104), (.ref a1)])) rfl (by rw [hml]; rfl) (argsL := [(.ref q_104), (.int (1 : Int32))]) (rest := [(.ref a1)]) (lenOf pd_2 rfl) rfl (by show 2 * 0 + _ ≤ _; exact Nat.le_of_eq rfl) (hb hby dv1_45) (fun _ _ => ⟨rfl, rfl, (by decide : 1 + 0 ≤ _), (by decide : 1 + 0 ≤ _)⟩)
  dsimp only [Pt.U, Pt.locs, Pt.cells, Pt.slots] at X114 l114 y114 z114 st114 hQ114
  subst y114 z114
  obtain ⟨rfl, pp114, N114, e114⟩ := hQ114
  have N114a : Fr n0 L114 := by rw [l114]; exact Fr.app N104a N114
  refine own_by st114 ?_
  show own_Go p e below (Qv1 Z a1 a2 kc ch0 cs h0 n0) (own_Fr s ({ frames := 2, cells := 1, slots := 1, locals := 40 } : Room).cells ({ frames := 2, cells := 1, slots := 1, locals := 40 } : Room).slots) (T114.setTop (mkF m 48 #[.val (.ref a1), .val (.ref a2), .val (.int (0 : Int32)), .val (.int (1 : Int32)), .val .null, .val (.ref q_104)] [(.int (0 : Int32)), (.ref a1)]))
  obtain ⟨T115, h115, X115, e115, W115, st115⟩ := putF X114 hx hZ hown (host := "") (Or.inl (hw _ (List.mem_of_getElem? (i := 21) rfl))) Via.refl e114 F109 E110 (Or.inr ⟨(hw _ (List.mem_of_getElem? (i := 17) rfl)), rfl, hnm⟩) (hw _ (List.mem_of_getElem? (i := 2) rfl)) (ty := .byte) (by decide) rfl rfl (g := (mkF m 48 #[.val (.ref a1), .val (.ref a2), .val (.int (0 : Int32)), .val (.int (1 : Int32)), .val .null, .val (.ref q_104)] [(.int (0 : Int32)), (.ref a1)])) rfl rfl (hb hby dv1_48)
  have Fw115 : Fld Z h115 a1 "java/lang/String" "coder" "B" (.int (0 : Int32)) := F109.same W115
  have F116 : Fld Z h115 a1 "java/lang/String" "value" "[B" .null := F108.other W115 (Or.inr (slot_ne (Or.inr (hw _ (List.mem_of_getElem? (i := 16) rfl))) (Or.inr (hw _ (List.mem_of_getElem? (i := 17) rfl))) (by decide) (t := (.array .byte)) (by decide) (t' := .byte) (by decide)))
  have E117 : Exa Z h115 a1 "java/lang/String" := E110.wr W115
  have A118 : Arv Z h115 a2 kc .char (1 : Int32) [(.int ch0)] (.int (0 : Int32)) := A111.other W115 (Ne.symm ne_a1_a2)
  have A119 : Arv Z h115 q_104 kb_104 .byte (1 : Int32) [(.int by0_104)] (.int (0 : Int32)) := Ac104_q.other W115 (Ne.symm n105)
  have Z120 : n0 ≤ h115.size := Nat.le_trans Z112 (Nat.le_of_eq W115.size.symm)
  have N121 := Fr.snoc X115 N114a g_a1
  have K122 : Keep h0 h115 [a1] := K113.wr W115 (Or.inl (List.mem_of_getElem? (i := 0) rfl))
  refine own_by st115 ?_
  show own_Go p e below (Qv1 Z a1 a2 kc ch0 cs h0 n0) (own_Fr s ({ frames := 2, cells := 1, slots := 1, locals := 40 } : Room).cells ({ frames := 2, cells := 1, slots := 1, locals := 40 } : Room).slots) (T115.setTop (mkF m 51 #[.val (.ref a1), .val (.ref a2), .val (.int (0 : Int32)), .val (.int (1 : Int32)), .val .null, .val (.ref q_104)] []))
  refine own_aloadN (pc' := 52) X115 hx rfl rfl (hb hby dv1_51) rfl ?_
  refine own_aload (pc' := 54) X115 hx rfl rfl (hb hby dv1_52) rfl ?_
  obtain ⟨T123, h123, X123, e123, W123, st123⟩ := putF X115 hx hZ hown (host := "") (Or.inl (hw _ (List.mem_of_getElem? (i := 20) rfl))) Via.refl e115 F116 E117 (Or.inr ⟨(hw _ (List.mem_of_getElem? (i := 16) rfl)), rfl, hnm⟩) (hw _ (List.mem_of_getElem? (i := 2) rfl)) (ty := (.array .byte)) (by decide) rfl rfl (g := (mkF m 54 #[.val (.ref a1), .val (.ref a2), .val (.int (0 : Int32)), .val (.int (1 : Int32)), .val .null, .val (.ref q_104)] [(.ref q_104), (.ref a1)])) rfl rfl (hb hby dv1_54)
  have Fw123 : Fld Z h123 a1 "java/lang/String" "value" "[B" (.ref q_104) := F116.same W123
  have F124 : Fld Z h123 a1 "java/lang/String" "coder" "B" (.int (0 : Int32)) := Fw115.other W123 (Or.inr (slot_ne (Or.inr (hw _ (List.mem_of_getElem? (i := 17) rfl))) (Or.inr (hw _ (List.mem_of_getElem? (i := 16) rfl))) (by decide) (t := .byte) (by decide) (t' := (.array .byte)) (by decide)))
  have E125 : Exa Z h123 a1 "java/lang/String" := E117.wr W123
  have A126 : Arv Z h123 a2 kc .char (1 : Int32) [(.int ch0)] (.int (0 : Int32)) := A118.other W123 (Ne.symm ne_a1_a2)
  have A127 : Arv Z h123 q_104 kb_104 .byte (1 : Int32) [(.int by0_104)] (.int (0 : Int32)) := A119.other W123 (Ne.symm n105)
  have Z128 : n0 ≤ h123.size := Nat.le_trans Z120 (Nat.le_of_eq W123.size.symm)
  have N129 := Fr.snoc X123 N121 g_a1
  have K130 : Keep h0 h123 [a1] := K122.wr W123 (Or.inl (List.mem_of_getElem? (i := 0) rfl))
  refine own_by st123 ?_
  show own_Go p e below (Qv1 Z a1 a2 kc ch0 cs h0 n0) (own_Fr s ({ frames := 2, cells := 1, slots := 1, locals := 40 } : Room).cells ({ frames := 2, cells := 1, slots := 1, locals := 40 } : Room).slots) (T123.setTop (mkF m 57 #[.val (.ref a1), .val (.ref a2), .val (.int (0 : Int32)), .val (.int (1 : Int32)), .val .null, .val (.ref q_104)] []))
  refine own_ret0 X123 hx Bd.returns Bd.notSynchronized (hb hby dv1_57) rfl (by decide) (by decide) ?_
  show Qv1 Z a1 a2 kc ch0 cs h0 n0 _ T123.heap _
  rw [e123]
  exact ⟨q_104, kb_104, by0_104, rfl, by omega, N129, K130, y107, E125, Fw123, F124, A127⟩
theorem ef_v2 (m : MethodId) (x0 : Addr) (x1 : Addr) : entryFrame m #[(.ref x0), (.ref x1), (.int (0 : Int32)), (.int (2 : Int32)), .null] 6 = mkF m 0 #[.val (.ref x0), .val (.ref x1), .val (.int (0 : Int32)), .val (.int (2 : Int32)), .val .null, .unset] [] := by first | (simp [entryFrame, mkF, argsToLocals, Value.category, maxLocals]; done) | rfl
def Qv2 (Z : State) (a1 : Addr) (a2 : Addr) (kc : ClassId) (ch0 : Int32) (ch1 : Int32) (cs : Int32) (h0 : Heap) (n0 : Nat) (v : Option Value) (h : Heap) (L : List Loc) : Prop := ∃ q : Addr, ∃ kb : ClassId, ∃ by0 : Int32, ∃ by1 : Int32, v = none ∧ (-128 ≤ by0.toInt ∧ by0.toInt < 128 ∧ by0.toInt % 256 = ch0.toInt ∧ -128 ≤ by1.toInt ∧ by1.toInt < 128 ∧ by1.toInt % 256 = ch1.toInt) ∧ Fr n0 L ∧ Keep h0 h [a1] ∧ h0.size ≤ q ∧ Exa Z h a1 "java/lang/String" ∧ Fld Z h a1 "java/lang/String" "value" "[B" (.ref q) ∧ Fld Z h a1 "java/lang/String" "coder" "B" (.int (0 : Int32)) ∧ Arv Z h q kb .byte (2 : Int32) [(.int by0), (.int by1)] (.int (0 : Int32))
set_option maxRecDepth 65536 in
set_option maxHeartbeats 40000000 in
theorem rmv2 (l : Launch) (Z : State) (a0 : Array Value) (hw : ∀ d ∈ tables_1, d.before a0 Z = true) (ws : List Jvm.Cond) (a1 : Addr) (a2 : Addr) (kc : ClassId) (ch0 : Int32) (ch1 : Int32) (cs : Int32) (h0 : Heap) (n0 : Nat) (Z0 : n0 ≤ h0.size) (E_a1 : Exa Z h0 a1 "java/lang/String") (F_value_a1 : Fld Z h0 a1 "java/lang/String" "value" "[B" .null) (F_coder_a1 : Fld Z h0 a1 "java/lang/String" "coder" "B" (.int (0 : Int32))) (A_a2 : Arv Z h0 a2 kc .char (2 : Int32) [(.int ch0), (.int ch1)] (.int (0 : Int32))) (S_COMPACT_STRINGS : Sta Z h0 "java/lang/String" "COMPACT_STRINGS" "Z" (.int cs)) (g_a1 : n0 ≤ a1) (ne_a1_a2 : a1 ≠ a2) (hc0 : 0 ≤ ch0.toInt ∧ ch0.toInt < 256) (hc1 : 0 ≤ ch1.toInt ∧ ch1.toInt < 256) (hcs : ¬ cs.toInt = 0) :
    MetFree l (⟨"java/lang/String", "<init>", "([CIILjava/lang/Void;)V"⟩ : MethodName) (head1 (Jvm.Cond.code (⟨"java/lang/String", "<init>", "([CIILjava/lang/Void;)V"⟩ : MethodName) jdk_42_method_149_code 6 none :: ws) ({ frames := 2, cells := 1, slots := 2, locals := 40 } : Room)) (fun a U => a = #[(.ref a1), (.ref a2), (.int (0 : Int32)), (.int (2 : Int32)), .null] ∧ Z.Warmed39 U.vm ∧ U.heap = h0) (fun _ _ _ _ _ => True) (fun _ U o U' => ∃ v L, o = .returned v ∧ Qv2 Z a1 a2 kc ch0 ch1 cs h0 n0 v U'.heap L ∧ FrameEnd U o U' L ({ frames := 2, cells := 1, slots := 2, locals := 40 } : Room).cells ({ frames := 2, cells := 1, slots := 2, locals := 40 } : Room).slots) := by
  refine MetFree.of_bodySF (plainFor_of_name pn_1) hisR ?_
  intro p e s m args below meth c s₁ Bd hml0 hP hK
  obtain ⟨rfl, hZ, hh⟩ := hP
  have hx := Bd.exec
  have hby := Bd.bytes
  have hml : c.maxLocals = 6 := hml0
  have hown : s.vm.findClass "java/lang/String" = some m.cls := findClass_of_methodNamed Bd.named
  have hnm := (name_of_methodNamed Bd.named Bd.method).1
  have X0 : Stand p l e ({ frames := 2, cells := 1, slots := 2, locals := 40 } : Room) s m #[(.ref a1), (.ref a2), (.int (0 : Int32)), (.int (2 : Int32)), .null] below meth c s₁ [] 0 0 := Stand.of_body Bd
  have e0 : s₁.heap = h0 := by rw [← hh, Bd.state]; rfl
  have N0 := Fr.nil n0
  change own_Go p e below (Qv2 Z a1 a2 kc ch0 ch1 cs h0 n0) (own_Fr s ({ frames := 2, cells := 1, slots := 2, locals := 40 } : Room).cells ({ frames := 2, cells := 1, slots := 2, locals := 40 } : Room).slots) (s₁.setTop (entryFrame m #[(.ref a1), (.ref a2), (.int (0 : Int32)), (.int (2 : Int32)), .null] 6))
  rw [ef_v2 m a1 a2]
  have rch0 := rng32 ch0
  have rch1 := rng32 ch1
  have rcs := rng32 cs
  have K0 : Keep h0 h0 [a1] := Keep.refl h0 [a1]
  refine own_aloadN (pc' := 1) X0 hx rfl rfl (hb hby dv1_0) rfl ?_
  obtain ⟨T101, X101, e101, st101⟩ := initO X0 hx hZ hown (hw _ (List.mem_of_getElem? (i := 11) rfl)) (hw _ (List.mem_of_getElem? (i := 12) rfl)) (hw _ (List.mem_of_getElem? (i := 13) rfl)) e0 (g := (mkF m 1 #[.val (.ref a1), .val (.ref a2), .val (.int (0 : Int32)), .val (.int (2 : Int32)), .val .null, .unset] [(.ref a1)])) rfl (by rw [hml]; rfl) rfl (hb hby dv1_1) (by decide) (W := 0) (by show 2 * 0 + _ ≤ _; exact Nat.le_of_eq rfl) (by decide)
  refine own_by st101 ?_
  show own_Go p e below (Qv2 Z a1 a2 kc ch0 ch1 cs h0 n0) (own_Fr s ({ frames := 2, cells := 1, slots := 2, locals := 40 } : Room).cells ({ frames := 2, cells := 1, slots := 2, locals := 40 } : Room).slots) (T101.setTop (mkF m 4 #[.val (.ref a1), .val (.ref a2), .val (.int (0 : Int32)), .val (.int (2 : Int32)), .val .null, .unset] []))
  refine own_iloadN (pc' := 5) X101 hx rfl (hb hby dv1_4) rfl ?_
  refine own_ifYes (pc' := 27) X101 hx (hb hby dv1_5) (by decide) (by decide) (by decide) ?_
  obtain ⟨T102, X102, e102, st102⟩ := getS X101 hx hZ (host := "") hown (hw _ (List.mem_of_getElem? (i := 59) rfl)) Via.refl e101 S_COMPACT_STRINGS (g := (mkF m 27 #[.val (.ref a1), .val (.ref a2), .val (.int (0 : Int32)), .val (.int (2 : Int32)), .val .null, .unset] [])) rfl (hb hby dv1_27)
  refine own_by st102 ?_
  show own_Go p e below (Qv2 Z a1 a2 kc ch0 ch1 cs h0 n0) (own_Fr s ({ frames := 2, cells := 1, slots := 2, locals := 40 } : Room).cells ({ frames := 2, cells := 1, slots := 2, locals := 40 } : Room).slots) (T102.setTop (mkF m 30 #[.val (.ref a1), .val (.ref a2), .val (.int (0 : Int32)), .val (.int (2 : Int32)), .val .null, .unset] [(.int cs)]))
  have b103 : ¬ cs.toInt = 0 := by omega
  refine own_ifNo (pc' := 33) X102 hx (own_z (own_no_eq rfl (by decide) b103)) (hb hby dv1_30) rfl ?_
  refine own_aloadN (pc' := 34) X102 hx rfl rfl (hb hby dv1_33) rfl ?_
  refine own_iloadN (pc' := 35) X102 hx rfl (hb hby dv1_34) rfl ?_
  refine own_iloadN (pc' := 36) X102 hx rfl (hb hby dv1_35) rfl ?_
  obtain ⟨_, _, ⟨T104, L104, k104, n104⟩, -, X104, ⟨Lc104, hQ104, l104, y104, z104⟩, st104⟩ := Jvm.LawKit.callS X102 hx (y := (⟨"java/lang/StringUTF16", "compress", "([CII)[B"⟩ : MethodName)) hown (mvT hZ (hw _ (List.mem_of_getElem? (i := 65) rfl))) (mvT hZ (hw _ (List.mem_of_getElem? (i := 66) rfl))) (mvT hZ (hw _ (List.mem_of_getElem? (i := 67) rfl))) (mvT hZ (hw _ (List.mem_of_getElem? (i := 68) rfl))) (by decide) (backOf (W := 0) (rmb2 l Z a0 hw [] a2 kc ch0 ch1 h0 n0 Z0 A_a2 (by omega) (by omega)) hZ (hw _ (List.mem_of_getElem? (i := 68) rfl)) (hw _ (List.mem_of_getElem? (i := 67) rfl)) (by decide) (by decide)) (g := (mkF m 36 #[.val (.ref a1), .val (.ref a2), .val (.int (0 : Int32)), .val (.int (2 : Int32)), .val .null, .unset] [(.int (2 : Int32)), (.int (0 : Int32)), (.ref a2)])) rfl (by rw [hml]; rfl) (argsL := [(.ref a2), (.int (0 : Int32)), (.int (2 : Int32))]) (rest := []) (lenOf pd_1 rfl) rfl (by show 2 * 0 + _ ≤ _; exact Nat.le_of_eq rfl) (hb hby dv1_36) (fun _ _ => ⟨rfl, e102, (by decide : 0 + 1 ≤ _), (by decide : 0 + 2 ≤ _)⟩)
  dsimp only [Pt.U, Pt.locs, Pt.cells, Pt.slots] at X104 l104 y104 z104 st104 hQ104
  subst y104 z104
  obtain ⟨q_104, kb_104, by0_104, by1_104, rfl, pp104, N104, Kc104, gc104_q, Ac104_q⟩ := hQ104
  have n105 : a1 ≠ q_104 := Nat.ne_of_lt (Nat.lt_of_lt_of_le E_a1.lt gc104_q)
  have n106 : a2 ≠ q_104 := Nat.ne_of_lt (Nat.lt_of_lt_of_le A_a2.lt gc104_q)
  have frq_104 : n0 ≤ q_104 := Nat.le_trans Z0 gc104_q
  have y107 : h0.size ≤ q_104 := Nat.le_trans K0.1 gc104_q
  have F108 : Fld Z T104.heap a1 "java/lang/String" "value" "[B" .null := F_value_a1.keep Kc104 nin0
  have F109 : Fld Z T104.heap a1 "java/lang/String" "coder" "B" (.int (0 : Int32)) := F_coder_a1.keep Kc104 nin0
  have E110 : Exa Z T104.heap a1 "java/lang/String" := E_a1.keep Kc104
  have A111 : Arv Z T104.heap a2 kc .char (2 : Int32) [(.int ch0), (.int ch1)] (.int (0 : Int32)) := A_a2.keep Kc104 nin0
  have Z112 : n0 ≤ T104.heap.size := Nat.le_trans Z0 Kc104.1
  have K113 : Keep h0 T104.heap [a1] := K0.trans Kc104 all0
  have rby0_104 := rng32 by0_104
  have rby1_104 := rng32 by1_104
  have N104a : Fr n0 L104 := by rw [l104]; exact Fr.app N0 N104
  refine own_by st104 ?_
  show own_Go p e below (Qv2 Z a1 a2 kc ch0 ch1 cs h0 n0) (own_Fr s ({ frames := 2, cells := 1, slots := 2, locals := 40 } : Room).cells ({ frames := 2, cells := 1, slots := 2, locals := 40 } : Room).slots) (T104.setTop (mkF m 39 #[.val (.ref a1), .val (.ref a2), .val (.int (0 : Int32)), .val (.int (2 : Int32)), .val .null, .unset] [(.ref q_104)]))
  refine own_astore (pc' := 41) X104 hx #[.val (.ref a1), .val (.ref a2), .val (.int (0 : Int32)), .val (.int (2 : Int32)), .val .null, .val (.ref q_104)] rfl rfl (hb hby dv1_39) rfl ?_
  refine own_aloadN (pc' := 42) X104 hx rfl rfl (hb hby dv1_41) rfl ?_
  refine own_aload (pc' := 44) X104 hx rfl rfl (hb hby dv1_42) rfl ?_
  refine own_iloadN (pc' := 45) X104 hx rfl (hb hby dv1_44) rfl ?_
  obtain ⟨_, _, ⟨T114, L114, k114, n114⟩, -, X114, ⟨Lc114, hQ114, l114, y114, z114⟩, st114⟩ := Jvm.LawKit.callS X104 hx (y := (⟨"java/lang/StringUTF16", "coderFromArrayLen", "([BI)B"⟩ : MethodName)) hown (mvT hZ (hw _ (List.mem_of_getElem? (i := 72) rfl))) (mvT hZ (hw _ (List.mem_of_getElem? (i := 73) rfl))) (mvT hZ (hw _ (List.mem_of_getElem? (i := 67) rfl))) (mvT hZ (hw _ (List.mem_of_getElem? (i := 74) rfl))) (by decide) (backOf (W := 1) (rmf2 l Z a0 hw [] q_104 kb_104 by0_104 by1_104 T104.heap n0 Z112 Ac104_q) hZ (hw _ (List.mem_of_getElem? (i := 74) rfl)) (hw _ (List.mem_of_getElem? (i := 67) rfl)) (by decide) (by decide)) (g := (mkF m 45 #[.val (.ref a1), .val (.ref a2), .val (.int (0 : Int32)), .val (.int (2 : Int32)), .val .null, .val (.ref q_104)] [(.int (2 : Int32)), (.ref q_104), (.ref a1)])) rfl (by rw [hml]; rfl) (argsL := [(.ref q_104), (.int (2 : Int32))]) (rest := [(.ref a1)]) (lenOf pd_2 rfl) rfl (by show 2 * 0 + _ ≤ _; exact Nat.le_of_eq rfl) (hb hby dv1_45) (fun _ _ => ⟨rfl, rfl, (by decide : 1 + 0 ≤ _), (by decide : 2 + 0 ≤ _)⟩)
  dsimp only [Pt.U, Pt.locs, Pt.cells, Pt.slots] at X114 l114 y114 z114 st114 hQ114
  subst y114 z114
  obtain ⟨rfl, pp114, N114, e114⟩ := hQ114
  have N114a : Fr n0 L114 := by rw [l114]; exact Fr.app N104a N114
  refine own_by st114 ?_
  show own_Go p e below (Qv2 Z a1 a2 kc ch0 ch1 cs h0 n0) (own_Fr s ({ frames := 2, cells := 1, slots := 2, locals := 40 } : Room).cells ({ frames := 2, cells := 1, slots := 2, locals := 40 } : Room).slots) (T114.setTop (mkF m 48 #[.val (.ref a1), .val (.ref a2), .val (.int (0 : Int32)), .val (.int (2 : Int32)), .val .null, .val (.ref q_104)] [(.int (0 : Int32)), (.ref a1)]))
  obtain ⟨T115, h115, X115, e115, W115, st115⟩ := putF X114 hx hZ hown (host := "") (Or.inl (hw _ (List.mem_of_getElem? (i := 21) rfl))) Via.refl e114 F109 E110 (Or.inr ⟨(hw _ (List.mem_of_getElem? (i := 17) rfl)), rfl, hnm⟩) (hw _ (List.mem_of_getElem? (i := 2) rfl)) (ty := .byte) (by decide) rfl rfl (g := (mkF m 48 #[.val (.ref a1), .val (.ref a2), .val (.int (0 : Int32)), .val (.int (2 : Int32)), .val .null, .val (.ref q_104)] [(.int (0 : Int32)), (.ref a1)])) rfl rfl (hb hby dv1_48)
  have Fw115 : Fld Z h115 a1 "java/lang/String" "coder" "B" (.int (0 : Int32)) := F109.same W115
  have F116 : Fld Z h115 a1 "java/lang/String" "value" "[B" .null := F108.other W115 (Or.inr (slot_ne (Or.inr (hw _ (List.mem_of_getElem? (i := 16) rfl))) (Or.inr (hw _ (List.mem_of_getElem? (i := 17) rfl))) (by decide) (t := (.array .byte)) (by decide) (t' := .byte) (by decide)))
  have E117 : Exa Z h115 a1 "java/lang/String" := E110.wr W115
  have A118 : Arv Z h115 a2 kc .char (2 : Int32) [(.int ch0), (.int ch1)] (.int (0 : Int32)) := A111.other W115 (Ne.symm ne_a1_a2)
  have A119 : Arv Z h115 q_104 kb_104 .byte (2 : Int32) [(.int by0_104), (.int by1_104)] (.int (0 : Int32)) := Ac104_q.other W115 (Ne.symm n105)
  have Z120 : n0 ≤ h115.size := Nat.le_trans Z112 (Nat.le_of_eq W115.size.symm)
  have N121 := Fr.snoc X115 N114a g_a1
  have K122 : Keep h0 h115 [a1] := K113.wr W115 (Or.inl (List.mem_of_getElem? (i := 0) rfl))
  refine own_by st115 ?_
  show own_Go p e below (Qv2 Z a1 a2 kc ch0 ch1 cs h0 n0) (own_Fr s ({ frames := 2, cells := 1, slots := 2, locals := 40 } : Room).cells ({ frames := 2, cells := 1, slots := 2, locals := 40 } : Room).slots) (T115.setTop (mkF m 51 #[.val (.ref a1), .val (.ref a2), .val (.int (0 : Int32)), .val (.int (2 : Int32)), .val .null, .val (.ref q_104)] []))
  refine own_aloadN (pc' := 52) X115 hx rfl rfl (hb hby dv1_51) rfl ?_
  refine own_aload (pc' := 54) X115 hx rfl rfl (hb hby dv1_52) rfl ?_
  obtain ⟨T123, h123, X123, e123, W123, st123⟩ := putF X115 hx hZ hown (host := "") (Or.inl (hw _ (List.mem_of_getElem? (i := 20) rfl))) Via.refl e115 F116 E117 (Or.inr ⟨(hw _ (List.mem_of_getElem? (i := 16) rfl)), rfl, hnm⟩) (hw _ (List.mem_of_getElem? (i := 2) rfl)) (ty := (.array .byte)) (by decide) rfl rfl (g := (mkF m 54 #[.val (.ref a1), .val (.ref a2), .val (.int (0 : Int32)), .val (.int (2 : Int32)), .val .null, .val (.ref q_104)] [(.ref q_104), (.ref a1)])) rfl rfl (hb hby dv1_54)
  have Fw123 : Fld Z h123 a1 "java/lang/String" "value" "[B" (.ref q_104) := F116.same W123
  have F124 : Fld Z h123 a1 "java/lang/String" "coder" "B" (.int (0 : Int32)) := Fw115.other W123 (Or.inr (slot_ne (Or.inr (hw _ (List.mem_of_getElem? (i := 17) rfl))) (Or.inr (hw _ (List.mem_of_getElem? (i := 16) rfl))) (by decide) (t := .byte) (by decide) (t' := (.array .byte)) (by decide)))
  have E125 : Exa Z h123 a1 "java/lang/String" := E117.wr W123
  have A126 : Arv Z h123 a2 kc .char (2 : Int32) [(.int ch0), (.int ch1)] (.int (0 : Int32)) := A118.other W123 (Ne.symm ne_a1_a2)
  have A127 : Arv Z h123 q_104 kb_104 .byte (2 : Int32) [(.int by0_104), (.int by1_104)] (.int (0 : Int32)) := A119.other W123 (Ne.symm n105)
  have Z128 : n0 ≤ h123.size := Nat.le_trans Z120 (Nat.le_of_eq W123.size.symm)
  have N129 := Fr.snoc X123 N121 g_a1
  have K130 : Keep h0 h123 [a1] := K122.wr W123 (Or.inl (List.mem_of_getElem? (i := 0) rfl))
  refine own_by st123 ?_
  show own_Go p e below (Qv2 Z a1 a2 kc ch0 ch1 cs h0 n0) (own_Fr s ({ frames := 2, cells := 1, slots := 2, locals := 40 } : Room).cells ({ frames := 2, cells := 1, slots := 2, locals := 40 } : Room).slots) (T123.setTop (mkF m 57 #[.val (.ref a1), .val (.ref a2), .val (.int (0 : Int32)), .val (.int (2 : Int32)), .val .null, .val (.ref q_104)] []))
  refine own_ret0 X123 hx Bd.returns Bd.notSynchronized (hb hby dv1_57) rfl (by decide) (by decide) ?_
  show Qv2 Z a1 a2 kc ch0 ch1 cs h0 n0 _ T123.heap _
  rw [e123]
  exact ⟨q_104, kb_104, by0_104, by1_104, rfl, by omega, N129, K130, y107, E125, Fw123, F124, A127⟩
theorem ef_v3 (m : MethodId) (x0 : Addr) (x1 : Addr) : entryFrame m #[(.ref x0), (.ref x1), (.int (0 : Int32)), (.int (3 : Int32)), .null] 6 = mkF m 0 #[.val (.ref x0), .val (.ref x1), .val (.int (0 : Int32)), .val (.int (3 : Int32)), .val .null, .unset] [] := by first | (simp [entryFrame, mkF, argsToLocals, Value.category, maxLocals]; done) | rfl
def Qv3 (Z : State) (a1 : Addr) (a2 : Addr) (kc : ClassId) (ch0 : Int32) (ch1 : Int32) (ch2 : Int32) (cs : Int32) (h0 : Heap) (n0 : Nat) (v : Option Value) (h : Heap) (L : List Loc) : Prop := ∃ q : Addr, ∃ kb : ClassId, ∃ by0 : Int32, ∃ by1 : Int32, ∃ by2 : Int32, v = none ∧ (-128 ≤ by0.toInt ∧ by0.toInt < 128 ∧ by0.toInt % 256 = ch0.toInt ∧ -128 ≤ by1.toInt ∧ by1.toInt < 128 ∧ by1.toInt % 256 = ch1.toInt ∧ -128 ≤ by2.toInt ∧ by2.toInt < 128 ∧ by2.toInt % 256 = ch2.toInt) ∧ Fr n0 L ∧ Keep h0 h [a1] ∧ h0.size ≤ q ∧ Exa Z h a1 "java/lang/String" ∧ Fld Z h a1 "java/lang/String" "value" "[B" (.ref q) ∧ Fld Z h a1 "java/lang/String" "coder" "B" (.int (0 : Int32)) ∧ Arv Z h q kb .byte (3 : Int32) [(.int by0), (.int by1), (.int by2)] (.int (0 : Int32))
set_option maxRecDepth 65536 in
set_option maxHeartbeats 40000000 in
theorem rmv3 (l : Launch) (Z : State) (a0 : Array Value) (hw : ∀ d ∈ tables_1, d.before a0 Z = true) (ws : List Jvm.Cond) (a1 : Addr) (a2 : Addr) (kc : ClassId) (ch0 : Int32) (ch1 : Int32) (ch2 : Int32) (cs : Int32) (h0 : Heap) (n0 : Nat) (Z0 : n0 ≤ h0.size) (E_a1 : Exa Z h0 a1 "java/lang/String") (F_value_a1 : Fld Z h0 a1 "java/lang/String" "value" "[B" .null) (F_coder_a1 : Fld Z h0 a1 "java/lang/String" "coder" "B" (.int (0 : Int32))) (A_a2 : Arv Z h0 a2 kc .char (3 : Int32) [(.int ch0), (.int ch1), (.int ch2)] (.int (0 : Int32))) (S_COMPACT_STRINGS : Sta Z h0 "java/lang/String" "COMPACT_STRINGS" "Z" (.int cs)) (g_a1 : n0 ≤ a1) (ne_a1_a2 : a1 ≠ a2) (hc0 : 0 ≤ ch0.toInt ∧ ch0.toInt < 256) (hc1 : 0 ≤ ch1.toInt ∧ ch1.toInt < 256) (hc2 : 0 ≤ ch2.toInt ∧ ch2.toInt < 256) (hcs : ¬ cs.toInt = 0) :
    MetFree l (⟨"java/lang/String", "<init>", "([CIILjava/lang/Void;)V"⟩ : MethodName) (head1 (Jvm.Cond.code (⟨"java/lang/String", "<init>", "([CIILjava/lang/Void;)V"⟩ : MethodName) jdk_42_method_149_code 6 none :: ws) ({ frames := 2, cells := 1, slots := 3, locals := 40 } : Room)) (fun a U => a = #[(.ref a1), (.ref a2), (.int (0 : Int32)), (.int (3 : Int32)), .null] ∧ Z.Warmed39 U.vm ∧ U.heap = h0) (fun _ _ _ _ _ => True) (fun _ U o U' => ∃ v L, o = .returned v ∧ Qv3 Z a1 a2 kc ch0 ch1 ch2 cs h0 n0 v U'.heap L ∧ FrameEnd U o U' L ({ frames := 2, cells := 1, slots := 3, locals := 40 } : Room).cells ({ frames := 2, cells := 1, slots := 3, locals := 40 } : Room).slots) := by
  refine MetFree.of_bodySF (plainFor_of_name pn_1) hisR ?_
  intro p e s m args below meth c s₁ Bd hml0 hP hK
  obtain ⟨rfl, hZ, hh⟩ := hP
  have hx := Bd.exec
  have hby := Bd.bytes
  have hml : c.maxLocals = 6 := hml0
  have hown : s.vm.findClass "java/lang/String" = some m.cls := findClass_of_methodNamed Bd.named
  have hnm := (name_of_methodNamed Bd.named Bd.method).1
  have X0 : Stand p l e ({ frames := 2, cells := 1, slots := 3, locals := 40 } : Room) s m #[(.ref a1), (.ref a2), (.int (0 : Int32)), (.int (3 : Int32)), .null] below meth c s₁ [] 0 0 := Stand.of_body Bd
  have e0 : s₁.heap = h0 := by rw [← hh, Bd.state]; rfl
  have N0 := Fr.nil n0
  change own_Go p e below (Qv3 Z a1 a2 kc ch0 ch1 ch2 cs h0 n0) (own_Fr s ({ frames := 2, cells := 1, slots := 3, locals := 40 } : Room).cells ({ frames := 2, cells := 1, slots := 3, locals := 40 } : Room).slots) (s₁.setTop (entryFrame m #[(.ref a1), (.ref a2), (.int (0 : Int32)), (.int (3 : Int32)), .null] 6))
  rw [ef_v3 m a1 a2]
  have rch0 := rng32 ch0
  have rch1 := rng32 ch1
  have rch2 := rng32 ch2
  have rcs := rng32 cs
  have K0 : Keep h0 h0 [a1] := Keep.refl h0 [a1]
  refine own_aloadN (pc' := 1) X0 hx rfl rfl (hb hby dv1_0) rfl ?_
  obtain ⟨T101, X101, e101, st101⟩ := initO X0 hx hZ hown (hw _ (List.mem_of_getElem? (i := 11) rfl)) (hw _ (List.mem_of_getElem? (i := 12) rfl)) (hw _ (List.mem_of_getElem? (i := 13) rfl)) e0 (g := (mkF m 1 #[.val (.ref a1), .val (.ref a2), .val (.int (0 : Int32)), .val (.int (3 : Int32)), .val .null, .unset] [(.ref a1)])) rfl (by rw [hml]; rfl) rfl (hb hby dv1_1) (by decide) (W := 0) (by show 2 * 0 + _ ≤ _; exact Nat.le_of_eq rfl) (by decide)
  refine own_by st101 ?_
  show own_Go p e below (Qv3 Z a1 a2 kc ch0 ch1 ch2 cs h0 n0) (own_Fr s ({ frames := 2, cells := 1, slots := 3, locals := 40 } : Room).cells ({ frames := 2, cells := 1, slots := 3, locals := 40 } : Room).slots) (T101.setTop (mkF m 4 #[.val (.ref a1), .val (.ref a2), .val (.int (0 : Int32)), .val (.int (3 : Int32)), .val .null, .unset] []))
  refine own_iloadN (pc' := 5) X101 hx rfl (hb hby dv1_4) rfl ?_
  refine own_ifYes (pc' := 27) X101 hx (hb hby dv1_5) (by decide) (by decide) (by decide) ?_
  obtain ⟨T102, X102, e102, st102⟩ := getS X101 hx hZ (host := "") hown (hw _ (List.mem_of_getElem? (i := 59) rfl)) Via.refl e101 S_COMPACT_STRINGS (g := (mkF m 27 #[.val (.ref a1), .val (.ref a2), .val (.int (0 : Int32)), .val (.int (3 : Int32)), .val .null, .unset] [])) rfl (hb hby dv1_27)
  refine own_by st102 ?_
  show own_Go p e below (Qv3 Z a1 a2 kc ch0 ch1 ch2 cs h0 n0) (own_Fr s ({ frames := 2, cells := 1, slots := 3, locals := 40 } : Room).cells ({ frames := 2, cells := 1, slots := 3, locals := 40 } : Room).slots) (T102.setTop (mkF m 30 #[.val (.ref a1), .val (.ref a2), .val (.int (0 : Int32)), .val (.int (3 : Int32)), .val .null, .unset] [(.int cs)]))
  have b103 : ¬ cs.toInt = 0 := by omega
  refine own_ifNo (pc' := 33) X102 hx (own_z (own_no_eq rfl (by decide) b103)) (hb hby dv1_30) rfl ?_
  refine own_aloadN (pc' := 34) X102 hx rfl rfl (hb hby dv1_33) rfl ?_
  refine own_iloadN (pc' := 35) X102 hx rfl (hb hby dv1_34) rfl ?_
  refine own_iloadN (pc' := 36) X102 hx rfl (hb hby dv1_35) rfl ?_
  obtain ⟨_, _, ⟨T104, L104, k104, n104⟩, -, X104, ⟨Lc104, hQ104, l104, y104, z104⟩, st104⟩ := Jvm.LawKit.callS X102 hx (y := (⟨"java/lang/StringUTF16", "compress", "([CII)[B"⟩ : MethodName)) hown (mvT hZ (hw _ (List.mem_of_getElem? (i := 65) rfl))) (mvT hZ (hw _ (List.mem_of_getElem? (i := 66) rfl))) (mvT hZ (hw _ (List.mem_of_getElem? (i := 67) rfl))) (mvT hZ (hw _ (List.mem_of_getElem? (i := 68) rfl))) (by decide) (backOf (W := 0) (rmb3 l Z a0 hw [] a2 kc ch0 ch1 ch2 h0 n0 Z0 A_a2 (by omega) (by omega) (by omega)) hZ (hw _ (List.mem_of_getElem? (i := 68) rfl)) (hw _ (List.mem_of_getElem? (i := 67) rfl)) (by decide) (by decide)) (g := (mkF m 36 #[.val (.ref a1), .val (.ref a2), .val (.int (0 : Int32)), .val (.int (3 : Int32)), .val .null, .unset] [(.int (3 : Int32)), (.int (0 : Int32)), (.ref a2)])) rfl (by rw [hml]; rfl) (argsL := [(.ref a2), (.int (0 : Int32)), (.int (3 : Int32))]) (rest := []) (lenOf pd_1 rfl) rfl (by show 2 * 0 + _ ≤ _; exact Nat.le_of_eq rfl) (hb hby dv1_36) (fun _ _ => ⟨rfl, e102, (by decide : 0 + 1 ≤ _), (by decide : 0 + 3 ≤ _)⟩)
  dsimp only [Pt.U, Pt.locs, Pt.cells, Pt.slots] at X104 l104 y104 z104 st104 hQ104
  subst y104 z104
  obtain ⟨q_104, kb_104, by0_104, by1_104, by2_104, rfl, pp104, N104, Kc104, gc104_q, Ac104_q⟩ := hQ104
  have n105 : a1 ≠ q_104 := Nat.ne_of_lt (Nat.lt_of_lt_of_le E_a1.lt gc104_q)
  have n106 : a2 ≠ q_104 := Nat.ne_of_lt (Nat.lt_of_lt_of_le A_a2.lt gc104_q)
  have frq_104 : n0 ≤ q_104 := Nat.le_trans Z0 gc104_q
  have y107 : h0.size ≤ q_104 := Nat.le_trans K0.1 gc104_q
  have F108 : Fld Z T104.heap a1 "java/lang/String" "value" "[B" .null := F_value_a1.keep Kc104 nin0
  have F109 : Fld Z T104.heap a1 "java/lang/String" "coder" "B" (.int (0 : Int32)) := F_coder_a1.keep Kc104 nin0
  have E110 : Exa Z T104.heap a1 "java/lang/String" := E_a1.keep Kc104
  have A111 : Arv Z T104.heap a2 kc .char (3 : Int32) [(.int ch0), (.int ch1), (.int ch2)] (.int (0 : Int32)) := A_a2.keep Kc104 nin0
  have Z112 : n0 ≤ T104.heap.size := Nat.le_trans Z0 Kc104.1
  have K113 : Keep h0 T104.heap [a1] := K0.trans Kc104 all0
  have rby0_104 := rng32 by0_104
  have rby1_104 := rng32 by1_104
  have rby2_104 := rng32 by2_104
  have N104a : Fr n0 L104 := by rw [l104]; exact Fr.app N0 N104
  refine own_by st104 ?_
  show own_Go p e below (Qv3 Z a1 a2 kc ch0 ch1 ch2 cs h0 n0) (own_Fr s ({ frames := 2, cells := 1, slots := 3, locals := 40 } : Room).cells ({ frames := 2, cells := 1, slots := 3, locals := 40 } : Room).slots) (T104.setTop (mkF m 39 #[.val (.ref a1), .val (.ref a2), .val (.int (0 : Int32)), .val (.int (3 : Int32)), .val .null, .unset] [(.ref q_104)]))
  refine own_astore (pc' := 41) X104 hx #[.val (.ref a1), .val (.ref a2), .val (.int (0 : Int32)), .val (.int (3 : Int32)), .val .null, .val (.ref q_104)] rfl rfl (hb hby dv1_39) rfl ?_
  refine own_aloadN (pc' := 42) X104 hx rfl rfl (hb hby dv1_41) rfl ?_
  refine own_aload (pc' := 44) X104 hx rfl rfl (hb hby dv1_42) rfl ?_
  refine own_iloadN (pc' := 45) X104 hx rfl (hb hby dv1_44) rfl ?_
  obtain ⟨_, _, ⟨T114, L114, k114, n114⟩, -, X114, ⟨Lc114, hQ114, l114, y114, z114⟩, st114⟩ := Jvm.LawKit.callS X104 hx (y := (⟨"java/lang/StringUTF16", "coderFromArrayLen", "([BI)B"⟩ : MethodName)) hown (mvT hZ (hw _ (List.mem_of_getElem? (i := 72) rfl))) (mvT hZ (hw _ (List.mem_of_getElem? (i := 73) rfl))) (mvT hZ (hw _ (List.mem_of_getElem? (i := 67) rfl))) (mvT hZ (hw _ (List.mem_of_getElem? (i := 74) rfl))) (by decide) (backOf (W := 1) (rmf3 l Z a0 hw [] q_104 kb_104 by0_104 by1_104 by2_104 T104.heap n0 Z112 Ac104_q) hZ (hw _ (List.mem_of_getElem? (i := 74) rfl)) (hw _ (List.mem_of_getElem? (i := 67) rfl)) (by decide) (by decide)) (g := (mkF m 45 #[.val (.ref a1), .val (.ref a2), .val (.int (0 : Int32)), .val (.int (3 : Int32)), .val .null, .val (.ref q_104)] [(.int (3 : Int32)), (.ref q_104), (.ref a1)])) rfl (by rw [hml]; rfl) (argsL := [(.ref q_104), (.int (3 : Int32))]) (rest := [(.ref a1)]) (lenOf pd_2 rfl) rfl (by show 2 * 0 + _ ≤ _; exact Nat.le_of_eq rfl) (hb hby dv1_45) (fun _ _ => ⟨rfl, rfl, (by decide : 1 + 0 ≤ _), (by decide : 3 + 0 ≤ _)⟩)
  dsimp only [Pt.U, Pt.locs, Pt.cells, Pt.slots] at X114 l114 y114 z114 st114 hQ114
  subst y114 z114
  obtain ⟨rfl, pp114, N114, e114⟩ := hQ114
  have N114a : Fr n0 L114 := by rw [l114]; exact Fr.app N104a N114
  refine own_by st114 ?_
  show own_Go p e below (Qv3 Z a1 a2 kc ch0 ch1 ch2 cs h0 n0) (own_Fr s ({ frames := 2, cells := 1, slots := 3, locals := 40 } : Room).cells ({ frames := 2, cells := 1, slots := 3, locals := 40 } : Room).slots) (T114.setTop (mkF m 48 #[.val (.ref a1), .val (.ref a2), .val (.int (0 : Int32)), .val (.int (3 : Int32)), .val .null, .val (.ref q_104)] [(.int (0 : Int32)), (.ref a1)]))
  obtain ⟨T115, h115, X115, e115, W115, st115⟩ := putF X114 hx hZ hown (host := "") (Or.inl (hw _ (List.mem_of_getElem? (i := 21) rfl))) Via.refl e114 F109 E110 (Or.inr ⟨(hw _ (List.mem_of_getElem? (i := 17) rfl)), rfl, hnm⟩) (hw _ (List.mem_of_getElem? (i := 2) rfl)) (ty := .byte) (by decide) rfl rfl (g := (mkF m 48 #[.val (.ref a1), .val (.ref a2), .val (.int (0 : Int32)), .val (.int (3 : Int32)), .val .null, .val (.ref q_104)] [(.int (0 : Int32)), (.ref a1)])) rfl rfl (hb hby dv1_48)
  have Fw115 : Fld Z h115 a1 "java/lang/String" "coder" "B" (.int (0 : Int32)) := F109.same W115
  have F116 : Fld Z h115 a1 "java/lang/String" "value" "[B" .null := F108.other W115 (Or.inr (slot_ne (Or.inr (hw _ (List.mem_of_getElem? (i := 16) rfl))) (Or.inr (hw _ (List.mem_of_getElem? (i := 17) rfl))) (by decide) (t := (.array .byte)) (by decide) (t' := .byte) (by decide)))
  have E117 : Exa Z h115 a1 "java/lang/String" := E110.wr W115
  have A118 : Arv Z h115 a2 kc .char (3 : Int32) [(.int ch0), (.int ch1), (.int ch2)] (.int (0 : Int32)) := A111.other W115 (Ne.symm ne_a1_a2)
  have A119 : Arv Z h115 q_104 kb_104 .byte (3 : Int32) [(.int by0_104), (.int by1_104), (.int by2_104)] (.int (0 : Int32)) := Ac104_q.other W115 (Ne.symm n105)
  have Z120 : n0 ≤ h115.size := Nat.le_trans Z112 (Nat.le_of_eq W115.size.symm)
  have N121 := Fr.snoc X115 N114a g_a1
  have K122 : Keep h0 h115 [a1] := K113.wr W115 (Or.inl (List.mem_of_getElem? (i := 0) rfl))
  refine own_by st115 ?_
  show own_Go p e below (Qv3 Z a1 a2 kc ch0 ch1 ch2 cs h0 n0) (own_Fr s ({ frames := 2, cells := 1, slots := 3, locals := 40 } : Room).cells ({ frames := 2, cells := 1, slots := 3, locals := 40 } : Room).slots) (T115.setTop (mkF m 51 #[.val (.ref a1), .val (.ref a2), .val (.int (0 : Int32)), .val (.int (3 : Int32)), .val .null, .val (.ref q_104)] []))
  refine own_aloadN (pc' := 52) X115 hx rfl rfl (hb hby dv1_51) rfl ?_
  refine own_aload (pc' := 54) X115 hx rfl rfl (hb hby dv1_52) rfl ?_
  obtain ⟨T123, h123, X123, e123, W123, st123⟩ := putF X115 hx hZ hown (host := "") (Or.inl (hw _ (List.mem_of_getElem? (i := 20) rfl))) Via.refl e115 F116 E117 (Or.inr ⟨(hw _ (List.mem_of_getElem? (i := 16) rfl)), rfl, hnm⟩) (hw _ (List.mem_of_getElem? (i := 2) rfl)) (ty := (.array .byte)) (by decide) rfl rfl (g := (mkF m 54 #[.val (.ref a1), .val (.ref a2), .val (.int (0 : Int32)), .val (.int (3 : Int32)), .val .null, .val (.ref q_104)] [(.ref q_104), (.ref a1)])) rfl rfl (hb hby dv1_54)
  have Fw123 : Fld Z h123 a1 "java/lang/String" "value" "[B" (.ref q_104) := F116.same W123
  have F124 : Fld Z h123 a1 "java/lang/String" "coder" "B" (.int (0 : Int32)) := Fw115.other W123 (Or.inr (slot_ne (Or.inr (hw _ (List.mem_of_getElem? (i := 17) rfl))) (Or.inr (hw _ (List.mem_of_getElem? (i := 16) rfl))) (by decide) (t := .byte) (by decide) (t' := (.array .byte)) (by decide)))
  have E125 : Exa Z h123 a1 "java/lang/String" := E117.wr W123
  have A126 : Arv Z h123 a2 kc .char (3 : Int32) [(.int ch0), (.int ch1), (.int ch2)] (.int (0 : Int32)) := A118.other W123 (Ne.symm ne_a1_a2)
  have A127 : Arv Z h123 q_104 kb_104 .byte (3 : Int32) [(.int by0_104), (.int by1_104), (.int by2_104)] (.int (0 : Int32)) := A119.other W123 (Ne.symm n105)
  have Z128 : n0 ≤ h123.size := Nat.le_trans Z120 (Nat.le_of_eq W123.size.symm)
  have N129 := Fr.snoc X123 N121 g_a1
  have K130 : Keep h0 h123 [a1] := K122.wr W123 (Or.inl (List.mem_of_getElem? (i := 0) rfl))
  refine own_by st123 ?_
  show own_Go p e below (Qv3 Z a1 a2 kc ch0 ch1 ch2 cs h0 n0) (own_Fr s ({ frames := 2, cells := 1, slots := 3, locals := 40 } : Room).cells ({ frames := 2, cells := 1, slots := 3, locals := 40 } : Room).slots) (T123.setTop (mkF m 57 #[.val (.ref a1), .val (.ref a2), .val (.int (0 : Int32)), .val (.int (3 : Int32)), .val .null, .val (.ref q_104)] []))
  refine own_ret0 X123 hx Bd.returns Bd.notSynchronized (hb hby dv1_57) rfl (by decide) (by decide) ?_
  show Qv3 Z a1 a2 kc ch0 ch1 ch2 cs h0 n0 _ T123.heap _
  rw [e123]
  exact ⟨q_104, kb_104, by0_104, by1_104, by2_104, rfl, by omega, N129, K130, y107, E125, Fw123, F124, A127⟩
theorem pd_4 : parseMethodDescriptor "([C)V" = some ⟨[(.array .char)], none⟩ := by decide +kernel
theorem di1_0 : decode jdk_42_method_3_code 0 = .ok (.aload_n 0, 1) := by decide +kernel
theorem di1_1 : decode jdk_42_method_3_code 1 = .ok (.aload_n 1, 1) := by decide +kernel
theorem di1_2 : decode jdk_42_method_3_code 2 = .ok (.iconst 0, 1) := by decide +kernel
theorem di1_3 : decode jdk_42_method_3_code 3 = .ok (.aload_n 1, 1) := by decide +kernel
theorem di1_4 : decode jdk_42_method_3_code 4 = .ok (.arraylength, 1) := by decide +kernel
theorem di1_5 : decode jdk_42_method_3_code 5 = .ok (.aconst_null, 1) := by decide +kernel
theorem di1_6 : decode jdk_42_method_3_code 6 = .ok (.invokespecial 27, 3) := by decide +kernel
theorem di1_9 : decode jdk_42_method_3_code 9 = .ok (.return_, 1) := by decide +kernel
theorem ef_i1 (m : MethodId) (x0 : Addr) (x1 : Addr) : entryFrame m #[(.ref x0), (.ref x1)] 2 = mkF m 0 #[.val (.ref x0), .val (.ref x1)] [] := by first | (simp [entryFrame, mkF, argsToLocals, Value.category, maxLocals]; done) | rfl
def Qi1 (Z : State) (a1 : Addr) (a2 : Addr) (kc : ClassId) (ch0 : Int32) (cs : Int32) (h0 : Heap) (n0 : Nat) (v : Option Value) (h : Heap) (L : List Loc) : Prop := ∃ q : Addr, ∃ kb : ClassId, ∃ by0 : Int32, v = none ∧ (-128 ≤ by0.toInt ∧ by0.toInt < 128 ∧ by0.toInt % 256 = ch0.toInt) ∧ Fr n0 L ∧ Keep h0 h [a1] ∧ h0.size ≤ q ∧ Exa Z h a1 "java/lang/String" ∧ Fld Z h a1 "java/lang/String" "value" "[B" (.ref q) ∧ Fld Z h a1 "java/lang/String" "coder" "B" (.int (0 : Int32)) ∧ Arv Z h q kb .byte (1 : Int32) [(.int by0)] (.int (0 : Int32))
set_option maxRecDepth 65536 in
set_option maxHeartbeats 40000000 in
theorem rmi1 (l : Launch) (Z : State) (a0 : Array Value) (hw : ∀ d ∈ tables_1, d.before a0 Z = true) (ws : List Jvm.Cond) (a1 : Addr) (a2 : Addr) (kc : ClassId) (ch0 : Int32) (cs : Int32) (h0 : Heap) (n0 : Nat) (Z0 : n0 ≤ h0.size) (E_a1 : Exa Z h0 a1 "java/lang/String") (F_value_a1 : Fld Z h0 a1 "java/lang/String" "value" "[B" .null) (F_coder_a1 : Fld Z h0 a1 "java/lang/String" "coder" "B" (.int (0 : Int32))) (A_a2 : Arv Z h0 a2 kc .char (1 : Int32) [(.int ch0)] (.int (0 : Int32))) (S_COMPACT_STRINGS : Sta Z h0 "java/lang/String" "COMPACT_STRINGS" "Z" (.int cs)) (g_a1 : n0 ≤ a1) (ne_a1_a2 : a1 ≠ a2) (hc0 : 0 ≤ ch0.toInt ∧ ch0.toInt < 256) (hcs : ¬ cs.toInt = 0) :
    MetFree l (⟨"java/lang/String", "<init>", "([C)V"⟩ : MethodName) (head1 (Jvm.Cond.code (⟨"java/lang/String", "<init>", "([C)V"⟩ : MethodName) jdk_42_method_3_code 2 none :: ws) ({ frames := 3, cells := 1, slots := 1, locals := 60 } : Room)) (fun a U => a = #[(.ref a1), (.ref a2)] ∧ Z.Warmed39 U.vm ∧ U.heap = h0) (fun _ _ _ _ _ => True) (fun _ U o U' => ∃ v L, o = .returned v ∧ Qi1 Z a1 a2 kc ch0 cs h0 n0 v U'.heap L ∧ FrameEnd U o U' L ({ frames := 3, cells := 1, slots := 1, locals := 60 } : Room).cells ({ frames := 3, cells := 1, slots := 1, locals := 60 } : Room).slots) := by
  refine MetFree.of_bodySF (plainFor_of_name pn_1) hisR ?_
  intro p e s m args below meth c s₁ Bd hml0 hP hK
  obtain ⟨rfl, hZ, hh⟩ := hP
  have hx := Bd.exec
  have hby := Bd.bytes
  have hml : c.maxLocals = 2 := hml0
  have hown : s.vm.findClass "java/lang/String" = some m.cls := findClass_of_methodNamed Bd.named
  have hnm := (name_of_methodNamed Bd.named Bd.method).1
  have X0 : Stand p l e ({ frames := 3, cells := 1, slots := 1, locals := 60 } : Room) s m #[(.ref a1), (.ref a2)] below meth c s₁ [] 0 0 := Stand.of_body Bd
  have e0 : s₁.heap = h0 := by rw [← hh, Bd.state]; rfl
  have N0 := Fr.nil n0
  change own_Go p e below (Qi1 Z a1 a2 kc ch0 cs h0 n0) (own_Fr s ({ frames := 3, cells := 1, slots := 1, locals := 60 } : Room).cells ({ frames := 3, cells := 1, slots := 1, locals := 60 } : Room).slots) (s₁.setTop (entryFrame m #[(.ref a1), (.ref a2)] 2))
  rw [ef_i1 m a1 a2]
  have rch0 := rng32 ch0
  have rcs := rng32 cs
  have K0 : Keep h0 h0 [a1] := Keep.refl h0 [a1]
  refine own_aloadN (pc' := 1) X0 hx rfl rfl (hb hby di1_0) rfl ?_
  refine own_aloadN (pc' := 2) X0 hx rfl rfl (hb hby di1_1) rfl ?_
  refine own_iconst (pc' := 3) X0 hx (0 : Int32) (by decide) (hb hby di1_2) rfl ?_
  refine own_aloadN (pc' := 4) X0 hx rfl rfl (hb hby di1_3) rfl ?_
  obtain ⟨c101, B101, q101, s101, u101, H101, G101⟩ := id A_a2
  refine own_by (X0.arraylength hx (by rw [e0]; exact B101.1) (State.isArrayOf_alike hZ.alike B101.2.1) (g := (mkF m 4 #[.val (.ref a1), .val (.ref a2)] [(.ref a2), (.int (0 : Int32)), (.ref a2), (.ref a1)])) rfl rfl (hb hby di1_4)) ?_
  rw [len_of s101 u101]
  show own_Go p e below (Qi1 Z a1 a2 kc ch0 cs h0 n0) (own_Fr s ({ frames := 3, cells := 1, slots := 1, locals := 60 } : Room).cells ({ frames := 3, cells := 1, slots := 1, locals := 60 } : Room).slots) (s₁.setTop (mkF m 5 #[.val (.ref a1), .val (.ref a2)] [(.int (1 : Int32)), (.int (0 : Int32)), (.ref a2), (.ref a1)]))
  refine own_aconstNull (pc' := 6) X0 hx (hb hby di1_5) rfl ?_
  obtain ⟨_, _, ⟨T102, L102, k102, n102⟩, -, X102, ⟨Lc102, hQ102, l102, y102, z102⟩, st102⟩ := X0.specialBack hx (y := (⟨"java/lang/String", "<init>", "([CIILjava/lang/Void;)V"⟩ : MethodName)) rfl hown (mvT hZ (hw _ (List.mem_of_getElem? (i := 7) rfl))) (mvT hZ (hw _ (List.mem_of_getElem? (i := 8) rfl))) (mvT hZ (hw _ (List.mem_of_getElem? (i := 10) rfl))) (by decide) (backOf (W := 0) (rmv1 l Z a0 hw [] a1 a2 kc ch0 cs h0 n0 Z0 E_a1 F_value_a1 F_coder_a1 A_a2 S_COMPACT_STRINGS g_a1 ne_a1_a2 (by omega) (by omega)) hZ (hw _ (List.mem_of_getElem? (i := 10) rfl)) (hw _ (List.mem_of_getElem? (i := 3) rfl)) (by decide) (by decide)) (g := (mkF m 6 #[.val (.ref a1), .val (.ref a2)] [.null, (.int (1 : Int32)), (.int (0 : Int32)), (.ref a2), (.ref a1)])) rfl (by rw [hml]; rfl) (Steps.refl _) (a := a1) (argsL := [(.ref a2), (.int (0 : Int32)), (.int (1 : Int32)), .null]) (rest := []) (lenOf pd_3 rfl) rfl (by show 2 * 0 + _ ≤ _; exact Nat.le_of_eq rfl) (hb hby di1_6) (fun _ _ => ⟨rfl, e0, (by decide : 0 + 1 ≤ _), (by decide : 0 + 1 ≤ _)⟩)
  dsimp only [Pt.U, Pt.locs, Pt.cells, Pt.slots] at X102 l102 y102 z102 st102 hQ102
  subst y102 z102
  obtain ⟨q_102, kb_102, by0_102, rfl, pp102, N102, Kc102, gc102_q, Ec102_a1, Fc102_0, Fc102_1, Ac102_q⟩ := hQ102
  have n103 : a1 ≠ q_102 := Nat.ne_of_lt (Nat.lt_of_lt_of_le E_a1.lt gc102_q)
  have n104 : a2 ≠ q_102 := Nat.ne_of_lt (Nat.lt_of_lt_of_le A_a2.lt gc102_q)
  have frq_102 : n0 ≤ q_102 := Nat.le_trans Z0 gc102_q
  have y105 : h0.size ≤ q_102 := Nat.le_trans K0.1 gc102_q
  have A106 : Arv Z T102.heap a2 kc .char (1 : Int32) [(.int ch0)] (.int (0 : Int32)) := A_a2.keep Kc102 (ninS (Ne.symm ne_a1_a2) nin0)
  have Z107 : n0 ≤ T102.heap.size := Nat.le_trans Z0 Kc102.1
  have K108 : Keep h0 T102.heap [a1] := K0.trans Kc102 (allS (Or.inl (List.mem_of_getElem? (i := 0) rfl)) all0)
  have rby0_102 := rng32 by0_102
  have N102a : Fr n0 L102 := by rw [l102]; exact Fr.app N0 N102
  refine own_via st102 ?_
  show own_Go p e below (Qi1 Z a1 a2 kc ch0 cs h0 n0) (own_Fr s ({ frames := 3, cells := 1, slots := 1, locals := 60 } : Room).cells ({ frames := 3, cells := 1, slots := 1, locals := 60 } : Room).slots) (T102.setTop (mkF m 9 #[.val (.ref a1), .val (.ref a2)] []))
  refine own_ret0 X102 hx Bd.returns Bd.notSynchronized (hb hby di1_9) rfl (by decide) (by decide) ?_
  show Qi1 Z a1 a2 kc ch0 cs h0 n0 _ T102.heap _
  exact ⟨q_102, kb_102, by0_102, rfl, by omega, N102a, K108, y105, Ec102_a1, Fc102_0, Fc102_1, Ac102_q⟩
theorem ef_i2 (m : MethodId) (x0 : Addr) (x1 : Addr) : entryFrame m #[(.ref x0), (.ref x1)] 2 = mkF m 0 #[.val (.ref x0), .val (.ref x1)] [] := by first | (simp [entryFrame, mkF, argsToLocals, Value.category, maxLocals]; done) | rfl
def Qi2 (Z : State) (a1 : Addr) (a2 : Addr) (kc : ClassId) (ch0 : Int32) (ch1 : Int32) (cs : Int32) (h0 : Heap) (n0 : Nat) (v : Option Value) (h : Heap) (L : List Loc) : Prop := ∃ q : Addr, ∃ kb : ClassId, ∃ by0 : Int32, ∃ by1 : Int32, v = none ∧ (-128 ≤ by0.toInt ∧ by0.toInt < 128 ∧ by0.toInt % 256 = ch0.toInt ∧ -128 ≤ by1.toInt ∧ by1.toInt < 128 ∧ by1.toInt % 256 = ch1.toInt) ∧ Fr n0 L ∧ Keep h0 h [a1] ∧ h0.size ≤ q ∧ Exa Z h a1 "java/lang/String" ∧ Fld Z h a1 "java/lang/String" "value" "[B" (.ref q) ∧ Fld Z h a1 "java/lang/String" "coder" "B" (.int (0 : Int32)) ∧ Arv Z h q kb .byte (2 : Int32) [(.int by0), (.int by1)] (.int (0 : Int32))
set_option maxRecDepth 65536 in
set_option maxHeartbeats 40000000 in
theorem rmi2 (l : Launch) (Z : State) (a0 : Array Value) (hw : ∀ d ∈ tables_1, d.before a0 Z = true) (ws : List Jvm.Cond) (a1 : Addr) (a2 : Addr) (kc : ClassId) (ch0 : Int32) (ch1 : Int32) (cs : Int32) (h0 : Heap) (n0 : Nat) (Z0 : n0 ≤ h0.size) (E_a1 : Exa Z h0 a1 "java/lang/String") (F_value_a1 : Fld Z h0 a1 "java/lang/String" "value" "[B" .null) (F_coder_a1 : Fld Z h0 a1 "java/lang/String" "coder" "B" (.int (0 : Int32))) (A_a2 : Arv Z h0 a2 kc .char (2 : Int32) [(.int ch0), (.int ch1)] (.int (0 : Int32))) (S_COMPACT_STRINGS : Sta Z h0 "java/lang/String" "COMPACT_STRINGS" "Z" (.int cs)) (g_a1 : n0 ≤ a1) (ne_a1_a2 : a1 ≠ a2) (hc0 : 0 ≤ ch0.toInt ∧ ch0.toInt < 256) (hc1 : 0 ≤ ch1.toInt ∧ ch1.toInt < 256) (hcs : ¬ cs.toInt = 0) :
    MetFree l (⟨"java/lang/String", "<init>", "([C)V"⟩ : MethodName) (head1 (Jvm.Cond.code (⟨"java/lang/String", "<init>", "([C)V"⟩ : MethodName) jdk_42_method_3_code 2 none :: ws) ({ frames := 3, cells := 1, slots := 2, locals := 60 } : Room)) (fun a U => a = #[(.ref a1), (.ref a2)] ∧ Z.Warmed39 U.vm ∧ U.heap = h0) (fun _ _ _ _ _ => True) (fun _ U o U' => ∃ v L, o = .returned v ∧ Qi2 Z a1 a2 kc ch0 ch1 cs h0 n0 v U'.heap L ∧ FrameEnd U o U' L ({ frames := 3, cells := 1, slots := 2, locals := 60 } : Room).cells ({ frames := 3, cells := 1, slots := 2, locals := 60 } : Room).slots) := by
  refine MetFree.of_bodySF (plainFor_of_name pn_1) hisR ?_
  intro p e s m args below meth c s₁ Bd hml0 hP hK
  obtain ⟨rfl, hZ, hh⟩ := hP
  have hx := Bd.exec
  have hby := Bd.bytes
  have hml : c.maxLocals = 2 := hml0
  have hown : s.vm.findClass "java/lang/String" = some m.cls := findClass_of_methodNamed Bd.named
  have hnm := (name_of_methodNamed Bd.named Bd.method).1
  have X0 : Stand p l e ({ frames := 3, cells := 1, slots := 2, locals := 60 } : Room) s m #[(.ref a1), (.ref a2)] below meth c s₁ [] 0 0 := Stand.of_body Bd
  have e0 : s₁.heap = h0 := by rw [← hh, Bd.state]; rfl
  have N0 := Fr.nil n0
  change own_Go p e below (Qi2 Z a1 a2 kc ch0 ch1 cs h0 n0) (own_Fr s ({ frames := 3, cells := 1, slots := 2, locals := 60 } : Room).cells ({ frames := 3, cells := 1, slots := 2, locals := 60 } : Room).slots) (s₁.setTop (entryFrame m #[(.ref a1), (.ref a2)] 2))
  rw [ef_i2 m a1 a2]
  have rch0 := rng32 ch0
  have rch1 := rng32 ch1
  have rcs := rng32 cs
  have K0 : Keep h0 h0 [a1] := Keep.refl h0 [a1]
  refine own_aloadN (pc' := 1) X0 hx rfl rfl (hb hby di1_0) rfl ?_
  refine own_aloadN (pc' := 2) X0 hx rfl rfl (hb hby di1_1) rfl ?_
  refine own_iconst (pc' := 3) X0 hx (0 : Int32) (by decide) (hb hby di1_2) rfl ?_
  refine own_aloadN (pc' := 4) X0 hx rfl rfl (hb hby di1_3) rfl ?_
  obtain ⟨c101, B101, q101, s101, u101, H101, G101⟩ := id A_a2
  refine own_by (X0.arraylength hx (by rw [e0]; exact B101.1) (State.isArrayOf_alike hZ.alike B101.2.1) (g := (mkF m 4 #[.val (.ref a1), .val (.ref a2)] [(.ref a2), (.int (0 : Int32)), (.ref a2), (.ref a1)])) rfl rfl (hb hby di1_4)) ?_
  rw [len_of s101 u101]
  show own_Go p e below (Qi2 Z a1 a2 kc ch0 ch1 cs h0 n0) (own_Fr s ({ frames := 3, cells := 1, slots := 2, locals := 60 } : Room).cells ({ frames := 3, cells := 1, slots := 2, locals := 60 } : Room).slots) (s₁.setTop (mkF m 5 #[.val (.ref a1), .val (.ref a2)] [(.int (2 : Int32)), (.int (0 : Int32)), (.ref a2), (.ref a1)]))
  refine own_aconstNull (pc' := 6) X0 hx (hb hby di1_5) rfl ?_
  obtain ⟨_, _, ⟨T102, L102, k102, n102⟩, -, X102, ⟨Lc102, hQ102, l102, y102, z102⟩, st102⟩ := X0.specialBack hx (y := (⟨"java/lang/String", "<init>", "([CIILjava/lang/Void;)V"⟩ : MethodName)) rfl hown (mvT hZ (hw _ (List.mem_of_getElem? (i := 7) rfl))) (mvT hZ (hw _ (List.mem_of_getElem? (i := 8) rfl))) (mvT hZ (hw _ (List.mem_of_getElem? (i := 10) rfl))) (by decide) (backOf (W := 0) (rmv2 l Z a0 hw [] a1 a2 kc ch0 ch1 cs h0 n0 Z0 E_a1 F_value_a1 F_coder_a1 A_a2 S_COMPACT_STRINGS g_a1 ne_a1_a2 (by omega) (by omega) (by omega)) hZ (hw _ (List.mem_of_getElem? (i := 10) rfl)) (hw _ (List.mem_of_getElem? (i := 3) rfl)) (by decide) (by decide)) (g := (mkF m 6 #[.val (.ref a1), .val (.ref a2)] [.null, (.int (2 : Int32)), (.int (0 : Int32)), (.ref a2), (.ref a1)])) rfl (by rw [hml]; rfl) (Steps.refl _) (a := a1) (argsL := [(.ref a2), (.int (0 : Int32)), (.int (2 : Int32)), .null]) (rest := []) (lenOf pd_3 rfl) rfl (by show 2 * 0 + _ ≤ _; exact Nat.le_of_eq rfl) (hb hby di1_6) (fun _ _ => ⟨rfl, e0, (by decide : 0 + 1 ≤ _), (by decide : 0 + 2 ≤ _)⟩)
  dsimp only [Pt.U, Pt.locs, Pt.cells, Pt.slots] at X102 l102 y102 z102 st102 hQ102
  subst y102 z102
  obtain ⟨q_102, kb_102, by0_102, by1_102, rfl, pp102, N102, Kc102, gc102_q, Ec102_a1, Fc102_0, Fc102_1, Ac102_q⟩ := hQ102
  have n103 : a1 ≠ q_102 := Nat.ne_of_lt (Nat.lt_of_lt_of_le E_a1.lt gc102_q)
  have n104 : a2 ≠ q_102 := Nat.ne_of_lt (Nat.lt_of_lt_of_le A_a2.lt gc102_q)
  have frq_102 : n0 ≤ q_102 := Nat.le_trans Z0 gc102_q
  have y105 : h0.size ≤ q_102 := Nat.le_trans K0.1 gc102_q
  have A106 : Arv Z T102.heap a2 kc .char (2 : Int32) [(.int ch0), (.int ch1)] (.int (0 : Int32)) := A_a2.keep Kc102 (ninS (Ne.symm ne_a1_a2) nin0)
  have Z107 : n0 ≤ T102.heap.size := Nat.le_trans Z0 Kc102.1
  have K108 : Keep h0 T102.heap [a1] := K0.trans Kc102 (allS (Or.inl (List.mem_of_getElem? (i := 0) rfl)) all0)
  have rby0_102 := rng32 by0_102
  have rby1_102 := rng32 by1_102
  have N102a : Fr n0 L102 := by rw [l102]; exact Fr.app N0 N102
  refine own_via st102 ?_
  show own_Go p e below (Qi2 Z a1 a2 kc ch0 ch1 cs h0 n0) (own_Fr s ({ frames := 3, cells := 1, slots := 2, locals := 60 } : Room).cells ({ frames := 3, cells := 1, slots := 2, locals := 60 } : Room).slots) (T102.setTop (mkF m 9 #[.val (.ref a1), .val (.ref a2)] []))
  refine own_ret0 X102 hx Bd.returns Bd.notSynchronized (hb hby di1_9) rfl (by decide) (by decide) ?_
  show Qi2 Z a1 a2 kc ch0 ch1 cs h0 n0 _ T102.heap _
  exact ⟨q_102, kb_102, by0_102, by1_102, rfl, by omega, N102a, K108, y105, Ec102_a1, Fc102_0, Fc102_1, Ac102_q⟩
theorem ef_i3 (m : MethodId) (x0 : Addr) (x1 : Addr) : entryFrame m #[(.ref x0), (.ref x1)] 2 = mkF m 0 #[.val (.ref x0), .val (.ref x1)] [] := by first | (simp [entryFrame, mkF, argsToLocals, Value.category, maxLocals]; done) | rfl
def Qi3 (Z : State) (a1 : Addr) (a2 : Addr) (kc : ClassId) (ch0 : Int32) (ch1 : Int32) (ch2 : Int32) (cs : Int32) (h0 : Heap) (n0 : Nat) (v : Option Value) (h : Heap) (L : List Loc) : Prop := ∃ q : Addr, ∃ kb : ClassId, ∃ by0 : Int32, ∃ by1 : Int32, ∃ by2 : Int32, v = none ∧ (-128 ≤ by0.toInt ∧ by0.toInt < 128 ∧ by0.toInt % 256 = ch0.toInt ∧ -128 ≤ by1.toInt ∧ by1.toInt < 128 ∧ by1.toInt % 256 = ch1.toInt ∧ -128 ≤ by2.toInt ∧ by2.toInt < 128 ∧ by2.toInt % 256 = ch2.toInt) ∧ Fr n0 L ∧ Keep h0 h [a1] ∧ h0.size ≤ q ∧ Exa Z h a1 "java/lang/String" ∧ Fld Z h a1 "java/lang/String" "value" "[B" (.ref q) ∧ Fld Z h a1 "java/lang/String" "coder" "B" (.int (0 : Int32)) ∧ Arv Z h q kb .byte (3 : Int32) [(.int by0), (.int by1), (.int by2)] (.int (0 : Int32))
set_option maxRecDepth 65536 in
set_option maxHeartbeats 40000000 in
theorem rmi3 (l : Launch) (Z : State) (a0 : Array Value) (hw : ∀ d ∈ tables_1, d.before a0 Z = true) (ws : List Jvm.Cond) (a1 : Addr) (a2 : Addr) (kc : ClassId) (ch0 : Int32) (ch1 : Int32) (ch2 : Int32) (cs : Int32) (h0 : Heap) (n0 : Nat) (Z0 : n0 ≤ h0.size) (E_a1 : Exa Z h0 a1 "java/lang/String") (F_value_a1 : Fld Z h0 a1 "java/lang/String" "value" "[B" .null) (F_coder_a1 : Fld Z h0 a1 "java/lang/String" "coder" "B" (.int (0 : Int32))) (A_a2 : Arv Z h0 a2 kc .char (3 : Int32) [(.int ch0), (.int ch1), (.int ch2)] (.int (0 : Int32))) (S_COMPACT_STRINGS : Sta Z h0 "java/lang/String" "COMPACT_STRINGS" "Z" (.int cs)) (g_a1 : n0 ≤ a1) (ne_a1_a2 : a1 ≠ a2) (hc0 : 0 ≤ ch0.toInt ∧ ch0.toInt < 256) (hc1 : 0 ≤ ch1.toInt ∧ ch1.toInt < 256) (hc2 : 0 ≤ ch2.toInt ∧ ch2.toInt < 256) (hcs : ¬ cs.toInt = 0) :
    MetFree l (⟨"java/lang/String", "<init>", "([C)V"⟩ : MethodName) (head1 (Jvm.Cond.code (⟨"java/lang/String", "<init>", "([C)V"⟩ : MethodName) jdk_42_method_3_code 2 none :: ws) ({ frames := 3, cells := 1, slots := 3, locals := 60 } : Room)) (fun a U => a = #[(.ref a1), (.ref a2)] ∧ Z.Warmed39 U.vm ∧ U.heap = h0) (fun _ _ _ _ _ => True) (fun _ U o U' => ∃ v L, o = .returned v ∧ Qi3 Z a1 a2 kc ch0 ch1 ch2 cs h0 n0 v U'.heap L ∧ FrameEnd U o U' L ({ frames := 3, cells := 1, slots := 3, locals := 60 } : Room).cells ({ frames := 3, cells := 1, slots := 3, locals := 60 } : Room).slots) := by
  refine MetFree.of_bodySF (plainFor_of_name pn_1) hisR ?_
  intro p e s m args below meth c s₁ Bd hml0 hP hK
  obtain ⟨rfl, hZ, hh⟩ := hP
  have hx := Bd.exec
  have hby := Bd.bytes
  have hml : c.maxLocals = 2 := hml0
  have hown : s.vm.findClass "java/lang/String" = some m.cls := findClass_of_methodNamed Bd.named
  have hnm := (name_of_methodNamed Bd.named Bd.method).1
  have X0 : Stand p l e ({ frames := 3, cells := 1, slots := 3, locals := 60 } : Room) s m #[(.ref a1), (.ref a2)] below meth c s₁ [] 0 0 := Stand.of_body Bd
  have e0 : s₁.heap = h0 := by rw [← hh, Bd.state]; rfl
  have N0 := Fr.nil n0
  change own_Go p e below (Qi3 Z a1 a2 kc ch0 ch1 ch2 cs h0 n0) (own_Fr s ({ frames := 3, cells := 1, slots := 3, locals := 60 } : Room).cells ({ frames := 3, cells := 1, slots := 3, locals := 60 } : Room).slots) (s₁.setTop (entryFrame m #[(.ref a1), (.ref a2)] 2))
  rw [ef_i3 m a1 a2]
  have rch0 := rng32 ch0
  have rch1 := rng32 ch1
  have rch2 := rng32 ch2
  have rcs := rng32 cs
  have K0 : Keep h0 h0 [a1] := Keep.refl h0 [a1]
  refine own_aloadN (pc' := 1) X0 hx rfl rfl (hb hby di1_0) rfl ?_
  refine own_aloadN (pc' := 2) X0 hx rfl rfl (hb hby di1_1) rfl ?_
  refine own_iconst (pc' := 3) X0 hx (0 : Int32) (by decide) (hb hby di1_2) rfl ?_
  refine own_aloadN (pc' := 4) X0 hx rfl rfl (hb hby di1_3) rfl ?_
  obtain ⟨c101, B101, q101, s101, u101, H101, G101⟩ := id A_a2
  refine own_by (X0.arraylength hx (by rw [e0]; exact B101.1) (State.isArrayOf_alike hZ.alike B101.2.1) (g := (mkF m 4 #[.val (.ref a1), .val (.ref a2)] [(.ref a2), (.int (0 : Int32)), (.ref a2), (.ref a1)])) rfl rfl (hb hby di1_4)) ?_
  rw [len_of s101 u101]
  show own_Go p e below (Qi3 Z a1 a2 kc ch0 ch1 ch2 cs h0 n0) (own_Fr s ({ frames := 3, cells := 1, slots := 3, locals := 60 } : Room).cells ({ frames := 3, cells := 1, slots := 3, locals := 60 } : Room).slots) (s₁.setTop (mkF m 5 #[.val (.ref a1), .val (.ref a2)] [(.int (3 : Int32)), (.int (0 : Int32)), (.ref a2), (.ref a1)]))
  refine own_aconstNull (pc' := 6) X0 hx (hb hby di1_5) rfl ?_
  obtain ⟨_, _, ⟨T102, L102, k102, n102⟩, -, X102, ⟨Lc102, hQ102, l102, y102, z102⟩, st102⟩ := X0.specialBack hx (y := (⟨"java/lang/String", "<init>", "([CIILjava/lang/Void;)V"⟩ : MethodName)) rfl hown (mvT hZ (hw _ (List.mem_of_getElem? (i := 7) rfl))) (mvT hZ (hw _ (List.mem_of_getElem? (i := 8) rfl))) (mvT hZ (hw _ (List.mem_of_getElem? (i := 10) rfl))) (by decide) (backOf (W := 0) (rmv3 l Z a0 hw [] a1 a2 kc ch0 ch1 ch2 cs h0 n0 Z0 E_a1 F_value_a1 F_coder_a1 A_a2 S_COMPACT_STRINGS g_a1 ne_a1_a2 (by omega) (by omega) (by omega) (by omega)) hZ (hw _ (List.mem_of_getElem? (i := 10) rfl)) (hw _ (List.mem_of_getElem? (i := 3) rfl)) (by decide) (by decide)) (g := (mkF m 6 #[.val (.ref a1), .val (.ref a2)] [.null, (.int (3 : Int32)), (.int (0 : Int32)), (.ref a2), (.ref a1)])) rfl (by rw [hml]; rfl) (Steps.refl _) (a := a1) (argsL := [(.ref a2), (.int (0 : Int32)), (.int (3 : Int32)), .null]) (rest := []) (lenOf pd_3 rfl) rfl (by show 2 * 0 + _ ≤ _; exact Nat.le_of_eq rfl) (hb hby di1_6) (fun _ _ => ⟨rfl, e0, (by decide : 0 + 1 ≤ _), (by decide : 0 + 3 ≤ _)⟩)
  dsimp only [Pt.U, Pt.locs, Pt.cells, Pt.slots] at X102 l102 y102 z102 st102 hQ102
  subst y102 z102
  obtain ⟨q_102, kb_102, by0_102, by1_102, by2_102, rfl, pp102, N102, Kc102, gc102_q, Ec102_a1, Fc102_0, Fc102_1, Ac102_q⟩ := hQ102
  have n103 : a1 ≠ q_102 := Nat.ne_of_lt (Nat.lt_of_lt_of_le E_a1.lt gc102_q)
  have n104 : a2 ≠ q_102 := Nat.ne_of_lt (Nat.lt_of_lt_of_le A_a2.lt gc102_q)
  have frq_102 : n0 ≤ q_102 := Nat.le_trans Z0 gc102_q
  have y105 : h0.size ≤ q_102 := Nat.le_trans K0.1 gc102_q
  have A106 : Arv Z T102.heap a2 kc .char (3 : Int32) [(.int ch0), (.int ch1), (.int ch2)] (.int (0 : Int32)) := A_a2.keep Kc102 (ninS (Ne.symm ne_a1_a2) nin0)
  have Z107 : n0 ≤ T102.heap.size := Nat.le_trans Z0 Kc102.1
  have K108 : Keep h0 T102.heap [a1] := K0.trans Kc102 (allS (Or.inl (List.mem_of_getElem? (i := 0) rfl)) all0)
  have rby0_102 := rng32 by0_102
  have rby1_102 := rng32 by1_102
  have rby2_102 := rng32 by2_102
  have N102a : Fr n0 L102 := by rw [l102]; exact Fr.app N0 N102
  refine own_via st102 ?_
  show own_Go p e below (Qi3 Z a1 a2 kc ch0 ch1 ch2 cs h0 n0) (own_Fr s ({ frames := 3, cells := 1, slots := 3, locals := 60 } : Room).cells ({ frames := 3, cells := 1, slots := 3, locals := 60 } : Room).slots) (T102.setTop (mkF m 9 #[.val (.ref a1), .val (.ref a2)] []))
  refine own_ret0 X102 hx Bd.returns Bd.notSynchronized (hb hby di1_9) rfl (by decide) (by decide) ?_
  show Qi3 Z a1 a2 kc ch0 ch1 ch2 cs h0 n0 _ T102.heap _
  exact ⟨q_102, kb_102, by0_102, by1_102, by2_102, rfl, by omega, N102a, K108, y105, Ec102_a1, Fc102_0, Fc102_1, Ac102_q⟩
theorem pd_5 : parseMethodDescriptor "()B" = some ⟨[], some .byte⟩ := by decide +kernel
theorem dcd_0 : decode jdk_42_method_152_code 0 = .ok (.getstatic 38, 3) := by decide +kernel
theorem dcd_3 : decode jdk_42_method_152_code 3 = .ok (.ifCond .eq 10, 3) := by decide +kernel
theorem dcd_6 : decode jdk_42_method_152_code 6 = .ok (.aload_n 0, 1) := by decide +kernel
theorem dcd_7 : decode jdk_42_method_152_code 7 = .ok (.getfield 15, 3) := by decide +kernel
theorem dcd_10 : decode jdk_42_method_152_code 10 = .ok (.goto 4, 3) := by decide +kernel
theorem dcd_13 : decode jdk_42_method_152_code 13 = .ok (.iconst 1, 1) := by decide +kernel
theorem dcd_14 : decode jdk_42_method_152_code 14 = .ok (.ireturn, 1) := by decide +kernel
theorem ef_cd (m : MethodId) (x0 : Addr) : entryFrame m #[(.ref x0)] 1 = mkF m 0 #[.val (.ref x0)] [] := by first | (simp [entryFrame, mkF, argsToLocals, Value.category, maxLocals]; done) | rfl
def Qcd (Z : State) (a1 : Addr) (cs : Int32) (h0 : Heap) (n0 : Nat) (v : Option Value) (h : Heap) (L : List Loc) : Prop := v = some (.int (0 : Int32)) ∧ (True) ∧ Fr n0 L ∧ h = h0
set_option maxRecDepth 65536 in
set_option maxHeartbeats 40000000 in
theorem rmcd (l : Launch) (Z : State) (a0 : Array Value) (hw : ∀ d ∈ tables_1, d.before a0 Z = true) (ws : List Jvm.Cond) (a1 : Addr) (cs : Int32) (h0 : Heap) (n0 : Nat) (Z0 : n0 ≤ h0.size) (F_coder_a1 : Fld Z h0 a1 "java/lang/String" "coder" "B" (.int (0 : Int32))) (S_COMPACT_STRINGS : Sta Z h0 "java/lang/String" "COMPACT_STRINGS" "Z" (.int cs)) (hcs : ¬ cs.toInt = 0) :
    MetFree l (⟨"java/lang/String", "coder", "()B"⟩ : MethodName) (head1 (Jvm.Cond.code (⟨"java/lang/String", "coder", "()B"⟩ : MethodName) jdk_42_method_152_code 1 (some .byte) :: ws) ({ frames := 0, cells := 0, slots := 0, locals := 0 } : Room)) (fun a U => a = #[(.ref a1)] ∧ Z.Warmed39 U.vm ∧ U.heap = h0) (fun _ _ _ _ _ => True) (fun _ U o U' => ∃ v L, o = .returned v ∧ Qcd Z a1 cs h0 n0 v U'.heap L ∧ FrameEnd U o U' L ({ frames := 0, cells := 0, slots := 0, locals := 0 } : Room).cells ({ frames := 0, cells := 0, slots := 0, locals := 0 } : Room).slots) := by
  refine MetFree.of_bodySF (plainFor_of_name pn_1) hisR ?_
  intro p e s m args below meth c s₁ Bd hml0 hP hK
  obtain ⟨rfl, hZ, hh⟩ := hP
  have hx := Bd.exec
  have hby := Bd.bytes
  have hml : c.maxLocals = 1 := hml0
  have hown : s.vm.findClass "java/lang/String" = some m.cls := findClass_of_methodNamed Bd.named
  have hnm := (name_of_methodNamed Bd.named Bd.method).1
  have X0 : Stand p l e ({ frames := 0, cells := 0, slots := 0, locals := 0 } : Room) s m #[(.ref a1)] below meth c s₁ [] 0 0 := Stand.of_body Bd
  have e0 : s₁.heap = h0 := by rw [← hh, Bd.state]; rfl
  have N0 := Fr.nil n0
  change own_Go p e below (Qcd Z a1 cs h0 n0) (own_Fr s ({ frames := 0, cells := 0, slots := 0, locals := 0 } : Room).cells ({ frames := 0, cells := 0, slots := 0, locals := 0 } : Room).slots) (s₁.setTop (entryFrame m #[(.ref a1)] 1))
  rw [ef_cd m a1]
  have rcs := rng32 cs
  obtain ⟨T101, X101, e101, st101⟩ := getS X0 hx hZ (host := "") hown (hw _ (List.mem_of_getElem? (i := 59) rfl)) Via.refl e0 S_COMPACT_STRINGS (g := (mkF m 0 #[.val (.ref a1)] [])) rfl (hb hby dcd_0)
  refine own_by st101 ?_
  show own_Go p e below (Qcd Z a1 cs h0 n0) (own_Fr s ({ frames := 0, cells := 0, slots := 0, locals := 0 } : Room).cells ({ frames := 0, cells := 0, slots := 0, locals := 0 } : Room).slots) (T101.setTop (mkF m 3 #[.val (.ref a1)] [(.int cs)]))
  have b102 : ¬ cs.toInt = 0 := by omega
  refine own_ifNo (pc' := 6) X101 hx (own_z (own_no_eq rfl (by decide) b102)) (hb hby dcd_3) rfl ?_
  refine own_aloadN (pc' := 7) X101 hx rfl rfl (hb hby dcd_6) rfl ?_
  obtain ⟨T103, X103, e103, st103⟩ := getF X101 hx hZ hown (host := "") (Or.inl (hw _ (List.mem_of_getElem? (i := 21) rfl))) Via.refl e101 F_coder_a1 (g := (mkF m 7 #[.val (.ref a1)] [(.ref a1)])) rfl rfl (hb hby dcd_7)
  refine own_by st103 ?_
  show own_Go p e below (Qcd Z a1 cs h0 n0) (own_Fr s ({ frames := 0, cells := 0, slots := 0, locals := 0 } : Room).cells ({ frames := 0, cells := 0, slots := 0, locals := 0 } : Room).slots) (T103.setTop (mkF m 10 #[.val (.ref a1)] [(.int (0 : Int32))]))
  refine own_goto (pc' := 14) X103 hx (hb hby dcd_10) (by decide) (by decide) ?_
  refine own_ret X103 hx Bd.returns Bd.notSynchronized (Or.inl ⟨rfl, by simp, _, rfl⟩) (hb hby dcd_14) rfl (by decide) (by decide) ?_
  show Qcd Z a1 cs h0 n0 _ T103.heap _
  rw [e103]
  exact ⟨rfl, trivial, N0, rfl⟩
theorem pd_6 : parseMethodDescriptor "()Z" = some ⟨[], some .boolean⟩ := by decide +kernel
theorem dil_0 : decode jdk_42_method_154_code 0 = .ok (.getstatic 38, 3) := by decide +kernel
theorem dil_3 : decode jdk_42_method_154_code 3 = .ok (.ifCond .eq 14, 3) := by decide +kernel
theorem dil_6 : decode jdk_42_method_154_code 6 = .ok (.aload_n 0, 1) := by decide +kernel
theorem dil_7 : decode jdk_42_method_154_code 7 = .ok (.getfield 15, 3) := by decide +kernel
theorem dil_10 : decode jdk_42_method_154_code 10 = .ok (.ifCond .ne 7, 3) := by decide +kernel
theorem dil_13 : decode jdk_42_method_154_code 13 = .ok (.iconst 1, 1) := by decide +kernel
theorem dil_14 : decode jdk_42_method_154_code 14 = .ok (.goto 4, 3) := by decide +kernel
theorem dil_17 : decode jdk_42_method_154_code 17 = .ok (.iconst 0, 1) := by decide +kernel
theorem dil_18 : decode jdk_42_method_154_code 18 = .ok (.ireturn, 1) := by decide +kernel
theorem ef_il (m : MethodId) (x0 : Addr) : entryFrame m #[(.ref x0)] 1 = mkF m 0 #[.val (.ref x0)] [] := by first | (simp [entryFrame, mkF, argsToLocals, Value.category, maxLocals]; done) | rfl
def Qil (Z : State) (a1 : Addr) (cs : Int32) (h0 : Heap) (n0 : Nat) (v : Option Value) (h : Heap) (L : List Loc) : Prop := v = some (.int (1 : Int32)) ∧ (True) ∧ Fr n0 L ∧ h = h0
set_option maxRecDepth 65536 in
set_option maxHeartbeats 40000000 in
theorem rmil (l : Launch) (Z : State) (a0 : Array Value) (hw : ∀ d ∈ tables_1, d.before a0 Z = true) (ws : List Jvm.Cond) (a1 : Addr) (cs : Int32) (h0 : Heap) (n0 : Nat) (Z0 : n0 ≤ h0.size) (F_coder_a1 : Fld Z h0 a1 "java/lang/String" "coder" "B" (.int (0 : Int32))) (S_COMPACT_STRINGS : Sta Z h0 "java/lang/String" "COMPACT_STRINGS" "Z" (.int cs)) (hcs : ¬ cs.toInt = 0) :
    MetFree l (⟨"java/lang/String", "isLatin1", "()Z"⟩ : MethodName) (head1 (Jvm.Cond.code (⟨"java/lang/String", "isLatin1", "()Z"⟩ : MethodName) jdk_42_method_154_code 1 (some .boolean) :: ws) ({ frames := 0, cells := 0, slots := 0, locals := 0 } : Room)) (fun a U => a = #[(.ref a1)] ∧ Z.Warmed39 U.vm ∧ U.heap = h0) (fun _ _ _ _ _ => True) (fun _ U o U' => ∃ v L, o = .returned v ∧ Qil Z a1 cs h0 n0 v U'.heap L ∧ FrameEnd U o U' L ({ frames := 0, cells := 0, slots := 0, locals := 0 } : Room).cells ({ frames := 0, cells := 0, slots := 0, locals := 0 } : Room).slots) := by
  refine MetFree.of_bodySF (plainFor_of_name pn_1) hisR ?_
  intro p e s m args below meth c s₁ Bd hml0 hP hK
  obtain ⟨rfl, hZ, hh⟩ := hP
  have hx := Bd.exec
  have hby := Bd.bytes
  have hml : c.maxLocals = 1 := hml0
  have hown : s.vm.findClass "java/lang/String" = some m.cls := findClass_of_methodNamed Bd.named
  have hnm := (name_of_methodNamed Bd.named Bd.method).1
  have X0 : Stand p l e ({ frames := 0, cells := 0, slots := 0, locals := 0 } : Room) s m #[(.ref a1)] below meth c s₁ [] 0 0 := Stand.of_body Bd
  have e0 : s₁.heap = h0 := by rw [← hh, Bd.state]; rfl
  have N0 := Fr.nil n0
  change own_Go p e below (Qil Z a1 cs h0 n0) (own_Fr s ({ frames := 0, cells := 0, slots := 0, locals := 0 } : Room).cells ({ frames := 0, cells := 0, slots := 0, locals := 0 } : Room).slots) (s₁.setTop (entryFrame m #[(.ref a1)] 1))
  rw [ef_il m a1]
  have rcs := rng32 cs
  obtain ⟨T101, X101, e101, st101⟩ := getS X0 hx hZ (host := "") hown (hw _ (List.mem_of_getElem? (i := 59) rfl)) Via.refl e0 S_COMPACT_STRINGS (g := (mkF m 0 #[.val (.ref a1)] [])) rfl (hb hby dil_0)
  refine own_by st101 ?_
  show own_Go p e below (Qil Z a1 cs h0 n0) (own_Fr s ({ frames := 0, cells := 0, slots := 0, locals := 0 } : Room).cells ({ frames := 0, cells := 0, slots := 0, locals := 0 } : Room).slots) (T101.setTop (mkF m 3 #[.val (.ref a1)] [(.int cs)]))
  have b102 : ¬ cs.toInt = 0 := by omega
  refine own_ifNo (pc' := 6) X101 hx (own_z (own_no_eq rfl (by decide) b102)) (hb hby dil_3) rfl ?_
  refine own_aloadN (pc' := 7) X101 hx rfl rfl (hb hby dil_6) rfl ?_
  obtain ⟨T103, X103, e103, st103⟩ := getF X101 hx hZ hown (host := "") (Or.inl (hw _ (List.mem_of_getElem? (i := 21) rfl))) Via.refl e101 F_coder_a1 (g := (mkF m 7 #[.val (.ref a1)] [(.ref a1)])) rfl rfl (hb hby dil_7)
  refine own_by st103 ?_
  show own_Go p e below (Qil Z a1 cs h0 n0) (own_Fr s ({ frames := 0, cells := 0, slots := 0, locals := 0 } : Room).cells ({ frames := 0, cells := 0, slots := 0, locals := 0 } : Room).slots) (T103.setTop (mkF m 10 #[.val (.ref a1)] [(.int (0 : Int32))]))
  refine own_ifNo (pc' := 13) X103 hx (by decide) (hb hby dil_10) rfl ?_
  refine own_iconst (pc' := 14) X103 hx (1 : Int32) (by decide) (hb hby dil_13) rfl ?_
  refine own_goto (pc' := 18) X103 hx (hb hby dil_14) (by decide) (by decide) ?_
  refine own_ret X103 hx Bd.returns Bd.notSynchronized (Or.inl ⟨rfl, by simp, _, rfl⟩) (hb hby dil_18) rfl (by decide) (by decide) ?_
  show Qil Z a1 cs h0 n0 _ T103.heap _
  rw [e103]
  exact ⟨rfl, trivial, N0, rfl⟩
theorem pd_7 : parseMethodDescriptor "(IILjava/util/function/BiFunction;)I" = some ⟨[.int, .int, .object "java/util/function/BiFunction"], some .int⟩ := by decide +kernel
theorem dpn0_1_0 : decode jdk_41_method_11_code 0 = .ok (.iload_n 0, 1) := by decide +kernel
theorem dpn0_1_1 : decode jdk_41_method_11_code 1 = .ok (.ifCond .lt 8, 3) := by decide +kernel
theorem dpn0_1_4 : decode jdk_41_method_11_code 4 = .ok (.iload_n 0, 1) := by decide +kernel
theorem dpn0_1_5 : decode jdk_41_method_11_code 5 = .ok (.iload_n 1, 1) := by decide +kernel
theorem dpn0_1_6 : decode jdk_41_method_11_code 6 = .ok (.if_icmp .lt 10, 3) := by decide +kernel
theorem dpn0_1_16 : decode jdk_41_method_11_code 16 = .ok (.iload_n 0, 1) := by decide +kernel
theorem dpn0_1_17 : decode jdk_41_method_11_code 17 = .ok (.ireturn, 1) := by decide +kernel
theorem pn_2 : plainName "jdk/internal/util/Preconditions" = true := by first | (simp [plainName, overriddenIn]; done) | decide +kernel
theorem ef_pn0_1 (m : MethodId)  : entryFrame m #[(.int (0 : Int32)), (.int (1 : Int32)), .null] 3 = mkF m 0 #[.val (.int (0 : Int32)), .val (.int (1 : Int32)), .val .null] [] := by first | (simp [entryFrame, mkF, argsToLocals, Value.category, maxLocals]; done) | rfl
def Qpn0_1 (Z : State)  (h0 : Heap) (n0 : Nat) (v : Option Value) (h : Heap) (L : List Loc) : Prop := v = some (.int (0 : Int32)) ∧ (True) ∧ Fr n0 L ∧ h = h0
set_option maxRecDepth 65536 in
set_option maxHeartbeats 40000000 in
theorem rmpn0_1 (l : Launch) (Z : State) (a0 : Array Value) (hw : ∀ d ∈ tables_1, d.before a0 Z = true) (ws : List Jvm.Cond)  (h0 : Heap) (n0 : Nat) (Z0 : n0 ≤ h0.size) :
    MetFree l (⟨"jdk/internal/util/Preconditions", "checkIndex", "(IILjava/util/function/BiFunction;)I"⟩ : MethodName) (head1 (Jvm.Cond.code (⟨"jdk/internal/util/Preconditions", "checkIndex", "(IILjava/util/function/BiFunction;)I"⟩ : MethodName) jdk_41_method_11_code 3 (some .int) :: ws) ({ frames := 0, cells := 0, slots := 0, locals := 0 } : Room)) (fun a U => a = #[(.int (0 : Int32)), (.int (1 : Int32)), .null] ∧ Z.Warmed39 U.vm ∧ U.heap = h0) (fun _ _ _ _ _ => True) (fun _ U o U' => ∃ v L, o = .returned v ∧ Qpn0_1 Z  h0 n0 v U'.heap L ∧ FrameEnd U o U' L ({ frames := 0, cells := 0, slots := 0, locals := 0 } : Room).cells ({ frames := 0, cells := 0, slots := 0, locals := 0 } : Room).slots) := by
  refine MetFree.of_bodySF (plainFor_of_name pn_2) hisR ?_
  intro p e s m args below meth c s₁ Bd hml0 hP hK
  obtain ⟨rfl, hZ, hh⟩ := hP
  have hx := Bd.exec
  have hby := Bd.bytes
  have hml : c.maxLocals = 3 := hml0
  have hown : s.vm.findClass "jdk/internal/util/Preconditions" = some m.cls := findClass_of_methodNamed Bd.named
  have hnm := (name_of_methodNamed Bd.named Bd.method).1
  have X0 : Stand p l e ({ frames := 0, cells := 0, slots := 0, locals := 0 } : Room) s m #[(.int (0 : Int32)), (.int (1 : Int32)), .null] below meth c s₁ [] 0 0 := Stand.of_body Bd
  have e0 : s₁.heap = h0 := by rw [← hh, Bd.state]; rfl
  have N0 := Fr.nil n0
  change own_Go p e below (Qpn0_1 Z  h0 n0) (own_Fr s ({ frames := 0, cells := 0, slots := 0, locals := 0 } : Room).cells ({ frames := 0, cells := 0, slots := 0, locals := 0 } : Room).slots) (s₁.setTop (entryFrame m #[(.int (0 : Int32)), (.int (1 : Int32)), .null] 3))
  rw [ef_pn0_1 m ]
  refine own_iloadN (pc' := 1) X0 hx rfl (hb hby dpn0_1_0) rfl ?_
  refine own_ifNo (pc' := 4) X0 hx (by decide) (hb hby dpn0_1_1) rfl ?_
  refine own_iloadN (pc' := 5) X0 hx rfl (hb hby dpn0_1_4) rfl ?_
  refine own_iloadN (pc' := 6) X0 hx rfl (hb hby dpn0_1_5) rfl ?_
  refine own_icmpYes (pc' := 16) X0 hx (hb hby dpn0_1_6) (by decide) (by decide) (by decide) ?_
  refine own_iloadN (pc' := 17) X0 hx rfl (hb hby dpn0_1_16) rfl ?_
  refine own_ret X0 hx Bd.returns Bd.notSynchronized (Or.inl ⟨rfl, by simp, _, rfl⟩) (hb hby dpn0_1_17) rfl (by decide) (by decide) ?_
  show Qpn0_1 Z  h0 n0 _ s₁.heap _
  rw [e0]
  exact ⟨rfl, trivial, N0, rfl⟩
theorem ef_pa0_1 (m : MethodId) (x2 : Addr) : entryFrame m #[(.int (0 : Int32)), (.int (1 : Int32)), (.ref x2)] 3 = mkF m 0 #[.val (.int (0 : Int32)), .val (.int (1 : Int32)), .val (.ref x2)] [] := by first | (simp [entryFrame, mkF, argsToLocals, Value.category, maxLocals]; done) | rfl
def Qpa0_1 (Z : State) (af : Addr) (h0 : Heap) (n0 : Nat) (v : Option Value) (h : Heap) (L : List Loc) : Prop := v = some (.int (0 : Int32)) ∧ (True) ∧ Fr n0 L ∧ h = h0
set_option maxRecDepth 65536 in
set_option maxHeartbeats 40000000 in
theorem rmpa0_1 (l : Launch) (Z : State) (a0 : Array Value) (hw : ∀ d ∈ tables_1, d.before a0 Z = true) (ws : List Jvm.Cond) (af : Addr) (h0 : Heap) (n0 : Nat) (Z0 : n0 ≤ h0.size) :
    MetFree l (⟨"jdk/internal/util/Preconditions", "checkIndex", "(IILjava/util/function/BiFunction;)I"⟩ : MethodName) (head1 (Jvm.Cond.code (⟨"jdk/internal/util/Preconditions", "checkIndex", "(IILjava/util/function/BiFunction;)I"⟩ : MethodName) jdk_41_method_11_code 3 (some .int) :: ws) ({ frames := 0, cells := 0, slots := 0, locals := 0 } : Room)) (fun a U => a = #[(.int (0 : Int32)), (.int (1 : Int32)), (.ref af)] ∧ Z.Warmed39 U.vm ∧ U.heap = h0) (fun _ _ _ _ _ => True) (fun _ U o U' => ∃ v L, o = .returned v ∧ Qpa0_1 Z af h0 n0 v U'.heap L ∧ FrameEnd U o U' L ({ frames := 0, cells := 0, slots := 0, locals := 0 } : Room).cells ({ frames := 0, cells := 0, slots := 0, locals := 0 } : Room).slots) := by
  refine MetFree.of_bodySF (plainFor_of_name pn_2) hisR ?_
  intro p e s m args below meth c s₁ Bd hml0 hP hK
  obtain ⟨rfl, hZ, hh⟩ := hP
  have hx := Bd.exec
  have hby := Bd.bytes
  have hml : c.maxLocals = 3 := hml0
  have hown : s.vm.findClass "jdk/internal/util/Preconditions" = some m.cls := findClass_of_methodNamed Bd.named
  have hnm := (name_of_methodNamed Bd.named Bd.method).1
  have X0 : Stand p l e ({ frames := 0, cells := 0, slots := 0, locals := 0 } : Room) s m #[(.int (0 : Int32)), (.int (1 : Int32)), (.ref af)] below meth c s₁ [] 0 0 := Stand.of_body Bd
  have e0 : s₁.heap = h0 := by rw [← hh, Bd.state]; rfl
  have N0 := Fr.nil n0
  change own_Go p e below (Qpa0_1 Z af h0 n0) (own_Fr s ({ frames := 0, cells := 0, slots := 0, locals := 0 } : Room).cells ({ frames := 0, cells := 0, slots := 0, locals := 0 } : Room).slots) (s₁.setTop (entryFrame m #[(.int (0 : Int32)), (.int (1 : Int32)), (.ref af)] 3))
  rw [ef_pa0_1 m af]
  refine own_iloadN (pc' := 1) X0 hx rfl (hb hby dpn0_1_0) rfl ?_
  refine own_ifNo (pc' := 4) X0 hx (by decide) (hb hby dpn0_1_1) rfl ?_
  refine own_iloadN (pc' := 5) X0 hx rfl (hb hby dpn0_1_4) rfl ?_
  refine own_iloadN (pc' := 6) X0 hx rfl (hb hby dpn0_1_5) rfl ?_
  refine own_icmpYes (pc' := 16) X0 hx (hb hby dpn0_1_6) (by decide) (by decide) (by decide) ?_
  refine own_iloadN (pc' := 17) X0 hx rfl (hb hby dpn0_1_16) rfl ?_
  refine own_ret X0 hx Bd.returns Bd.notSynchronized (Or.inl ⟨rfl, by simp, _, rfl⟩) (hb hby dpn0_1_17) rfl (by decide) (by decide) ?_
  show Qpa0_1 Z af h0 n0 _ s₁.heap _
  rw [e0]
  exact ⟨rfl, trivial, N0, rfl⟩
theorem ef_pn0_2 (m : MethodId)  : entryFrame m #[(.int (0 : Int32)), (.int (2 : Int32)), .null] 3 = mkF m 0 #[.val (.int (0 : Int32)), .val (.int (2 : Int32)), .val .null] [] := by first | (simp [entryFrame, mkF, argsToLocals, Value.category, maxLocals]; done) | rfl
def Qpn0_2 (Z : State)  (h0 : Heap) (n0 : Nat) (v : Option Value) (h : Heap) (L : List Loc) : Prop := v = some (.int (0 : Int32)) ∧ (True) ∧ Fr n0 L ∧ h = h0
set_option maxRecDepth 65536 in
set_option maxHeartbeats 40000000 in
theorem rmpn0_2 (l : Launch) (Z : State) (a0 : Array Value) (hw : ∀ d ∈ tables_1, d.before a0 Z = true) (ws : List Jvm.Cond)  (h0 : Heap) (n0 : Nat) (Z0 : n0 ≤ h0.size) :
    MetFree l (⟨"jdk/internal/util/Preconditions", "checkIndex", "(IILjava/util/function/BiFunction;)I"⟩ : MethodName) (head1 (Jvm.Cond.code (⟨"jdk/internal/util/Preconditions", "checkIndex", "(IILjava/util/function/BiFunction;)I"⟩ : MethodName) jdk_41_method_11_code 3 (some .int) :: ws) ({ frames := 0, cells := 0, slots := 0, locals := 0 } : Room)) (fun a U => a = #[(.int (0 : Int32)), (.int (2 : Int32)), .null] ∧ Z.Warmed39 U.vm ∧ U.heap = h0) (fun _ _ _ _ _ => True) (fun _ U o U' => ∃ v L, o = .returned v ∧ Qpn0_2 Z  h0 n0 v U'.heap L ∧ FrameEnd U o U' L ({ frames := 0, cells := 0, slots := 0, locals := 0 } : Room).cells ({ frames := 0, cells := 0, slots := 0, locals := 0 } : Room).slots) := by
  refine MetFree.of_bodySF (plainFor_of_name pn_2) hisR ?_
  intro p e s m args below meth c s₁ Bd hml0 hP hK
  obtain ⟨rfl, hZ, hh⟩ := hP
  have hx := Bd.exec
  have hby := Bd.bytes
  have hml : c.maxLocals = 3 := hml0
  have hown : s.vm.findClass "jdk/internal/util/Preconditions" = some m.cls := findClass_of_methodNamed Bd.named
  have hnm := (name_of_methodNamed Bd.named Bd.method).1
  have X0 : Stand p l e ({ frames := 0, cells := 0, slots := 0, locals := 0 } : Room) s m #[(.int (0 : Int32)), (.int (2 : Int32)), .null] below meth c s₁ [] 0 0 := Stand.of_body Bd
  have e0 : s₁.heap = h0 := by rw [← hh, Bd.state]; rfl
  have N0 := Fr.nil n0
  change own_Go p e below (Qpn0_2 Z  h0 n0) (own_Fr s ({ frames := 0, cells := 0, slots := 0, locals := 0 } : Room).cells ({ frames := 0, cells := 0, slots := 0, locals := 0 } : Room).slots) (s₁.setTop (entryFrame m #[(.int (0 : Int32)), (.int (2 : Int32)), .null] 3))
  rw [ef_pn0_2 m ]
  refine own_iloadN (pc' := 1) X0 hx rfl (hb hby dpn0_1_0) rfl ?_
  refine own_ifNo (pc' := 4) X0 hx (by decide) (hb hby dpn0_1_1) rfl ?_
  refine own_iloadN (pc' := 5) X0 hx rfl (hb hby dpn0_1_4) rfl ?_
  refine own_iloadN (pc' := 6) X0 hx rfl (hb hby dpn0_1_5) rfl ?_
  refine own_icmpYes (pc' := 16) X0 hx (hb hby dpn0_1_6) (by decide) (by decide) (by decide) ?_
  refine own_iloadN (pc' := 17) X0 hx rfl (hb hby dpn0_1_16) rfl ?_
  refine own_ret X0 hx Bd.returns Bd.notSynchronized (Or.inl ⟨rfl, by simp, _, rfl⟩) (hb hby dpn0_1_17) rfl (by decide) (by decide) ?_
  show Qpn0_2 Z  h0 n0 _ s₁.heap _
  rw [e0]
  exact ⟨rfl, trivial, N0, rfl⟩
theorem ef_pa0_2 (m : MethodId) (x2 : Addr) : entryFrame m #[(.int (0 : Int32)), (.int (2 : Int32)), (.ref x2)] 3 = mkF m 0 #[.val (.int (0 : Int32)), .val (.int (2 : Int32)), .val (.ref x2)] [] := by first | (simp [entryFrame, mkF, argsToLocals, Value.category, maxLocals]; done) | rfl
def Qpa0_2 (Z : State) (af : Addr) (h0 : Heap) (n0 : Nat) (v : Option Value) (h : Heap) (L : List Loc) : Prop := v = some (.int (0 : Int32)) ∧ (True) ∧ Fr n0 L ∧ h = h0
set_option maxRecDepth 65536 in
set_option maxHeartbeats 40000000 in
theorem rmpa0_2 (l : Launch) (Z : State) (a0 : Array Value) (hw : ∀ d ∈ tables_1, d.before a0 Z = true) (ws : List Jvm.Cond) (af : Addr) (h0 : Heap) (n0 : Nat) (Z0 : n0 ≤ h0.size) :
    MetFree l (⟨"jdk/internal/util/Preconditions", "checkIndex", "(IILjava/util/function/BiFunction;)I"⟩ : MethodName) (head1 (Jvm.Cond.code (⟨"jdk/internal/util/Preconditions", "checkIndex", "(IILjava/util/function/BiFunction;)I"⟩ : MethodName) jdk_41_method_11_code 3 (some .int) :: ws) ({ frames := 0, cells := 0, slots := 0, locals := 0 } : Room)) (fun a U => a = #[(.int (0 : Int32)), (.int (2 : Int32)), (.ref af)] ∧ Z.Warmed39 U.vm ∧ U.heap = h0) (fun _ _ _ _ _ => True) (fun _ U o U' => ∃ v L, o = .returned v ∧ Qpa0_2 Z af h0 n0 v U'.heap L ∧ FrameEnd U o U' L ({ frames := 0, cells := 0, slots := 0, locals := 0 } : Room).cells ({ frames := 0, cells := 0, slots := 0, locals := 0 } : Room).slots) := by
  refine MetFree.of_bodySF (plainFor_of_name pn_2) hisR ?_
  intro p e s m args below meth c s₁ Bd hml0 hP hK
  obtain ⟨rfl, hZ, hh⟩ := hP
  have hx := Bd.exec
  have hby := Bd.bytes
  have hml : c.maxLocals = 3 := hml0
  have hown : s.vm.findClass "jdk/internal/util/Preconditions" = some m.cls := findClass_of_methodNamed Bd.named
  have hnm := (name_of_methodNamed Bd.named Bd.method).1
  have X0 : Stand p l e ({ frames := 0, cells := 0, slots := 0, locals := 0 } : Room) s m #[(.int (0 : Int32)), (.int (2 : Int32)), (.ref af)] below meth c s₁ [] 0 0 := Stand.of_body Bd
  have e0 : s₁.heap = h0 := by rw [← hh, Bd.state]; rfl
  have N0 := Fr.nil n0
  change own_Go p e below (Qpa0_2 Z af h0 n0) (own_Fr s ({ frames := 0, cells := 0, slots := 0, locals := 0 } : Room).cells ({ frames := 0, cells := 0, slots := 0, locals := 0 } : Room).slots) (s₁.setTop (entryFrame m #[(.int (0 : Int32)), (.int (2 : Int32)), (.ref af)] 3))
  rw [ef_pa0_2 m af]
  refine own_iloadN (pc' := 1) X0 hx rfl (hb hby dpn0_1_0) rfl ?_
  refine own_ifNo (pc' := 4) X0 hx (by decide) (hb hby dpn0_1_1) rfl ?_
  refine own_iloadN (pc' := 5) X0 hx rfl (hb hby dpn0_1_4) rfl ?_
  refine own_iloadN (pc' := 6) X0 hx rfl (hb hby dpn0_1_5) rfl ?_
  refine own_icmpYes (pc' := 16) X0 hx (hb hby dpn0_1_6) (by decide) (by decide) (by decide) ?_
  refine own_iloadN (pc' := 17) X0 hx rfl (hb hby dpn0_1_16) rfl ?_
  refine own_ret X0 hx Bd.returns Bd.notSynchronized (Or.inl ⟨rfl, by simp, _, rfl⟩) (hb hby dpn0_1_17) rfl (by decide) (by decide) ?_
  show Qpa0_2 Z af h0 n0 _ s₁.heap _
  rw [e0]
  exact ⟨rfl, trivial, N0, rfl⟩
theorem ef_pn1_2 (m : MethodId)  : entryFrame m #[(.int (1 : Int32)), (.int (2 : Int32)), .null] 3 = mkF m 0 #[.val (.int (1 : Int32)), .val (.int (2 : Int32)), .val .null] [] := by first | (simp [entryFrame, mkF, argsToLocals, Value.category, maxLocals]; done) | rfl
def Qpn1_2 (Z : State)  (h0 : Heap) (n0 : Nat) (v : Option Value) (h : Heap) (L : List Loc) : Prop := v = some (.int (1 : Int32)) ∧ (True) ∧ Fr n0 L ∧ h = h0
set_option maxRecDepth 65536 in
set_option maxHeartbeats 40000000 in
theorem rmpn1_2 (l : Launch) (Z : State) (a0 : Array Value) (hw : ∀ d ∈ tables_1, d.before a0 Z = true) (ws : List Jvm.Cond)  (h0 : Heap) (n0 : Nat) (Z0 : n0 ≤ h0.size) :
    MetFree l (⟨"jdk/internal/util/Preconditions", "checkIndex", "(IILjava/util/function/BiFunction;)I"⟩ : MethodName) (head1 (Jvm.Cond.code (⟨"jdk/internal/util/Preconditions", "checkIndex", "(IILjava/util/function/BiFunction;)I"⟩ : MethodName) jdk_41_method_11_code 3 (some .int) :: ws) ({ frames := 0, cells := 0, slots := 0, locals := 0 } : Room)) (fun a U => a = #[(.int (1 : Int32)), (.int (2 : Int32)), .null] ∧ Z.Warmed39 U.vm ∧ U.heap = h0) (fun _ _ _ _ _ => True) (fun _ U o U' => ∃ v L, o = .returned v ∧ Qpn1_2 Z  h0 n0 v U'.heap L ∧ FrameEnd U o U' L ({ frames := 0, cells := 0, slots := 0, locals := 0 } : Room).cells ({ frames := 0, cells := 0, slots := 0, locals := 0 } : Room).slots) := by
  refine MetFree.of_bodySF (plainFor_of_name pn_2) hisR ?_
  intro p e s m args below meth c s₁ Bd hml0 hP hK
  obtain ⟨rfl, hZ, hh⟩ := hP
  have hx := Bd.exec
  have hby := Bd.bytes
  have hml : c.maxLocals = 3 := hml0
  have hown : s.vm.findClass "jdk/internal/util/Preconditions" = some m.cls := findClass_of_methodNamed Bd.named
  have hnm := (name_of_methodNamed Bd.named Bd.method).1
  have X0 : Stand p l e ({ frames := 0, cells := 0, slots := 0, locals := 0 } : Room) s m #[(.int (1 : Int32)), (.int (2 : Int32)), .null] below meth c s₁ [] 0 0 := Stand.of_body Bd
  have e0 : s₁.heap = h0 := by rw [← hh, Bd.state]; rfl
  have N0 := Fr.nil n0
  change own_Go p e below (Qpn1_2 Z  h0 n0) (own_Fr s ({ frames := 0, cells := 0, slots := 0, locals := 0 } : Room).cells ({ frames := 0, cells := 0, slots := 0, locals := 0 } : Room).slots) (s₁.setTop (entryFrame m #[(.int (1 : Int32)), (.int (2 : Int32)), .null] 3))
  rw [ef_pn1_2 m ]
  refine own_iloadN (pc' := 1) X0 hx rfl (hb hby dpn0_1_0) rfl ?_
  refine own_ifNo (pc' := 4) X0 hx (by decide) (hb hby dpn0_1_1) rfl ?_
  refine own_iloadN (pc' := 5) X0 hx rfl (hb hby dpn0_1_4) rfl ?_
  refine own_iloadN (pc' := 6) X0 hx rfl (hb hby dpn0_1_5) rfl ?_
  refine own_icmpYes (pc' := 16) X0 hx (hb hby dpn0_1_6) (by decide) (by decide) (by decide) ?_
  refine own_iloadN (pc' := 17) X0 hx rfl (hb hby dpn0_1_16) rfl ?_
  refine own_ret X0 hx Bd.returns Bd.notSynchronized (Or.inl ⟨rfl, by simp, _, rfl⟩) (hb hby dpn0_1_17) rfl (by decide) (by decide) ?_
  show Qpn1_2 Z  h0 n0 _ s₁.heap _
  rw [e0]
  exact ⟨rfl, trivial, N0, rfl⟩
theorem ef_pa1_2 (m : MethodId) (x2 : Addr) : entryFrame m #[(.int (1 : Int32)), (.int (2 : Int32)), (.ref x2)] 3 = mkF m 0 #[.val (.int (1 : Int32)), .val (.int (2 : Int32)), .val (.ref x2)] [] := by first | (simp [entryFrame, mkF, argsToLocals, Value.category, maxLocals]; done) | rfl
def Qpa1_2 (Z : State) (af : Addr) (h0 : Heap) (n0 : Nat) (v : Option Value) (h : Heap) (L : List Loc) : Prop := v = some (.int (1 : Int32)) ∧ (True) ∧ Fr n0 L ∧ h = h0
set_option maxRecDepth 65536 in
set_option maxHeartbeats 40000000 in
theorem rmpa1_2 (l : Launch) (Z : State) (a0 : Array Value) (hw : ∀ d ∈ tables_1, d.before a0 Z = true) (ws : List Jvm.Cond) (af : Addr) (h0 : Heap) (n0 : Nat) (Z0 : n0 ≤ h0.size) :
    MetFree l (⟨"jdk/internal/util/Preconditions", "checkIndex", "(IILjava/util/function/BiFunction;)I"⟩ : MethodName) (head1 (Jvm.Cond.code (⟨"jdk/internal/util/Preconditions", "checkIndex", "(IILjava/util/function/BiFunction;)I"⟩ : MethodName) jdk_41_method_11_code 3 (some .int) :: ws) ({ frames := 0, cells := 0, slots := 0, locals := 0 } : Room)) (fun a U => a = #[(.int (1 : Int32)), (.int (2 : Int32)), (.ref af)] ∧ Z.Warmed39 U.vm ∧ U.heap = h0) (fun _ _ _ _ _ => True) (fun _ U o U' => ∃ v L, o = .returned v ∧ Qpa1_2 Z af h0 n0 v U'.heap L ∧ FrameEnd U o U' L ({ frames := 0, cells := 0, slots := 0, locals := 0 } : Room).cells ({ frames := 0, cells := 0, slots := 0, locals := 0 } : Room).slots) := by
  refine MetFree.of_bodySF (plainFor_of_name pn_2) hisR ?_
  intro p e s m args below meth c s₁ Bd hml0 hP hK
  obtain ⟨rfl, hZ, hh⟩ := hP
  have hx := Bd.exec
  have hby := Bd.bytes
  have hml : c.maxLocals = 3 := hml0
  have hown : s.vm.findClass "jdk/internal/util/Preconditions" = some m.cls := findClass_of_methodNamed Bd.named
  have hnm := (name_of_methodNamed Bd.named Bd.method).1
  have X0 : Stand p l e ({ frames := 0, cells := 0, slots := 0, locals := 0 } : Room) s m #[(.int (1 : Int32)), (.int (2 : Int32)), (.ref af)] below meth c s₁ [] 0 0 := Stand.of_body Bd
  have e0 : s₁.heap = h0 := by rw [← hh, Bd.state]; rfl
  have N0 := Fr.nil n0
  change own_Go p e below (Qpa1_2 Z af h0 n0) (own_Fr s ({ frames := 0, cells := 0, slots := 0, locals := 0 } : Room).cells ({ frames := 0, cells := 0, slots := 0, locals := 0 } : Room).slots) (s₁.setTop (entryFrame m #[(.int (1 : Int32)), (.int (2 : Int32)), (.ref af)] 3))
  rw [ef_pa1_2 m af]
  refine own_iloadN (pc' := 1) X0 hx rfl (hb hby dpn0_1_0) rfl ?_
  refine own_ifNo (pc' := 4) X0 hx (by decide) (hb hby dpn0_1_1) rfl ?_
  refine own_iloadN (pc' := 5) X0 hx rfl (hb hby dpn0_1_4) rfl ?_
  refine own_iloadN (pc' := 6) X0 hx rfl (hb hby dpn0_1_5) rfl ?_
  refine own_icmpYes (pc' := 16) X0 hx (hb hby dpn0_1_6) (by decide) (by decide) (by decide) ?_
  refine own_iloadN (pc' := 17) X0 hx rfl (hb hby dpn0_1_16) rfl ?_
  refine own_ret X0 hx Bd.returns Bd.notSynchronized (Or.inl ⟨rfl, by simp, _, rfl⟩) (hb hby dpn0_1_17) rfl (by decide) (by decide) ?_
  show Qpa1_2 Z af h0 n0 _ s₁.heap _
  rw [e0]
  exact ⟨rfl, trivial, N0, rfl⟩
theorem ef_pn0_3 (m : MethodId)  : entryFrame m #[(.int (0 : Int32)), (.int (3 : Int32)), .null] 3 = mkF m 0 #[.val (.int (0 : Int32)), .val (.int (3 : Int32)), .val .null] [] := by first | (simp [entryFrame, mkF, argsToLocals, Value.category, maxLocals]; done) | rfl
def Qpn0_3 (Z : State)  (h0 : Heap) (n0 : Nat) (v : Option Value) (h : Heap) (L : List Loc) : Prop := v = some (.int (0 : Int32)) ∧ (True) ∧ Fr n0 L ∧ h = h0
set_option maxRecDepth 65536 in
set_option maxHeartbeats 40000000 in
theorem rmpn0_3 (l : Launch) (Z : State) (a0 : Array Value) (hw : ∀ d ∈ tables_1, d.before a0 Z = true) (ws : List Jvm.Cond)  (h0 : Heap) (n0 : Nat) (Z0 : n0 ≤ h0.size) :
    MetFree l (⟨"jdk/internal/util/Preconditions", "checkIndex", "(IILjava/util/function/BiFunction;)I"⟩ : MethodName) (head1 (Jvm.Cond.code (⟨"jdk/internal/util/Preconditions", "checkIndex", "(IILjava/util/function/BiFunction;)I"⟩ : MethodName) jdk_41_method_11_code 3 (some .int) :: ws) ({ frames := 0, cells := 0, slots := 0, locals := 0 } : Room)) (fun a U => a = #[(.int (0 : Int32)), (.int (3 : Int32)), .null] ∧ Z.Warmed39 U.vm ∧ U.heap = h0) (fun _ _ _ _ _ => True) (fun _ U o U' => ∃ v L, o = .returned v ∧ Qpn0_3 Z  h0 n0 v U'.heap L ∧ FrameEnd U o U' L ({ frames := 0, cells := 0, slots := 0, locals := 0 } : Room).cells ({ frames := 0, cells := 0, slots := 0, locals := 0 } : Room).slots) := by
  refine MetFree.of_bodySF (plainFor_of_name pn_2) hisR ?_
  intro p e s m args below meth c s₁ Bd hml0 hP hK
  obtain ⟨rfl, hZ, hh⟩ := hP
  have hx := Bd.exec
  have hby := Bd.bytes
  have hml : c.maxLocals = 3 := hml0
  have hown : s.vm.findClass "jdk/internal/util/Preconditions" = some m.cls := findClass_of_methodNamed Bd.named
  have hnm := (name_of_methodNamed Bd.named Bd.method).1
  have X0 : Stand p l e ({ frames := 0, cells := 0, slots := 0, locals := 0 } : Room) s m #[(.int (0 : Int32)), (.int (3 : Int32)), .null] below meth c s₁ [] 0 0 := Stand.of_body Bd
  have e0 : s₁.heap = h0 := by rw [← hh, Bd.state]; rfl
  have N0 := Fr.nil n0
  change own_Go p e below (Qpn0_3 Z  h0 n0) (own_Fr s ({ frames := 0, cells := 0, slots := 0, locals := 0 } : Room).cells ({ frames := 0, cells := 0, slots := 0, locals := 0 } : Room).slots) (s₁.setTop (entryFrame m #[(.int (0 : Int32)), (.int (3 : Int32)), .null] 3))
  rw [ef_pn0_3 m ]
  refine own_iloadN (pc' := 1) X0 hx rfl (hb hby dpn0_1_0) rfl ?_
  refine own_ifNo (pc' := 4) X0 hx (by decide) (hb hby dpn0_1_1) rfl ?_
  refine own_iloadN (pc' := 5) X0 hx rfl (hb hby dpn0_1_4) rfl ?_
  refine own_iloadN (pc' := 6) X0 hx rfl (hb hby dpn0_1_5) rfl ?_
  refine own_icmpYes (pc' := 16) X0 hx (hb hby dpn0_1_6) (by decide) (by decide) (by decide) ?_
  refine own_iloadN (pc' := 17) X0 hx rfl (hb hby dpn0_1_16) rfl ?_
  refine own_ret X0 hx Bd.returns Bd.notSynchronized (Or.inl ⟨rfl, by simp, _, rfl⟩) (hb hby dpn0_1_17) rfl (by decide) (by decide) ?_
  show Qpn0_3 Z  h0 n0 _ s₁.heap _
  rw [e0]
  exact ⟨rfl, trivial, N0, rfl⟩
theorem ef_pa0_3 (m : MethodId) (x2 : Addr) : entryFrame m #[(.int (0 : Int32)), (.int (3 : Int32)), (.ref x2)] 3 = mkF m 0 #[.val (.int (0 : Int32)), .val (.int (3 : Int32)), .val (.ref x2)] [] := by first | (simp [entryFrame, mkF, argsToLocals, Value.category, maxLocals]; done) | rfl
def Qpa0_3 (Z : State) (af : Addr) (h0 : Heap) (n0 : Nat) (v : Option Value) (h : Heap) (L : List Loc) : Prop := v = some (.int (0 : Int32)) ∧ (True) ∧ Fr n0 L ∧ h = h0
set_option maxRecDepth 65536 in
set_option maxHeartbeats 40000000 in
theorem rmpa0_3 (l : Launch) (Z : State) (a0 : Array Value) (hw : ∀ d ∈ tables_1, d.before a0 Z = true) (ws : List Jvm.Cond) (af : Addr) (h0 : Heap) (n0 : Nat) (Z0 : n0 ≤ h0.size) :
    MetFree l (⟨"jdk/internal/util/Preconditions", "checkIndex", "(IILjava/util/function/BiFunction;)I"⟩ : MethodName) (head1 (Jvm.Cond.code (⟨"jdk/internal/util/Preconditions", "checkIndex", "(IILjava/util/function/BiFunction;)I"⟩ : MethodName) jdk_41_method_11_code 3 (some .int) :: ws) ({ frames := 0, cells := 0, slots := 0, locals := 0 } : Room)) (fun a U => a = #[(.int (0 : Int32)), (.int (3 : Int32)), (.ref af)] ∧ Z.Warmed39 U.vm ∧ U.heap = h0) (fun _ _ _ _ _ => True) (fun _ U o U' => ∃ v L, o = .returned v ∧ Qpa0_3 Z af h0 n0 v U'.heap L ∧ FrameEnd U o U' L ({ frames := 0, cells := 0, slots := 0, locals := 0 } : Room).cells ({ frames := 0, cells := 0, slots := 0, locals := 0 } : Room).slots) := by
  refine MetFree.of_bodySF (plainFor_of_name pn_2) hisR ?_
  intro p e s m args below meth c s₁ Bd hml0 hP hK
  obtain ⟨rfl, hZ, hh⟩ := hP
  have hx := Bd.exec
  have hby := Bd.bytes
  have hml : c.maxLocals = 3 := hml0
  have hown : s.vm.findClass "jdk/internal/util/Preconditions" = some m.cls := findClass_of_methodNamed Bd.named
  have hnm := (name_of_methodNamed Bd.named Bd.method).1
  have X0 : Stand p l e ({ frames := 0, cells := 0, slots := 0, locals := 0 } : Room) s m #[(.int (0 : Int32)), (.int (3 : Int32)), (.ref af)] below meth c s₁ [] 0 0 := Stand.of_body Bd
  have e0 : s₁.heap = h0 := by rw [← hh, Bd.state]; rfl
  have N0 := Fr.nil n0
  change own_Go p e below (Qpa0_3 Z af h0 n0) (own_Fr s ({ frames := 0, cells := 0, slots := 0, locals := 0 } : Room).cells ({ frames := 0, cells := 0, slots := 0, locals := 0 } : Room).slots) (s₁.setTop (entryFrame m #[(.int (0 : Int32)), (.int (3 : Int32)), (.ref af)] 3))
  rw [ef_pa0_3 m af]
  refine own_iloadN (pc' := 1) X0 hx rfl (hb hby dpn0_1_0) rfl ?_
  refine own_ifNo (pc' := 4) X0 hx (by decide) (hb hby dpn0_1_1) rfl ?_
  refine own_iloadN (pc' := 5) X0 hx rfl (hb hby dpn0_1_4) rfl ?_
  refine own_iloadN (pc' := 6) X0 hx rfl (hb hby dpn0_1_5) rfl ?_
  refine own_icmpYes (pc' := 16) X0 hx (hb hby dpn0_1_6) (by decide) (by decide) (by decide) ?_
  refine own_iloadN (pc' := 17) X0 hx rfl (hb hby dpn0_1_16) rfl ?_
  refine own_ret X0 hx Bd.returns Bd.notSynchronized (Or.inl ⟨rfl, by simp, _, rfl⟩) (hb hby dpn0_1_17) rfl (by decide) (by decide) ?_
  show Qpa0_3 Z af h0 n0 _ s₁.heap _
  rw [e0]
  exact ⟨rfl, trivial, N0, rfl⟩
theorem ef_pn1_3 (m : MethodId)  : entryFrame m #[(.int (1 : Int32)), (.int (3 : Int32)), .null] 3 = mkF m 0 #[.val (.int (1 : Int32)), .val (.int (3 : Int32)), .val .null] [] := by first | (simp [entryFrame, mkF, argsToLocals, Value.category, maxLocals]; done) | rfl
def Qpn1_3 (Z : State)  (h0 : Heap) (n0 : Nat) (v : Option Value) (h : Heap) (L : List Loc) : Prop := v = some (.int (1 : Int32)) ∧ (True) ∧ Fr n0 L ∧ h = h0
set_option maxRecDepth 65536 in
set_option maxHeartbeats 40000000 in
theorem rmpn1_3 (l : Launch) (Z : State) (a0 : Array Value) (hw : ∀ d ∈ tables_1, d.before a0 Z = true) (ws : List Jvm.Cond)  (h0 : Heap) (n0 : Nat) (Z0 : n0 ≤ h0.size) :
    MetFree l (⟨"jdk/internal/util/Preconditions", "checkIndex", "(IILjava/util/function/BiFunction;)I"⟩ : MethodName) (head1 (Jvm.Cond.code (⟨"jdk/internal/util/Preconditions", "checkIndex", "(IILjava/util/function/BiFunction;)I"⟩ : MethodName) jdk_41_method_11_code 3 (some .int) :: ws) ({ frames := 0, cells := 0, slots := 0, locals := 0 } : Room)) (fun a U => a = #[(.int (1 : Int32)), (.int (3 : Int32)), .null] ∧ Z.Warmed39 U.vm ∧ U.heap = h0) (fun _ _ _ _ _ => True) (fun _ U o U' => ∃ v L, o = .returned v ∧ Qpn1_3 Z  h0 n0 v U'.heap L ∧ FrameEnd U o U' L ({ frames := 0, cells := 0, slots := 0, locals := 0 } : Room).cells ({ frames := 0, cells := 0, slots := 0, locals := 0 } : Room).slots) := by
  refine MetFree.of_bodySF (plainFor_of_name pn_2) hisR ?_
  intro p e s m args below meth c s₁ Bd hml0 hP hK
  obtain ⟨rfl, hZ, hh⟩ := hP
  have hx := Bd.exec
  have hby := Bd.bytes
  have hml : c.maxLocals = 3 := hml0
  have hown : s.vm.findClass "jdk/internal/util/Preconditions" = some m.cls := findClass_of_methodNamed Bd.named
  have hnm := (name_of_methodNamed Bd.named Bd.method).1
  have X0 : Stand p l e ({ frames := 0, cells := 0, slots := 0, locals := 0 } : Room) s m #[(.int (1 : Int32)), (.int (3 : Int32)), .null] below meth c s₁ [] 0 0 := Stand.of_body Bd
  have e0 : s₁.heap = h0 := by rw [← hh, Bd.state]; rfl
  have N0 := Fr.nil n0
  change own_Go p e below (Qpn1_3 Z  h0 n0) (own_Fr s ({ frames := 0, cells := 0, slots := 0, locals := 0 } : Room).cells ({ frames := 0, cells := 0, slots := 0, locals := 0 } : Room).slots) (s₁.setTop (entryFrame m #[(.int (1 : Int32)), (.int (3 : Int32)), .null] 3))
  rw [ef_pn1_3 m ]
  refine own_iloadN (pc' := 1) X0 hx rfl (hb hby dpn0_1_0) rfl ?_
  refine own_ifNo (pc' := 4) X0 hx (by decide) (hb hby dpn0_1_1) rfl ?_
  refine own_iloadN (pc' := 5) X0 hx rfl (hb hby dpn0_1_4) rfl ?_
  refine own_iloadN (pc' := 6) X0 hx rfl (hb hby dpn0_1_5) rfl ?_
  refine own_icmpYes (pc' := 16) X0 hx (hb hby dpn0_1_6) (by decide) (by decide) (by decide) ?_
  refine own_iloadN (pc' := 17) X0 hx rfl (hb hby dpn0_1_16) rfl ?_
  refine own_ret X0 hx Bd.returns Bd.notSynchronized (Or.inl ⟨rfl, by simp, _, rfl⟩) (hb hby dpn0_1_17) rfl (by decide) (by decide) ?_
  show Qpn1_3 Z  h0 n0 _ s₁.heap _
  rw [e0]
  exact ⟨rfl, trivial, N0, rfl⟩
theorem ef_pa1_3 (m : MethodId) (x2 : Addr) : entryFrame m #[(.int (1 : Int32)), (.int (3 : Int32)), (.ref x2)] 3 = mkF m 0 #[.val (.int (1 : Int32)), .val (.int (3 : Int32)), .val (.ref x2)] [] := by first | (simp [entryFrame, mkF, argsToLocals, Value.category, maxLocals]; done) | rfl
def Qpa1_3 (Z : State) (af : Addr) (h0 : Heap) (n0 : Nat) (v : Option Value) (h : Heap) (L : List Loc) : Prop := v = some (.int (1 : Int32)) ∧ (True) ∧ Fr n0 L ∧ h = h0
set_option maxRecDepth 65536 in
set_option maxHeartbeats 40000000 in
theorem rmpa1_3 (l : Launch) (Z : State) (a0 : Array Value) (hw : ∀ d ∈ tables_1, d.before a0 Z = true) (ws : List Jvm.Cond) (af : Addr) (h0 : Heap) (n0 : Nat) (Z0 : n0 ≤ h0.size) :
    MetFree l (⟨"jdk/internal/util/Preconditions", "checkIndex", "(IILjava/util/function/BiFunction;)I"⟩ : MethodName) (head1 (Jvm.Cond.code (⟨"jdk/internal/util/Preconditions", "checkIndex", "(IILjava/util/function/BiFunction;)I"⟩ : MethodName) jdk_41_method_11_code 3 (some .int) :: ws) ({ frames := 0, cells := 0, slots := 0, locals := 0 } : Room)) (fun a U => a = #[(.int (1 : Int32)), (.int (3 : Int32)), (.ref af)] ∧ Z.Warmed39 U.vm ∧ U.heap = h0) (fun _ _ _ _ _ => True) (fun _ U o U' => ∃ v L, o = .returned v ∧ Qpa1_3 Z af h0 n0 v U'.heap L ∧ FrameEnd U o U' L ({ frames := 0, cells := 0, slots := 0, locals := 0 } : Room).cells ({ frames := 0, cells := 0, slots := 0, locals := 0 } : Room).slots) := by
  refine MetFree.of_bodySF (plainFor_of_name pn_2) hisR ?_
  intro p e s m args below meth c s₁ Bd hml0 hP hK
  obtain ⟨rfl, hZ, hh⟩ := hP
  have hx := Bd.exec
  have hby := Bd.bytes
  have hml : c.maxLocals = 3 := hml0
  have hown : s.vm.findClass "jdk/internal/util/Preconditions" = some m.cls := findClass_of_methodNamed Bd.named
  have hnm := (name_of_methodNamed Bd.named Bd.method).1
  have X0 : Stand p l e ({ frames := 0, cells := 0, slots := 0, locals := 0 } : Room) s m #[(.int (1 : Int32)), (.int (3 : Int32)), (.ref af)] below meth c s₁ [] 0 0 := Stand.of_body Bd
  have e0 : s₁.heap = h0 := by rw [← hh, Bd.state]; rfl
  have N0 := Fr.nil n0
  change own_Go p e below (Qpa1_3 Z af h0 n0) (own_Fr s ({ frames := 0, cells := 0, slots := 0, locals := 0 } : Room).cells ({ frames := 0, cells := 0, slots := 0, locals := 0 } : Room).slots) (s₁.setTop (entryFrame m #[(.int (1 : Int32)), (.int (3 : Int32)), (.ref af)] 3))
  rw [ef_pa1_3 m af]
  refine own_iloadN (pc' := 1) X0 hx rfl (hb hby dpn0_1_0) rfl ?_
  refine own_ifNo (pc' := 4) X0 hx (by decide) (hb hby dpn0_1_1) rfl ?_
  refine own_iloadN (pc' := 5) X0 hx rfl (hb hby dpn0_1_4) rfl ?_
  refine own_iloadN (pc' := 6) X0 hx rfl (hb hby dpn0_1_5) rfl ?_
  refine own_icmpYes (pc' := 16) X0 hx (hb hby dpn0_1_6) (by decide) (by decide) (by decide) ?_
  refine own_iloadN (pc' := 17) X0 hx rfl (hb hby dpn0_1_16) rfl ?_
  refine own_ret X0 hx Bd.returns Bd.notSynchronized (Or.inl ⟨rfl, by simp, _, rfl⟩) (hb hby dpn0_1_17) rfl (by decide) (by decide) ?_
  show Qpa1_3 Z af h0 n0 _ s₁.heap _
  rw [e0]
  exact ⟨rfl, trivial, N0, rfl⟩
theorem ef_pn2_3 (m : MethodId)  : entryFrame m #[(.int (2 : Int32)), (.int (3 : Int32)), .null] 3 = mkF m 0 #[.val (.int (2 : Int32)), .val (.int (3 : Int32)), .val .null] [] := by first | (simp [entryFrame, mkF, argsToLocals, Value.category, maxLocals]; done) | rfl
def Qpn2_3 (Z : State)  (h0 : Heap) (n0 : Nat) (v : Option Value) (h : Heap) (L : List Loc) : Prop := v = some (.int (2 : Int32)) ∧ (True) ∧ Fr n0 L ∧ h = h0
set_option maxRecDepth 65536 in
set_option maxHeartbeats 40000000 in
theorem rmpn2_3 (l : Launch) (Z : State) (a0 : Array Value) (hw : ∀ d ∈ tables_1, d.before a0 Z = true) (ws : List Jvm.Cond)  (h0 : Heap) (n0 : Nat) (Z0 : n0 ≤ h0.size) :
    MetFree l (⟨"jdk/internal/util/Preconditions", "checkIndex", "(IILjava/util/function/BiFunction;)I"⟩ : MethodName) (head1 (Jvm.Cond.code (⟨"jdk/internal/util/Preconditions", "checkIndex", "(IILjava/util/function/BiFunction;)I"⟩ : MethodName) jdk_41_method_11_code 3 (some .int) :: ws) ({ frames := 0, cells := 0, slots := 0, locals := 0 } : Room)) (fun a U => a = #[(.int (2 : Int32)), (.int (3 : Int32)), .null] ∧ Z.Warmed39 U.vm ∧ U.heap = h0) (fun _ _ _ _ _ => True) (fun _ U o U' => ∃ v L, o = .returned v ∧ Qpn2_3 Z  h0 n0 v U'.heap L ∧ FrameEnd U o U' L ({ frames := 0, cells := 0, slots := 0, locals := 0 } : Room).cells ({ frames := 0, cells := 0, slots := 0, locals := 0 } : Room).slots) := by
  refine MetFree.of_bodySF (plainFor_of_name pn_2) hisR ?_
  intro p e s m args below meth c s₁ Bd hml0 hP hK
  obtain ⟨rfl, hZ, hh⟩ := hP
  have hx := Bd.exec
  have hby := Bd.bytes
  have hml : c.maxLocals = 3 := hml0
  have hown : s.vm.findClass "jdk/internal/util/Preconditions" = some m.cls := findClass_of_methodNamed Bd.named
  have hnm := (name_of_methodNamed Bd.named Bd.method).1
  have X0 : Stand p l e ({ frames := 0, cells := 0, slots := 0, locals := 0 } : Room) s m #[(.int (2 : Int32)), (.int (3 : Int32)), .null] below meth c s₁ [] 0 0 := Stand.of_body Bd
  have e0 : s₁.heap = h0 := by rw [← hh, Bd.state]; rfl
  have N0 := Fr.nil n0
  change own_Go p e below (Qpn2_3 Z  h0 n0) (own_Fr s ({ frames := 0, cells := 0, slots := 0, locals := 0 } : Room).cells ({ frames := 0, cells := 0, slots := 0, locals := 0 } : Room).slots) (s₁.setTop (entryFrame m #[(.int (2 : Int32)), (.int (3 : Int32)), .null] 3))
  rw [ef_pn2_3 m ]
  refine own_iloadN (pc' := 1) X0 hx rfl (hb hby dpn0_1_0) rfl ?_
  refine own_ifNo (pc' := 4) X0 hx (by decide) (hb hby dpn0_1_1) rfl ?_
  refine own_iloadN (pc' := 5) X0 hx rfl (hb hby dpn0_1_4) rfl ?_
  refine own_iloadN (pc' := 6) X0 hx rfl (hb hby dpn0_1_5) rfl ?_
  refine own_icmpYes (pc' := 16) X0 hx (hb hby dpn0_1_6) (by decide) (by decide) (by decide) ?_
  refine own_iloadN (pc' := 17) X0 hx rfl (hb hby dpn0_1_16) rfl ?_
  refine own_ret X0 hx Bd.returns Bd.notSynchronized (Or.inl ⟨rfl, by simp, _, rfl⟩) (hb hby dpn0_1_17) rfl (by decide) (by decide) ?_
  show Qpn2_3 Z  h0 n0 _ s₁.heap _
  rw [e0]
  exact ⟨rfl, trivial, N0, rfl⟩
theorem ef_pa2_3 (m : MethodId) (x2 : Addr) : entryFrame m #[(.int (2 : Int32)), (.int (3 : Int32)), (.ref x2)] 3 = mkF m 0 #[.val (.int (2 : Int32)), .val (.int (3 : Int32)), .val (.ref x2)] [] := by first | (simp [entryFrame, mkF, argsToLocals, Value.category, maxLocals]; done) | rfl
def Qpa2_3 (Z : State) (af : Addr) (h0 : Heap) (n0 : Nat) (v : Option Value) (h : Heap) (L : List Loc) : Prop := v = some (.int (2 : Int32)) ∧ (True) ∧ Fr n0 L ∧ h = h0
set_option maxRecDepth 65536 in
set_option maxHeartbeats 40000000 in
theorem rmpa2_3 (l : Launch) (Z : State) (a0 : Array Value) (hw : ∀ d ∈ tables_1, d.before a0 Z = true) (ws : List Jvm.Cond) (af : Addr) (h0 : Heap) (n0 : Nat) (Z0 : n0 ≤ h0.size) :
    MetFree l (⟨"jdk/internal/util/Preconditions", "checkIndex", "(IILjava/util/function/BiFunction;)I"⟩ : MethodName) (head1 (Jvm.Cond.code (⟨"jdk/internal/util/Preconditions", "checkIndex", "(IILjava/util/function/BiFunction;)I"⟩ : MethodName) jdk_41_method_11_code 3 (some .int) :: ws) ({ frames := 0, cells := 0, slots := 0, locals := 0 } : Room)) (fun a U => a = #[(.int (2 : Int32)), (.int (3 : Int32)), (.ref af)] ∧ Z.Warmed39 U.vm ∧ U.heap = h0) (fun _ _ _ _ _ => True) (fun _ U o U' => ∃ v L, o = .returned v ∧ Qpa2_3 Z af h0 n0 v U'.heap L ∧ FrameEnd U o U' L ({ frames := 0, cells := 0, slots := 0, locals := 0 } : Room).cells ({ frames := 0, cells := 0, slots := 0, locals := 0 } : Room).slots) := by
  refine MetFree.of_bodySF (plainFor_of_name pn_2) hisR ?_
  intro p e s m args below meth c s₁ Bd hml0 hP hK
  obtain ⟨rfl, hZ, hh⟩ := hP
  have hx := Bd.exec
  have hby := Bd.bytes
  have hml : c.maxLocals = 3 := hml0
  have hown : s.vm.findClass "jdk/internal/util/Preconditions" = some m.cls := findClass_of_methodNamed Bd.named
  have hnm := (name_of_methodNamed Bd.named Bd.method).1
  have X0 : Stand p l e ({ frames := 0, cells := 0, slots := 0, locals := 0 } : Room) s m #[(.int (2 : Int32)), (.int (3 : Int32)), (.ref af)] below meth c s₁ [] 0 0 := Stand.of_body Bd
  have e0 : s₁.heap = h0 := by rw [← hh, Bd.state]; rfl
  have N0 := Fr.nil n0
  change own_Go p e below (Qpa2_3 Z af h0 n0) (own_Fr s ({ frames := 0, cells := 0, slots := 0, locals := 0 } : Room).cells ({ frames := 0, cells := 0, slots := 0, locals := 0 } : Room).slots) (s₁.setTop (entryFrame m #[(.int (2 : Int32)), (.int (3 : Int32)), (.ref af)] 3))
  rw [ef_pa2_3 m af]
  refine own_iloadN (pc' := 1) X0 hx rfl (hb hby dpn0_1_0) rfl ?_
  refine own_ifNo (pc' := 4) X0 hx (by decide) (hb hby dpn0_1_1) rfl ?_
  refine own_iloadN (pc' := 5) X0 hx rfl (hb hby dpn0_1_4) rfl ?_
  refine own_iloadN (pc' := 6) X0 hx rfl (hb hby dpn0_1_5) rfl ?_
  refine own_icmpYes (pc' := 16) X0 hx (hb hby dpn0_1_6) (by decide) (by decide) (by decide) ?_
  refine own_iloadN (pc' := 17) X0 hx rfl (hb hby dpn0_1_16) rfl ?_
  refine own_ret X0 hx Bd.returns Bd.notSynchronized (Or.inl ⟨rfl, by simp, _, rfl⟩) (hb hby dpn0_1_17) rfl (by decide) (by decide) ?_
  show Qpa2_3 Z af h0 n0 _ s₁.heap _
  rw [e0]
  exact ⟨rfl, trivial, N0, rfl⟩
theorem pd_8 : parseMethodDescriptor "(II)V" = some ⟨[.int, .int], none⟩ := by decide +kernel
theorem dsc0_1_0 : decode jdk_42_method_155_code 0 = .ok (.iload_n 0, 1) := by decide +kernel
theorem dsc0_1_1 : decode jdk_42_method_155_code 1 = .ok (.iload_n 1, 1) := by decide +kernel
theorem dsc0_1_2 : decode jdk_42_method_155_code 2 = .ok (.getstatic 1053, 3) := by decide +kernel
theorem dsc0_1_5 : decode jdk_42_method_155_code 5 = .ok (.invokestatic 1059, 3) := by decide +kernel
theorem dsc0_1_8 : decode jdk_42_method_155_code 8 = .ok (.pop, 1) := by decide +kernel
theorem dsc0_1_9 : decode jdk_42_method_155_code 9 = .ok (.return_, 1) := by decide +kernel
theorem ef_sc0_1 (m : MethodId)  : entryFrame m #[(.int (0 : Int32)), (.int (1 : Int32))] 2 = mkF m 0 #[.val (.int (0 : Int32)), .val (.int (1 : Int32))] [] := by first | (simp [entryFrame, mkF, argsToLocals, Value.category, maxLocals]; done) | rfl
def Qsc0_1 (Z : State)  (fv : Value) (h0 : Heap) (n0 : Nat) (v : Option Value) (h : Heap) (L : List Loc) : Prop := v = none ∧ (True) ∧ Fr n0 L ∧ h = h0
set_option maxRecDepth 65536 in
set_option maxHeartbeats 40000000 in
theorem rmsc0_1 (l : Launch) (Z : State) (a0 : Array Value) (hw : ∀ d ∈ tables_1, d.before a0 Z = true) (ws : List Jvm.Cond)  (fv : Value) (h0 : Heap) (n0 : Nat) (Z0 : n0 ≤ h0.size) (S_SIOOBE_FORMATTER : Sta Z h0 "jdk/internal/util/Preconditions" "SIOOBE_FORMATTER" "Ljava/util/function/BiFunction;" fv) (hfv : fv.isRef = true) :
    MetFree l (⟨"java/lang/String", "checkIndex", "(II)V"⟩ : MethodName) (head1 (Jvm.Cond.code (⟨"java/lang/String", "checkIndex", "(II)V"⟩ : MethodName) jdk_42_method_155_code 2 none :: ws) ({ frames := 1, cells := 0, slots := 0, locals := 14 } : Room)) (fun a U => a = #[(.int (0 : Int32)), (.int (1 : Int32))] ∧ Z.Warmed39 U.vm ∧ U.heap = h0) (fun _ _ _ _ _ => True) (fun _ U o U' => ∃ v L, o = .returned v ∧ Qsc0_1 Z fv h0 n0 v U'.heap L ∧ FrameEnd U o U' L ({ frames := 1, cells := 0, slots := 0, locals := 14 } : Room).cells ({ frames := 1, cells := 0, slots := 0, locals := 14 } : Room).slots) := by
  refine MetFree.of_bodySF (plainFor_of_name pn_1) hisR ?_
  intro p e s m args below meth c s₁ Bd hml0 hP hK
  obtain ⟨rfl, hZ, hh⟩ := hP
  have hx := Bd.exec
  have hby := Bd.bytes
  have hml : c.maxLocals = 2 := hml0
  have hown : s.vm.findClass "java/lang/String" = some m.cls := findClass_of_methodNamed Bd.named
  have hnm := (name_of_methodNamed Bd.named Bd.method).1
  have X0 : Stand p l e ({ frames := 1, cells := 0, slots := 0, locals := 14 } : Room) s m #[(.int (0 : Int32)), (.int (1 : Int32))] below meth c s₁ [] 0 0 := Stand.of_body Bd
  have e0 : s₁.heap = h0 := by rw [← hh, Bd.state]; rfl
  have N0 := Fr.nil n0
  change own_Go p e below (Qsc0_1 Z fv h0 n0) (own_Fr s ({ frames := 1, cells := 0, slots := 0, locals := 14 } : Room).cells ({ frames := 1, cells := 0, slots := 0, locals := 14 } : Room).slots) (s₁.setTop (entryFrame m #[(.int (0 : Int32)), (.int (1 : Int32))] 2))
  rw [ef_sc0_1 m ]
  rcases ref_cases hfv with rfl | ⟨af, rfl⟩
  · skip
    refine own_iloadN (pc' := 1) X0 hx rfl (hb hby dsc0_1_0) rfl ?_
    refine own_iloadN (pc' := 2) X0 hx rfl (hb hby dsc0_1_1) rfl ?_
    obtain ⟨T102, X102, e102, st102⟩ := getS X0 hx hZ (host := "") hown (hw _ (List.mem_of_getElem? (i := 92) rfl)) Via.refl e0 S_SIOOBE_FORMATTER (g := (mkF m 2 #[.val (.int (0 : Int32)), .val (.int (1 : Int32))] [(.int (1 : Int32)), (.int (0 : Int32))])) rfl (hb hby dsc0_1_2)
    refine own_by st102 ?_
    show own_Go p e below (Qsc0_1 Z .null h0 n0) (own_Fr s ({ frames := 1, cells := 0, slots := 0, locals := 14 } : Room).cells ({ frames := 1, cells := 0, slots := 0, locals := 14 } : Room).slots) (T102.setTop (mkF m 5 #[.val (.int (0 : Int32)), .val (.int (1 : Int32))] [.null, (.int (1 : Int32)), (.int (0 : Int32))]))
    obtain ⟨_, _, ⟨T103, L103, k103, n103⟩, -, X103, ⟨Lc103, hQ103, l103, y103, z103⟩, st103⟩ := Jvm.LawKit.callS X102 hx (y := (⟨"jdk/internal/util/Preconditions", "checkIndex", "(IILjava/util/function/BiFunction;)I"⟩ : MethodName)) hown (mvT hZ (hw _ (List.mem_of_getElem? (i := 94) rfl))) (mvT hZ (hw _ (List.mem_of_getElem? (i := 95) rfl))) (mvT hZ (hw _ (List.mem_of_getElem? (i := 93) rfl))) (mvT hZ (hw _ (List.mem_of_getElem? (i := 96) rfl))) (by decide) (backOf (W := 0) (rmpn0_1 l Z a0 hw []  h0 n0 Z0 ) hZ (hw _ (List.mem_of_getElem? (i := 96) rfl)) (hw _ (List.mem_of_getElem? (i := 93) rfl)) (by decide) (by decide)) (g := (mkF m 5 #[.val (.int (0 : Int32)), .val (.int (1 : Int32))] [.null, (.int (1 : Int32)), (.int (0 : Int32))])) rfl (by rw [hml]; rfl) (argsL := [(.int (0 : Int32)), (.int (1 : Int32)), .null]) (rest := []) (lenOf pd_7 rfl) rfl (by show 2 * 0 + _ ≤ _; exact Nat.le_of_eq rfl) (hb hby dsc0_1_5) (fun _ _ => ⟨rfl, e102, (by decide : 0 + 0 ≤ _), (by decide : 0 + 0 ≤ _)⟩)
    dsimp only [Pt.U, Pt.locs, Pt.cells, Pt.slots] at X103 l103 y103 z103 st103 hQ103
    subst y103 z103
    obtain ⟨rfl, pp103, N103, e103⟩ := hQ103
    have N103a : Fr n0 L103 := by rw [l103]; exact Fr.app N0 N103
    refine own_by st103 ?_
    show own_Go p e below (Qsc0_1 Z .null h0 n0) (own_Fr s ({ frames := 1, cells := 0, slots := 0, locals := 14 } : Room).cells ({ frames := 1, cells := 0, slots := 0, locals := 14 } : Room).slots) (T103.setTop (mkF m 8 #[.val (.int (0 : Int32)), .val (.int (1 : Int32))] [(.int (0 : Int32))]))
    refine own_pop (pc' := 9) X103 hx rfl (hb hby dsc0_1_8) rfl ?_
    refine own_ret0 X103 hx Bd.returns Bd.notSynchronized (hb hby dsc0_1_9) rfl (by decide) (by decide) ?_
    show Qsc0_1 Z .null h0 n0 _ T103.heap _
    rw [e103]
    exact ⟨rfl, trivial, N103a, rfl⟩
  · skip
    refine own_iloadN (pc' := 1) X0 hx rfl (hb hby dsc0_1_0) rfl ?_
    refine own_iloadN (pc' := 2) X0 hx rfl (hb hby dsc0_1_1) rfl ?_
    obtain ⟨T104, X104, e104, st104⟩ := getS X0 hx hZ (host := "") hown (hw _ (List.mem_of_getElem? (i := 92) rfl)) Via.refl e0 S_SIOOBE_FORMATTER (g := (mkF m 2 #[.val (.int (0 : Int32)), .val (.int (1 : Int32))] [(.int (1 : Int32)), (.int (0 : Int32))])) rfl (hb hby dsc0_1_2)
    refine own_by st104 ?_
    show own_Go p e below (Qsc0_1 Z (.ref af) h0 n0) (own_Fr s ({ frames := 1, cells := 0, slots := 0, locals := 14 } : Room).cells ({ frames := 1, cells := 0, slots := 0, locals := 14 } : Room).slots) (T104.setTop (mkF m 5 #[.val (.int (0 : Int32)), .val (.int (1 : Int32))] [(.ref af), (.int (1 : Int32)), (.int (0 : Int32))]))
    obtain ⟨_, _, ⟨T105, L105, k105, n105⟩, -, X105, ⟨Lc105, hQ105, l105, y105, z105⟩, st105⟩ := Jvm.LawKit.callS X104 hx (y := (⟨"jdk/internal/util/Preconditions", "checkIndex", "(IILjava/util/function/BiFunction;)I"⟩ : MethodName)) hown (mvT hZ (hw _ (List.mem_of_getElem? (i := 94) rfl))) (mvT hZ (hw _ (List.mem_of_getElem? (i := 95) rfl))) (mvT hZ (hw _ (List.mem_of_getElem? (i := 93) rfl))) (mvT hZ (hw _ (List.mem_of_getElem? (i := 96) rfl))) (by decide) (backOf (W := 0) (rmpa0_1 l Z a0 hw [] af h0 n0 Z0 ) hZ (hw _ (List.mem_of_getElem? (i := 96) rfl)) (hw _ (List.mem_of_getElem? (i := 93) rfl)) (by decide) (by decide)) (g := (mkF m 5 #[.val (.int (0 : Int32)), .val (.int (1 : Int32))] [(.ref af), (.int (1 : Int32)), (.int (0 : Int32))])) rfl (by rw [hml]; rfl) (argsL := [(.int (0 : Int32)), (.int (1 : Int32)), (.ref af)]) (rest := []) (lenOf pd_7 rfl) rfl (by show 2 * 0 + _ ≤ _; exact Nat.le_of_eq rfl) (hb hby dsc0_1_5) (fun _ _ => ⟨rfl, e104, (by decide : 0 + 0 ≤ _), (by decide : 0 + 0 ≤ _)⟩)
    dsimp only [Pt.U, Pt.locs, Pt.cells, Pt.slots] at X105 l105 y105 z105 st105 hQ105
    subst y105 z105
    obtain ⟨rfl, pp105, N105, e105⟩ := hQ105
    have N105a : Fr n0 L105 := by rw [l105]; exact Fr.app N0 N105
    refine own_by st105 ?_
    show own_Go p e below (Qsc0_1 Z (.ref af) h0 n0) (own_Fr s ({ frames := 1, cells := 0, slots := 0, locals := 14 } : Room).cells ({ frames := 1, cells := 0, slots := 0, locals := 14 } : Room).slots) (T105.setTop (mkF m 8 #[.val (.int (0 : Int32)), .val (.int (1 : Int32))] [(.int (0 : Int32))]))
    refine own_pop (pc' := 9) X105 hx rfl (hb hby dsc0_1_8) rfl ?_
    refine own_ret0 X105 hx Bd.returns Bd.notSynchronized (hb hby dsc0_1_9) rfl (by decide) (by decide) ?_
    show Qsc0_1 Z (.ref af) h0 n0 _ T105.heap _
    rw [e105]
    exact ⟨rfl, trivial, N105a, rfl⟩
theorem ef_sc0_2 (m : MethodId)  : entryFrame m #[(.int (0 : Int32)), (.int (2 : Int32))] 2 = mkF m 0 #[.val (.int (0 : Int32)), .val (.int (2 : Int32))] [] := by first | (simp [entryFrame, mkF, argsToLocals, Value.category, maxLocals]; done) | rfl
def Qsc0_2 (Z : State)  (fv : Value) (h0 : Heap) (n0 : Nat) (v : Option Value) (h : Heap) (L : List Loc) : Prop := v = none ∧ (True) ∧ Fr n0 L ∧ h = h0
set_option maxRecDepth 65536 in
set_option maxHeartbeats 40000000 in
theorem rmsc0_2 (l : Launch) (Z : State) (a0 : Array Value) (hw : ∀ d ∈ tables_1, d.before a0 Z = true) (ws : List Jvm.Cond)  (fv : Value) (h0 : Heap) (n0 : Nat) (Z0 : n0 ≤ h0.size) (S_SIOOBE_FORMATTER : Sta Z h0 "jdk/internal/util/Preconditions" "SIOOBE_FORMATTER" "Ljava/util/function/BiFunction;" fv) (hfv : fv.isRef = true) :
    MetFree l (⟨"java/lang/String", "checkIndex", "(II)V"⟩ : MethodName) (head1 (Jvm.Cond.code (⟨"java/lang/String", "checkIndex", "(II)V"⟩ : MethodName) jdk_42_method_155_code 2 none :: ws) ({ frames := 1, cells := 0, slots := 0, locals := 14 } : Room)) (fun a U => a = #[(.int (0 : Int32)), (.int (2 : Int32))] ∧ Z.Warmed39 U.vm ∧ U.heap = h0) (fun _ _ _ _ _ => True) (fun _ U o U' => ∃ v L, o = .returned v ∧ Qsc0_2 Z fv h0 n0 v U'.heap L ∧ FrameEnd U o U' L ({ frames := 1, cells := 0, slots := 0, locals := 14 } : Room).cells ({ frames := 1, cells := 0, slots := 0, locals := 14 } : Room).slots) := by
  refine MetFree.of_bodySF (plainFor_of_name pn_1) hisR ?_
  intro p e s m args below meth c s₁ Bd hml0 hP hK
  obtain ⟨rfl, hZ, hh⟩ := hP
  have hx := Bd.exec
  have hby := Bd.bytes
  have hml : c.maxLocals = 2 := hml0
  have hown : s.vm.findClass "java/lang/String" = some m.cls := findClass_of_methodNamed Bd.named
  have hnm := (name_of_methodNamed Bd.named Bd.method).1
  have X0 : Stand p l e ({ frames := 1, cells := 0, slots := 0, locals := 14 } : Room) s m #[(.int (0 : Int32)), (.int (2 : Int32))] below meth c s₁ [] 0 0 := Stand.of_body Bd
  have e0 : s₁.heap = h0 := by rw [← hh, Bd.state]; rfl
  have N0 := Fr.nil n0
  change own_Go p e below (Qsc0_2 Z fv h0 n0) (own_Fr s ({ frames := 1, cells := 0, slots := 0, locals := 14 } : Room).cells ({ frames := 1, cells := 0, slots := 0, locals := 14 } : Room).slots) (s₁.setTop (entryFrame m #[(.int (0 : Int32)), (.int (2 : Int32))] 2))
  rw [ef_sc0_2 m ]
  rcases ref_cases hfv with rfl | ⟨af, rfl⟩
  · skip
    refine own_iloadN (pc' := 1) X0 hx rfl (hb hby dsc0_1_0) rfl ?_
    refine own_iloadN (pc' := 2) X0 hx rfl (hb hby dsc0_1_1) rfl ?_
    obtain ⟨T102, X102, e102, st102⟩ := getS X0 hx hZ (host := "") hown (hw _ (List.mem_of_getElem? (i := 92) rfl)) Via.refl e0 S_SIOOBE_FORMATTER (g := (mkF m 2 #[.val (.int (0 : Int32)), .val (.int (2 : Int32))] [(.int (2 : Int32)), (.int (0 : Int32))])) rfl (hb hby dsc0_1_2)
    refine own_by st102 ?_
    show own_Go p e below (Qsc0_2 Z .null h0 n0) (own_Fr s ({ frames := 1, cells := 0, slots := 0, locals := 14 } : Room).cells ({ frames := 1, cells := 0, slots := 0, locals := 14 } : Room).slots) (T102.setTop (mkF m 5 #[.val (.int (0 : Int32)), .val (.int (2 : Int32))] [.null, (.int (2 : Int32)), (.int (0 : Int32))]))
    obtain ⟨_, _, ⟨T103, L103, k103, n103⟩, -, X103, ⟨Lc103, hQ103, l103, y103, z103⟩, st103⟩ := Jvm.LawKit.callS X102 hx (y := (⟨"jdk/internal/util/Preconditions", "checkIndex", "(IILjava/util/function/BiFunction;)I"⟩ : MethodName)) hown (mvT hZ (hw _ (List.mem_of_getElem? (i := 94) rfl))) (mvT hZ (hw _ (List.mem_of_getElem? (i := 95) rfl))) (mvT hZ (hw _ (List.mem_of_getElem? (i := 93) rfl))) (mvT hZ (hw _ (List.mem_of_getElem? (i := 96) rfl))) (by decide) (backOf (W := 0) (rmpn0_2 l Z a0 hw []  h0 n0 Z0 ) hZ (hw _ (List.mem_of_getElem? (i := 96) rfl)) (hw _ (List.mem_of_getElem? (i := 93) rfl)) (by decide) (by decide)) (g := (mkF m 5 #[.val (.int (0 : Int32)), .val (.int (2 : Int32))] [.null, (.int (2 : Int32)), (.int (0 : Int32))])) rfl (by rw [hml]; rfl) (argsL := [(.int (0 : Int32)), (.int (2 : Int32)), .null]) (rest := []) (lenOf pd_7 rfl) rfl (by show 2 * 0 + _ ≤ _; exact Nat.le_of_eq rfl) (hb hby dsc0_1_5) (fun _ _ => ⟨rfl, e102, (by decide : 0 + 0 ≤ _), (by decide : 0 + 0 ≤ _)⟩)
    dsimp only [Pt.U, Pt.locs, Pt.cells, Pt.slots] at X103 l103 y103 z103 st103 hQ103
    subst y103 z103
    obtain ⟨rfl, pp103, N103, e103⟩ := hQ103
    have N103a : Fr n0 L103 := by rw [l103]; exact Fr.app N0 N103
    refine own_by st103 ?_
    show own_Go p e below (Qsc0_2 Z .null h0 n0) (own_Fr s ({ frames := 1, cells := 0, slots := 0, locals := 14 } : Room).cells ({ frames := 1, cells := 0, slots := 0, locals := 14 } : Room).slots) (T103.setTop (mkF m 8 #[.val (.int (0 : Int32)), .val (.int (2 : Int32))] [(.int (0 : Int32))]))
    refine own_pop (pc' := 9) X103 hx rfl (hb hby dsc0_1_8) rfl ?_
    refine own_ret0 X103 hx Bd.returns Bd.notSynchronized (hb hby dsc0_1_9) rfl (by decide) (by decide) ?_
    show Qsc0_2 Z .null h0 n0 _ T103.heap _
    rw [e103]
    exact ⟨rfl, trivial, N103a, rfl⟩
  · skip
    refine own_iloadN (pc' := 1) X0 hx rfl (hb hby dsc0_1_0) rfl ?_
    refine own_iloadN (pc' := 2) X0 hx rfl (hb hby dsc0_1_1) rfl ?_
    obtain ⟨T104, X104, e104, st104⟩ := getS X0 hx hZ (host := "") hown (hw _ (List.mem_of_getElem? (i := 92) rfl)) Via.refl e0 S_SIOOBE_FORMATTER (g := (mkF m 2 #[.val (.int (0 : Int32)), .val (.int (2 : Int32))] [(.int (2 : Int32)), (.int (0 : Int32))])) rfl (hb hby dsc0_1_2)
    refine own_by st104 ?_
    show own_Go p e below (Qsc0_2 Z (.ref af) h0 n0) (own_Fr s ({ frames := 1, cells := 0, slots := 0, locals := 14 } : Room).cells ({ frames := 1, cells := 0, slots := 0, locals := 14 } : Room).slots) (T104.setTop (mkF m 5 #[.val (.int (0 : Int32)), .val (.int (2 : Int32))] [(.ref af), (.int (2 : Int32)), (.int (0 : Int32))]))
    obtain ⟨_, _, ⟨T105, L105, k105, n105⟩, -, X105, ⟨Lc105, hQ105, l105, y105, z105⟩, st105⟩ := Jvm.LawKit.callS X104 hx (y := (⟨"jdk/internal/util/Preconditions", "checkIndex", "(IILjava/util/function/BiFunction;)I"⟩ : MethodName)) hown (mvT hZ (hw _ (List.mem_of_getElem? (i := 94) rfl))) (mvT hZ (hw _ (List.mem_of_getElem? (i := 95) rfl))) (mvT hZ (hw _ (List.mem_of_getElem? (i := 93) rfl))) (mvT hZ (hw _ (List.mem_of_getElem? (i := 96) rfl))) (by decide) (backOf (W := 0) (rmpa0_2 l Z a0 hw [] af h0 n0 Z0 ) hZ (hw _ (List.mem_of_getElem? (i := 96) rfl)) (hw _ (List.mem_of_getElem? (i := 93) rfl)) (by decide) (by decide)) (g := (mkF m 5 #[.val (.int (0 : Int32)), .val (.int (2 : Int32))] [(.ref af), (.int (2 : Int32)), (.int (0 : Int32))])) rfl (by rw [hml]; rfl) (argsL := [(.int (0 : Int32)), (.int (2 : Int32)), (.ref af)]) (rest := []) (lenOf pd_7 rfl) rfl (by show 2 * 0 + _ ≤ _; exact Nat.le_of_eq rfl) (hb hby dsc0_1_5) (fun _ _ => ⟨rfl, e104, (by decide : 0 + 0 ≤ _), (by decide : 0 + 0 ≤ _)⟩)
    dsimp only [Pt.U, Pt.locs, Pt.cells, Pt.slots] at X105 l105 y105 z105 st105 hQ105
    subst y105 z105
    obtain ⟨rfl, pp105, N105, e105⟩ := hQ105
    have N105a : Fr n0 L105 := by rw [l105]; exact Fr.app N0 N105
    refine own_by st105 ?_
    show own_Go p e below (Qsc0_2 Z (.ref af) h0 n0) (own_Fr s ({ frames := 1, cells := 0, slots := 0, locals := 14 } : Room).cells ({ frames := 1, cells := 0, slots := 0, locals := 14 } : Room).slots) (T105.setTop (mkF m 8 #[.val (.int (0 : Int32)), .val (.int (2 : Int32))] [(.int (0 : Int32))]))
    refine own_pop (pc' := 9) X105 hx rfl (hb hby dsc0_1_8) rfl ?_
    refine own_ret0 X105 hx Bd.returns Bd.notSynchronized (hb hby dsc0_1_9) rfl (by decide) (by decide) ?_
    show Qsc0_2 Z (.ref af) h0 n0 _ T105.heap _
    rw [e105]
    exact ⟨rfl, trivial, N105a, rfl⟩
theorem ef_sc1_2 (m : MethodId)  : entryFrame m #[(.int (1 : Int32)), (.int (2 : Int32))] 2 = mkF m 0 #[.val (.int (1 : Int32)), .val (.int (2 : Int32))] [] := by first | (simp [entryFrame, mkF, argsToLocals, Value.category, maxLocals]; done) | rfl
def Qsc1_2 (Z : State)  (fv : Value) (h0 : Heap) (n0 : Nat) (v : Option Value) (h : Heap) (L : List Loc) : Prop := v = none ∧ (True) ∧ Fr n0 L ∧ h = h0
set_option maxRecDepth 65536 in
set_option maxHeartbeats 40000000 in
theorem rmsc1_2 (l : Launch) (Z : State) (a0 : Array Value) (hw : ∀ d ∈ tables_1, d.before a0 Z = true) (ws : List Jvm.Cond)  (fv : Value) (h0 : Heap) (n0 : Nat) (Z0 : n0 ≤ h0.size) (S_SIOOBE_FORMATTER : Sta Z h0 "jdk/internal/util/Preconditions" "SIOOBE_FORMATTER" "Ljava/util/function/BiFunction;" fv) (hfv : fv.isRef = true) :
    MetFree l (⟨"java/lang/String", "checkIndex", "(II)V"⟩ : MethodName) (head1 (Jvm.Cond.code (⟨"java/lang/String", "checkIndex", "(II)V"⟩ : MethodName) jdk_42_method_155_code 2 none :: ws) ({ frames := 1, cells := 0, slots := 0, locals := 14 } : Room)) (fun a U => a = #[(.int (1 : Int32)), (.int (2 : Int32))] ∧ Z.Warmed39 U.vm ∧ U.heap = h0) (fun _ _ _ _ _ => True) (fun _ U o U' => ∃ v L, o = .returned v ∧ Qsc1_2 Z fv h0 n0 v U'.heap L ∧ FrameEnd U o U' L ({ frames := 1, cells := 0, slots := 0, locals := 14 } : Room).cells ({ frames := 1, cells := 0, slots := 0, locals := 14 } : Room).slots) := by
  refine MetFree.of_bodySF (plainFor_of_name pn_1) hisR ?_
  intro p e s m args below meth c s₁ Bd hml0 hP hK
  obtain ⟨rfl, hZ, hh⟩ := hP
  have hx := Bd.exec
  have hby := Bd.bytes
  have hml : c.maxLocals = 2 := hml0
  have hown : s.vm.findClass "java/lang/String" = some m.cls := findClass_of_methodNamed Bd.named
  have hnm := (name_of_methodNamed Bd.named Bd.method).1
  have X0 : Stand p l e ({ frames := 1, cells := 0, slots := 0, locals := 14 } : Room) s m #[(.int (1 : Int32)), (.int (2 : Int32))] below meth c s₁ [] 0 0 := Stand.of_body Bd
  have e0 : s₁.heap = h0 := by rw [← hh, Bd.state]; rfl
  have N0 := Fr.nil n0
  change own_Go p e below (Qsc1_2 Z fv h0 n0) (own_Fr s ({ frames := 1, cells := 0, slots := 0, locals := 14 } : Room).cells ({ frames := 1, cells := 0, slots := 0, locals := 14 } : Room).slots) (s₁.setTop (entryFrame m #[(.int (1 : Int32)), (.int (2 : Int32))] 2))
  rw [ef_sc1_2 m ]
  rcases ref_cases hfv with rfl | ⟨af, rfl⟩
  · skip
    refine own_iloadN (pc' := 1) X0 hx rfl (hb hby dsc0_1_0) rfl ?_
    refine own_iloadN (pc' := 2) X0 hx rfl (hb hby dsc0_1_1) rfl ?_
    obtain ⟨T102, X102, e102, st102⟩ := getS X0 hx hZ (host := "") hown (hw _ (List.mem_of_getElem? (i := 92) rfl)) Via.refl e0 S_SIOOBE_FORMATTER (g := (mkF m 2 #[.val (.int (1 : Int32)), .val (.int (2 : Int32))] [(.int (2 : Int32)), (.int (1 : Int32))])) rfl (hb hby dsc0_1_2)
    refine own_by st102 ?_
    show own_Go p e below (Qsc1_2 Z .null h0 n0) (own_Fr s ({ frames := 1, cells := 0, slots := 0, locals := 14 } : Room).cells ({ frames := 1, cells := 0, slots := 0, locals := 14 } : Room).slots) (T102.setTop (mkF m 5 #[.val (.int (1 : Int32)), .val (.int (2 : Int32))] [.null, (.int (2 : Int32)), (.int (1 : Int32))]))
    obtain ⟨_, _, ⟨T103, L103, k103, n103⟩, -, X103, ⟨Lc103, hQ103, l103, y103, z103⟩, st103⟩ := Jvm.LawKit.callS X102 hx (y := (⟨"jdk/internal/util/Preconditions", "checkIndex", "(IILjava/util/function/BiFunction;)I"⟩ : MethodName)) hown (mvT hZ (hw _ (List.mem_of_getElem? (i := 94) rfl))) (mvT hZ (hw _ (List.mem_of_getElem? (i := 95) rfl))) (mvT hZ (hw _ (List.mem_of_getElem? (i := 93) rfl))) (mvT hZ (hw _ (List.mem_of_getElem? (i := 96) rfl))) (by decide) (backOf (W := 0) (rmpn1_2 l Z a0 hw []  h0 n0 Z0 ) hZ (hw _ (List.mem_of_getElem? (i := 96) rfl)) (hw _ (List.mem_of_getElem? (i := 93) rfl)) (by decide) (by decide)) (g := (mkF m 5 #[.val (.int (1 : Int32)), .val (.int (2 : Int32))] [.null, (.int (2 : Int32)), (.int (1 : Int32))])) rfl (by rw [hml]; rfl) (argsL := [(.int (1 : Int32)), (.int (2 : Int32)), .null]) (rest := []) (lenOf pd_7 rfl) rfl (by show 2 * 0 + _ ≤ _; exact Nat.le_of_eq rfl) (hb hby dsc0_1_5) (fun _ _ => ⟨rfl, e102, (by decide : 0 + 0 ≤ _), (by decide : 0 + 0 ≤ _)⟩)
    dsimp only [Pt.U, Pt.locs, Pt.cells, Pt.slots] at X103 l103 y103 z103 st103 hQ103
    subst y103 z103
    obtain ⟨rfl, pp103, N103, e103⟩ := hQ103
    have N103a : Fr n0 L103 := by rw [l103]; exact Fr.app N0 N103
    refine own_by st103 ?_
    show own_Go p e below (Qsc1_2 Z .null h0 n0) (own_Fr s ({ frames := 1, cells := 0, slots := 0, locals := 14 } : Room).cells ({ frames := 1, cells := 0, slots := 0, locals := 14 } : Room).slots) (T103.setTop (mkF m 8 #[.val (.int (1 : Int32)), .val (.int (2 : Int32))] [(.int (1 : Int32))]))
    refine own_pop (pc' := 9) X103 hx rfl (hb hby dsc0_1_8) rfl ?_
    refine own_ret0 X103 hx Bd.returns Bd.notSynchronized (hb hby dsc0_1_9) rfl (by decide) (by decide) ?_
    show Qsc1_2 Z .null h0 n0 _ T103.heap _
    rw [e103]
    exact ⟨rfl, trivial, N103a, rfl⟩
  · skip
    refine own_iloadN (pc' := 1) X0 hx rfl (hb hby dsc0_1_0) rfl ?_
    refine own_iloadN (pc' := 2) X0 hx rfl (hb hby dsc0_1_1) rfl ?_
    obtain ⟨T104, X104, e104, st104⟩ := getS X0 hx hZ (host := "") hown (hw _ (List.mem_of_getElem? (i := 92) rfl)) Via.refl e0 S_SIOOBE_FORMATTER (g := (mkF m 2 #[.val (.int (1 : Int32)), .val (.int (2 : Int32))] [(.int (2 : Int32)), (.int (1 : Int32))])) rfl (hb hby dsc0_1_2)
    refine own_by st104 ?_
    show own_Go p e below (Qsc1_2 Z (.ref af) h0 n0) (own_Fr s ({ frames := 1, cells := 0, slots := 0, locals := 14 } : Room).cells ({ frames := 1, cells := 0, slots := 0, locals := 14 } : Room).slots) (T104.setTop (mkF m 5 #[.val (.int (1 : Int32)), .val (.int (2 : Int32))] [(.ref af), (.int (2 : Int32)), (.int (1 : Int32))]))
    obtain ⟨_, _, ⟨T105, L105, k105, n105⟩, -, X105, ⟨Lc105, hQ105, l105, y105, z105⟩, st105⟩ := Jvm.LawKit.callS X104 hx (y := (⟨"jdk/internal/util/Preconditions", "checkIndex", "(IILjava/util/function/BiFunction;)I"⟩ : MethodName)) hown (mvT hZ (hw _ (List.mem_of_getElem? (i := 94) rfl))) (mvT hZ (hw _ (List.mem_of_getElem? (i := 95) rfl))) (mvT hZ (hw _ (List.mem_of_getElem? (i := 93) rfl))) (mvT hZ (hw _ (List.mem_of_getElem? (i := 96) rfl))) (by decide) (backOf (W := 0) (rmpa1_2 l Z a0 hw [] af h0 n0 Z0 ) hZ (hw _ (List.mem_of_getElem? (i := 96) rfl)) (hw _ (List.mem_of_getElem? (i := 93) rfl)) (by decide) (by decide)) (g := (mkF m 5 #[.val (.int (1 : Int32)), .val (.int (2 : Int32))] [(.ref af), (.int (2 : Int32)), (.int (1 : Int32))])) rfl (by rw [hml]; rfl) (argsL := [(.int (1 : Int32)), (.int (2 : Int32)), (.ref af)]) (rest := []) (lenOf pd_7 rfl) rfl (by show 2 * 0 + _ ≤ _; exact Nat.le_of_eq rfl) (hb hby dsc0_1_5) (fun _ _ => ⟨rfl, e104, (by decide : 0 + 0 ≤ _), (by decide : 0 + 0 ≤ _)⟩)
    dsimp only [Pt.U, Pt.locs, Pt.cells, Pt.slots] at X105 l105 y105 z105 st105 hQ105
    subst y105 z105
    obtain ⟨rfl, pp105, N105, e105⟩ := hQ105
    have N105a : Fr n0 L105 := by rw [l105]; exact Fr.app N0 N105
    refine own_by st105 ?_
    show own_Go p e below (Qsc1_2 Z (.ref af) h0 n0) (own_Fr s ({ frames := 1, cells := 0, slots := 0, locals := 14 } : Room).cells ({ frames := 1, cells := 0, slots := 0, locals := 14 } : Room).slots) (T105.setTop (mkF m 8 #[.val (.int (1 : Int32)), .val (.int (2 : Int32))] [(.int (1 : Int32))]))
    refine own_pop (pc' := 9) X105 hx rfl (hb hby dsc0_1_8) rfl ?_
    refine own_ret0 X105 hx Bd.returns Bd.notSynchronized (hb hby dsc0_1_9) rfl (by decide) (by decide) ?_
    show Qsc1_2 Z (.ref af) h0 n0 _ T105.heap _
    rw [e105]
    exact ⟨rfl, trivial, N105a, rfl⟩
theorem ef_sc0_3 (m : MethodId)  : entryFrame m #[(.int (0 : Int32)), (.int (3 : Int32))] 2 = mkF m 0 #[.val (.int (0 : Int32)), .val (.int (3 : Int32))] [] := by first | (simp [entryFrame, mkF, argsToLocals, Value.category, maxLocals]; done) | rfl
def Qsc0_3 (Z : State)  (fv : Value) (h0 : Heap) (n0 : Nat) (v : Option Value) (h : Heap) (L : List Loc) : Prop := v = none ∧ (True) ∧ Fr n0 L ∧ h = h0
set_option maxRecDepth 65536 in
set_option maxHeartbeats 40000000 in
theorem rmsc0_3 (l : Launch) (Z : State) (a0 : Array Value) (hw : ∀ d ∈ tables_1, d.before a0 Z = true) (ws : List Jvm.Cond)  (fv : Value) (h0 : Heap) (n0 : Nat) (Z0 : n0 ≤ h0.size) (S_SIOOBE_FORMATTER : Sta Z h0 "jdk/internal/util/Preconditions" "SIOOBE_FORMATTER" "Ljava/util/function/BiFunction;" fv) (hfv : fv.isRef = true) :
    MetFree l (⟨"java/lang/String", "checkIndex", "(II)V"⟩ : MethodName) (head1 (Jvm.Cond.code (⟨"java/lang/String", "checkIndex", "(II)V"⟩ : MethodName) jdk_42_method_155_code 2 none :: ws) ({ frames := 1, cells := 0, slots := 0, locals := 14 } : Room)) (fun a U => a = #[(.int (0 : Int32)), (.int (3 : Int32))] ∧ Z.Warmed39 U.vm ∧ U.heap = h0) (fun _ _ _ _ _ => True) (fun _ U o U' => ∃ v L, o = .returned v ∧ Qsc0_3 Z fv h0 n0 v U'.heap L ∧ FrameEnd U o U' L ({ frames := 1, cells := 0, slots := 0, locals := 14 } : Room).cells ({ frames := 1, cells := 0, slots := 0, locals := 14 } : Room).slots) := by
  refine MetFree.of_bodySF (plainFor_of_name pn_1) hisR ?_
  intro p e s m args below meth c s₁ Bd hml0 hP hK
  obtain ⟨rfl, hZ, hh⟩ := hP
  have hx := Bd.exec
  have hby := Bd.bytes
  have hml : c.maxLocals = 2 := hml0
  have hown : s.vm.findClass "java/lang/String" = some m.cls := findClass_of_methodNamed Bd.named
  have hnm := (name_of_methodNamed Bd.named Bd.method).1
  have X0 : Stand p l e ({ frames := 1, cells := 0, slots := 0, locals := 14 } : Room) s m #[(.int (0 : Int32)), (.int (3 : Int32))] below meth c s₁ [] 0 0 := Stand.of_body Bd
  have e0 : s₁.heap = h0 := by rw [← hh, Bd.state]; rfl
  have N0 := Fr.nil n0
  change own_Go p e below (Qsc0_3 Z fv h0 n0) (own_Fr s ({ frames := 1, cells := 0, slots := 0, locals := 14 } : Room).cells ({ frames := 1, cells := 0, slots := 0, locals := 14 } : Room).slots) (s₁.setTop (entryFrame m #[(.int (0 : Int32)), (.int (3 : Int32))] 2))
  rw [ef_sc0_3 m ]
  rcases ref_cases hfv with rfl | ⟨af, rfl⟩
  · skip
    refine own_iloadN (pc' := 1) X0 hx rfl (hb hby dsc0_1_0) rfl ?_
    refine own_iloadN (pc' := 2) X0 hx rfl (hb hby dsc0_1_1) rfl ?_
    obtain ⟨T102, X102, e102, st102⟩ := getS X0 hx hZ (host := "") hown (hw _ (List.mem_of_getElem? (i := 92) rfl)) Via.refl e0 S_SIOOBE_FORMATTER (g := (mkF m 2 #[.val (.int (0 : Int32)), .val (.int (3 : Int32))] [(.int (3 : Int32)), (.int (0 : Int32))])) rfl (hb hby dsc0_1_2)
    refine own_by st102 ?_
    show own_Go p e below (Qsc0_3 Z .null h0 n0) (own_Fr s ({ frames := 1, cells := 0, slots := 0, locals := 14 } : Room).cells ({ frames := 1, cells := 0, slots := 0, locals := 14 } : Room).slots) (T102.setTop (mkF m 5 #[.val (.int (0 : Int32)), .val (.int (3 : Int32))] [.null, (.int (3 : Int32)), (.int (0 : Int32))]))
    obtain ⟨_, _, ⟨T103, L103, k103, n103⟩, -, X103, ⟨Lc103, hQ103, l103, y103, z103⟩, st103⟩ := Jvm.LawKit.callS X102 hx (y := (⟨"jdk/internal/util/Preconditions", "checkIndex", "(IILjava/util/function/BiFunction;)I"⟩ : MethodName)) hown (mvT hZ (hw _ (List.mem_of_getElem? (i := 94) rfl))) (mvT hZ (hw _ (List.mem_of_getElem? (i := 95) rfl))) (mvT hZ (hw _ (List.mem_of_getElem? (i := 93) rfl))) (mvT hZ (hw _ (List.mem_of_getElem? (i := 96) rfl))) (by decide) (backOf (W := 0) (rmpn0_3 l Z a0 hw []  h0 n0 Z0 ) hZ (hw _ (List.mem_of_getElem? (i := 96) rfl)) (hw _ (List.mem_of_getElem? (i := 93) rfl)) (by decide) (by decide)) (g := (mkF m 5 #[.val (.int (0 : Int32)), .val (.int (3 : Int32))] [.null, (.int (3 : Int32)), (.int (0 : Int32))])) rfl (by rw [hml]; rfl) (argsL := [(.int (0 : Int32)), (.int (3 : Int32)), .null]) (rest := []) (lenOf pd_7 rfl) rfl (by show 2 * 0 + _ ≤ _; exact Nat.le_of_eq rfl) (hb hby dsc0_1_5) (fun _ _ => ⟨rfl, e102, (by decide : 0 + 0 ≤ _), (by decide : 0 + 0 ≤ _)⟩)
    dsimp only [Pt.U, Pt.locs, Pt.cells, Pt.slots] at X103 l103 y103 z103 st103 hQ103
    subst y103 z103
    obtain ⟨rfl, pp103, N103, e103⟩ := hQ103
    have N103a : Fr n0 L103 := by rw [l103]; exact Fr.app N0 N103
    refine own_by st103 ?_
    show own_Go p e below (Qsc0_3 Z .null h0 n0) (own_Fr s ({ frames := 1, cells := 0, slots := 0, locals := 14 } : Room).cells ({ frames := 1, cells := 0, slots := 0, locals := 14 } : Room).slots) (T103.setTop (mkF m 8 #[.val (.int (0 : Int32)), .val (.int (3 : Int32))] [(.int (0 : Int32))]))
    refine own_pop (pc' := 9) X103 hx rfl (hb hby dsc0_1_8) rfl ?_
    refine own_ret0 X103 hx Bd.returns Bd.notSynchronized (hb hby dsc0_1_9) rfl (by decide) (by decide) ?_
    show Qsc0_3 Z .null h0 n0 _ T103.heap _
    rw [e103]
    exact ⟨rfl, trivial, N103a, rfl⟩
  · skip
    refine own_iloadN (pc' := 1) X0 hx rfl (hb hby dsc0_1_0) rfl ?_
    refine own_iloadN (pc' := 2) X0 hx rfl (hb hby dsc0_1_1) rfl ?_
    obtain ⟨T104, X104, e104, st104⟩ := getS X0 hx hZ (host := "") hown (hw _ (List.mem_of_getElem? (i := 92) rfl)) Via.refl e0 S_SIOOBE_FORMATTER (g := (mkF m 2 #[.val (.int (0 : Int32)), .val (.int (3 : Int32))] [(.int (3 : Int32)), (.int (0 : Int32))])) rfl (hb hby dsc0_1_2)
    refine own_by st104 ?_
    show own_Go p e below (Qsc0_3 Z (.ref af) h0 n0) (own_Fr s ({ frames := 1, cells := 0, slots := 0, locals := 14 } : Room).cells ({ frames := 1, cells := 0, slots := 0, locals := 14 } : Room).slots) (T104.setTop (mkF m 5 #[.val (.int (0 : Int32)), .val (.int (3 : Int32))] [(.ref af), (.int (3 : Int32)), (.int (0 : Int32))]))
    obtain ⟨_, _, ⟨T105, L105, k105, n105⟩, -, X105, ⟨Lc105, hQ105, l105, y105, z105⟩, st105⟩ := Jvm.LawKit.callS X104 hx (y := (⟨"jdk/internal/util/Preconditions", "checkIndex", "(IILjava/util/function/BiFunction;)I"⟩ : MethodName)) hown (mvT hZ (hw _ (List.mem_of_getElem? (i := 94) rfl))) (mvT hZ (hw _ (List.mem_of_getElem? (i := 95) rfl))) (mvT hZ (hw _ (List.mem_of_getElem? (i := 93) rfl))) (mvT hZ (hw _ (List.mem_of_getElem? (i := 96) rfl))) (by decide) (backOf (W := 0) (rmpa0_3 l Z a0 hw [] af h0 n0 Z0 ) hZ (hw _ (List.mem_of_getElem? (i := 96) rfl)) (hw _ (List.mem_of_getElem? (i := 93) rfl)) (by decide) (by decide)) (g := (mkF m 5 #[.val (.int (0 : Int32)), .val (.int (3 : Int32))] [(.ref af), (.int (3 : Int32)), (.int (0 : Int32))])) rfl (by rw [hml]; rfl) (argsL := [(.int (0 : Int32)), (.int (3 : Int32)), (.ref af)]) (rest := []) (lenOf pd_7 rfl) rfl (by show 2 * 0 + _ ≤ _; exact Nat.le_of_eq rfl) (hb hby dsc0_1_5) (fun _ _ => ⟨rfl, e104, (by decide : 0 + 0 ≤ _), (by decide : 0 + 0 ≤ _)⟩)
    dsimp only [Pt.U, Pt.locs, Pt.cells, Pt.slots] at X105 l105 y105 z105 st105 hQ105
    subst y105 z105
    obtain ⟨rfl, pp105, N105, e105⟩ := hQ105
    have N105a : Fr n0 L105 := by rw [l105]; exact Fr.app N0 N105
    refine own_by st105 ?_
    show own_Go p e below (Qsc0_3 Z (.ref af) h0 n0) (own_Fr s ({ frames := 1, cells := 0, slots := 0, locals := 14 } : Room).cells ({ frames := 1, cells := 0, slots := 0, locals := 14 } : Room).slots) (T105.setTop (mkF m 8 #[.val (.int (0 : Int32)), .val (.int (3 : Int32))] [(.int (0 : Int32))]))
    refine own_pop (pc' := 9) X105 hx rfl (hb hby dsc0_1_8) rfl ?_
    refine own_ret0 X105 hx Bd.returns Bd.notSynchronized (hb hby dsc0_1_9) rfl (by decide) (by decide) ?_
    show Qsc0_3 Z (.ref af) h0 n0 _ T105.heap _
    rw [e105]
    exact ⟨rfl, trivial, N105a, rfl⟩
theorem ef_sc1_3 (m : MethodId)  : entryFrame m #[(.int (1 : Int32)), (.int (3 : Int32))] 2 = mkF m 0 #[.val (.int (1 : Int32)), .val (.int (3 : Int32))] [] := by first | (simp [entryFrame, mkF, argsToLocals, Value.category, maxLocals]; done) | rfl
def Qsc1_3 (Z : State)  (fv : Value) (h0 : Heap) (n0 : Nat) (v : Option Value) (h : Heap) (L : List Loc) : Prop := v = none ∧ (True) ∧ Fr n0 L ∧ h = h0
set_option maxRecDepth 65536 in
set_option maxHeartbeats 40000000 in
theorem rmsc1_3 (l : Launch) (Z : State) (a0 : Array Value) (hw : ∀ d ∈ tables_1, d.before a0 Z = true) (ws : List Jvm.Cond)  (fv : Value) (h0 : Heap) (n0 : Nat) (Z0 : n0 ≤ h0.size) (S_SIOOBE_FORMATTER : Sta Z h0 "jdk/internal/util/Preconditions" "SIOOBE_FORMATTER" "Ljava/util/function/BiFunction;" fv) (hfv : fv.isRef = true) :
    MetFree l (⟨"java/lang/String", "checkIndex", "(II)V"⟩ : MethodName) (head1 (Jvm.Cond.code (⟨"java/lang/String", "checkIndex", "(II)V"⟩ : MethodName) jdk_42_method_155_code 2 none :: ws) ({ frames := 1, cells := 0, slots := 0, locals := 14 } : Room)) (fun a U => a = #[(.int (1 : Int32)), (.int (3 : Int32))] ∧ Z.Warmed39 U.vm ∧ U.heap = h0) (fun _ _ _ _ _ => True) (fun _ U o U' => ∃ v L, o = .returned v ∧ Qsc1_3 Z fv h0 n0 v U'.heap L ∧ FrameEnd U o U' L ({ frames := 1, cells := 0, slots := 0, locals := 14 } : Room).cells ({ frames := 1, cells := 0, slots := 0, locals := 14 } : Room).slots) := by
  refine MetFree.of_bodySF (plainFor_of_name pn_1) hisR ?_
  intro p e s m args below meth c s₁ Bd hml0 hP hK
  obtain ⟨rfl, hZ, hh⟩ := hP
  have hx := Bd.exec
  have hby := Bd.bytes
  have hml : c.maxLocals = 2 := hml0
  have hown : s.vm.findClass "java/lang/String" = some m.cls := findClass_of_methodNamed Bd.named
  have hnm := (name_of_methodNamed Bd.named Bd.method).1
  have X0 : Stand p l e ({ frames := 1, cells := 0, slots := 0, locals := 14 } : Room) s m #[(.int (1 : Int32)), (.int (3 : Int32))] below meth c s₁ [] 0 0 := Stand.of_body Bd
  have e0 : s₁.heap = h0 := by rw [← hh, Bd.state]; rfl
  have N0 := Fr.nil n0
  change own_Go p e below (Qsc1_3 Z fv h0 n0) (own_Fr s ({ frames := 1, cells := 0, slots := 0, locals := 14 } : Room).cells ({ frames := 1, cells := 0, slots := 0, locals := 14 } : Room).slots) (s₁.setTop (entryFrame m #[(.int (1 : Int32)), (.int (3 : Int32))] 2))
  rw [ef_sc1_3 m ]
  rcases ref_cases hfv with rfl | ⟨af, rfl⟩
  · skip
    refine own_iloadN (pc' := 1) X0 hx rfl (hb hby dsc0_1_0) rfl ?_
    refine own_iloadN (pc' := 2) X0 hx rfl (hb hby dsc0_1_1) rfl ?_
    obtain ⟨T102, X102, e102, st102⟩ := getS X0 hx hZ (host := "") hown (hw _ (List.mem_of_getElem? (i := 92) rfl)) Via.refl e0 S_SIOOBE_FORMATTER (g := (mkF m 2 #[.val (.int (1 : Int32)), .val (.int (3 : Int32))] [(.int (3 : Int32)), (.int (1 : Int32))])) rfl (hb hby dsc0_1_2)
    refine own_by st102 ?_
    show own_Go p e below (Qsc1_3 Z .null h0 n0) (own_Fr s ({ frames := 1, cells := 0, slots := 0, locals := 14 } : Room).cells ({ frames := 1, cells := 0, slots := 0, locals := 14 } : Room).slots) (T102.setTop (mkF m 5 #[.val (.int (1 : Int32)), .val (.int (3 : Int32))] [.null, (.int (3 : Int32)), (.int (1 : Int32))]))
    obtain ⟨_, _, ⟨T103, L103, k103, n103⟩, -, X103, ⟨Lc103, hQ103, l103, y103, z103⟩, st103⟩ := Jvm.LawKit.callS X102 hx (y := (⟨"jdk/internal/util/Preconditions", "checkIndex", "(IILjava/util/function/BiFunction;)I"⟩ : MethodName)) hown (mvT hZ (hw _ (List.mem_of_getElem? (i := 94) rfl))) (mvT hZ (hw _ (List.mem_of_getElem? (i := 95) rfl))) (mvT hZ (hw _ (List.mem_of_getElem? (i := 93) rfl))) (mvT hZ (hw _ (List.mem_of_getElem? (i := 96) rfl))) (by decide) (backOf (W := 0) (rmpn1_3 l Z a0 hw []  h0 n0 Z0 ) hZ (hw _ (List.mem_of_getElem? (i := 96) rfl)) (hw _ (List.mem_of_getElem? (i := 93) rfl)) (by decide) (by decide)) (g := (mkF m 5 #[.val (.int (1 : Int32)), .val (.int (3 : Int32))] [.null, (.int (3 : Int32)), (.int (1 : Int32))])) rfl (by rw [hml]; rfl) (argsL := [(.int (1 : Int32)), (.int (3 : Int32)), .null]) (rest := []) (lenOf pd_7 rfl) rfl (by show 2 * 0 + _ ≤ _; exact Nat.le_of_eq rfl) (hb hby dsc0_1_5) (fun _ _ => ⟨rfl, e102, (by decide : 0 + 0 ≤ _), (by decide : 0 + 0 ≤ _)⟩)
    dsimp only [Pt.U, Pt.locs, Pt.cells, Pt.slots] at X103 l103 y103 z103 st103 hQ103
    subst y103 z103
    obtain ⟨rfl, pp103, N103, e103⟩ := hQ103
    have N103a : Fr n0 L103 := by rw [l103]; exact Fr.app N0 N103
    refine own_by st103 ?_
    show own_Go p e below (Qsc1_3 Z .null h0 n0) (own_Fr s ({ frames := 1, cells := 0, slots := 0, locals := 14 } : Room).cells ({ frames := 1, cells := 0, slots := 0, locals := 14 } : Room).slots) (T103.setTop (mkF m 8 #[.val (.int (1 : Int32)), .val (.int (3 : Int32))] [(.int (1 : Int32))]))
    refine own_pop (pc' := 9) X103 hx rfl (hb hby dsc0_1_8) rfl ?_
    refine own_ret0 X103 hx Bd.returns Bd.notSynchronized (hb hby dsc0_1_9) rfl (by decide) (by decide) ?_
    show Qsc1_3 Z .null h0 n0 _ T103.heap _
    rw [e103]
    exact ⟨rfl, trivial, N103a, rfl⟩
  · skip
    refine own_iloadN (pc' := 1) X0 hx rfl (hb hby dsc0_1_0) rfl ?_
    refine own_iloadN (pc' := 2) X0 hx rfl (hb hby dsc0_1_1) rfl ?_
    obtain ⟨T104, X104, e104, st104⟩ := getS X0 hx hZ (host := "") hown (hw _ (List.mem_of_getElem? (i := 92) rfl)) Via.refl e0 S_SIOOBE_FORMATTER (g := (mkF m 2 #[.val (.int (1 : Int32)), .val (.int (3 : Int32))] [(.int (3 : Int32)), (.int (1 : Int32))])) rfl (hb hby dsc0_1_2)
    refine own_by st104 ?_
    show own_Go p e below (Qsc1_3 Z (.ref af) h0 n0) (own_Fr s ({ frames := 1, cells := 0, slots := 0, locals := 14 } : Room).cells ({ frames := 1, cells := 0, slots := 0, locals := 14 } : Room).slots) (T104.setTop (mkF m 5 #[.val (.int (1 : Int32)), .val (.int (3 : Int32))] [(.ref af), (.int (3 : Int32)), (.int (1 : Int32))]))
    obtain ⟨_, _, ⟨T105, L105, k105, n105⟩, -, X105, ⟨Lc105, hQ105, l105, y105, z105⟩, st105⟩ := Jvm.LawKit.callS X104 hx (y := (⟨"jdk/internal/util/Preconditions", "checkIndex", "(IILjava/util/function/BiFunction;)I"⟩ : MethodName)) hown (mvT hZ (hw _ (List.mem_of_getElem? (i := 94) rfl))) (mvT hZ (hw _ (List.mem_of_getElem? (i := 95) rfl))) (mvT hZ (hw _ (List.mem_of_getElem? (i := 93) rfl))) (mvT hZ (hw _ (List.mem_of_getElem? (i := 96) rfl))) (by decide) (backOf (W := 0) (rmpa1_3 l Z a0 hw [] af h0 n0 Z0 ) hZ (hw _ (List.mem_of_getElem? (i := 96) rfl)) (hw _ (List.mem_of_getElem? (i := 93) rfl)) (by decide) (by decide)) (g := (mkF m 5 #[.val (.int (1 : Int32)), .val (.int (3 : Int32))] [(.ref af), (.int (3 : Int32)), (.int (1 : Int32))])) rfl (by rw [hml]; rfl) (argsL := [(.int (1 : Int32)), (.int (3 : Int32)), (.ref af)]) (rest := []) (lenOf pd_7 rfl) rfl (by show 2 * 0 + _ ≤ _; exact Nat.le_of_eq rfl) (hb hby dsc0_1_5) (fun _ _ => ⟨rfl, e104, (by decide : 0 + 0 ≤ _), (by decide : 0 + 0 ≤ _)⟩)
    dsimp only [Pt.U, Pt.locs, Pt.cells, Pt.slots] at X105 l105 y105 z105 st105 hQ105
    subst y105 z105
    obtain ⟨rfl, pp105, N105, e105⟩ := hQ105
    have N105a : Fr n0 L105 := by rw [l105]; exact Fr.app N0 N105
    refine own_by st105 ?_
    show own_Go p e below (Qsc1_3 Z (.ref af) h0 n0) (own_Fr s ({ frames := 1, cells := 0, slots := 0, locals := 14 } : Room).cells ({ frames := 1, cells := 0, slots := 0, locals := 14 } : Room).slots) (T105.setTop (mkF m 8 #[.val (.int (1 : Int32)), .val (.int (3 : Int32))] [(.int (1 : Int32))]))
    refine own_pop (pc' := 9) X105 hx rfl (hb hby dsc0_1_8) rfl ?_
    refine own_ret0 X105 hx Bd.returns Bd.notSynchronized (hb hby dsc0_1_9) rfl (by decide) (by decide) ?_
    show Qsc1_3 Z (.ref af) h0 n0 _ T105.heap _
    rw [e105]
    exact ⟨rfl, trivial, N105a, rfl⟩
theorem ef_sc2_3 (m : MethodId)  : entryFrame m #[(.int (2 : Int32)), (.int (3 : Int32))] 2 = mkF m 0 #[.val (.int (2 : Int32)), .val (.int (3 : Int32))] [] := by first | (simp [entryFrame, mkF, argsToLocals, Value.category, maxLocals]; done) | rfl
def Qsc2_3 (Z : State)  (fv : Value) (h0 : Heap) (n0 : Nat) (v : Option Value) (h : Heap) (L : List Loc) : Prop := v = none ∧ (True) ∧ Fr n0 L ∧ h = h0
set_option maxRecDepth 65536 in
set_option maxHeartbeats 40000000 in
theorem rmsc2_3 (l : Launch) (Z : State) (a0 : Array Value) (hw : ∀ d ∈ tables_1, d.before a0 Z = true) (ws : List Jvm.Cond)  (fv : Value) (h0 : Heap) (n0 : Nat) (Z0 : n0 ≤ h0.size) (S_SIOOBE_FORMATTER : Sta Z h0 "jdk/internal/util/Preconditions" "SIOOBE_FORMATTER" "Ljava/util/function/BiFunction;" fv) (hfv : fv.isRef = true) :
    MetFree l (⟨"java/lang/String", "checkIndex", "(II)V"⟩ : MethodName) (head1 (Jvm.Cond.code (⟨"java/lang/String", "checkIndex", "(II)V"⟩ : MethodName) jdk_42_method_155_code 2 none :: ws) ({ frames := 1, cells := 0, slots := 0, locals := 14 } : Room)) (fun a U => a = #[(.int (2 : Int32)), (.int (3 : Int32))] ∧ Z.Warmed39 U.vm ∧ U.heap = h0) (fun _ _ _ _ _ => True) (fun _ U o U' => ∃ v L, o = .returned v ∧ Qsc2_3 Z fv h0 n0 v U'.heap L ∧ FrameEnd U o U' L ({ frames := 1, cells := 0, slots := 0, locals := 14 } : Room).cells ({ frames := 1, cells := 0, slots := 0, locals := 14 } : Room).slots) := by
  refine MetFree.of_bodySF (plainFor_of_name pn_1) hisR ?_
  intro p e s m args below meth c s₁ Bd hml0 hP hK
  obtain ⟨rfl, hZ, hh⟩ := hP
  have hx := Bd.exec
  have hby := Bd.bytes
  have hml : c.maxLocals = 2 := hml0
  have hown : s.vm.findClass "java/lang/String" = some m.cls := findClass_of_methodNamed Bd.named
  have hnm := (name_of_methodNamed Bd.named Bd.method).1
  have X0 : Stand p l e ({ frames := 1, cells := 0, slots := 0, locals := 14 } : Room) s m #[(.int (2 : Int32)), (.int (3 : Int32))] below meth c s₁ [] 0 0 := Stand.of_body Bd
  have e0 : s₁.heap = h0 := by rw [← hh, Bd.state]; rfl
  have N0 := Fr.nil n0
  change own_Go p e below (Qsc2_3 Z fv h0 n0) (own_Fr s ({ frames := 1, cells := 0, slots := 0, locals := 14 } : Room).cells ({ frames := 1, cells := 0, slots := 0, locals := 14 } : Room).slots) (s₁.setTop (entryFrame m #[(.int (2 : Int32)), (.int (3 : Int32))] 2))
  rw [ef_sc2_3 m ]
  rcases ref_cases hfv with rfl | ⟨af, rfl⟩
  · skip
    refine own_iloadN (pc' := 1) X0 hx rfl (hb hby dsc0_1_0) rfl ?_
    refine own_iloadN (pc' := 2) X0 hx rfl (hb hby dsc0_1_1) rfl ?_
    obtain ⟨T102, X102, e102, st102⟩ := getS X0 hx hZ (host := "") hown (hw _ (List.mem_of_getElem? (i := 92) rfl)) Via.refl e0 S_SIOOBE_FORMATTER (g := (mkF m 2 #[.val (.int (2 : Int32)), .val (.int (3 : Int32))] [(.int (3 : Int32)), (.int (2 : Int32))])) rfl (hb hby dsc0_1_2)
    refine own_by st102 ?_
    show own_Go p e below (Qsc2_3 Z .null h0 n0) (own_Fr s ({ frames := 1, cells := 0, slots := 0, locals := 14 } : Room).cells ({ frames := 1, cells := 0, slots := 0, locals := 14 } : Room).slots) (T102.setTop (mkF m 5 #[.val (.int (2 : Int32)), .val (.int (3 : Int32))] [.null, (.int (3 : Int32)), (.int (2 : Int32))]))
    obtain ⟨_, _, ⟨T103, L103, k103, n103⟩, -, X103, ⟨Lc103, hQ103, l103, y103, z103⟩, st103⟩ := Jvm.LawKit.callS X102 hx (y := (⟨"jdk/internal/util/Preconditions", "checkIndex", "(IILjava/util/function/BiFunction;)I"⟩ : MethodName)) hown (mvT hZ (hw _ (List.mem_of_getElem? (i := 94) rfl))) (mvT hZ (hw _ (List.mem_of_getElem? (i := 95) rfl))) (mvT hZ (hw _ (List.mem_of_getElem? (i := 93) rfl))) (mvT hZ (hw _ (List.mem_of_getElem? (i := 96) rfl))) (by decide) (backOf (W := 0) (rmpn2_3 l Z a0 hw []  h0 n0 Z0 ) hZ (hw _ (List.mem_of_getElem? (i := 96) rfl)) (hw _ (List.mem_of_getElem? (i := 93) rfl)) (by decide) (by decide)) (g := (mkF m 5 #[.val (.int (2 : Int32)), .val (.int (3 : Int32))] [.null, (.int (3 : Int32)), (.int (2 : Int32))])) rfl (by rw [hml]; rfl) (argsL := [(.int (2 : Int32)), (.int (3 : Int32)), .null]) (rest := []) (lenOf pd_7 rfl) rfl (by show 2 * 0 + _ ≤ _; exact Nat.le_of_eq rfl) (hb hby dsc0_1_5) (fun _ _ => ⟨rfl, e102, (by decide : 0 + 0 ≤ _), (by decide : 0 + 0 ≤ _)⟩)
    dsimp only [Pt.U, Pt.locs, Pt.cells, Pt.slots] at X103 l103 y103 z103 st103 hQ103
    subst y103 z103
    obtain ⟨rfl, pp103, N103, e103⟩ := hQ103
    have N103a : Fr n0 L103 := by rw [l103]; exact Fr.app N0 N103
    refine own_by st103 ?_
    show own_Go p e below (Qsc2_3 Z .null h0 n0) (own_Fr s ({ frames := 1, cells := 0, slots := 0, locals := 14 } : Room).cells ({ frames := 1, cells := 0, slots := 0, locals := 14 } : Room).slots) (T103.setTop (mkF m 8 #[.val (.int (2 : Int32)), .val (.int (3 : Int32))] [(.int (2 : Int32))]))
    refine own_pop (pc' := 9) X103 hx rfl (hb hby dsc0_1_8) rfl ?_
    refine own_ret0 X103 hx Bd.returns Bd.notSynchronized (hb hby dsc0_1_9) rfl (by decide) (by decide) ?_
    show Qsc2_3 Z .null h0 n0 _ T103.heap _
    rw [e103]
    exact ⟨rfl, trivial, N103a, rfl⟩
  · skip
    refine own_iloadN (pc' := 1) X0 hx rfl (hb hby dsc0_1_0) rfl ?_
    refine own_iloadN (pc' := 2) X0 hx rfl (hb hby dsc0_1_1) rfl ?_
    obtain ⟨T104, X104, e104, st104⟩ := getS X0 hx hZ (host := "") hown (hw _ (List.mem_of_getElem? (i := 92) rfl)) Via.refl e0 S_SIOOBE_FORMATTER (g := (mkF m 2 #[.val (.int (2 : Int32)), .val (.int (3 : Int32))] [(.int (3 : Int32)), (.int (2 : Int32))])) rfl (hb hby dsc0_1_2)
    refine own_by st104 ?_
    show own_Go p e below (Qsc2_3 Z (.ref af) h0 n0) (own_Fr s ({ frames := 1, cells := 0, slots := 0, locals := 14 } : Room).cells ({ frames := 1, cells := 0, slots := 0, locals := 14 } : Room).slots) (T104.setTop (mkF m 5 #[.val (.int (2 : Int32)), .val (.int (3 : Int32))] [(.ref af), (.int (3 : Int32)), (.int (2 : Int32))]))
    obtain ⟨_, _, ⟨T105, L105, k105, n105⟩, -, X105, ⟨Lc105, hQ105, l105, y105, z105⟩, st105⟩ := Jvm.LawKit.callS X104 hx (y := (⟨"jdk/internal/util/Preconditions", "checkIndex", "(IILjava/util/function/BiFunction;)I"⟩ : MethodName)) hown (mvT hZ (hw _ (List.mem_of_getElem? (i := 94) rfl))) (mvT hZ (hw _ (List.mem_of_getElem? (i := 95) rfl))) (mvT hZ (hw _ (List.mem_of_getElem? (i := 93) rfl))) (mvT hZ (hw _ (List.mem_of_getElem? (i := 96) rfl))) (by decide) (backOf (W := 0) (rmpa2_3 l Z a0 hw [] af h0 n0 Z0 ) hZ (hw _ (List.mem_of_getElem? (i := 96) rfl)) (hw _ (List.mem_of_getElem? (i := 93) rfl)) (by decide) (by decide)) (g := (mkF m 5 #[.val (.int (2 : Int32)), .val (.int (3 : Int32))] [(.ref af), (.int (3 : Int32)), (.int (2 : Int32))])) rfl (by rw [hml]; rfl) (argsL := [(.int (2 : Int32)), (.int (3 : Int32)), (.ref af)]) (rest := []) (lenOf pd_7 rfl) rfl (by show 2 * 0 + _ ≤ _; exact Nat.le_of_eq rfl) (hb hby dsc0_1_5) (fun _ _ => ⟨rfl, e104, (by decide : 0 + 0 ≤ _), (by decide : 0 + 0 ≤ _)⟩)
    dsimp only [Pt.U, Pt.locs, Pt.cells, Pt.slots] at X105 l105 y105 z105 st105 hQ105
    subst y105 z105
    obtain ⟨rfl, pp105, N105, e105⟩ := hQ105
    have N105a : Fr n0 L105 := by rw [l105]; exact Fr.app N0 N105
    refine own_by st105 ?_
    show own_Go p e below (Qsc2_3 Z (.ref af) h0 n0) (own_Fr s ({ frames := 1, cells := 0, slots := 0, locals := 14 } : Room).cells ({ frames := 1, cells := 0, slots := 0, locals := 14 } : Room).slots) (T105.setTop (mkF m 8 #[.val (.int (2 : Int32)), .val (.int (3 : Int32))] [(.int (2 : Int32))]))
    refine own_pop (pc' := 9) X105 hx rfl (hb hby dsc0_1_8) rfl ?_
    refine own_ret0 X105 hx Bd.returns Bd.notSynchronized (hb hby dsc0_1_9) rfl (by decide) (by decide) ?_
    show Qsc2_3 Z (.ref af) h0 n0 _ T105.heap _
    rw [e105]
    exact ⟨rfl, trivial, N105a, rfl⟩
theorem pd_9 : parseMethodDescriptor "([BI)C" = some ⟨[(.array .byte), .int], some .char⟩ := by decide +kernel
theorem dlc0_1_0 : decode jdk_43_method_2_code 0 = .ok (.iload_n 1, 1) := by decide +kernel
theorem dlc0_1_1 : decode jdk_43_method_2_code 1 = .ok (.aload_n 0, 1) := by decide +kernel
theorem dlc0_1_2 : decode jdk_43_method_2_code 2 = .ok (.arraylength, 1) := by decide +kernel
theorem dlc0_1_3 : decode jdk_43_method_2_code 3 = .ok (.invokestatic 9, 3) := by decide +kernel
theorem dlc0_1_6 : decode jdk_43_method_2_code 6 = .ok (.aload_n 0, 1) := by decide +kernel
theorem dlc0_1_7 : decode jdk_43_method_2_code 7 = .ok (.iload_n 1, 1) := by decide +kernel
theorem dlc0_1_8 : decode jdk_43_method_2_code 8 = .ok (.baload, 1) := by decide +kernel
theorem dlc0_1_9 : decode jdk_43_method_2_code 9 = .ok (.sipush 255, 3) := by decide +kernel
theorem dlc0_1_12 : decode jdk_43_method_2_code 12 = .ok (.iand, 1) := by decide +kernel
theorem dlc0_1_13 : decode jdk_43_method_2_code 13 = .ok (.i2c, 1) := by decide +kernel
theorem dlc0_1_14 : decode jdk_43_method_2_code 14 = .ok (.ireturn, 1) := by decide +kernel
theorem pn_3 : plainName "java/lang/StringLatin1" = true := by first | (simp [plainName, overriddenIn]; done) | decide +kernel
theorem ef_lc0_1 (m : MethodId) (x0 : Addr) : entryFrame m #[(.ref x0), (.int (0 : Int32))] 2 = mkF m 0 #[.val (.ref x0), .val (.int (0 : Int32))] [] := by first | (simp [entryFrame, mkF, argsToLocals, Value.category, maxLocals]; done) | rfl
def Qlc0_1 (Z : State) (a1 : Addr) (kb : ClassId) (by0 : Int32) (fv : Value) (h0 : Heap) (n0 : Nat) (v : Option Value) (h : Heap) (L : List Loc) : Prop := ∃ r : Int32, v = some (.int r) ∧ (r.toInt = by0.toInt % 256) ∧ Fr n0 L ∧ h = h0
set_option maxRecDepth 65536 in
set_option maxHeartbeats 40000000 in
theorem rmlc0_1 (l : Launch) (Z : State) (a0 : Array Value) (hw : ∀ d ∈ tables_1, d.before a0 Z = true) (ws : List Jvm.Cond) (a1 : Addr) (kb : ClassId) (by0 : Int32) (fv : Value) (h0 : Heap) (n0 : Nat) (Z0 : n0 ≤ h0.size) (A_a1 : Arv Z h0 a1 kb .byte (1 : Int32) [(.int by0)] (.int (0 : Int32))) (S_SIOOBE_FORMATTER : Sta Z h0 "jdk/internal/util/Preconditions" "SIOOBE_FORMATTER" "Ljava/util/function/BiFunction;" fv) (hfv : fv.isRef = true) (hb0 : -128 ≤ by0.toInt ∧ by0.toInt < 128) :
    MetFree l (⟨"java/lang/StringLatin1", "charAt", "([BI)C"⟩ : MethodName) (head1 (Jvm.Cond.code (⟨"java/lang/StringLatin1", "charAt", "([BI)C"⟩ : MethodName) jdk_43_method_2_code 2 (some .char) :: ws) ({ frames := 2, cells := 0, slots := 0, locals := 28 } : Room)) (fun a U => a = #[(.ref a1), (.int (0 : Int32))] ∧ Z.Warmed39 U.vm ∧ U.heap = h0) (fun _ _ _ _ _ => True) (fun _ U o U' => ∃ v L, o = .returned v ∧ Qlc0_1 Z a1 kb by0 fv h0 n0 v U'.heap L ∧ FrameEnd U o U' L ({ frames := 2, cells := 0, slots := 0, locals := 28 } : Room).cells ({ frames := 2, cells := 0, slots := 0, locals := 28 } : Room).slots) := by
  refine MetFree.of_bodySF (plainFor_of_name pn_3) hisR ?_
  intro p e s m args below meth c s₁ Bd hml0 hP hK
  obtain ⟨rfl, hZ, hh⟩ := hP
  have hx := Bd.exec
  have hby := Bd.bytes
  have hml : c.maxLocals = 2 := hml0
  have hown : s.vm.findClass "java/lang/StringLatin1" = some m.cls := findClass_of_methodNamed Bd.named
  have hnm := (name_of_methodNamed Bd.named Bd.method).1
  have X0 : Stand p l e ({ frames := 2, cells := 0, slots := 0, locals := 28 } : Room) s m #[(.ref a1), (.int (0 : Int32))] below meth c s₁ [] 0 0 := Stand.of_body Bd
  have e0 : s₁.heap = h0 := by rw [← hh, Bd.state]; rfl
  have N0 := Fr.nil n0
  change own_Go p e below (Qlc0_1 Z a1 kb by0 fv h0 n0) (own_Fr s ({ frames := 2, cells := 0, slots := 0, locals := 28 } : Room).cells ({ frames := 2, cells := 0, slots := 0, locals := 28 } : Room).slots) (s₁.setTop (entryFrame m #[(.ref a1), (.int (0 : Int32))] 2))
  rw [ef_lc0_1 m a1]
  have rby0 := rng32 by0
  refine own_iloadN (pc' := 1) X0 hx rfl (hb hby dlc0_1_0) rfl ?_
  refine own_aloadN (pc' := 2) X0 hx rfl rfl (hb hby dlc0_1_1) rfl ?_
  obtain ⟨c101, B101, q101, s101, u101, H101, G101⟩ := id A_a1
  refine own_by (X0.arraylength hx (by rw [e0]; exact B101.1) (State.isArrayOf_alike hZ.alike B101.2.1) (g := (mkF m 2 #[.val (.ref a1), .val (.int (0 : Int32))] [(.ref a1), (.int (0 : Int32))])) rfl rfl (hb hby dlc0_1_2)) ?_
  rw [len_of s101 u101]
  show own_Go p e below (Qlc0_1 Z a1 kb by0 fv h0 n0) (own_Fr s ({ frames := 2, cells := 0, slots := 0, locals := 28 } : Room).cells ({ frames := 2, cells := 0, slots := 0, locals := 28 } : Room).slots) (s₁.setTop (mkF m 3 #[.val (.ref a1), .val (.int (0 : Int32))] [(.int (1 : Int32)), (.int (0 : Int32))]))
  obtain ⟨_, _, ⟨T102, L102, k102, n102⟩, -, X102, ⟨Lc102, hQ102, l102, y102, z102⟩, st102⟩ := Jvm.LawKit.callS X0 hx (y := (⟨"java/lang/String", "checkIndex", "(II)V"⟩ : MethodName)) hown (mvT hZ (hw _ (List.mem_of_getElem? (i := 89) rfl))) (mvT hZ (hw _ (List.mem_of_getElem? (i := 90) rfl))) (mvT hZ (hw _ (List.mem_of_getElem? (i := 3) rfl))) (mvT hZ (hw _ (List.mem_of_getElem? (i := 91) rfl))) (by decide) (backOf (W := 0) (rmsc0_1 l Z a0 hw [] fv h0 n0 Z0 S_SIOOBE_FORMATTER hfv) hZ (hw _ (List.mem_of_getElem? (i := 91) rfl)) (hw _ (List.mem_of_getElem? (i := 3) rfl)) (by decide) (by decide)) (g := (mkF m 3 #[.val (.ref a1), .val (.int (0 : Int32))] [(.int (1 : Int32)), (.int (0 : Int32))])) rfl (by rw [hml]; rfl) (argsL := [(.int (0 : Int32)), (.int (1 : Int32))]) (rest := []) (lenOf pd_8 rfl) rfl (by show 2 * 0 + _ ≤ _; exact Nat.le_of_eq rfl) (hb hby dlc0_1_3) (fun _ _ => ⟨rfl, e0, (by decide : 0 + 0 ≤ _), (by decide : 0 + 0 ≤ _)⟩)
  dsimp only [Pt.U, Pt.locs, Pt.cells, Pt.slots] at X102 l102 y102 z102 st102 hQ102
  subst y102 z102
  obtain ⟨rfl, pp102, N102, e102⟩ := hQ102
  have N102a : Fr n0 L102 := by rw [l102]; exact Fr.app N0 N102
  refine own_by st102 ?_
  show own_Go p e below (Qlc0_1 Z a1 kb by0 fv h0 n0) (own_Fr s ({ frames := 2, cells := 0, slots := 0, locals := 28 } : Room).cells ({ frames := 2, cells := 0, slots := 0, locals := 28 } : Room).slots) (T102.setTop (mkF m 6 #[.val (.ref a1), .val (.int (0 : Int32))] []))
  refine own_aloadN (pc' := 7) X102 hx rfl rfl (hb hby dlc0_1_6) rfl ?_
  refine own_iloadN (pc' := 8) X102 hx rfl (hb hby dlc0_1_7) rfl ?_
  obtain ⟨c103, B103, q103, s103, u103, H103, G103⟩ := id A_a1
  have i103 := inb_of s103 (j := (0 : Int32)) (by decide)
  refine own_by (X102.baloadBytes hx (j := (0 : Int32)) (v := (.int by0)) (by rw [e102]; exact B103.1) (State.isArrayOf_alike hZ.alike B103.2.1) B103.2.2 i103 (H103.at i103 rfl) (g := (mkF m 8 #[.val (.ref a1), .val (.int (0 : Int32))] [(.int (0 : Int32)), (.ref a1)])) rfl rfl (hb hby dlc0_1_8)) ?_
  show own_Go p e below (Qlc0_1 Z a1 kb by0 fv h0 n0) (own_Fr s ({ frames := 2, cells := 0, slots := 0, locals := 28 } : Room).cells ({ frames := 2, cells := 0, slots := 0, locals := 28 } : Room).slots) (T102.setTop (mkF m 9 #[.val (.ref a1), .val (.int (0 : Int32))] [(.int by0)]))
  refine own_sipush (pc' := 12) X102 hx (255 : Int32) (by decide) (hb hby dlc0_1_9) rfl ?_
  obtain ⟨v104, hv104⟩ : ∃ z, by0 &&& (255 : Int32) = z := ⟨_, rfl⟩
  have f105 : v104.toInt = by0.toInt % 256 := by rw [← hv104]; exact c_mask by0 (255 : Int32) 8 (by decide) (by decide)
  refine own_iand (pc' := 13) X102 hx (z := v104) hv104 (hb hby dlc0_1_12) rfl ?_
  obtain ⟨v106, hv106⟩ : ∃ z, v104.toUInt32.toUInt16.toUInt32.toInt32 = z := ⟨_, rfl⟩
  have f107 : (v106.toInt - v104.toInt) % 65536 = 0 ∧ 0 ≤ v106.toInt ∧ v106.toInt < 65536 := by rw [← hv106]; exact c_i2c v104
  replace f107 : v106.toInt = v104.toInt := by omega
  refine own_i2c (pc' := 14) X102 hx (z := v106) hv106 (hb hby dlc0_1_13) rfl ?_
  refine own_ret X102 hx Bd.returns Bd.notSynchronized (Or.inl ⟨rfl, by simp, _, rfl⟩) (hb hby dlc0_1_14) (own_nch (by omega)) (by decide) (by decide) ?_
  show Qlc0_1 Z a1 kb by0 fv h0 n0 _ T102.heap _
  rw [e102]
  exact ⟨v106, rfl, by omega, N102a, rfl⟩
theorem ef_lc0_2 (m : MethodId) (x0 : Addr) : entryFrame m #[(.ref x0), (.int (0 : Int32))] 2 = mkF m 0 #[.val (.ref x0), .val (.int (0 : Int32))] [] := by first | (simp [entryFrame, mkF, argsToLocals, Value.category, maxLocals]; done) | rfl
def Qlc0_2 (Z : State) (a1 : Addr) (kb : ClassId) (by0 : Int32) (by1 : Int32) (fv : Value) (h0 : Heap) (n0 : Nat) (v : Option Value) (h : Heap) (L : List Loc) : Prop := ∃ r : Int32, v = some (.int r) ∧ (r.toInt = by0.toInt % 256) ∧ Fr n0 L ∧ h = h0
set_option maxRecDepth 65536 in
set_option maxHeartbeats 40000000 in
theorem rmlc0_2 (l : Launch) (Z : State) (a0 : Array Value) (hw : ∀ d ∈ tables_1, d.before a0 Z = true) (ws : List Jvm.Cond) (a1 : Addr) (kb : ClassId) (by0 : Int32) (by1 : Int32) (fv : Value) (h0 : Heap) (n0 : Nat) (Z0 : n0 ≤ h0.size) (A_a1 : Arv Z h0 a1 kb .byte (2 : Int32) [(.int by0), (.int by1)] (.int (0 : Int32))) (S_SIOOBE_FORMATTER : Sta Z h0 "jdk/internal/util/Preconditions" "SIOOBE_FORMATTER" "Ljava/util/function/BiFunction;" fv) (hfv : fv.isRef = true) (hb0 : -128 ≤ by0.toInt ∧ by0.toInt < 128) (hb1 : -128 ≤ by1.toInt ∧ by1.toInt < 128) :
    MetFree l (⟨"java/lang/StringLatin1", "charAt", "([BI)C"⟩ : MethodName) (head1 (Jvm.Cond.code (⟨"java/lang/StringLatin1", "charAt", "([BI)C"⟩ : MethodName) jdk_43_method_2_code 2 (some .char) :: ws) ({ frames := 2, cells := 0, slots := 0, locals := 28 } : Room)) (fun a U => a = #[(.ref a1), (.int (0 : Int32))] ∧ Z.Warmed39 U.vm ∧ U.heap = h0) (fun _ _ _ _ _ => True) (fun _ U o U' => ∃ v L, o = .returned v ∧ Qlc0_2 Z a1 kb by0 by1 fv h0 n0 v U'.heap L ∧ FrameEnd U o U' L ({ frames := 2, cells := 0, slots := 0, locals := 28 } : Room).cells ({ frames := 2, cells := 0, slots := 0, locals := 28 } : Room).slots) := by
  refine MetFree.of_bodySF (plainFor_of_name pn_3) hisR ?_
  intro p e s m args below meth c s₁ Bd hml0 hP hK
  obtain ⟨rfl, hZ, hh⟩ := hP
  have hx := Bd.exec
  have hby := Bd.bytes
  have hml : c.maxLocals = 2 := hml0
  have hown : s.vm.findClass "java/lang/StringLatin1" = some m.cls := findClass_of_methodNamed Bd.named
  have hnm := (name_of_methodNamed Bd.named Bd.method).1
  have X0 : Stand p l e ({ frames := 2, cells := 0, slots := 0, locals := 28 } : Room) s m #[(.ref a1), (.int (0 : Int32))] below meth c s₁ [] 0 0 := Stand.of_body Bd
  have e0 : s₁.heap = h0 := by rw [← hh, Bd.state]; rfl
  have N0 := Fr.nil n0
  change own_Go p e below (Qlc0_2 Z a1 kb by0 by1 fv h0 n0) (own_Fr s ({ frames := 2, cells := 0, slots := 0, locals := 28 } : Room).cells ({ frames := 2, cells := 0, slots := 0, locals := 28 } : Room).slots) (s₁.setTop (entryFrame m #[(.ref a1), (.int (0 : Int32))] 2))
  rw [ef_lc0_2 m a1]
  have rby0 := rng32 by0
  have rby1 := rng32 by1
  refine own_iloadN (pc' := 1) X0 hx rfl (hb hby dlc0_1_0) rfl ?_
  refine own_aloadN (pc' := 2) X0 hx rfl rfl (hb hby dlc0_1_1) rfl ?_
  obtain ⟨c101, B101, q101, s101, u101, H101, G101⟩ := id A_a1
  refine own_by (X0.arraylength hx (by rw [e0]; exact B101.1) (State.isArrayOf_alike hZ.alike B101.2.1) (g := (mkF m 2 #[.val (.ref a1), .val (.int (0 : Int32))] [(.ref a1), (.int (0 : Int32))])) rfl rfl (hb hby dlc0_1_2)) ?_
  rw [len_of s101 u101]
  show own_Go p e below (Qlc0_2 Z a1 kb by0 by1 fv h0 n0) (own_Fr s ({ frames := 2, cells := 0, slots := 0, locals := 28 } : Room).cells ({ frames := 2, cells := 0, slots := 0, locals := 28 } : Room).slots) (s₁.setTop (mkF m 3 #[.val (.ref a1), .val (.int (0 : Int32))] [(.int (2 : Int32)), (.int (0 : Int32))]))
  obtain ⟨_, _, ⟨T102, L102, k102, n102⟩, -, X102, ⟨Lc102, hQ102, l102, y102, z102⟩, st102⟩ := Jvm.LawKit.callS X0 hx (y := (⟨"java/lang/String", "checkIndex", "(II)V"⟩ : MethodName)) hown (mvT hZ (hw _ (List.mem_of_getElem? (i := 89) rfl))) (mvT hZ (hw _ (List.mem_of_getElem? (i := 90) rfl))) (mvT hZ (hw _ (List.mem_of_getElem? (i := 3) rfl))) (mvT hZ (hw _ (List.mem_of_getElem? (i := 91) rfl))) (by decide) (backOf (W := 0) (rmsc0_2 l Z a0 hw [] fv h0 n0 Z0 S_SIOOBE_FORMATTER hfv) hZ (hw _ (List.mem_of_getElem? (i := 91) rfl)) (hw _ (List.mem_of_getElem? (i := 3) rfl)) (by decide) (by decide)) (g := (mkF m 3 #[.val (.ref a1), .val (.int (0 : Int32))] [(.int (2 : Int32)), (.int (0 : Int32))])) rfl (by rw [hml]; rfl) (argsL := [(.int (0 : Int32)), (.int (2 : Int32))]) (rest := []) (lenOf pd_8 rfl) rfl (by show 2 * 0 + _ ≤ _; exact Nat.le_of_eq rfl) (hb hby dlc0_1_3) (fun _ _ => ⟨rfl, e0, (by decide : 0 + 0 ≤ _), (by decide : 0 + 0 ≤ _)⟩)
  dsimp only [Pt.U, Pt.locs, Pt.cells, Pt.slots] at X102 l102 y102 z102 st102 hQ102
  subst y102 z102
  obtain ⟨rfl, pp102, N102, e102⟩ := hQ102
  have N102a : Fr n0 L102 := by rw [l102]; exact Fr.app N0 N102
  refine own_by st102 ?_
  show own_Go p e below (Qlc0_2 Z a1 kb by0 by1 fv h0 n0) (own_Fr s ({ frames := 2, cells := 0, slots := 0, locals := 28 } : Room).cells ({ frames := 2, cells := 0, slots := 0, locals := 28 } : Room).slots) (T102.setTop (mkF m 6 #[.val (.ref a1), .val (.int (0 : Int32))] []))
  refine own_aloadN (pc' := 7) X102 hx rfl rfl (hb hby dlc0_1_6) rfl ?_
  refine own_iloadN (pc' := 8) X102 hx rfl (hb hby dlc0_1_7) rfl ?_
  obtain ⟨c103, B103, q103, s103, u103, H103, G103⟩ := id A_a1
  have i103 := inb_of s103 (j := (0 : Int32)) (by decide)
  refine own_by (X102.baloadBytes hx (j := (0 : Int32)) (v := (.int by0)) (by rw [e102]; exact B103.1) (State.isArrayOf_alike hZ.alike B103.2.1) B103.2.2 i103 (H103.at i103 rfl) (g := (mkF m 8 #[.val (.ref a1), .val (.int (0 : Int32))] [(.int (0 : Int32)), (.ref a1)])) rfl rfl (hb hby dlc0_1_8)) ?_
  show own_Go p e below (Qlc0_2 Z a1 kb by0 by1 fv h0 n0) (own_Fr s ({ frames := 2, cells := 0, slots := 0, locals := 28 } : Room).cells ({ frames := 2, cells := 0, slots := 0, locals := 28 } : Room).slots) (T102.setTop (mkF m 9 #[.val (.ref a1), .val (.int (0 : Int32))] [(.int by0)]))
  refine own_sipush (pc' := 12) X102 hx (255 : Int32) (by decide) (hb hby dlc0_1_9) rfl ?_
  obtain ⟨v104, hv104⟩ : ∃ z, by0 &&& (255 : Int32) = z := ⟨_, rfl⟩
  have f105 : v104.toInt = by0.toInt % 256 := by rw [← hv104]; exact c_mask by0 (255 : Int32) 8 (by decide) (by decide)
  refine own_iand (pc' := 13) X102 hx (z := v104) hv104 (hb hby dlc0_1_12) rfl ?_
  obtain ⟨v106, hv106⟩ : ∃ z, v104.toUInt32.toUInt16.toUInt32.toInt32 = z := ⟨_, rfl⟩
  have f107 : (v106.toInt - v104.toInt) % 65536 = 0 ∧ 0 ≤ v106.toInt ∧ v106.toInt < 65536 := by rw [← hv106]; exact c_i2c v104
  replace f107 : v106.toInt = v104.toInt := by omega
  refine own_i2c (pc' := 14) X102 hx (z := v106) hv106 (hb hby dlc0_1_13) rfl ?_
  refine own_ret X102 hx Bd.returns Bd.notSynchronized (Or.inl ⟨rfl, by simp, _, rfl⟩) (hb hby dlc0_1_14) (own_nch (by omega)) (by decide) (by decide) ?_
  show Qlc0_2 Z a1 kb by0 by1 fv h0 n0 _ T102.heap _
  rw [e102]
  exact ⟨v106, rfl, by omega, N102a, rfl⟩
theorem ef_lc1_2 (m : MethodId) (x0 : Addr) : entryFrame m #[(.ref x0), (.int (1 : Int32))] 2 = mkF m 0 #[.val (.ref x0), .val (.int (1 : Int32))] [] := by first | (simp [entryFrame, mkF, argsToLocals, Value.category, maxLocals]; done) | rfl
def Qlc1_2 (Z : State) (a1 : Addr) (kb : ClassId) (by0 : Int32) (by1 : Int32) (fv : Value) (h0 : Heap) (n0 : Nat) (v : Option Value) (h : Heap) (L : List Loc) : Prop := ∃ r : Int32, v = some (.int r) ∧ (r.toInt = by1.toInt % 256) ∧ Fr n0 L ∧ h = h0
set_option maxRecDepth 65536 in
set_option maxHeartbeats 40000000 in
theorem rmlc1_2 (l : Launch) (Z : State) (a0 : Array Value) (hw : ∀ d ∈ tables_1, d.before a0 Z = true) (ws : List Jvm.Cond) (a1 : Addr) (kb : ClassId) (by0 : Int32) (by1 : Int32) (fv : Value) (h0 : Heap) (n0 : Nat) (Z0 : n0 ≤ h0.size) (A_a1 : Arv Z h0 a1 kb .byte (2 : Int32) [(.int by0), (.int by1)] (.int (0 : Int32))) (S_SIOOBE_FORMATTER : Sta Z h0 "jdk/internal/util/Preconditions" "SIOOBE_FORMATTER" "Ljava/util/function/BiFunction;" fv) (hfv : fv.isRef = true) (hb0 : -128 ≤ by0.toInt ∧ by0.toInt < 128) (hb1 : -128 ≤ by1.toInt ∧ by1.toInt < 128) :
    MetFree l (⟨"java/lang/StringLatin1", "charAt", "([BI)C"⟩ : MethodName) (head1 (Jvm.Cond.code (⟨"java/lang/StringLatin1", "charAt", "([BI)C"⟩ : MethodName) jdk_43_method_2_code 2 (some .char) :: ws) ({ frames := 2, cells := 0, slots := 0, locals := 28 } : Room)) (fun a U => a = #[(.ref a1), (.int (1 : Int32))] ∧ Z.Warmed39 U.vm ∧ U.heap = h0) (fun _ _ _ _ _ => True) (fun _ U o U' => ∃ v L, o = .returned v ∧ Qlc1_2 Z a1 kb by0 by1 fv h0 n0 v U'.heap L ∧ FrameEnd U o U' L ({ frames := 2, cells := 0, slots := 0, locals := 28 } : Room).cells ({ frames := 2, cells := 0, slots := 0, locals := 28 } : Room).slots) := by
  refine MetFree.of_bodySF (plainFor_of_name pn_3) hisR ?_
  intro p e s m args below meth c s₁ Bd hml0 hP hK
  obtain ⟨rfl, hZ, hh⟩ := hP
  have hx := Bd.exec
  have hby := Bd.bytes
  have hml : c.maxLocals = 2 := hml0
  have hown : s.vm.findClass "java/lang/StringLatin1" = some m.cls := findClass_of_methodNamed Bd.named
  have hnm := (name_of_methodNamed Bd.named Bd.method).1
  have X0 : Stand p l e ({ frames := 2, cells := 0, slots := 0, locals := 28 } : Room) s m #[(.ref a1), (.int (1 : Int32))] below meth c s₁ [] 0 0 := Stand.of_body Bd
  have e0 : s₁.heap = h0 := by rw [← hh, Bd.state]; rfl
  have N0 := Fr.nil n0
  change own_Go p e below (Qlc1_2 Z a1 kb by0 by1 fv h0 n0) (own_Fr s ({ frames := 2, cells := 0, slots := 0, locals := 28 } : Room).cells ({ frames := 2, cells := 0, slots := 0, locals := 28 } : Room).slots) (s₁.setTop (entryFrame m #[(.ref a1), (.int (1 : Int32))] 2))
  rw [ef_lc1_2 m a1]
  have rby0 := rng32 by0
  have rby1 := rng32 by1
  refine own_iloadN (pc' := 1) X0 hx rfl (hb hby dlc0_1_0) rfl ?_
  refine own_aloadN (pc' := 2) X0 hx rfl rfl (hb hby dlc0_1_1) rfl ?_
  obtain ⟨c101, B101, q101, s101, u101, H101, G101⟩ := id A_a1
  refine own_by (X0.arraylength hx (by rw [e0]; exact B101.1) (State.isArrayOf_alike hZ.alike B101.2.1) (g := (mkF m 2 #[.val (.ref a1), .val (.int (1 : Int32))] [(.ref a1), (.int (1 : Int32))])) rfl rfl (hb hby dlc0_1_2)) ?_
  rw [len_of s101 u101]
  show own_Go p e below (Qlc1_2 Z a1 kb by0 by1 fv h0 n0) (own_Fr s ({ frames := 2, cells := 0, slots := 0, locals := 28 } : Room).cells ({ frames := 2, cells := 0, slots := 0, locals := 28 } : Room).slots) (s₁.setTop (mkF m 3 #[.val (.ref a1), .val (.int (1 : Int32))] [(.int (2 : Int32)), (.int (1 : Int32))]))
  obtain ⟨_, _, ⟨T102, L102, k102, n102⟩, -, X102, ⟨Lc102, hQ102, l102, y102, z102⟩, st102⟩ := Jvm.LawKit.callS X0 hx (y := (⟨"java/lang/String", "checkIndex", "(II)V"⟩ : MethodName)) hown (mvT hZ (hw _ (List.mem_of_getElem? (i := 89) rfl))) (mvT hZ (hw _ (List.mem_of_getElem? (i := 90) rfl))) (mvT hZ (hw _ (List.mem_of_getElem? (i := 3) rfl))) (mvT hZ (hw _ (List.mem_of_getElem? (i := 91) rfl))) (by decide) (backOf (W := 0) (rmsc1_2 l Z a0 hw [] fv h0 n0 Z0 S_SIOOBE_FORMATTER hfv) hZ (hw _ (List.mem_of_getElem? (i := 91) rfl)) (hw _ (List.mem_of_getElem? (i := 3) rfl)) (by decide) (by decide)) (g := (mkF m 3 #[.val (.ref a1), .val (.int (1 : Int32))] [(.int (2 : Int32)), (.int (1 : Int32))])) rfl (by rw [hml]; rfl) (argsL := [(.int (1 : Int32)), (.int (2 : Int32))]) (rest := []) (lenOf pd_8 rfl) rfl (by show 2 * 0 + _ ≤ _; exact Nat.le_of_eq rfl) (hb hby dlc0_1_3) (fun _ _ => ⟨rfl, e0, (by decide : 0 + 0 ≤ _), (by decide : 0 + 0 ≤ _)⟩)
  dsimp only [Pt.U, Pt.locs, Pt.cells, Pt.slots] at X102 l102 y102 z102 st102 hQ102
  subst y102 z102
  obtain ⟨rfl, pp102, N102, e102⟩ := hQ102
  have N102a : Fr n0 L102 := by rw [l102]; exact Fr.app N0 N102
  refine own_by st102 ?_
  show own_Go p e below (Qlc1_2 Z a1 kb by0 by1 fv h0 n0) (own_Fr s ({ frames := 2, cells := 0, slots := 0, locals := 28 } : Room).cells ({ frames := 2, cells := 0, slots := 0, locals := 28 } : Room).slots) (T102.setTop (mkF m 6 #[.val (.ref a1), .val (.int (1 : Int32))] []))
  refine own_aloadN (pc' := 7) X102 hx rfl rfl (hb hby dlc0_1_6) rfl ?_
  refine own_iloadN (pc' := 8) X102 hx rfl (hb hby dlc0_1_7) rfl ?_
  obtain ⟨c103, B103, q103, s103, u103, H103, G103⟩ := id A_a1
  have i103 := inb_of s103 (j := (1 : Int32)) (by decide)
  refine own_by (X102.baloadBytes hx (j := (1 : Int32)) (v := (.int by1)) (by rw [e102]; exact B103.1) (State.isArrayOf_alike hZ.alike B103.2.1) B103.2.2 i103 (H103.at i103 rfl) (g := (mkF m 8 #[.val (.ref a1), .val (.int (1 : Int32))] [(.int (1 : Int32)), (.ref a1)])) rfl rfl (hb hby dlc0_1_8)) ?_
  show own_Go p e below (Qlc1_2 Z a1 kb by0 by1 fv h0 n0) (own_Fr s ({ frames := 2, cells := 0, slots := 0, locals := 28 } : Room).cells ({ frames := 2, cells := 0, slots := 0, locals := 28 } : Room).slots) (T102.setTop (mkF m 9 #[.val (.ref a1), .val (.int (1 : Int32))] [(.int by1)]))
  refine own_sipush (pc' := 12) X102 hx (255 : Int32) (by decide) (hb hby dlc0_1_9) rfl ?_
  obtain ⟨v104, hv104⟩ : ∃ z, by1 &&& (255 : Int32) = z := ⟨_, rfl⟩
  have f105 : v104.toInt = by1.toInt % 256 := by rw [← hv104]; exact c_mask by1 (255 : Int32) 8 (by decide) (by decide)
  refine own_iand (pc' := 13) X102 hx (z := v104) hv104 (hb hby dlc0_1_12) rfl ?_
  obtain ⟨v106, hv106⟩ : ∃ z, v104.toUInt32.toUInt16.toUInt32.toInt32 = z := ⟨_, rfl⟩
  have f107 : (v106.toInt - v104.toInt) % 65536 = 0 ∧ 0 ≤ v106.toInt ∧ v106.toInt < 65536 := by rw [← hv106]; exact c_i2c v104
  replace f107 : v106.toInt = v104.toInt := by omega
  refine own_i2c (pc' := 14) X102 hx (z := v106) hv106 (hb hby dlc0_1_13) rfl ?_
  refine own_ret X102 hx Bd.returns Bd.notSynchronized (Or.inl ⟨rfl, by simp, _, rfl⟩) (hb hby dlc0_1_14) (own_nch (by omega)) (by decide) (by decide) ?_
  show Qlc1_2 Z a1 kb by0 by1 fv h0 n0 _ T102.heap _
  rw [e102]
  exact ⟨v106, rfl, by omega, N102a, rfl⟩
theorem ef_lc0_3 (m : MethodId) (x0 : Addr) : entryFrame m #[(.ref x0), (.int (0 : Int32))] 2 = mkF m 0 #[.val (.ref x0), .val (.int (0 : Int32))] [] := by first | (simp [entryFrame, mkF, argsToLocals, Value.category, maxLocals]; done) | rfl
def Qlc0_3 (Z : State) (a1 : Addr) (kb : ClassId) (by0 : Int32) (by1 : Int32) (by2 : Int32) (fv : Value) (h0 : Heap) (n0 : Nat) (v : Option Value) (h : Heap) (L : List Loc) : Prop := ∃ r : Int32, v = some (.int r) ∧ (r.toInt = by0.toInt % 256) ∧ Fr n0 L ∧ h = h0
set_option maxRecDepth 65536 in
set_option maxHeartbeats 40000000 in
theorem rmlc0_3 (l : Launch) (Z : State) (a0 : Array Value) (hw : ∀ d ∈ tables_1, d.before a0 Z = true) (ws : List Jvm.Cond) (a1 : Addr) (kb : ClassId) (by0 : Int32) (by1 : Int32) (by2 : Int32) (fv : Value) (h0 : Heap) (n0 : Nat) (Z0 : n0 ≤ h0.size) (A_a1 : Arv Z h0 a1 kb .byte (3 : Int32) [(.int by0), (.int by1), (.int by2)] (.int (0 : Int32))) (S_SIOOBE_FORMATTER : Sta Z h0 "jdk/internal/util/Preconditions" "SIOOBE_FORMATTER" "Ljava/util/function/BiFunction;" fv) (hfv : fv.isRef = true) (hb0 : -128 ≤ by0.toInt ∧ by0.toInt < 128) (hb1 : -128 ≤ by1.toInt ∧ by1.toInt < 128) (hb2 : -128 ≤ by2.toInt ∧ by2.toInt < 128) :
    MetFree l (⟨"java/lang/StringLatin1", "charAt", "([BI)C"⟩ : MethodName) (head1 (Jvm.Cond.code (⟨"java/lang/StringLatin1", "charAt", "([BI)C"⟩ : MethodName) jdk_43_method_2_code 2 (some .char) :: ws) ({ frames := 2, cells := 0, slots := 0, locals := 28 } : Room)) (fun a U => a = #[(.ref a1), (.int (0 : Int32))] ∧ Z.Warmed39 U.vm ∧ U.heap = h0) (fun _ _ _ _ _ => True) (fun _ U o U' => ∃ v L, o = .returned v ∧ Qlc0_3 Z a1 kb by0 by1 by2 fv h0 n0 v U'.heap L ∧ FrameEnd U o U' L ({ frames := 2, cells := 0, slots := 0, locals := 28 } : Room).cells ({ frames := 2, cells := 0, slots := 0, locals := 28 } : Room).slots) := by
  refine MetFree.of_bodySF (plainFor_of_name pn_3) hisR ?_
  intro p e s m args below meth c s₁ Bd hml0 hP hK
  obtain ⟨rfl, hZ, hh⟩ := hP
  have hx := Bd.exec
  have hby := Bd.bytes
  have hml : c.maxLocals = 2 := hml0
  have hown : s.vm.findClass "java/lang/StringLatin1" = some m.cls := findClass_of_methodNamed Bd.named
  have hnm := (name_of_methodNamed Bd.named Bd.method).1
  have X0 : Stand p l e ({ frames := 2, cells := 0, slots := 0, locals := 28 } : Room) s m #[(.ref a1), (.int (0 : Int32))] below meth c s₁ [] 0 0 := Stand.of_body Bd
  have e0 : s₁.heap = h0 := by rw [← hh, Bd.state]; rfl
  have N0 := Fr.nil n0
  change own_Go p e below (Qlc0_3 Z a1 kb by0 by1 by2 fv h0 n0) (own_Fr s ({ frames := 2, cells := 0, slots := 0, locals := 28 } : Room).cells ({ frames := 2, cells := 0, slots := 0, locals := 28 } : Room).slots) (s₁.setTop (entryFrame m #[(.ref a1), (.int (0 : Int32))] 2))
  rw [ef_lc0_3 m a1]
  have rby0 := rng32 by0
  have rby1 := rng32 by1
  have rby2 := rng32 by2
  refine own_iloadN (pc' := 1) X0 hx rfl (hb hby dlc0_1_0) rfl ?_
  refine own_aloadN (pc' := 2) X0 hx rfl rfl (hb hby dlc0_1_1) rfl ?_
  obtain ⟨c101, B101, q101, s101, u101, H101, G101⟩ := id A_a1
  refine own_by (X0.arraylength hx (by rw [e0]; exact B101.1) (State.isArrayOf_alike hZ.alike B101.2.1) (g := (mkF m 2 #[.val (.ref a1), .val (.int (0 : Int32))] [(.ref a1), (.int (0 : Int32))])) rfl rfl (hb hby dlc0_1_2)) ?_
  rw [len_of s101 u101]
  show own_Go p e below (Qlc0_3 Z a1 kb by0 by1 by2 fv h0 n0) (own_Fr s ({ frames := 2, cells := 0, slots := 0, locals := 28 } : Room).cells ({ frames := 2, cells := 0, slots := 0, locals := 28 } : Room).slots) (s₁.setTop (mkF m 3 #[.val (.ref a1), .val (.int (0 : Int32))] [(.int (3 : Int32)), (.int (0 : Int32))]))
  obtain ⟨_, _, ⟨T102, L102, k102, n102⟩, -, X102, ⟨Lc102, hQ102, l102, y102, z102⟩, st102⟩ := Jvm.LawKit.callS X0 hx (y := (⟨"java/lang/String", "checkIndex", "(II)V"⟩ : MethodName)) hown (mvT hZ (hw _ (List.mem_of_getElem? (i := 89) rfl))) (mvT hZ (hw _ (List.mem_of_getElem? (i := 90) rfl))) (mvT hZ (hw _ (List.mem_of_getElem? (i := 3) rfl))) (mvT hZ (hw _ (List.mem_of_getElem? (i := 91) rfl))) (by decide) (backOf (W := 0) (rmsc0_3 l Z a0 hw [] fv h0 n0 Z0 S_SIOOBE_FORMATTER hfv) hZ (hw _ (List.mem_of_getElem? (i := 91) rfl)) (hw _ (List.mem_of_getElem? (i := 3) rfl)) (by decide) (by decide)) (g := (mkF m 3 #[.val (.ref a1), .val (.int (0 : Int32))] [(.int (3 : Int32)), (.int (0 : Int32))])) rfl (by rw [hml]; rfl) (argsL := [(.int (0 : Int32)), (.int (3 : Int32))]) (rest := []) (lenOf pd_8 rfl) rfl (by show 2 * 0 + _ ≤ _; exact Nat.le_of_eq rfl) (hb hby dlc0_1_3) (fun _ _ => ⟨rfl, e0, (by decide : 0 + 0 ≤ _), (by decide : 0 + 0 ≤ _)⟩)
  dsimp only [Pt.U, Pt.locs, Pt.cells, Pt.slots] at X102 l102 y102 z102 st102 hQ102
  subst y102 z102
  obtain ⟨rfl, pp102, N102, e102⟩ := hQ102
  have N102a : Fr n0 L102 := by rw [l102]; exact Fr.app N0 N102
  refine own_by st102 ?_
  show own_Go p e below (Qlc0_3 Z a1 kb by0 by1 by2 fv h0 n0) (own_Fr s ({ frames := 2, cells := 0, slots := 0, locals := 28 } : Room).cells ({ frames := 2, cells := 0, slots := 0, locals := 28 } : Room).slots) (T102.setTop (mkF m 6 #[.val (.ref a1), .val (.int (0 : Int32))] []))
  refine own_aloadN (pc' := 7) X102 hx rfl rfl (hb hby dlc0_1_6) rfl ?_
  refine own_iloadN (pc' := 8) X102 hx rfl (hb hby dlc0_1_7) rfl ?_
  obtain ⟨c103, B103, q103, s103, u103, H103, G103⟩ := id A_a1
  have i103 := inb_of s103 (j := (0 : Int32)) (by decide)
  refine own_by (X102.baloadBytes hx (j := (0 : Int32)) (v := (.int by0)) (by rw [e102]; exact B103.1) (State.isArrayOf_alike hZ.alike B103.2.1) B103.2.2 i103 (H103.at i103 rfl) (g := (mkF m 8 #[.val (.ref a1), .val (.int (0 : Int32))] [(.int (0 : Int32)), (.ref a1)])) rfl rfl (hb hby dlc0_1_8)) ?_
  show own_Go p e below (Qlc0_3 Z a1 kb by0 by1 by2 fv h0 n0) (own_Fr s ({ frames := 2, cells := 0, slots := 0, locals := 28 } : Room).cells ({ frames := 2, cells := 0, slots := 0, locals := 28 } : Room).slots) (T102.setTop (mkF m 9 #[.val (.ref a1), .val (.int (0 : Int32))] [(.int by0)]))
  refine own_sipush (pc' := 12) X102 hx (255 : Int32) (by decide) (hb hby dlc0_1_9) rfl ?_
  obtain ⟨v104, hv104⟩ : ∃ z, by0 &&& (255 : Int32) = z := ⟨_, rfl⟩
  have f105 : v104.toInt = by0.toInt % 256 := by rw [← hv104]; exact c_mask by0 (255 : Int32) 8 (by decide) (by decide)
  refine own_iand (pc' := 13) X102 hx (z := v104) hv104 (hb hby dlc0_1_12) rfl ?_
  obtain ⟨v106, hv106⟩ : ∃ z, v104.toUInt32.toUInt16.toUInt32.toInt32 = z := ⟨_, rfl⟩
  have f107 : (v106.toInt - v104.toInt) % 65536 = 0 ∧ 0 ≤ v106.toInt ∧ v106.toInt < 65536 := by rw [← hv106]; exact c_i2c v104
  replace f107 : v106.toInt = v104.toInt := by omega
  refine own_i2c (pc' := 14) X102 hx (z := v106) hv106 (hb hby dlc0_1_13) rfl ?_
  refine own_ret X102 hx Bd.returns Bd.notSynchronized (Or.inl ⟨rfl, by simp, _, rfl⟩) (hb hby dlc0_1_14) (own_nch (by omega)) (by decide) (by decide) ?_
  show Qlc0_3 Z a1 kb by0 by1 by2 fv h0 n0 _ T102.heap _
  rw [e102]
  exact ⟨v106, rfl, by omega, N102a, rfl⟩
theorem ef_lc1_3 (m : MethodId) (x0 : Addr) : entryFrame m #[(.ref x0), (.int (1 : Int32))] 2 = mkF m 0 #[.val (.ref x0), .val (.int (1 : Int32))] [] := by first | (simp [entryFrame, mkF, argsToLocals, Value.category, maxLocals]; done) | rfl
def Qlc1_3 (Z : State) (a1 : Addr) (kb : ClassId) (by0 : Int32) (by1 : Int32) (by2 : Int32) (fv : Value) (h0 : Heap) (n0 : Nat) (v : Option Value) (h : Heap) (L : List Loc) : Prop := ∃ r : Int32, v = some (.int r) ∧ (r.toInt = by1.toInt % 256) ∧ Fr n0 L ∧ h = h0
set_option maxRecDepth 65536 in
set_option maxHeartbeats 40000000 in
theorem rmlc1_3 (l : Launch) (Z : State) (a0 : Array Value) (hw : ∀ d ∈ tables_1, d.before a0 Z = true) (ws : List Jvm.Cond) (a1 : Addr) (kb : ClassId) (by0 : Int32) (by1 : Int32) (by2 : Int32) (fv : Value) (h0 : Heap) (n0 : Nat) (Z0 : n0 ≤ h0.size) (A_a1 : Arv Z h0 a1 kb .byte (3 : Int32) [(.int by0), (.int by1), (.int by2)] (.int (0 : Int32))) (S_SIOOBE_FORMATTER : Sta Z h0 "jdk/internal/util/Preconditions" "SIOOBE_FORMATTER" "Ljava/util/function/BiFunction;" fv) (hfv : fv.isRef = true) (hb0 : -128 ≤ by0.toInt ∧ by0.toInt < 128) (hb1 : -128 ≤ by1.toInt ∧ by1.toInt < 128) (hb2 : -128 ≤ by2.toInt ∧ by2.toInt < 128) :
    MetFree l (⟨"java/lang/StringLatin1", "charAt", "([BI)C"⟩ : MethodName) (head1 (Jvm.Cond.code (⟨"java/lang/StringLatin1", "charAt", "([BI)C"⟩ : MethodName) jdk_43_method_2_code 2 (some .char) :: ws) ({ frames := 2, cells := 0, slots := 0, locals := 28 } : Room)) (fun a U => a = #[(.ref a1), (.int (1 : Int32))] ∧ Z.Warmed39 U.vm ∧ U.heap = h0) (fun _ _ _ _ _ => True) (fun _ U o U' => ∃ v L, o = .returned v ∧ Qlc1_3 Z a1 kb by0 by1 by2 fv h0 n0 v U'.heap L ∧ FrameEnd U o U' L ({ frames := 2, cells := 0, slots := 0, locals := 28 } : Room).cells ({ frames := 2, cells := 0, slots := 0, locals := 28 } : Room).slots) := by
  refine MetFree.of_bodySF (plainFor_of_name pn_3) hisR ?_
  intro p e s m args below meth c s₁ Bd hml0 hP hK
  obtain ⟨rfl, hZ, hh⟩ := hP
  have hx := Bd.exec
  have hby := Bd.bytes
  have hml : c.maxLocals = 2 := hml0
  have hown : s.vm.findClass "java/lang/StringLatin1" = some m.cls := findClass_of_methodNamed Bd.named
  have hnm := (name_of_methodNamed Bd.named Bd.method).1
  have X0 : Stand p l e ({ frames := 2, cells := 0, slots := 0, locals := 28 } : Room) s m #[(.ref a1), (.int (1 : Int32))] below meth c s₁ [] 0 0 := Stand.of_body Bd
  have e0 : s₁.heap = h0 := by rw [← hh, Bd.state]; rfl
  have N0 := Fr.nil n0
  change own_Go p e below (Qlc1_3 Z a1 kb by0 by1 by2 fv h0 n0) (own_Fr s ({ frames := 2, cells := 0, slots := 0, locals := 28 } : Room).cells ({ frames := 2, cells := 0, slots := 0, locals := 28 } : Room).slots) (s₁.setTop (entryFrame m #[(.ref a1), (.int (1 : Int32))] 2))
  rw [ef_lc1_3 m a1]
  have rby0 := rng32 by0
  have rby1 := rng32 by1
  have rby2 := rng32 by2
  refine own_iloadN (pc' := 1) X0 hx rfl (hb hby dlc0_1_0) rfl ?_
  refine own_aloadN (pc' := 2) X0 hx rfl rfl (hb hby dlc0_1_1) rfl ?_
  obtain ⟨c101, B101, q101, s101, u101, H101, G101⟩ := id A_a1
  refine own_by (X0.arraylength hx (by rw [e0]; exact B101.1) (State.isArrayOf_alike hZ.alike B101.2.1) (g := (mkF m 2 #[.val (.ref a1), .val (.int (1 : Int32))] [(.ref a1), (.int (1 : Int32))])) rfl rfl (hb hby dlc0_1_2)) ?_
  rw [len_of s101 u101]
  show own_Go p e below (Qlc1_3 Z a1 kb by0 by1 by2 fv h0 n0) (own_Fr s ({ frames := 2, cells := 0, slots := 0, locals := 28 } : Room).cells ({ frames := 2, cells := 0, slots := 0, locals := 28 } : Room).slots) (s₁.setTop (mkF m 3 #[.val (.ref a1), .val (.int (1 : Int32))] [(.int (3 : Int32)), (.int (1 : Int32))]))
  obtain ⟨_, _, ⟨T102, L102, k102, n102⟩, -, X102, ⟨Lc102, hQ102, l102, y102, z102⟩, st102⟩ := Jvm.LawKit.callS X0 hx (y := (⟨"java/lang/String", "checkIndex", "(II)V"⟩ : MethodName)) hown (mvT hZ (hw _ (List.mem_of_getElem? (i := 89) rfl))) (mvT hZ (hw _ (List.mem_of_getElem? (i := 90) rfl))) (mvT hZ (hw _ (List.mem_of_getElem? (i := 3) rfl))) (mvT hZ (hw _ (List.mem_of_getElem? (i := 91) rfl))) (by decide) (backOf (W := 0) (rmsc1_3 l Z a0 hw [] fv h0 n0 Z0 S_SIOOBE_FORMATTER hfv) hZ (hw _ (List.mem_of_getElem? (i := 91) rfl)) (hw _ (List.mem_of_getElem? (i := 3) rfl)) (by decide) (by decide)) (g := (mkF m 3 #[.val (.ref a1), .val (.int (1 : Int32))] [(.int (3 : Int32)), (.int (1 : Int32))])) rfl (by rw [hml]; rfl) (argsL := [(.int (1 : Int32)), (.int (3 : Int32))]) (rest := []) (lenOf pd_8 rfl) rfl (by show 2 * 0 + _ ≤ _; exact Nat.le_of_eq rfl) (hb hby dlc0_1_3) (fun _ _ => ⟨rfl, e0, (by decide : 0 + 0 ≤ _), (by decide : 0 + 0 ≤ _)⟩)
  dsimp only [Pt.U, Pt.locs, Pt.cells, Pt.slots] at X102 l102 y102 z102 st102 hQ102
  subst y102 z102
  obtain ⟨rfl, pp102, N102, e102⟩ := hQ102
  have N102a : Fr n0 L102 := by rw [l102]; exact Fr.app N0 N102
  refine own_by st102 ?_
  show own_Go p e below (Qlc1_3 Z a1 kb by0 by1 by2 fv h0 n0) (own_Fr s ({ frames := 2, cells := 0, slots := 0, locals := 28 } : Room).cells ({ frames := 2, cells := 0, slots := 0, locals := 28 } : Room).slots) (T102.setTop (mkF m 6 #[.val (.ref a1), .val (.int (1 : Int32))] []))
  refine own_aloadN (pc' := 7) X102 hx rfl rfl (hb hby dlc0_1_6) rfl ?_
  refine own_iloadN (pc' := 8) X102 hx rfl (hb hby dlc0_1_7) rfl ?_
  obtain ⟨c103, B103, q103, s103, u103, H103, G103⟩ := id A_a1
  have i103 := inb_of s103 (j := (1 : Int32)) (by decide)
  refine own_by (X102.baloadBytes hx (j := (1 : Int32)) (v := (.int by1)) (by rw [e102]; exact B103.1) (State.isArrayOf_alike hZ.alike B103.2.1) B103.2.2 i103 (H103.at i103 rfl) (g := (mkF m 8 #[.val (.ref a1), .val (.int (1 : Int32))] [(.int (1 : Int32)), (.ref a1)])) rfl rfl (hb hby dlc0_1_8)) ?_
  show own_Go p e below (Qlc1_3 Z a1 kb by0 by1 by2 fv h0 n0) (own_Fr s ({ frames := 2, cells := 0, slots := 0, locals := 28 } : Room).cells ({ frames := 2, cells := 0, slots := 0, locals := 28 } : Room).slots) (T102.setTop (mkF m 9 #[.val (.ref a1), .val (.int (1 : Int32))] [(.int by1)]))
  refine own_sipush (pc' := 12) X102 hx (255 : Int32) (by decide) (hb hby dlc0_1_9) rfl ?_
  obtain ⟨v104, hv104⟩ : ∃ z, by1 &&& (255 : Int32) = z := ⟨_, rfl⟩
  have f105 : v104.toInt = by1.toInt % 256 := by rw [← hv104]; exact c_mask by1 (255 : Int32) 8 (by decide) (by decide)
  refine own_iand (pc' := 13) X102 hx (z := v104) hv104 (hb hby dlc0_1_12) rfl ?_
  obtain ⟨v106, hv106⟩ : ∃ z, v104.toUInt32.toUInt16.toUInt32.toInt32 = z := ⟨_, rfl⟩
  have f107 : (v106.toInt - v104.toInt) % 65536 = 0 ∧ 0 ≤ v106.toInt ∧ v106.toInt < 65536 := by rw [← hv106]; exact c_i2c v104
  replace f107 : v106.toInt = v104.toInt := by omega
  refine own_i2c (pc' := 14) X102 hx (z := v106) hv106 (hb hby dlc0_1_13) rfl ?_
  refine own_ret X102 hx Bd.returns Bd.notSynchronized (Or.inl ⟨rfl, by simp, _, rfl⟩) (hb hby dlc0_1_14) (own_nch (by omega)) (by decide) (by decide) ?_
  show Qlc1_3 Z a1 kb by0 by1 by2 fv h0 n0 _ T102.heap _
  rw [e102]
  exact ⟨v106, rfl, by omega, N102a, rfl⟩
theorem ef_lc2_3 (m : MethodId) (x0 : Addr) : entryFrame m #[(.ref x0), (.int (2 : Int32))] 2 = mkF m 0 #[.val (.ref x0), .val (.int (2 : Int32))] [] := by first | (simp [entryFrame, mkF, argsToLocals, Value.category, maxLocals]; done) | rfl
def Qlc2_3 (Z : State) (a1 : Addr) (kb : ClassId) (by0 : Int32) (by1 : Int32) (by2 : Int32) (fv : Value) (h0 : Heap) (n0 : Nat) (v : Option Value) (h : Heap) (L : List Loc) : Prop := ∃ r : Int32, v = some (.int r) ∧ (r.toInt = by2.toInt % 256) ∧ Fr n0 L ∧ h = h0
set_option maxRecDepth 65536 in
set_option maxHeartbeats 40000000 in
theorem rmlc2_3 (l : Launch) (Z : State) (a0 : Array Value) (hw : ∀ d ∈ tables_1, d.before a0 Z = true) (ws : List Jvm.Cond) (a1 : Addr) (kb : ClassId) (by0 : Int32) (by1 : Int32) (by2 : Int32) (fv : Value) (h0 : Heap) (n0 : Nat) (Z0 : n0 ≤ h0.size) (A_a1 : Arv Z h0 a1 kb .byte (3 : Int32) [(.int by0), (.int by1), (.int by2)] (.int (0 : Int32))) (S_SIOOBE_FORMATTER : Sta Z h0 "jdk/internal/util/Preconditions" "SIOOBE_FORMATTER" "Ljava/util/function/BiFunction;" fv) (hfv : fv.isRef = true) (hb0 : -128 ≤ by0.toInt ∧ by0.toInt < 128) (hb1 : -128 ≤ by1.toInt ∧ by1.toInt < 128) (hb2 : -128 ≤ by2.toInt ∧ by2.toInt < 128) :
    MetFree l (⟨"java/lang/StringLatin1", "charAt", "([BI)C"⟩ : MethodName) (head1 (Jvm.Cond.code (⟨"java/lang/StringLatin1", "charAt", "([BI)C"⟩ : MethodName) jdk_43_method_2_code 2 (some .char) :: ws) ({ frames := 2, cells := 0, slots := 0, locals := 28 } : Room)) (fun a U => a = #[(.ref a1), (.int (2 : Int32))] ∧ Z.Warmed39 U.vm ∧ U.heap = h0) (fun _ _ _ _ _ => True) (fun _ U o U' => ∃ v L, o = .returned v ∧ Qlc2_3 Z a1 kb by0 by1 by2 fv h0 n0 v U'.heap L ∧ FrameEnd U o U' L ({ frames := 2, cells := 0, slots := 0, locals := 28 } : Room).cells ({ frames := 2, cells := 0, slots := 0, locals := 28 } : Room).slots) := by
  refine MetFree.of_bodySF (plainFor_of_name pn_3) hisR ?_
  intro p e s m args below meth c s₁ Bd hml0 hP hK
  obtain ⟨rfl, hZ, hh⟩ := hP
  have hx := Bd.exec
  have hby := Bd.bytes
  have hml : c.maxLocals = 2 := hml0
  have hown : s.vm.findClass "java/lang/StringLatin1" = some m.cls := findClass_of_methodNamed Bd.named
  have hnm := (name_of_methodNamed Bd.named Bd.method).1
  have X0 : Stand p l e ({ frames := 2, cells := 0, slots := 0, locals := 28 } : Room) s m #[(.ref a1), (.int (2 : Int32))] below meth c s₁ [] 0 0 := Stand.of_body Bd
  have e0 : s₁.heap = h0 := by rw [← hh, Bd.state]; rfl
  have N0 := Fr.nil n0
  change own_Go p e below (Qlc2_3 Z a1 kb by0 by1 by2 fv h0 n0) (own_Fr s ({ frames := 2, cells := 0, slots := 0, locals := 28 } : Room).cells ({ frames := 2, cells := 0, slots := 0, locals := 28 } : Room).slots) (s₁.setTop (entryFrame m #[(.ref a1), (.int (2 : Int32))] 2))
  rw [ef_lc2_3 m a1]
  have rby0 := rng32 by0
  have rby1 := rng32 by1
  have rby2 := rng32 by2
  refine own_iloadN (pc' := 1) X0 hx rfl (hb hby dlc0_1_0) rfl ?_
  refine own_aloadN (pc' := 2) X0 hx rfl rfl (hb hby dlc0_1_1) rfl ?_
  obtain ⟨c101, B101, q101, s101, u101, H101, G101⟩ := id A_a1
  refine own_by (X0.arraylength hx (by rw [e0]; exact B101.1) (State.isArrayOf_alike hZ.alike B101.2.1) (g := (mkF m 2 #[.val (.ref a1), .val (.int (2 : Int32))] [(.ref a1), (.int (2 : Int32))])) rfl rfl (hb hby dlc0_1_2)) ?_
  rw [len_of s101 u101]
  show own_Go p e below (Qlc2_3 Z a1 kb by0 by1 by2 fv h0 n0) (own_Fr s ({ frames := 2, cells := 0, slots := 0, locals := 28 } : Room).cells ({ frames := 2, cells := 0, slots := 0, locals := 28 } : Room).slots) (s₁.setTop (mkF m 3 #[.val (.ref a1), .val (.int (2 : Int32))] [(.int (3 : Int32)), (.int (2 : Int32))]))
  obtain ⟨_, _, ⟨T102, L102, k102, n102⟩, -, X102, ⟨Lc102, hQ102, l102, y102, z102⟩, st102⟩ := Jvm.LawKit.callS X0 hx (y := (⟨"java/lang/String", "checkIndex", "(II)V"⟩ : MethodName)) hown (mvT hZ (hw _ (List.mem_of_getElem? (i := 89) rfl))) (mvT hZ (hw _ (List.mem_of_getElem? (i := 90) rfl))) (mvT hZ (hw _ (List.mem_of_getElem? (i := 3) rfl))) (mvT hZ (hw _ (List.mem_of_getElem? (i := 91) rfl))) (by decide) (backOf (W := 0) (rmsc2_3 l Z a0 hw [] fv h0 n0 Z0 S_SIOOBE_FORMATTER hfv) hZ (hw _ (List.mem_of_getElem? (i := 91) rfl)) (hw _ (List.mem_of_getElem? (i := 3) rfl)) (by decide) (by decide)) (g := (mkF m 3 #[.val (.ref a1), .val (.int (2 : Int32))] [(.int (3 : Int32)), (.int (2 : Int32))])) rfl (by rw [hml]; rfl) (argsL := [(.int (2 : Int32)), (.int (3 : Int32))]) (rest := []) (lenOf pd_8 rfl) rfl (by show 2 * 0 + _ ≤ _; exact Nat.le_of_eq rfl) (hb hby dlc0_1_3) (fun _ _ => ⟨rfl, e0, (by decide : 0 + 0 ≤ _), (by decide : 0 + 0 ≤ _)⟩)
  dsimp only [Pt.U, Pt.locs, Pt.cells, Pt.slots] at X102 l102 y102 z102 st102 hQ102
  subst y102 z102
  obtain ⟨rfl, pp102, N102, e102⟩ := hQ102
  have N102a : Fr n0 L102 := by rw [l102]; exact Fr.app N0 N102
  refine own_by st102 ?_
  show own_Go p e below (Qlc2_3 Z a1 kb by0 by1 by2 fv h0 n0) (own_Fr s ({ frames := 2, cells := 0, slots := 0, locals := 28 } : Room).cells ({ frames := 2, cells := 0, slots := 0, locals := 28 } : Room).slots) (T102.setTop (mkF m 6 #[.val (.ref a1), .val (.int (2 : Int32))] []))
  refine own_aloadN (pc' := 7) X102 hx rfl rfl (hb hby dlc0_1_6) rfl ?_
  refine own_iloadN (pc' := 8) X102 hx rfl (hb hby dlc0_1_7) rfl ?_
  obtain ⟨c103, B103, q103, s103, u103, H103, G103⟩ := id A_a1
  have i103 := inb_of s103 (j := (2 : Int32)) (by decide)
  refine own_by (X102.baloadBytes hx (j := (2 : Int32)) (v := (.int by2)) (by rw [e102]; exact B103.1) (State.isArrayOf_alike hZ.alike B103.2.1) B103.2.2 i103 (H103.at i103 rfl) (g := (mkF m 8 #[.val (.ref a1), .val (.int (2 : Int32))] [(.int (2 : Int32)), (.ref a1)])) rfl rfl (hb hby dlc0_1_8)) ?_
  show own_Go p e below (Qlc2_3 Z a1 kb by0 by1 by2 fv h0 n0) (own_Fr s ({ frames := 2, cells := 0, slots := 0, locals := 28 } : Room).cells ({ frames := 2, cells := 0, slots := 0, locals := 28 } : Room).slots) (T102.setTop (mkF m 9 #[.val (.ref a1), .val (.int (2 : Int32))] [(.int by2)]))
  refine own_sipush (pc' := 12) X102 hx (255 : Int32) (by decide) (hb hby dlc0_1_9) rfl ?_
  obtain ⟨v104, hv104⟩ : ∃ z, by2 &&& (255 : Int32) = z := ⟨_, rfl⟩
  have f105 : v104.toInt = by2.toInt % 256 := by rw [← hv104]; exact c_mask by2 (255 : Int32) 8 (by decide) (by decide)
  refine own_iand (pc' := 13) X102 hx (z := v104) hv104 (hb hby dlc0_1_12) rfl ?_
  obtain ⟨v106, hv106⟩ : ∃ z, v104.toUInt32.toUInt16.toUInt32.toInt32 = z := ⟨_, rfl⟩
  have f107 : (v106.toInt - v104.toInt) % 65536 = 0 ∧ 0 ≤ v106.toInt ∧ v106.toInt < 65536 := by rw [← hv106]; exact c_i2c v104
  replace f107 : v106.toInt = v104.toInt := by omega
  refine own_i2c (pc' := 14) X102 hx (z := v106) hv106 (hb hby dlc0_1_13) rfl ?_
  refine own_ret X102 hx Bd.returns Bd.notSynchronized (Or.inl ⟨rfl, by simp, _, rfl⟩) (hb hby dlc0_1_14) (own_nch (by omega)) (by decide) (by decide) ?_
  show Qlc2_3 Z a1 kb by0 by1 by2 fv h0 n0 _ T102.heap _
  rw [e102]
  exact ⟨v106, rfl, by omega, N102a, rfl⟩
theorem pd_10 : parseMethodDescriptor "(I)C" = some ⟨[.int], some .char⟩ := by decide +kernel
theorem dca0_1_0 : decode jdk_42_method_56_code 0 = .ok (.aload_n 0, 1) := by decide +kernel
theorem dca0_1_1 : decode jdk_42_method_56_code 1 = .ok (.invokevirtual 492, 3) := by decide +kernel
theorem dca0_1_4 : decode jdk_42_method_56_code 4 = .ok (.ifCond .eq 12, 3) := by decide +kernel
theorem dca0_1_7 : decode jdk_42_method_56_code 7 = .ok (.aload_n 0, 1) := by decide +kernel
theorem dca0_1_8 : decode jdk_42_method_56_code 8 = .ok (.getfield 9, 3) := by decide +kernel
theorem dca0_1_11 : decode jdk_42_method_56_code 11 = .ok (.iload_n 1, 1) := by decide +kernel
theorem dca0_1_12 : decode jdk_42_method_56_code 12 = .ok (.invokestatic 495, 3) := by decide +kernel
theorem dca0_1_15 : decode jdk_42_method_56_code 15 = .ok (.ireturn, 1) := by decide +kernel
theorem dca0_1_16 : decode jdk_42_method_56_code 16 = .ok (.aload_n 0, 1) := by decide +kernel
theorem dca0_1_17 : decode jdk_42_method_56_code 17 = .ok (.getfield 9, 3) := by decide +kernel
theorem dca0_1_20 : decode jdk_42_method_56_code 20 = .ok (.iload_n 1, 1) := by decide +kernel
theorem dca0_1_24 : decode jdk_42_method_56_code 24 = .ok (.ireturn, 1) := by decide +kernel
theorem ef_ca0_1 (m : MethodId) (x0 : Addr) : entryFrame m #[(.ref x0), (.int (0 : Int32))] 2 = mkF m 0 #[.val (.ref x0), .val (.int (0 : Int32))] [] := by first | (simp [entryFrame, mkF, argsToLocals, Value.category, maxLocals]; done) | rfl
def Qca0_1 (Z : State) (a1 : Addr) (q : Addr) (kb : ClassId) (by0 : Int32) (cs : Int32) (fv : Value) (h0 : Heap) (n0 : Nat) (v : Option Value) (h : Heap) (L : List Loc) : Prop := ∃ r : Int32, v = some (.int r) ∧ (r.toInt = by0.toInt % 256) ∧ Fr n0 L ∧ h = h0
set_option maxRecDepth 65536 in
set_option maxHeartbeats 40000000 in
theorem rmca0_1 (l : Launch) (Z : State) (a0 : Array Value) (hw : ∀ d ∈ tables_1, d.before a0 Z = true) (ws : List Jvm.Cond) (a1 : Addr) (q : Addr) (kb : ClassId) (by0 : Int32) (cs : Int32) (fv : Value) (h0 : Heap) (n0 : Nat) (Z0 : n0 ≤ h0.size) (E_a1 : Exa Z h0 a1 "java/lang/String") (F_value_a1 : Fld Z h0 a1 "java/lang/String" "value" "[B" (.ref q)) (F_coder_a1 : Fld Z h0 a1 "java/lang/String" "coder" "B" (.int (0 : Int32))) (A_q : Arv Z h0 q kb .byte (1 : Int32) [(.int by0)] (.int (0 : Int32))) (S_COMPACT_STRINGS : Sta Z h0 "java/lang/String" "COMPACT_STRINGS" "Z" (.int cs)) (S_SIOOBE_FORMATTER : Sta Z h0 "jdk/internal/util/Preconditions" "SIOOBE_FORMATTER" "Ljava/util/function/BiFunction;" fv) (hcs : ¬ cs.toInt = 0) (hfv : fv.isRef = true) (hb0 : -128 ≤ by0.toInt ∧ by0.toInt < 128) :
    MetFree l (⟨"java/lang/String", "charAt", "(I)C"⟩ : MethodName) (head1 (Jvm.Cond.code (⟨"java/lang/String", "charAt", "(I)C"⟩ : MethodName) jdk_42_method_56_code 2 (some .char) :: ws) ({ frames := 3, cells := 0, slots := 0, locals := 42 } : Room)) (fun a U => a = #[(.ref a1), (.int (0 : Int32))] ∧ Z.Warmed39 U.vm ∧ U.heap = h0) (fun _ _ _ _ _ => True) (fun _ U o U' => ∃ v L, o = .returned v ∧ Qca0_1 Z a1 q kb by0 cs fv h0 n0 v U'.heap L ∧ FrameEnd U o U' L ({ frames := 3, cells := 0, slots := 0, locals := 42 } : Room).cells ({ frames := 3, cells := 0, slots := 0, locals := 42 } : Room).slots) := by
  refine MetFree.of_bodySF (plainFor_of_name pn_1) hisR ?_
  intro p e s m args below meth c s₁ Bd hml0 hP hK
  obtain ⟨rfl, hZ, hh⟩ := hP
  have hx := Bd.exec
  have hby := Bd.bytes
  have hml : c.maxLocals = 2 := hml0
  have hown : s.vm.findClass "java/lang/String" = some m.cls := findClass_of_methodNamed Bd.named
  have hnm := (name_of_methodNamed Bd.named Bd.method).1
  have X0 : Stand p l e ({ frames := 3, cells := 0, slots := 0, locals := 42 } : Room) s m #[(.ref a1), (.int (0 : Int32))] below meth c s₁ [] 0 0 := Stand.of_body Bd
  have e0 : s₁.heap = h0 := by rw [← hh, Bd.state]; rfl
  have N0 := Fr.nil n0
  change own_Go p e below (Qca0_1 Z a1 q kb by0 cs fv h0 n0) (own_Fr s ({ frames := 3, cells := 0, slots := 0, locals := 42 } : Room).cells ({ frames := 3, cells := 0, slots := 0, locals := 42 } : Room).slots) (s₁.setTop (entryFrame m #[(.ref a1), (.int (0 : Int32))] 2))
  rw [ef_ca0_1 m a1]
  have rby0 := rng32 by0
  have rcs := rng32 cs
  refine own_aloadN (pc' := 1) X0 hx rfl rfl (hb hby dca0_1_0) rfl ?_
  obtain ⟨cq101, kq101, q101a, q101b, q101c⟩ := isOf hZ e0 E_a1
  obtain ⟨_, _, ⟨T101, L101, k101, n101⟩, -, X101, ⟨Lc101, hQ101, l101, y101, z101⟩, st101⟩ := X0.virtualBack hx (y := (⟨"java/lang/String", "isLatin1", "()Z"⟩ : MethodName)) (z := (⟨"java/lang/String", "isLatin1", "()Z"⟩ : MethodName)) hown (mvT hZ (hw _ (List.mem_of_getElem? (i := 80) rfl))) (mvT hZ (hw _ (List.mem_of_getElem? (i := 81) rfl))) (notFace_of_selects (args := #[]) (mvT hZ (hw _ (List.mem_of_getElem? (i := 83) rfl)))) (mvT hZ (hw _ (List.mem_of_getElem? (i := 83) rfl))) (mvT hZ (hw _ (List.mem_of_getElem? (i := 82) rfl))) (by decide) (backOf (W := 0) (rmil l Z a0 hw [] a1 cs h0 n0 Z0 F_coder_a1 S_COMPACT_STRINGS (by omega)) hZ (hw _ (List.mem_of_getElem? (i := 84) rfl)) (hw _ (List.mem_of_getElem? (i := 3) rfl)) (by decide) (by decide)) q101a q101c (g := (mkF m 1 #[.val (.ref a1), .val (.int (0 : Int32))] [(.ref a1)])) rfl (by rw [hml]; rfl) (Steps.refl _) (argsL := []) (rest := []) (lenOf pd_6 rfl) rfl (by show 2 * 0 + _ ≤ _; exact Nat.le_of_eq rfl) (hb hby dca0_1_1) (fun _ _ => ⟨rfl, e0, (by decide : 0 + 0 ≤ _), (by decide : 0 + 0 ≤ _)⟩)
  dsimp only [Pt.U, Pt.locs, Pt.cells, Pt.slots] at X101 l101 y101 z101 st101 hQ101
  subst y101 z101
  obtain ⟨rfl, pp101, N101, e101⟩ := hQ101
  have N101a : Fr n0 L101 := by rw [l101]; exact Fr.app N0 N101
  refine own_via st101 ?_
  show own_Go p e below (Qca0_1 Z a1 q kb by0 cs fv h0 n0) (own_Fr s ({ frames := 3, cells := 0, slots := 0, locals := 42 } : Room).cells ({ frames := 3, cells := 0, slots := 0, locals := 42 } : Room).slots) (T101.setTop (mkF m 4 #[.val (.ref a1), .val (.int (0 : Int32))] [(.int (1 : Int32))]))
  refine own_ifNo (pc' := 7) X101 hx (by decide) (hb hby dca0_1_4) rfl ?_
  refine own_aloadN (pc' := 8) X101 hx rfl rfl (hb hby dca0_1_7) rfl ?_
  obtain ⟨T102, X102, e102, st102⟩ := getF X101 hx hZ hown (host := "") (Or.inl (hw _ (List.mem_of_getElem? (i := 20) rfl))) Via.refl e101 F_value_a1 (g := (mkF m 8 #[.val (.ref a1), .val (.int (0 : Int32))] [(.ref a1)])) rfl rfl (hb hby dca0_1_8)
  refine own_by st102 ?_
  show own_Go p e below (Qca0_1 Z a1 q kb by0 cs fv h0 n0) (own_Fr s ({ frames := 3, cells := 0, slots := 0, locals := 42 } : Room).cells ({ frames := 3, cells := 0, slots := 0, locals := 42 } : Room).slots) (T102.setTop (mkF m 11 #[.val (.ref a1), .val (.int (0 : Int32))] [(.ref q)]))
  refine own_iloadN (pc' := 12) X102 hx rfl (hb hby dca0_1_11) rfl ?_
  obtain ⟨_, _, ⟨T103, L103, k103, n103⟩, -, X103, ⟨Lc103, hQ103, l103, y103, z103⟩, st103⟩ := Jvm.LawKit.callS X102 hx (y := (⟨"java/lang/StringLatin1", "charAt", "([BI)C"⟩ : MethodName)) hown (mvT hZ (hw _ (List.mem_of_getElem? (i := 85) rfl))) (mvT hZ (hw _ (List.mem_of_getElem? (i := 86) rfl))) (mvT hZ (hw _ (List.mem_of_getElem? (i := 87) rfl))) (mvT hZ (hw _ (List.mem_of_getElem? (i := 88) rfl))) (by decide) (backOf (W := 0) (rmlc0_1 l Z a0 hw [] q kb by0 fv h0 n0 Z0 A_q S_SIOOBE_FORMATTER hfv (by omega)) hZ (hw _ (List.mem_of_getElem? (i := 88) rfl)) (hw _ (List.mem_of_getElem? (i := 87) rfl)) (by decide) (by decide)) (g := (mkF m 12 #[.val (.ref a1), .val (.int (0 : Int32))] [(.int (0 : Int32)), (.ref q)])) rfl (by rw [hml]; rfl) (argsL := [(.ref q), (.int (0 : Int32))]) (rest := []) (lenOf pd_9 rfl) rfl (by show 2 * 0 + _ ≤ _; exact Nat.le_of_eq rfl) (hb hby dca0_1_12) (fun _ _ => ⟨rfl, e102, (by decide : 0 + 0 ≤ _), (by decide : 0 + 0 ≤ _)⟩)
  dsimp only [Pt.U, Pt.locs, Pt.cells, Pt.slots] at X103 l103 y103 z103 st103 hQ103
  subst y103 z103
  obtain ⟨r_103, rfl, pp103, N103, e103⟩ := hQ103
  have rr_103 := rng32 r_103
  have N103a : Fr n0 L103 := by rw [l103]; exact Fr.app N101a N103
  refine own_by st103 ?_
  show own_Go p e below (Qca0_1 Z a1 q kb by0 cs fv h0 n0) (own_Fr s ({ frames := 3, cells := 0, slots := 0, locals := 42 } : Room).cells ({ frames := 3, cells := 0, slots := 0, locals := 42 } : Room).slots) (T103.setTop (mkF m 15 #[.val (.ref a1), .val (.int (0 : Int32))] [(.int r_103)]))
  refine own_ret X103 hx Bd.returns Bd.notSynchronized (Or.inl ⟨rfl, by simp, _, rfl⟩) (hb hby dca0_1_15) (own_nch (by omega)) (by decide) (by decide) ?_
  show Qca0_1 Z a1 q kb by0 cs fv h0 n0 _ T103.heap _
  rw [e103]
  exact ⟨r_103, rfl, by omega, N103a, rfl⟩
theorem ef_ca0_2 (m : MethodId) (x0 : Addr) : entryFrame m #[(.ref x0), (.int (0 : Int32))] 2 = mkF m 0 #[.val (.ref x0), .val (.int (0 : Int32))] [] := by first | (simp [entryFrame, mkF, argsToLocals, Value.category, maxLocals]; done) | rfl
def Qca0_2 (Z : State) (a1 : Addr) (q : Addr) (kb : ClassId) (by0 : Int32) (by1 : Int32) (cs : Int32) (fv : Value) (h0 : Heap) (n0 : Nat) (v : Option Value) (h : Heap) (L : List Loc) : Prop := ∃ r : Int32, v = some (.int r) ∧ (r.toInt = by0.toInt % 256) ∧ Fr n0 L ∧ h = h0
set_option maxRecDepth 65536 in
set_option maxHeartbeats 40000000 in
theorem rmca0_2 (l : Launch) (Z : State) (a0 : Array Value) (hw : ∀ d ∈ tables_1, d.before a0 Z = true) (ws : List Jvm.Cond) (a1 : Addr) (q : Addr) (kb : ClassId) (by0 : Int32) (by1 : Int32) (cs : Int32) (fv : Value) (h0 : Heap) (n0 : Nat) (Z0 : n0 ≤ h0.size) (E_a1 : Exa Z h0 a1 "java/lang/String") (F_value_a1 : Fld Z h0 a1 "java/lang/String" "value" "[B" (.ref q)) (F_coder_a1 : Fld Z h0 a1 "java/lang/String" "coder" "B" (.int (0 : Int32))) (A_q : Arv Z h0 q kb .byte (2 : Int32) [(.int by0), (.int by1)] (.int (0 : Int32))) (S_COMPACT_STRINGS : Sta Z h0 "java/lang/String" "COMPACT_STRINGS" "Z" (.int cs)) (S_SIOOBE_FORMATTER : Sta Z h0 "jdk/internal/util/Preconditions" "SIOOBE_FORMATTER" "Ljava/util/function/BiFunction;" fv) (hcs : ¬ cs.toInt = 0) (hfv : fv.isRef = true) (hb0 : -128 ≤ by0.toInt ∧ by0.toInt < 128) (hb1 : -128 ≤ by1.toInt ∧ by1.toInt < 128) :
    MetFree l (⟨"java/lang/String", "charAt", "(I)C"⟩ : MethodName) (head1 (Jvm.Cond.code (⟨"java/lang/String", "charAt", "(I)C"⟩ : MethodName) jdk_42_method_56_code 2 (some .char) :: ws) ({ frames := 3, cells := 0, slots := 0, locals := 42 } : Room)) (fun a U => a = #[(.ref a1), (.int (0 : Int32))] ∧ Z.Warmed39 U.vm ∧ U.heap = h0) (fun _ _ _ _ _ => True) (fun _ U o U' => ∃ v L, o = .returned v ∧ Qca0_2 Z a1 q kb by0 by1 cs fv h0 n0 v U'.heap L ∧ FrameEnd U o U' L ({ frames := 3, cells := 0, slots := 0, locals := 42 } : Room).cells ({ frames := 3, cells := 0, slots := 0, locals := 42 } : Room).slots) := by
  refine MetFree.of_bodySF (plainFor_of_name pn_1) hisR ?_
  intro p e s m args below meth c s₁ Bd hml0 hP hK
  obtain ⟨rfl, hZ, hh⟩ := hP
  have hx := Bd.exec
  have hby := Bd.bytes
  have hml : c.maxLocals = 2 := hml0
  have hown : s.vm.findClass "java/lang/String" = some m.cls := findClass_of_methodNamed Bd.named
  have hnm := (name_of_methodNamed Bd.named Bd.method).1
  have X0 : Stand p l e ({ frames := 3, cells := 0, slots := 0, locals := 42 } : Room) s m #[(.ref a1), (.int (0 : Int32))] below meth c s₁ [] 0 0 := Stand.of_body Bd
  have e0 : s₁.heap = h0 := by rw [← hh, Bd.state]; rfl
  have N0 := Fr.nil n0
  change own_Go p e below (Qca0_2 Z a1 q kb by0 by1 cs fv h0 n0) (own_Fr s ({ frames := 3, cells := 0, slots := 0, locals := 42 } : Room).cells ({ frames := 3, cells := 0, slots := 0, locals := 42 } : Room).slots) (s₁.setTop (entryFrame m #[(.ref a1), (.int (0 : Int32))] 2))
  rw [ef_ca0_2 m a1]
  have rby0 := rng32 by0
  have rby1 := rng32 by1
  have rcs := rng32 cs
  refine own_aloadN (pc' := 1) X0 hx rfl rfl (hb hby dca0_1_0) rfl ?_
  obtain ⟨cq101, kq101, q101a, q101b, q101c⟩ := isOf hZ e0 E_a1
  obtain ⟨_, _, ⟨T101, L101, k101, n101⟩, -, X101, ⟨Lc101, hQ101, l101, y101, z101⟩, st101⟩ := X0.virtualBack hx (y := (⟨"java/lang/String", "isLatin1", "()Z"⟩ : MethodName)) (z := (⟨"java/lang/String", "isLatin1", "()Z"⟩ : MethodName)) hown (mvT hZ (hw _ (List.mem_of_getElem? (i := 80) rfl))) (mvT hZ (hw _ (List.mem_of_getElem? (i := 81) rfl))) (notFace_of_selects (args := #[]) (mvT hZ (hw _ (List.mem_of_getElem? (i := 83) rfl)))) (mvT hZ (hw _ (List.mem_of_getElem? (i := 83) rfl))) (mvT hZ (hw _ (List.mem_of_getElem? (i := 82) rfl))) (by decide) (backOf (W := 0) (rmil l Z a0 hw [] a1 cs h0 n0 Z0 F_coder_a1 S_COMPACT_STRINGS (by omega)) hZ (hw _ (List.mem_of_getElem? (i := 84) rfl)) (hw _ (List.mem_of_getElem? (i := 3) rfl)) (by decide) (by decide)) q101a q101c (g := (mkF m 1 #[.val (.ref a1), .val (.int (0 : Int32))] [(.ref a1)])) rfl (by rw [hml]; rfl) (Steps.refl _) (argsL := []) (rest := []) (lenOf pd_6 rfl) rfl (by show 2 * 0 + _ ≤ _; exact Nat.le_of_eq rfl) (hb hby dca0_1_1) (fun _ _ => ⟨rfl, e0, (by decide : 0 + 0 ≤ _), (by decide : 0 + 0 ≤ _)⟩)
  dsimp only [Pt.U, Pt.locs, Pt.cells, Pt.slots] at X101 l101 y101 z101 st101 hQ101
  subst y101 z101
  obtain ⟨rfl, pp101, N101, e101⟩ := hQ101
  have N101a : Fr n0 L101 := by rw [l101]; exact Fr.app N0 N101
  refine own_via st101 ?_
  show own_Go p e below (Qca0_2 Z a1 q kb by0 by1 cs fv h0 n0) (own_Fr s ({ frames := 3, cells := 0, slots := 0, locals := 42 } : Room).cells ({ frames := 3, cells := 0, slots := 0, locals := 42 } : Room).slots) (T101.setTop (mkF m 4 #[.val (.ref a1), .val (.int (0 : Int32))] [(.int (1 : Int32))]))
  refine own_ifNo (pc' := 7) X101 hx (by decide) (hb hby dca0_1_4) rfl ?_
  refine own_aloadN (pc' := 8) X101 hx rfl rfl (hb hby dca0_1_7) rfl ?_
  obtain ⟨T102, X102, e102, st102⟩ := getF X101 hx hZ hown (host := "") (Or.inl (hw _ (List.mem_of_getElem? (i := 20) rfl))) Via.refl e101 F_value_a1 (g := (mkF m 8 #[.val (.ref a1), .val (.int (0 : Int32))] [(.ref a1)])) rfl rfl (hb hby dca0_1_8)
  refine own_by st102 ?_
  show own_Go p e below (Qca0_2 Z a1 q kb by0 by1 cs fv h0 n0) (own_Fr s ({ frames := 3, cells := 0, slots := 0, locals := 42 } : Room).cells ({ frames := 3, cells := 0, slots := 0, locals := 42 } : Room).slots) (T102.setTop (mkF m 11 #[.val (.ref a1), .val (.int (0 : Int32))] [(.ref q)]))
  refine own_iloadN (pc' := 12) X102 hx rfl (hb hby dca0_1_11) rfl ?_
  obtain ⟨_, _, ⟨T103, L103, k103, n103⟩, -, X103, ⟨Lc103, hQ103, l103, y103, z103⟩, st103⟩ := Jvm.LawKit.callS X102 hx (y := (⟨"java/lang/StringLatin1", "charAt", "([BI)C"⟩ : MethodName)) hown (mvT hZ (hw _ (List.mem_of_getElem? (i := 85) rfl))) (mvT hZ (hw _ (List.mem_of_getElem? (i := 86) rfl))) (mvT hZ (hw _ (List.mem_of_getElem? (i := 87) rfl))) (mvT hZ (hw _ (List.mem_of_getElem? (i := 88) rfl))) (by decide) (backOf (W := 0) (rmlc0_2 l Z a0 hw [] q kb by0 by1 fv h0 n0 Z0 A_q S_SIOOBE_FORMATTER hfv (by omega) (by omega)) hZ (hw _ (List.mem_of_getElem? (i := 88) rfl)) (hw _ (List.mem_of_getElem? (i := 87) rfl)) (by decide) (by decide)) (g := (mkF m 12 #[.val (.ref a1), .val (.int (0 : Int32))] [(.int (0 : Int32)), (.ref q)])) rfl (by rw [hml]; rfl) (argsL := [(.ref q), (.int (0 : Int32))]) (rest := []) (lenOf pd_9 rfl) rfl (by show 2 * 0 + _ ≤ _; exact Nat.le_of_eq rfl) (hb hby dca0_1_12) (fun _ _ => ⟨rfl, e102, (by decide : 0 + 0 ≤ _), (by decide : 0 + 0 ≤ _)⟩)
  dsimp only [Pt.U, Pt.locs, Pt.cells, Pt.slots] at X103 l103 y103 z103 st103 hQ103
  subst y103 z103
  obtain ⟨r_103, rfl, pp103, N103, e103⟩ := hQ103
  have rr_103 := rng32 r_103
  have N103a : Fr n0 L103 := by rw [l103]; exact Fr.app N101a N103
  refine own_by st103 ?_
  show own_Go p e below (Qca0_2 Z a1 q kb by0 by1 cs fv h0 n0) (own_Fr s ({ frames := 3, cells := 0, slots := 0, locals := 42 } : Room).cells ({ frames := 3, cells := 0, slots := 0, locals := 42 } : Room).slots) (T103.setTop (mkF m 15 #[.val (.ref a1), .val (.int (0 : Int32))] [(.int r_103)]))
  refine own_ret X103 hx Bd.returns Bd.notSynchronized (Or.inl ⟨rfl, by simp, _, rfl⟩) (hb hby dca0_1_15) (own_nch (by omega)) (by decide) (by decide) ?_
  show Qca0_2 Z a1 q kb by0 by1 cs fv h0 n0 _ T103.heap _
  rw [e103]
  exact ⟨r_103, rfl, by omega, N103a, rfl⟩
theorem ef_ca1_2 (m : MethodId) (x0 : Addr) : entryFrame m #[(.ref x0), (.int (1 : Int32))] 2 = mkF m 0 #[.val (.ref x0), .val (.int (1 : Int32))] [] := by first | (simp [entryFrame, mkF, argsToLocals, Value.category, maxLocals]; done) | rfl
def Qca1_2 (Z : State) (a1 : Addr) (q : Addr) (kb : ClassId) (by0 : Int32) (by1 : Int32) (cs : Int32) (fv : Value) (h0 : Heap) (n0 : Nat) (v : Option Value) (h : Heap) (L : List Loc) : Prop := ∃ r : Int32, v = some (.int r) ∧ (r.toInt = by1.toInt % 256) ∧ Fr n0 L ∧ h = h0
set_option maxRecDepth 65536 in
set_option maxHeartbeats 40000000 in
theorem rmca1_2 (l : Launch) (Z : State) (a0 : Array Value) (hw : ∀ d ∈ tables_1, d.before a0 Z = true) (ws : List Jvm.Cond) (a1 : Addr) (q : Addr) (kb : ClassId) (by0 : Int32) (by1 : Int32) (cs : Int32) (fv : Value) (h0 : Heap) (n0 : Nat) (Z0 : n0 ≤ h0.size) (E_a1 : Exa Z h0 a1 "java/lang/String") (F_value_a1 : Fld Z h0 a1 "java/lang/String" "value" "[B" (.ref q)) (F_coder_a1 : Fld Z h0 a1 "java/lang/String" "coder" "B" (.int (0 : Int32))) (A_q : Arv Z h0 q kb .byte (2 : Int32) [(.int by0), (.int by1)] (.int (0 : Int32))) (S_COMPACT_STRINGS : Sta Z h0 "java/lang/String" "COMPACT_STRINGS" "Z" (.int cs)) (S_SIOOBE_FORMATTER : Sta Z h0 "jdk/internal/util/Preconditions" "SIOOBE_FORMATTER" "Ljava/util/function/BiFunction;" fv) (hcs : ¬ cs.toInt = 0) (hfv : fv.isRef = true) (hb0 : -128 ≤ by0.toInt ∧ by0.toInt < 128) (hb1 : -128 ≤ by1.toInt ∧ by1.toInt < 128) :
    MetFree l (⟨"java/lang/String", "charAt", "(I)C"⟩ : MethodName) (head1 (Jvm.Cond.code (⟨"java/lang/String", "charAt", "(I)C"⟩ : MethodName) jdk_42_method_56_code 2 (some .char) :: ws) ({ frames := 3, cells := 0, slots := 0, locals := 42 } : Room)) (fun a U => a = #[(.ref a1), (.int (1 : Int32))] ∧ Z.Warmed39 U.vm ∧ U.heap = h0) (fun _ _ _ _ _ => True) (fun _ U o U' => ∃ v L, o = .returned v ∧ Qca1_2 Z a1 q kb by0 by1 cs fv h0 n0 v U'.heap L ∧ FrameEnd U o U' L ({ frames := 3, cells := 0, slots := 0, locals := 42 } : Room).cells ({ frames := 3, cells := 0, slots := 0, locals := 42 } : Room).slots) := by
  refine MetFree.of_bodySF (plainFor_of_name pn_1) hisR ?_
  intro p e s m args below meth c s₁ Bd hml0 hP hK
  obtain ⟨rfl, hZ, hh⟩ := hP
  have hx := Bd.exec
  have hby := Bd.bytes
  have hml : c.maxLocals = 2 := hml0
  have hown : s.vm.findClass "java/lang/String" = some m.cls := findClass_of_methodNamed Bd.named
  have hnm := (name_of_methodNamed Bd.named Bd.method).1
  have X0 : Stand p l e ({ frames := 3, cells := 0, slots := 0, locals := 42 } : Room) s m #[(.ref a1), (.int (1 : Int32))] below meth c s₁ [] 0 0 := Stand.of_body Bd
  have e0 : s₁.heap = h0 := by rw [← hh, Bd.state]; rfl
  have N0 := Fr.nil n0
  change own_Go p e below (Qca1_2 Z a1 q kb by0 by1 cs fv h0 n0) (own_Fr s ({ frames := 3, cells := 0, slots := 0, locals := 42 } : Room).cells ({ frames := 3, cells := 0, slots := 0, locals := 42 } : Room).slots) (s₁.setTop (entryFrame m #[(.ref a1), (.int (1 : Int32))] 2))
  rw [ef_ca1_2 m a1]
  have rby0 := rng32 by0
  have rby1 := rng32 by1
  have rcs := rng32 cs
  refine own_aloadN (pc' := 1) X0 hx rfl rfl (hb hby dca0_1_0) rfl ?_
  obtain ⟨cq101, kq101, q101a, q101b, q101c⟩ := isOf hZ e0 E_a1
  obtain ⟨_, _, ⟨T101, L101, k101, n101⟩, -, X101, ⟨Lc101, hQ101, l101, y101, z101⟩, st101⟩ := X0.virtualBack hx (y := (⟨"java/lang/String", "isLatin1", "()Z"⟩ : MethodName)) (z := (⟨"java/lang/String", "isLatin1", "()Z"⟩ : MethodName)) hown (mvT hZ (hw _ (List.mem_of_getElem? (i := 80) rfl))) (mvT hZ (hw _ (List.mem_of_getElem? (i := 81) rfl))) (notFace_of_selects (args := #[]) (mvT hZ (hw _ (List.mem_of_getElem? (i := 83) rfl)))) (mvT hZ (hw _ (List.mem_of_getElem? (i := 83) rfl))) (mvT hZ (hw _ (List.mem_of_getElem? (i := 82) rfl))) (by decide) (backOf (W := 0) (rmil l Z a0 hw [] a1 cs h0 n0 Z0 F_coder_a1 S_COMPACT_STRINGS (by omega)) hZ (hw _ (List.mem_of_getElem? (i := 84) rfl)) (hw _ (List.mem_of_getElem? (i := 3) rfl)) (by decide) (by decide)) q101a q101c (g := (mkF m 1 #[.val (.ref a1), .val (.int (1 : Int32))] [(.ref a1)])) rfl (by rw [hml]; rfl) (Steps.refl _) (argsL := []) (rest := []) (lenOf pd_6 rfl) rfl (by show 2 * 0 + _ ≤ _; exact Nat.le_of_eq rfl) (hb hby dca0_1_1) (fun _ _ => ⟨rfl, e0, (by decide : 0 + 0 ≤ _), (by decide : 0 + 0 ≤ _)⟩)
  dsimp only [Pt.U, Pt.locs, Pt.cells, Pt.slots] at X101 l101 y101 z101 st101 hQ101
  subst y101 z101
  obtain ⟨rfl, pp101, N101, e101⟩ := hQ101
  have N101a : Fr n0 L101 := by rw [l101]; exact Fr.app N0 N101
  refine own_via st101 ?_
  show own_Go p e below (Qca1_2 Z a1 q kb by0 by1 cs fv h0 n0) (own_Fr s ({ frames := 3, cells := 0, slots := 0, locals := 42 } : Room).cells ({ frames := 3, cells := 0, slots := 0, locals := 42 } : Room).slots) (T101.setTop (mkF m 4 #[.val (.ref a1), .val (.int (1 : Int32))] [(.int (1 : Int32))]))
  refine own_ifNo (pc' := 7) X101 hx (by decide) (hb hby dca0_1_4) rfl ?_
  refine own_aloadN (pc' := 8) X101 hx rfl rfl (hb hby dca0_1_7) rfl ?_
  obtain ⟨T102, X102, e102, st102⟩ := getF X101 hx hZ hown (host := "") (Or.inl (hw _ (List.mem_of_getElem? (i := 20) rfl))) Via.refl e101 F_value_a1 (g := (mkF m 8 #[.val (.ref a1), .val (.int (1 : Int32))] [(.ref a1)])) rfl rfl (hb hby dca0_1_8)
  refine own_by st102 ?_
  show own_Go p e below (Qca1_2 Z a1 q kb by0 by1 cs fv h0 n0) (own_Fr s ({ frames := 3, cells := 0, slots := 0, locals := 42 } : Room).cells ({ frames := 3, cells := 0, slots := 0, locals := 42 } : Room).slots) (T102.setTop (mkF m 11 #[.val (.ref a1), .val (.int (1 : Int32))] [(.ref q)]))
  refine own_iloadN (pc' := 12) X102 hx rfl (hb hby dca0_1_11) rfl ?_
  obtain ⟨_, _, ⟨T103, L103, k103, n103⟩, -, X103, ⟨Lc103, hQ103, l103, y103, z103⟩, st103⟩ := Jvm.LawKit.callS X102 hx (y := (⟨"java/lang/StringLatin1", "charAt", "([BI)C"⟩ : MethodName)) hown (mvT hZ (hw _ (List.mem_of_getElem? (i := 85) rfl))) (mvT hZ (hw _ (List.mem_of_getElem? (i := 86) rfl))) (mvT hZ (hw _ (List.mem_of_getElem? (i := 87) rfl))) (mvT hZ (hw _ (List.mem_of_getElem? (i := 88) rfl))) (by decide) (backOf (W := 0) (rmlc1_2 l Z a0 hw [] q kb by0 by1 fv h0 n0 Z0 A_q S_SIOOBE_FORMATTER hfv (by omega) (by omega)) hZ (hw _ (List.mem_of_getElem? (i := 88) rfl)) (hw _ (List.mem_of_getElem? (i := 87) rfl)) (by decide) (by decide)) (g := (mkF m 12 #[.val (.ref a1), .val (.int (1 : Int32))] [(.int (1 : Int32)), (.ref q)])) rfl (by rw [hml]; rfl) (argsL := [(.ref q), (.int (1 : Int32))]) (rest := []) (lenOf pd_9 rfl) rfl (by show 2 * 0 + _ ≤ _; exact Nat.le_of_eq rfl) (hb hby dca0_1_12) (fun _ _ => ⟨rfl, e102, (by decide : 0 + 0 ≤ _), (by decide : 0 + 0 ≤ _)⟩)
  dsimp only [Pt.U, Pt.locs, Pt.cells, Pt.slots] at X103 l103 y103 z103 st103 hQ103
  subst y103 z103
  obtain ⟨r_103, rfl, pp103, N103, e103⟩ := hQ103
  have rr_103 := rng32 r_103
  have N103a : Fr n0 L103 := by rw [l103]; exact Fr.app N101a N103
  refine own_by st103 ?_
  show own_Go p e below (Qca1_2 Z a1 q kb by0 by1 cs fv h0 n0) (own_Fr s ({ frames := 3, cells := 0, slots := 0, locals := 42 } : Room).cells ({ frames := 3, cells := 0, slots := 0, locals := 42 } : Room).slots) (T103.setTop (mkF m 15 #[.val (.ref a1), .val (.int (1 : Int32))] [(.int r_103)]))
  refine own_ret X103 hx Bd.returns Bd.notSynchronized (Or.inl ⟨rfl, by simp, _, rfl⟩) (hb hby dca0_1_15) (own_nch (by omega)) (by decide) (by decide) ?_
  show Qca1_2 Z a1 q kb by0 by1 cs fv h0 n0 _ T103.heap _
  rw [e103]
  exact ⟨r_103, rfl, by omega, N103a, rfl⟩
theorem ef_ca0_3 (m : MethodId) (x0 : Addr) : entryFrame m #[(.ref x0), (.int (0 : Int32))] 2 = mkF m 0 #[.val (.ref x0), .val (.int (0 : Int32))] [] := by first | (simp [entryFrame, mkF, argsToLocals, Value.category, maxLocals]; done) | rfl
def Qca0_3 (Z : State) (a1 : Addr) (q : Addr) (kb : ClassId) (by0 : Int32) (by1 : Int32) (by2 : Int32) (cs : Int32) (fv : Value) (h0 : Heap) (n0 : Nat) (v : Option Value) (h : Heap) (L : List Loc) : Prop := ∃ r : Int32, v = some (.int r) ∧ (r.toInt = by0.toInt % 256) ∧ Fr n0 L ∧ h = h0
set_option maxRecDepth 65536 in
set_option maxHeartbeats 40000000 in
theorem rmca0_3 (l : Launch) (Z : State) (a0 : Array Value) (hw : ∀ d ∈ tables_1, d.before a0 Z = true) (ws : List Jvm.Cond) (a1 : Addr) (q : Addr) (kb : ClassId) (by0 : Int32) (by1 : Int32) (by2 : Int32) (cs : Int32) (fv : Value) (h0 : Heap) (n0 : Nat) (Z0 : n0 ≤ h0.size) (E_a1 : Exa Z h0 a1 "java/lang/String") (F_value_a1 : Fld Z h0 a1 "java/lang/String" "value" "[B" (.ref q)) (F_coder_a1 : Fld Z h0 a1 "java/lang/String" "coder" "B" (.int (0 : Int32))) (A_q : Arv Z h0 q kb .byte (3 : Int32) [(.int by0), (.int by1), (.int by2)] (.int (0 : Int32))) (S_COMPACT_STRINGS : Sta Z h0 "java/lang/String" "COMPACT_STRINGS" "Z" (.int cs)) (S_SIOOBE_FORMATTER : Sta Z h0 "jdk/internal/util/Preconditions" "SIOOBE_FORMATTER" "Ljava/util/function/BiFunction;" fv) (hcs : ¬ cs.toInt = 0) (hfv : fv.isRef = true) (hb0 : -128 ≤ by0.toInt ∧ by0.toInt < 128) (hb1 : -128 ≤ by1.toInt ∧ by1.toInt < 128) (hb2 : -128 ≤ by2.toInt ∧ by2.toInt < 128) :
    MetFree l (⟨"java/lang/String", "charAt", "(I)C"⟩ : MethodName) (head1 (Jvm.Cond.code (⟨"java/lang/String", "charAt", "(I)C"⟩ : MethodName) jdk_42_method_56_code 2 (some .char) :: ws) ({ frames := 3, cells := 0, slots := 0, locals := 42 } : Room)) (fun a U => a = #[(.ref a1), (.int (0 : Int32))] ∧ Z.Warmed39 U.vm ∧ U.heap = h0) (fun _ _ _ _ _ => True) (fun _ U o U' => ∃ v L, o = .returned v ∧ Qca0_3 Z a1 q kb by0 by1 by2 cs fv h0 n0 v U'.heap L ∧ FrameEnd U o U' L ({ frames := 3, cells := 0, slots := 0, locals := 42 } : Room).cells ({ frames := 3, cells := 0, slots := 0, locals := 42 } : Room).slots) := by
  refine MetFree.of_bodySF (plainFor_of_name pn_1) hisR ?_
  intro p e s m args below meth c s₁ Bd hml0 hP hK
  obtain ⟨rfl, hZ, hh⟩ := hP
  have hx := Bd.exec
  have hby := Bd.bytes
  have hml : c.maxLocals = 2 := hml0
  have hown : s.vm.findClass "java/lang/String" = some m.cls := findClass_of_methodNamed Bd.named
  have hnm := (name_of_methodNamed Bd.named Bd.method).1
  have X0 : Stand p l e ({ frames := 3, cells := 0, slots := 0, locals := 42 } : Room) s m #[(.ref a1), (.int (0 : Int32))] below meth c s₁ [] 0 0 := Stand.of_body Bd
  have e0 : s₁.heap = h0 := by rw [← hh, Bd.state]; rfl
  have N0 := Fr.nil n0
  change own_Go p e below (Qca0_3 Z a1 q kb by0 by1 by2 cs fv h0 n0) (own_Fr s ({ frames := 3, cells := 0, slots := 0, locals := 42 } : Room).cells ({ frames := 3, cells := 0, slots := 0, locals := 42 } : Room).slots) (s₁.setTop (entryFrame m #[(.ref a1), (.int (0 : Int32))] 2))
  rw [ef_ca0_3 m a1]
  have rby0 := rng32 by0
  have rby1 := rng32 by1
  have rby2 := rng32 by2
  have rcs := rng32 cs
  refine own_aloadN (pc' := 1) X0 hx rfl rfl (hb hby dca0_1_0) rfl ?_
  obtain ⟨cq101, kq101, q101a, q101b, q101c⟩ := isOf hZ e0 E_a1
  obtain ⟨_, _, ⟨T101, L101, k101, n101⟩, -, X101, ⟨Lc101, hQ101, l101, y101, z101⟩, st101⟩ := X0.virtualBack hx (y := (⟨"java/lang/String", "isLatin1", "()Z"⟩ : MethodName)) (z := (⟨"java/lang/String", "isLatin1", "()Z"⟩ : MethodName)) hown (mvT hZ (hw _ (List.mem_of_getElem? (i := 80) rfl))) (mvT hZ (hw _ (List.mem_of_getElem? (i := 81) rfl))) (notFace_of_selects (args := #[]) (mvT hZ (hw _ (List.mem_of_getElem? (i := 83) rfl)))) (mvT hZ (hw _ (List.mem_of_getElem? (i := 83) rfl))) (mvT hZ (hw _ (List.mem_of_getElem? (i := 82) rfl))) (by decide) (backOf (W := 0) (rmil l Z a0 hw [] a1 cs h0 n0 Z0 F_coder_a1 S_COMPACT_STRINGS (by omega)) hZ (hw _ (List.mem_of_getElem? (i := 84) rfl)) (hw _ (List.mem_of_getElem? (i := 3) rfl)) (by decide) (by decide)) q101a q101c (g := (mkF m 1 #[.val (.ref a1), .val (.int (0 : Int32))] [(.ref a1)])) rfl (by rw [hml]; rfl) (Steps.refl _) (argsL := []) (rest := []) (lenOf pd_6 rfl) rfl (by show 2 * 0 + _ ≤ _; exact Nat.le_of_eq rfl) (hb hby dca0_1_1) (fun _ _ => ⟨rfl, e0, (by decide : 0 + 0 ≤ _), (by decide : 0 + 0 ≤ _)⟩)
  dsimp only [Pt.U, Pt.locs, Pt.cells, Pt.slots] at X101 l101 y101 z101 st101 hQ101
  subst y101 z101
  obtain ⟨rfl, pp101, N101, e101⟩ := hQ101
  have N101a : Fr n0 L101 := by rw [l101]; exact Fr.app N0 N101
  refine own_via st101 ?_
  show own_Go p e below (Qca0_3 Z a1 q kb by0 by1 by2 cs fv h0 n0) (own_Fr s ({ frames := 3, cells := 0, slots := 0, locals := 42 } : Room).cells ({ frames := 3, cells := 0, slots := 0, locals := 42 } : Room).slots) (T101.setTop (mkF m 4 #[.val (.ref a1), .val (.int (0 : Int32))] [(.int (1 : Int32))]))
  refine own_ifNo (pc' := 7) X101 hx (by decide) (hb hby dca0_1_4) rfl ?_
  refine own_aloadN (pc' := 8) X101 hx rfl rfl (hb hby dca0_1_7) rfl ?_
  obtain ⟨T102, X102, e102, st102⟩ := getF X101 hx hZ hown (host := "") (Or.inl (hw _ (List.mem_of_getElem? (i := 20) rfl))) Via.refl e101 F_value_a1 (g := (mkF m 8 #[.val (.ref a1), .val (.int (0 : Int32))] [(.ref a1)])) rfl rfl (hb hby dca0_1_8)
  refine own_by st102 ?_
  show own_Go p e below (Qca0_3 Z a1 q kb by0 by1 by2 cs fv h0 n0) (own_Fr s ({ frames := 3, cells := 0, slots := 0, locals := 42 } : Room).cells ({ frames := 3, cells := 0, slots := 0, locals := 42 } : Room).slots) (T102.setTop (mkF m 11 #[.val (.ref a1), .val (.int (0 : Int32))] [(.ref q)]))
  refine own_iloadN (pc' := 12) X102 hx rfl (hb hby dca0_1_11) rfl ?_
  obtain ⟨_, _, ⟨T103, L103, k103, n103⟩, -, X103, ⟨Lc103, hQ103, l103, y103, z103⟩, st103⟩ := Jvm.LawKit.callS X102 hx (y := (⟨"java/lang/StringLatin1", "charAt", "([BI)C"⟩ : MethodName)) hown (mvT hZ (hw _ (List.mem_of_getElem? (i := 85) rfl))) (mvT hZ (hw _ (List.mem_of_getElem? (i := 86) rfl))) (mvT hZ (hw _ (List.mem_of_getElem? (i := 87) rfl))) (mvT hZ (hw _ (List.mem_of_getElem? (i := 88) rfl))) (by decide) (backOf (W := 0) (rmlc0_3 l Z a0 hw [] q kb by0 by1 by2 fv h0 n0 Z0 A_q S_SIOOBE_FORMATTER hfv (by omega) (by omega) (by omega)) hZ (hw _ (List.mem_of_getElem? (i := 88) rfl)) (hw _ (List.mem_of_getElem? (i := 87) rfl)) (by decide) (by decide)) (g := (mkF m 12 #[.val (.ref a1), .val (.int (0 : Int32))] [(.int (0 : Int32)), (.ref q)])) rfl (by rw [hml]; rfl) (argsL := [(.ref q), (.int (0 : Int32))]) (rest := []) (lenOf pd_9 rfl) rfl (by show 2 * 0 + _ ≤ _; exact Nat.le_of_eq rfl) (hb hby dca0_1_12) (fun _ _ => ⟨rfl, e102, (by decide : 0 + 0 ≤ _), (by decide : 0 + 0 ≤ _)⟩)
  dsimp only [Pt.U, Pt.locs, Pt.cells, Pt.slots] at X103 l103 y103 z103 st103 hQ103
  subst y103 z103
  obtain ⟨r_103, rfl, pp103, N103, e103⟩ := hQ103
  have rr_103 := rng32 r_103
  have N103a : Fr n0 L103 := by rw [l103]; exact Fr.app N101a N103
  refine own_by st103 ?_
  show own_Go p e below (Qca0_3 Z a1 q kb by0 by1 by2 cs fv h0 n0) (own_Fr s ({ frames := 3, cells := 0, slots := 0, locals := 42 } : Room).cells ({ frames := 3, cells := 0, slots := 0, locals := 42 } : Room).slots) (T103.setTop (mkF m 15 #[.val (.ref a1), .val (.int (0 : Int32))] [(.int r_103)]))
  refine own_ret X103 hx Bd.returns Bd.notSynchronized (Or.inl ⟨rfl, by simp, _, rfl⟩) (hb hby dca0_1_15) (own_nch (by omega)) (by decide) (by decide) ?_
  show Qca0_3 Z a1 q kb by0 by1 by2 cs fv h0 n0 _ T103.heap _
  rw [e103]
  exact ⟨r_103, rfl, by omega, N103a, rfl⟩
theorem ef_ca1_3 (m : MethodId) (x0 : Addr) : entryFrame m #[(.ref x0), (.int (1 : Int32))] 2 = mkF m 0 #[.val (.ref x0), .val (.int (1 : Int32))] [] := by first | (simp [entryFrame, mkF, argsToLocals, Value.category, maxLocals]; done) | rfl
def Qca1_3 (Z : State) (a1 : Addr) (q : Addr) (kb : ClassId) (by0 : Int32) (by1 : Int32) (by2 : Int32) (cs : Int32) (fv : Value) (h0 : Heap) (n0 : Nat) (v : Option Value) (h : Heap) (L : List Loc) : Prop := ∃ r : Int32, v = some (.int r) ∧ (r.toInt = by1.toInt % 256) ∧ Fr n0 L ∧ h = h0
set_option maxRecDepth 65536 in
set_option maxHeartbeats 40000000 in
theorem rmca1_3 (l : Launch) (Z : State) (a0 : Array Value) (hw : ∀ d ∈ tables_1, d.before a0 Z = true) (ws : List Jvm.Cond) (a1 : Addr) (q : Addr) (kb : ClassId) (by0 : Int32) (by1 : Int32) (by2 : Int32) (cs : Int32) (fv : Value) (h0 : Heap) (n0 : Nat) (Z0 : n0 ≤ h0.size) (E_a1 : Exa Z h0 a1 "java/lang/String") (F_value_a1 : Fld Z h0 a1 "java/lang/String" "value" "[B" (.ref q)) (F_coder_a1 : Fld Z h0 a1 "java/lang/String" "coder" "B" (.int (0 : Int32))) (A_q : Arv Z h0 q kb .byte (3 : Int32) [(.int by0), (.int by1), (.int by2)] (.int (0 : Int32))) (S_COMPACT_STRINGS : Sta Z h0 "java/lang/String" "COMPACT_STRINGS" "Z" (.int cs)) (S_SIOOBE_FORMATTER : Sta Z h0 "jdk/internal/util/Preconditions" "SIOOBE_FORMATTER" "Ljava/util/function/BiFunction;" fv) (hcs : ¬ cs.toInt = 0) (hfv : fv.isRef = true) (hb0 : -128 ≤ by0.toInt ∧ by0.toInt < 128) (hb1 : -128 ≤ by1.toInt ∧ by1.toInt < 128) (hb2 : -128 ≤ by2.toInt ∧ by2.toInt < 128) :
    MetFree l (⟨"java/lang/String", "charAt", "(I)C"⟩ : MethodName) (head1 (Jvm.Cond.code (⟨"java/lang/String", "charAt", "(I)C"⟩ : MethodName) jdk_42_method_56_code 2 (some .char) :: ws) ({ frames := 3, cells := 0, slots := 0, locals := 42 } : Room)) (fun a U => a = #[(.ref a1), (.int (1 : Int32))] ∧ Z.Warmed39 U.vm ∧ U.heap = h0) (fun _ _ _ _ _ => True) (fun _ U o U' => ∃ v L, o = .returned v ∧ Qca1_3 Z a1 q kb by0 by1 by2 cs fv h0 n0 v U'.heap L ∧ FrameEnd U o U' L ({ frames := 3, cells := 0, slots := 0, locals := 42 } : Room).cells ({ frames := 3, cells := 0, slots := 0, locals := 42 } : Room).slots) := by
  refine MetFree.of_bodySF (plainFor_of_name pn_1) hisR ?_
  intro p e s m args below meth c s₁ Bd hml0 hP hK
  obtain ⟨rfl, hZ, hh⟩ := hP
  have hx := Bd.exec
  have hby := Bd.bytes
  have hml : c.maxLocals = 2 := hml0
  have hown : s.vm.findClass "java/lang/String" = some m.cls := findClass_of_methodNamed Bd.named
  have hnm := (name_of_methodNamed Bd.named Bd.method).1
  have X0 : Stand p l e ({ frames := 3, cells := 0, slots := 0, locals := 42 } : Room) s m #[(.ref a1), (.int (1 : Int32))] below meth c s₁ [] 0 0 := Stand.of_body Bd
  have e0 : s₁.heap = h0 := by rw [← hh, Bd.state]; rfl
  have N0 := Fr.nil n0
  change own_Go p e below (Qca1_3 Z a1 q kb by0 by1 by2 cs fv h0 n0) (own_Fr s ({ frames := 3, cells := 0, slots := 0, locals := 42 } : Room).cells ({ frames := 3, cells := 0, slots := 0, locals := 42 } : Room).slots) (s₁.setTop (entryFrame m #[(.ref a1), (.int (1 : Int32))] 2))
  rw [ef_ca1_3 m a1]
  have rby0 := rng32 by0
  have rby1 := rng32 by1
  have rby2 := rng32 by2
  have rcs := rng32 cs
  refine own_aloadN (pc' := 1) X0 hx rfl rfl (hb hby dca0_1_0) rfl ?_
  obtain ⟨cq101, kq101, q101a, q101b, q101c⟩ := isOf hZ e0 E_a1
  obtain ⟨_, _, ⟨T101, L101, k101, n101⟩, -, X101, ⟨Lc101, hQ101, l101, y101, z101⟩, st101⟩ := X0.virtualBack hx (y := (⟨"java/lang/String", "isLatin1", "()Z"⟩ : MethodName)) (z := (⟨"java/lang/String", "isLatin1", "()Z"⟩ : MethodName)) hown (mvT hZ (hw _ (List.mem_of_getElem? (i := 80) rfl))) (mvT hZ (hw _ (List.mem_of_getElem? (i := 81) rfl))) (notFace_of_selects (args := #[]) (mvT hZ (hw _ (List.mem_of_getElem? (i := 83) rfl)))) (mvT hZ (hw _ (List.mem_of_getElem? (i := 83) rfl))) (mvT hZ (hw _ (List.mem_of_getElem? (i := 82) rfl))) (by decide) (backOf (W := 0) (rmil l Z a0 hw [] a1 cs h0 n0 Z0 F_coder_a1 S_COMPACT_STRINGS (by omega)) hZ (hw _ (List.mem_of_getElem? (i := 84) rfl)) (hw _ (List.mem_of_getElem? (i := 3) rfl)) (by decide) (by decide)) q101a q101c (g := (mkF m 1 #[.val (.ref a1), .val (.int (1 : Int32))] [(.ref a1)])) rfl (by rw [hml]; rfl) (Steps.refl _) (argsL := []) (rest := []) (lenOf pd_6 rfl) rfl (by show 2 * 0 + _ ≤ _; exact Nat.le_of_eq rfl) (hb hby dca0_1_1) (fun _ _ => ⟨rfl, e0, (by decide : 0 + 0 ≤ _), (by decide : 0 + 0 ≤ _)⟩)
  dsimp only [Pt.U, Pt.locs, Pt.cells, Pt.slots] at X101 l101 y101 z101 st101 hQ101
  subst y101 z101
  obtain ⟨rfl, pp101, N101, e101⟩ := hQ101
  have N101a : Fr n0 L101 := by rw [l101]; exact Fr.app N0 N101
  refine own_via st101 ?_
  show own_Go p e below (Qca1_3 Z a1 q kb by0 by1 by2 cs fv h0 n0) (own_Fr s ({ frames := 3, cells := 0, slots := 0, locals := 42 } : Room).cells ({ frames := 3, cells := 0, slots := 0, locals := 42 } : Room).slots) (T101.setTop (mkF m 4 #[.val (.ref a1), .val (.int (1 : Int32))] [(.int (1 : Int32))]))
  refine own_ifNo (pc' := 7) X101 hx (by decide) (hb hby dca0_1_4) rfl ?_
  refine own_aloadN (pc' := 8) X101 hx rfl rfl (hb hby dca0_1_7) rfl ?_
  obtain ⟨T102, X102, e102, st102⟩ := getF X101 hx hZ hown (host := "") (Or.inl (hw _ (List.mem_of_getElem? (i := 20) rfl))) Via.refl e101 F_value_a1 (g := (mkF m 8 #[.val (.ref a1), .val (.int (1 : Int32))] [(.ref a1)])) rfl rfl (hb hby dca0_1_8)
  refine own_by st102 ?_
  show own_Go p e below (Qca1_3 Z a1 q kb by0 by1 by2 cs fv h0 n0) (own_Fr s ({ frames := 3, cells := 0, slots := 0, locals := 42 } : Room).cells ({ frames := 3, cells := 0, slots := 0, locals := 42 } : Room).slots) (T102.setTop (mkF m 11 #[.val (.ref a1), .val (.int (1 : Int32))] [(.ref q)]))
  refine own_iloadN (pc' := 12) X102 hx rfl (hb hby dca0_1_11) rfl ?_
  obtain ⟨_, _, ⟨T103, L103, k103, n103⟩, -, X103, ⟨Lc103, hQ103, l103, y103, z103⟩, st103⟩ := Jvm.LawKit.callS X102 hx (y := (⟨"java/lang/StringLatin1", "charAt", "([BI)C"⟩ : MethodName)) hown (mvT hZ (hw _ (List.mem_of_getElem? (i := 85) rfl))) (mvT hZ (hw _ (List.mem_of_getElem? (i := 86) rfl))) (mvT hZ (hw _ (List.mem_of_getElem? (i := 87) rfl))) (mvT hZ (hw _ (List.mem_of_getElem? (i := 88) rfl))) (by decide) (backOf (W := 0) (rmlc1_3 l Z a0 hw [] q kb by0 by1 by2 fv h0 n0 Z0 A_q S_SIOOBE_FORMATTER hfv (by omega) (by omega) (by omega)) hZ (hw _ (List.mem_of_getElem? (i := 88) rfl)) (hw _ (List.mem_of_getElem? (i := 87) rfl)) (by decide) (by decide)) (g := (mkF m 12 #[.val (.ref a1), .val (.int (1 : Int32))] [(.int (1 : Int32)), (.ref q)])) rfl (by rw [hml]; rfl) (argsL := [(.ref q), (.int (1 : Int32))]) (rest := []) (lenOf pd_9 rfl) rfl (by show 2 * 0 + _ ≤ _; exact Nat.le_of_eq rfl) (hb hby dca0_1_12) (fun _ _ => ⟨rfl, e102, (by decide : 0 + 0 ≤ _), (by decide : 0 + 0 ≤ _)⟩)
  dsimp only [Pt.U, Pt.locs, Pt.cells, Pt.slots] at X103 l103 y103 z103 st103 hQ103
  subst y103 z103
  obtain ⟨r_103, rfl, pp103, N103, e103⟩ := hQ103
  have rr_103 := rng32 r_103
  have N103a : Fr n0 L103 := by rw [l103]; exact Fr.app N101a N103
  refine own_by st103 ?_
  show own_Go p e below (Qca1_3 Z a1 q kb by0 by1 by2 cs fv h0 n0) (own_Fr s ({ frames := 3, cells := 0, slots := 0, locals := 42 } : Room).cells ({ frames := 3, cells := 0, slots := 0, locals := 42 } : Room).slots) (T103.setTop (mkF m 15 #[.val (.ref a1), .val (.int (1 : Int32))] [(.int r_103)]))
  refine own_ret X103 hx Bd.returns Bd.notSynchronized (Or.inl ⟨rfl, by simp, _, rfl⟩) (hb hby dca0_1_15) (own_nch (by omega)) (by decide) (by decide) ?_
  show Qca1_3 Z a1 q kb by0 by1 by2 cs fv h0 n0 _ T103.heap _
  rw [e103]
  exact ⟨r_103, rfl, by omega, N103a, rfl⟩
theorem ef_ca2_3 (m : MethodId) (x0 : Addr) : entryFrame m #[(.ref x0), (.int (2 : Int32))] 2 = mkF m 0 #[.val (.ref x0), .val (.int (2 : Int32))] [] := by first | (simp [entryFrame, mkF, argsToLocals, Value.category, maxLocals]; done) | rfl
def Qca2_3 (Z : State) (a1 : Addr) (q : Addr) (kb : ClassId) (by0 : Int32) (by1 : Int32) (by2 : Int32) (cs : Int32) (fv : Value) (h0 : Heap) (n0 : Nat) (v : Option Value) (h : Heap) (L : List Loc) : Prop := ∃ r : Int32, v = some (.int r) ∧ (r.toInt = by2.toInt % 256) ∧ Fr n0 L ∧ h = h0
set_option maxRecDepth 65536 in
set_option maxHeartbeats 40000000 in
theorem rmca2_3 (l : Launch) (Z : State) (a0 : Array Value) (hw : ∀ d ∈ tables_1, d.before a0 Z = true) (ws : List Jvm.Cond) (a1 : Addr) (q : Addr) (kb : ClassId) (by0 : Int32) (by1 : Int32) (by2 : Int32) (cs : Int32) (fv : Value) (h0 : Heap) (n0 : Nat) (Z0 : n0 ≤ h0.size) (E_a1 : Exa Z h0 a1 "java/lang/String") (F_value_a1 : Fld Z h0 a1 "java/lang/String" "value" "[B" (.ref q)) (F_coder_a1 : Fld Z h0 a1 "java/lang/String" "coder" "B" (.int (0 : Int32))) (A_q : Arv Z h0 q kb .byte (3 : Int32) [(.int by0), (.int by1), (.int by2)] (.int (0 : Int32))) (S_COMPACT_STRINGS : Sta Z h0 "java/lang/String" "COMPACT_STRINGS" "Z" (.int cs)) (S_SIOOBE_FORMATTER : Sta Z h0 "jdk/internal/util/Preconditions" "SIOOBE_FORMATTER" "Ljava/util/function/BiFunction;" fv) (hcs : ¬ cs.toInt = 0) (hfv : fv.isRef = true) (hb0 : -128 ≤ by0.toInt ∧ by0.toInt < 128) (hb1 : -128 ≤ by1.toInt ∧ by1.toInt < 128) (hb2 : -128 ≤ by2.toInt ∧ by2.toInt < 128) :
    MetFree l (⟨"java/lang/String", "charAt", "(I)C"⟩ : MethodName) (head1 (Jvm.Cond.code (⟨"java/lang/String", "charAt", "(I)C"⟩ : MethodName) jdk_42_method_56_code 2 (some .char) :: ws) ({ frames := 3, cells := 0, slots := 0, locals := 42 } : Room)) (fun a U => a = #[(.ref a1), (.int (2 : Int32))] ∧ Z.Warmed39 U.vm ∧ U.heap = h0) (fun _ _ _ _ _ => True) (fun _ U o U' => ∃ v L, o = .returned v ∧ Qca2_3 Z a1 q kb by0 by1 by2 cs fv h0 n0 v U'.heap L ∧ FrameEnd U o U' L ({ frames := 3, cells := 0, slots := 0, locals := 42 } : Room).cells ({ frames := 3, cells := 0, slots := 0, locals := 42 } : Room).slots) := by
  refine MetFree.of_bodySF (plainFor_of_name pn_1) hisR ?_
  intro p e s m args below meth c s₁ Bd hml0 hP hK
  obtain ⟨rfl, hZ, hh⟩ := hP
  have hx := Bd.exec
  have hby := Bd.bytes
  have hml : c.maxLocals = 2 := hml0
  have hown : s.vm.findClass "java/lang/String" = some m.cls := findClass_of_methodNamed Bd.named
  have hnm := (name_of_methodNamed Bd.named Bd.method).1
  have X0 : Stand p l e ({ frames := 3, cells := 0, slots := 0, locals := 42 } : Room) s m #[(.ref a1), (.int (2 : Int32))] below meth c s₁ [] 0 0 := Stand.of_body Bd
  have e0 : s₁.heap = h0 := by rw [← hh, Bd.state]; rfl
  have N0 := Fr.nil n0
  change own_Go p e below (Qca2_3 Z a1 q kb by0 by1 by2 cs fv h0 n0) (own_Fr s ({ frames := 3, cells := 0, slots := 0, locals := 42 } : Room).cells ({ frames := 3, cells := 0, slots := 0, locals := 42 } : Room).slots) (s₁.setTop (entryFrame m #[(.ref a1), (.int (2 : Int32))] 2))
  rw [ef_ca2_3 m a1]
  have rby0 := rng32 by0
  have rby1 := rng32 by1
  have rby2 := rng32 by2
  have rcs := rng32 cs
  refine own_aloadN (pc' := 1) X0 hx rfl rfl (hb hby dca0_1_0) rfl ?_
  obtain ⟨cq101, kq101, q101a, q101b, q101c⟩ := isOf hZ e0 E_a1
  obtain ⟨_, _, ⟨T101, L101, k101, n101⟩, -, X101, ⟨Lc101, hQ101, l101, y101, z101⟩, st101⟩ := X0.virtualBack hx (y := (⟨"java/lang/String", "isLatin1", "()Z"⟩ : MethodName)) (z := (⟨"java/lang/String", "isLatin1", "()Z"⟩ : MethodName)) hown (mvT hZ (hw _ (List.mem_of_getElem? (i := 80) rfl))) (mvT hZ (hw _ (List.mem_of_getElem? (i := 81) rfl))) (notFace_of_selects (args := #[]) (mvT hZ (hw _ (List.mem_of_getElem? (i := 83) rfl)))) (mvT hZ (hw _ (List.mem_of_getElem? (i := 83) rfl))) (mvT hZ (hw _ (List.mem_of_getElem? (i := 82) rfl))) (by decide) (backOf (W := 0) (rmil l Z a0 hw [] a1 cs h0 n0 Z0 F_coder_a1 S_COMPACT_STRINGS (by omega)) hZ (hw _ (List.mem_of_getElem? (i := 84) rfl)) (hw _ (List.mem_of_getElem? (i := 3) rfl)) (by decide) (by decide)) q101a q101c (g := (mkF m 1 #[.val (.ref a1), .val (.int (2 : Int32))] [(.ref a1)])) rfl (by rw [hml]; rfl) (Steps.refl _) (argsL := []) (rest := []) (lenOf pd_6 rfl) rfl (by show 2 * 0 + _ ≤ _; exact Nat.le_of_eq rfl) (hb hby dca0_1_1) (fun _ _ => ⟨rfl, e0, (by decide : 0 + 0 ≤ _), (by decide : 0 + 0 ≤ _)⟩)
  dsimp only [Pt.U, Pt.locs, Pt.cells, Pt.slots] at X101 l101 y101 z101 st101 hQ101
  subst y101 z101
  obtain ⟨rfl, pp101, N101, e101⟩ := hQ101
  have N101a : Fr n0 L101 := by rw [l101]; exact Fr.app N0 N101
  refine own_via st101 ?_
  show own_Go p e below (Qca2_3 Z a1 q kb by0 by1 by2 cs fv h0 n0) (own_Fr s ({ frames := 3, cells := 0, slots := 0, locals := 42 } : Room).cells ({ frames := 3, cells := 0, slots := 0, locals := 42 } : Room).slots) (T101.setTop (mkF m 4 #[.val (.ref a1), .val (.int (2 : Int32))] [(.int (1 : Int32))]))
  refine own_ifNo (pc' := 7) X101 hx (by decide) (hb hby dca0_1_4) rfl ?_
  refine own_aloadN (pc' := 8) X101 hx rfl rfl (hb hby dca0_1_7) rfl ?_
  obtain ⟨T102, X102, e102, st102⟩ := getF X101 hx hZ hown (host := "") (Or.inl (hw _ (List.mem_of_getElem? (i := 20) rfl))) Via.refl e101 F_value_a1 (g := (mkF m 8 #[.val (.ref a1), .val (.int (2 : Int32))] [(.ref a1)])) rfl rfl (hb hby dca0_1_8)
  refine own_by st102 ?_
  show own_Go p e below (Qca2_3 Z a1 q kb by0 by1 by2 cs fv h0 n0) (own_Fr s ({ frames := 3, cells := 0, slots := 0, locals := 42 } : Room).cells ({ frames := 3, cells := 0, slots := 0, locals := 42 } : Room).slots) (T102.setTop (mkF m 11 #[.val (.ref a1), .val (.int (2 : Int32))] [(.ref q)]))
  refine own_iloadN (pc' := 12) X102 hx rfl (hb hby dca0_1_11) rfl ?_
  obtain ⟨_, _, ⟨T103, L103, k103, n103⟩, -, X103, ⟨Lc103, hQ103, l103, y103, z103⟩, st103⟩ := Jvm.LawKit.callS X102 hx (y := (⟨"java/lang/StringLatin1", "charAt", "([BI)C"⟩ : MethodName)) hown (mvT hZ (hw _ (List.mem_of_getElem? (i := 85) rfl))) (mvT hZ (hw _ (List.mem_of_getElem? (i := 86) rfl))) (mvT hZ (hw _ (List.mem_of_getElem? (i := 87) rfl))) (mvT hZ (hw _ (List.mem_of_getElem? (i := 88) rfl))) (by decide) (backOf (W := 0) (rmlc2_3 l Z a0 hw [] q kb by0 by1 by2 fv h0 n0 Z0 A_q S_SIOOBE_FORMATTER hfv (by omega) (by omega) (by omega)) hZ (hw _ (List.mem_of_getElem? (i := 88) rfl)) (hw _ (List.mem_of_getElem? (i := 87) rfl)) (by decide) (by decide)) (g := (mkF m 12 #[.val (.ref a1), .val (.int (2 : Int32))] [(.int (2 : Int32)), (.ref q)])) rfl (by rw [hml]; rfl) (argsL := [(.ref q), (.int (2 : Int32))]) (rest := []) (lenOf pd_9 rfl) rfl (by show 2 * 0 + _ ≤ _; exact Nat.le_of_eq rfl) (hb hby dca0_1_12) (fun _ _ => ⟨rfl, e102, (by decide : 0 + 0 ≤ _), (by decide : 0 + 0 ≤ _)⟩)
  dsimp only [Pt.U, Pt.locs, Pt.cells, Pt.slots] at X103 l103 y103 z103 st103 hQ103
  subst y103 z103
  obtain ⟨r_103, rfl, pp103, N103, e103⟩ := hQ103
  have rr_103 := rng32 r_103
  have N103a : Fr n0 L103 := by rw [l103]; exact Fr.app N101a N103
  refine own_by st103 ?_
  show own_Go p e below (Qca2_3 Z a1 q kb by0 by1 by2 cs fv h0 n0) (own_Fr s ({ frames := 3, cells := 0, slots := 0, locals := 42 } : Room).cells ({ frames := 3, cells := 0, slots := 0, locals := 42 } : Room).slots) (T103.setTop (mkF m 15 #[.val (.ref a1), .val (.int (2 : Int32))] [(.int r_103)]))
  refine own_ret X103 hx Bd.returns Bd.notSynchronized (Or.inl ⟨rfl, by simp, _, rfl⟩) (hb hby dca0_1_15) (own_nch (by omega)) (by decide) (by decide) ?_
  show Qca2_3 Z a1 q kb by0 by1 by2 cs fv h0 n0 _ T103.heap _
  rw [e103]
  exact ⟨r_103, rfl, by omega, N103a, rfl⟩
theorem pd_11 : parseMethodDescriptor "()I" = some ⟨[], some .int⟩ := by decide +kernel
theorem dln0_0 : decode jdk_42_method_54_code 0 = .ok (.aload_n 0, 1) := by decide +kernel
theorem dln0_1 : decode jdk_42_method_54_code 1 = .ok (.getfield 9, 3) := by decide +kernel
theorem dln0_4 : decode jdk_42_method_54_code 4 = .ok (.arraylength, 1) := by decide +kernel
theorem dln0_5 : decode jdk_42_method_54_code 5 = .ok (.aload_n 0, 1) := by decide +kernel
theorem dln0_6 : decode jdk_42_method_54_code 6 = .ok (.invokevirtual 335, 3) := by decide +kernel
theorem dln0_9 : decode jdk_42_method_54_code 9 = .ok (.ishr, 1) := by decide +kernel
theorem dln0_10 : decode jdk_42_method_54_code 10 = .ok (.ireturn, 1) := by decide +kernel
theorem ef_ln0 (m : MethodId) (x0 : Addr) : entryFrame m #[(.ref x0)] 1 = mkF m 0 #[.val (.ref x0)] [] := by first | (simp [entryFrame, mkF, argsToLocals, Value.category, maxLocals]; done) | rfl
def Qln0 (Z : State) (a1 : Addr) (q : Addr) (kb : ClassId) (cs : Int32) (h0 : Heap) (n0 : Nat) (v : Option Value) (h : Heap) (L : List Loc) : Prop := v = some (.int (0 : Int32)) ∧ (True) ∧ Fr n0 L ∧ h = h0
set_option maxRecDepth 65536 in
set_option maxHeartbeats 40000000 in
theorem rmln0 (l : Launch) (Z : State) (a0 : Array Value) (hw : ∀ d ∈ tables_1, d.before a0 Z = true) (ws : List Jvm.Cond) (a1 : Addr) (q : Addr) (kb : ClassId) (cs : Int32) (h0 : Heap) (n0 : Nat) (Z0 : n0 ≤ h0.size) (E_a1 : Exa Z h0 a1 "java/lang/String") (F_value_a1 : Fld Z h0 a1 "java/lang/String" "value" "[B" (.ref q)) (F_coder_a1 : Fld Z h0 a1 "java/lang/String" "coder" "B" (.int (0 : Int32))) (A_q : Arv Z h0 q kb .byte (0 : Int32) [] (.int (0 : Int32))) (S_COMPACT_STRINGS : Sta Z h0 "java/lang/String" "COMPACT_STRINGS" "Z" (.int cs)) (hcs : ¬ cs.toInt = 0) :
    MetFree l (⟨"java/lang/String", "length", "()I"⟩ : MethodName) (head1 (Jvm.Cond.code (⟨"java/lang/String", "length", "()I"⟩ : MethodName) jdk_42_method_54_code 1 (some .int) :: ws) ({ frames := 1, cells := 0, slots := 0, locals := 14 } : Room)) (fun a U => a = #[(.ref a1)] ∧ Z.Warmed39 U.vm ∧ U.heap = h0) (fun _ _ _ _ _ => True) (fun _ U o U' => ∃ v L, o = .returned v ∧ Qln0 Z a1 q kb cs h0 n0 v U'.heap L ∧ FrameEnd U o U' L ({ frames := 1, cells := 0, slots := 0, locals := 14 } : Room).cells ({ frames := 1, cells := 0, slots := 0, locals := 14 } : Room).slots) := by
  refine MetFree.of_bodySF (plainFor_of_name pn_1) hisR ?_
  intro p e s m args below meth c s₁ Bd hml0 hP hK
  obtain ⟨rfl, hZ, hh⟩ := hP
  have hx := Bd.exec
  have hby := Bd.bytes
  have hml : c.maxLocals = 1 := hml0
  have hown : s.vm.findClass "java/lang/String" = some m.cls := findClass_of_methodNamed Bd.named
  have hnm := (name_of_methodNamed Bd.named Bd.method).1
  have X0 : Stand p l e ({ frames := 1, cells := 0, slots := 0, locals := 14 } : Room) s m #[(.ref a1)] below meth c s₁ [] 0 0 := Stand.of_body Bd
  have e0 : s₁.heap = h0 := by rw [← hh, Bd.state]; rfl
  have N0 := Fr.nil n0
  change own_Go p e below (Qln0 Z a1 q kb cs h0 n0) (own_Fr s ({ frames := 1, cells := 0, slots := 0, locals := 14 } : Room).cells ({ frames := 1, cells := 0, slots := 0, locals := 14 } : Room).slots) (s₁.setTop (entryFrame m #[(.ref a1)] 1))
  rw [ef_ln0 m a1]
  have rcs := rng32 cs
  refine own_aloadN (pc' := 1) X0 hx rfl rfl (hb hby dln0_0) rfl ?_
  obtain ⟨T101, X101, e101, st101⟩ := getF X0 hx hZ hown (host := "") (Or.inl (hw _ (List.mem_of_getElem? (i := 20) rfl))) Via.refl e0 F_value_a1 (g := (mkF m 1 #[.val (.ref a1)] [(.ref a1)])) rfl rfl (hb hby dln0_1)
  refine own_by st101 ?_
  show own_Go p e below (Qln0 Z a1 q kb cs h0 n0) (own_Fr s ({ frames := 1, cells := 0, slots := 0, locals := 14 } : Room).cells ({ frames := 1, cells := 0, slots := 0, locals := 14 } : Room).slots) (T101.setTop (mkF m 4 #[.val (.ref a1)] [(.ref q)]))
  obtain ⟨c102, B102, q102, s102, u102, H102, G102⟩ := id A_q
  refine own_by (X101.arraylength hx (by rw [e101]; exact B102.1) (State.isArrayOf_alike hZ.alike B102.2.1) (g := (mkF m 4 #[.val (.ref a1)] [(.ref q)])) rfl rfl (hb hby dln0_4)) ?_
  rw [len_of s102 u102]
  show own_Go p e below (Qln0 Z a1 q kb cs h0 n0) (own_Fr s ({ frames := 1, cells := 0, slots := 0, locals := 14 } : Room).cells ({ frames := 1, cells := 0, slots := 0, locals := 14 } : Room).slots) (T101.setTop (mkF m 5 #[.val (.ref a1)] [(.int (0 : Int32))]))
  refine own_aloadN (pc' := 6) X101 hx rfl rfl (hb hby dln0_5) rfl ?_
  obtain ⟨cq103, kq103, q103a, q103b, q103c⟩ := isOf hZ e101 E_a1
  obtain ⟨_, _, ⟨T103, L103, k103, n103⟩, -, X103, ⟨Lc103, hQ103, l103, y103, z103⟩, st103⟩ := X101.virtualBack hx (y := (⟨"java/lang/String", "coder", "()B"⟩ : MethodName)) (z := (⟨"java/lang/String", "coder", "()B"⟩ : MethodName)) hown (mvT hZ (hw _ (List.mem_of_getElem? (i := 54) rfl))) (mvT hZ (hw _ (List.mem_of_getElem? (i := 55) rfl))) (notFace_of_selects (args := #[]) (mvT hZ (hw _ (List.mem_of_getElem? (i := 57) rfl)))) (mvT hZ (hw _ (List.mem_of_getElem? (i := 57) rfl))) (mvT hZ (hw _ (List.mem_of_getElem? (i := 56) rfl))) (by decide) (backOf (W := 1) (rmcd l Z a0 hw [] a1 cs h0 n0 Z0 F_coder_a1 S_COMPACT_STRINGS (by omega)) hZ (hw _ (List.mem_of_getElem? (i := 58) rfl)) (hw _ (List.mem_of_getElem? (i := 3) rfl)) (by decide) (by decide)) q103a q103c (g := (mkF m 6 #[.val (.ref a1)] [(.ref a1), (.int (0 : Int32))])) rfl (by rw [hml]; rfl) (Steps.refl _) (argsL := []) (rest := [(.int (0 : Int32))]) (lenOf pd_5 rfl) rfl (by show 2 * 0 + _ ≤ _; exact Nat.le_of_eq rfl) (hb hby dln0_6) (fun _ _ => ⟨rfl, e101, (by decide : 0 + 0 ≤ _), (by decide : 0 + 0 ≤ _)⟩)
  dsimp only [Pt.U, Pt.locs, Pt.cells, Pt.slots] at X103 l103 y103 z103 st103 hQ103
  subst y103 z103
  obtain ⟨rfl, pp103, N103, e103⟩ := hQ103
  have N103a : Fr n0 L103 := by rw [l103]; exact Fr.app N0 N103
  refine own_via st103 ?_
  show own_Go p e below (Qln0 Z a1 q kb cs h0 n0) (own_Fr s ({ frames := 1, cells := 0, slots := 0, locals := 14 } : Room).cells ({ frames := 1, cells := 0, slots := 0, locals := 14 } : Room).slots) (T103.setTop (mkF m 9 #[.val (.ref a1)] [(.int (0 : Int32)), (.int (0 : Int32))]))
  refine own_ishr (pc' := 10) X103 hx (z := (0 : Int32)) (by decide) (hb hby dln0_9) rfl ?_
  refine own_ret X103 hx Bd.returns Bd.notSynchronized (Or.inl ⟨rfl, by simp, _, rfl⟩) (hb hby dln0_10) rfl (by decide) (by decide) ?_
  show Qln0 Z a1 q kb cs h0 n0 _ T103.heap _
  rw [e103]
  exact ⟨rfl, trivial, N103a, rfl⟩
theorem ef_ln1 (m : MethodId) (x0 : Addr) : entryFrame m #[(.ref x0)] 1 = mkF m 0 #[.val (.ref x0)] [] := by first | (simp [entryFrame, mkF, argsToLocals, Value.category, maxLocals]; done) | rfl
def Qln1 (Z : State) (a1 : Addr) (q : Addr) (kb : ClassId) (by0 : Int32) (cs : Int32) (h0 : Heap) (n0 : Nat) (v : Option Value) (h : Heap) (L : List Loc) : Prop := v = some (.int (1 : Int32)) ∧ (True) ∧ Fr n0 L ∧ h = h0
set_option maxRecDepth 65536 in
set_option maxHeartbeats 40000000 in
theorem rmln1 (l : Launch) (Z : State) (a0 : Array Value) (hw : ∀ d ∈ tables_1, d.before a0 Z = true) (ws : List Jvm.Cond) (a1 : Addr) (q : Addr) (kb : ClassId) (by0 : Int32) (cs : Int32) (h0 : Heap) (n0 : Nat) (Z0 : n0 ≤ h0.size) (E_a1 : Exa Z h0 a1 "java/lang/String") (F_value_a1 : Fld Z h0 a1 "java/lang/String" "value" "[B" (.ref q)) (F_coder_a1 : Fld Z h0 a1 "java/lang/String" "coder" "B" (.int (0 : Int32))) (A_q : Arv Z h0 q kb .byte (1 : Int32) [(.int by0)] (.int (0 : Int32))) (S_COMPACT_STRINGS : Sta Z h0 "java/lang/String" "COMPACT_STRINGS" "Z" (.int cs)) (hcs : ¬ cs.toInt = 0) :
    MetFree l (⟨"java/lang/String", "length", "()I"⟩ : MethodName) (head1 (Jvm.Cond.code (⟨"java/lang/String", "length", "()I"⟩ : MethodName) jdk_42_method_54_code 1 (some .int) :: ws) ({ frames := 1, cells := 0, slots := 0, locals := 14 } : Room)) (fun a U => a = #[(.ref a1)] ∧ Z.Warmed39 U.vm ∧ U.heap = h0) (fun _ _ _ _ _ => True) (fun _ U o U' => ∃ v L, o = .returned v ∧ Qln1 Z a1 q kb by0 cs h0 n0 v U'.heap L ∧ FrameEnd U o U' L ({ frames := 1, cells := 0, slots := 0, locals := 14 } : Room).cells ({ frames := 1, cells := 0, slots := 0, locals := 14 } : Room).slots) := by
  refine MetFree.of_bodySF (plainFor_of_name pn_1) hisR ?_
  intro p e s m args below meth c s₁ Bd hml0 hP hK
  obtain ⟨rfl, hZ, hh⟩ := hP
  have hx := Bd.exec
  have hby := Bd.bytes
  have hml : c.maxLocals = 1 := hml0
  have hown : s.vm.findClass "java/lang/String" = some m.cls := findClass_of_methodNamed Bd.named
  have hnm := (name_of_methodNamed Bd.named Bd.method).1
  have X0 : Stand p l e ({ frames := 1, cells := 0, slots := 0, locals := 14 } : Room) s m #[(.ref a1)] below meth c s₁ [] 0 0 := Stand.of_body Bd
  have e0 : s₁.heap = h0 := by rw [← hh, Bd.state]; rfl
  have N0 := Fr.nil n0
  change own_Go p e below (Qln1 Z a1 q kb by0 cs h0 n0) (own_Fr s ({ frames := 1, cells := 0, slots := 0, locals := 14 } : Room).cells ({ frames := 1, cells := 0, slots := 0, locals := 14 } : Room).slots) (s₁.setTop (entryFrame m #[(.ref a1)] 1))
  rw [ef_ln1 m a1]
  have rby0 := rng32 by0
  have rcs := rng32 cs
  refine own_aloadN (pc' := 1) X0 hx rfl rfl (hb hby dln0_0) rfl ?_
  obtain ⟨T101, X101, e101, st101⟩ := getF X0 hx hZ hown (host := "") (Or.inl (hw _ (List.mem_of_getElem? (i := 20) rfl))) Via.refl e0 F_value_a1 (g := (mkF m 1 #[.val (.ref a1)] [(.ref a1)])) rfl rfl (hb hby dln0_1)
  refine own_by st101 ?_
  show own_Go p e below (Qln1 Z a1 q kb by0 cs h0 n0) (own_Fr s ({ frames := 1, cells := 0, slots := 0, locals := 14 } : Room).cells ({ frames := 1, cells := 0, slots := 0, locals := 14 } : Room).slots) (T101.setTop (mkF m 4 #[.val (.ref a1)] [(.ref q)]))
  obtain ⟨c102, B102, q102, s102, u102, H102, G102⟩ := id A_q
  refine own_by (X101.arraylength hx (by rw [e101]; exact B102.1) (State.isArrayOf_alike hZ.alike B102.2.1) (g := (mkF m 4 #[.val (.ref a1)] [(.ref q)])) rfl rfl (hb hby dln0_4)) ?_
  rw [len_of s102 u102]
  show own_Go p e below (Qln1 Z a1 q kb by0 cs h0 n0) (own_Fr s ({ frames := 1, cells := 0, slots := 0, locals := 14 } : Room).cells ({ frames := 1, cells := 0, slots := 0, locals := 14 } : Room).slots) (T101.setTop (mkF m 5 #[.val (.ref a1)] [(.int (1 : Int32))]))
  refine own_aloadN (pc' := 6) X101 hx rfl rfl (hb hby dln0_5) rfl ?_
  obtain ⟨cq103, kq103, q103a, q103b, q103c⟩ := isOf hZ e101 E_a1
  obtain ⟨_, _, ⟨T103, L103, k103, n103⟩, -, X103, ⟨Lc103, hQ103, l103, y103, z103⟩, st103⟩ := X101.virtualBack hx (y := (⟨"java/lang/String", "coder", "()B"⟩ : MethodName)) (z := (⟨"java/lang/String", "coder", "()B"⟩ : MethodName)) hown (mvT hZ (hw _ (List.mem_of_getElem? (i := 54) rfl))) (mvT hZ (hw _ (List.mem_of_getElem? (i := 55) rfl))) (notFace_of_selects (args := #[]) (mvT hZ (hw _ (List.mem_of_getElem? (i := 57) rfl)))) (mvT hZ (hw _ (List.mem_of_getElem? (i := 57) rfl))) (mvT hZ (hw _ (List.mem_of_getElem? (i := 56) rfl))) (by decide) (backOf (W := 1) (rmcd l Z a0 hw [] a1 cs h0 n0 Z0 F_coder_a1 S_COMPACT_STRINGS (by omega)) hZ (hw _ (List.mem_of_getElem? (i := 58) rfl)) (hw _ (List.mem_of_getElem? (i := 3) rfl)) (by decide) (by decide)) q103a q103c (g := (mkF m 6 #[.val (.ref a1)] [(.ref a1), (.int (1 : Int32))])) rfl (by rw [hml]; rfl) (Steps.refl _) (argsL := []) (rest := [(.int (1 : Int32))]) (lenOf pd_5 rfl) rfl (by show 2 * 0 + _ ≤ _; exact Nat.le_of_eq rfl) (hb hby dln0_6) (fun _ _ => ⟨rfl, e101, (by decide : 0 + 0 ≤ _), (by decide : 0 + 0 ≤ _)⟩)
  dsimp only [Pt.U, Pt.locs, Pt.cells, Pt.slots] at X103 l103 y103 z103 st103 hQ103
  subst y103 z103
  obtain ⟨rfl, pp103, N103, e103⟩ := hQ103
  have N103a : Fr n0 L103 := by rw [l103]; exact Fr.app N0 N103
  refine own_via st103 ?_
  show own_Go p e below (Qln1 Z a1 q kb by0 cs h0 n0) (own_Fr s ({ frames := 1, cells := 0, slots := 0, locals := 14 } : Room).cells ({ frames := 1, cells := 0, slots := 0, locals := 14 } : Room).slots) (T103.setTop (mkF m 9 #[.val (.ref a1)] [(.int (0 : Int32)), (.int (1 : Int32))]))
  refine own_ishr (pc' := 10) X103 hx (z := (1 : Int32)) (by decide) (hb hby dln0_9) rfl ?_
  refine own_ret X103 hx Bd.returns Bd.notSynchronized (Or.inl ⟨rfl, by simp, _, rfl⟩) (hb hby dln0_10) rfl (by decide) (by decide) ?_
  show Qln1 Z a1 q kb by0 cs h0 n0 _ T103.heap _
  rw [e103]
  exact ⟨rfl, trivial, N103a, rfl⟩
theorem ef_ln2 (m : MethodId) (x0 : Addr) : entryFrame m #[(.ref x0)] 1 = mkF m 0 #[.val (.ref x0)] [] := by first | (simp [entryFrame, mkF, argsToLocals, Value.category, maxLocals]; done) | rfl
def Qln2 (Z : State) (a1 : Addr) (q : Addr) (kb : ClassId) (by0 : Int32) (by1 : Int32) (cs : Int32) (h0 : Heap) (n0 : Nat) (v : Option Value) (h : Heap) (L : List Loc) : Prop := v = some (.int (2 : Int32)) ∧ (True) ∧ Fr n0 L ∧ h = h0
set_option maxRecDepth 65536 in
set_option maxHeartbeats 40000000 in
theorem rmln2 (l : Launch) (Z : State) (a0 : Array Value) (hw : ∀ d ∈ tables_1, d.before a0 Z = true) (ws : List Jvm.Cond) (a1 : Addr) (q : Addr) (kb : ClassId) (by0 : Int32) (by1 : Int32) (cs : Int32) (h0 : Heap) (n0 : Nat) (Z0 : n0 ≤ h0.size) (E_a1 : Exa Z h0 a1 "java/lang/String") (F_value_a1 : Fld Z h0 a1 "java/lang/String" "value" "[B" (.ref q)) (F_coder_a1 : Fld Z h0 a1 "java/lang/String" "coder" "B" (.int (0 : Int32))) (A_q : Arv Z h0 q kb .byte (2 : Int32) [(.int by0), (.int by1)] (.int (0 : Int32))) (S_COMPACT_STRINGS : Sta Z h0 "java/lang/String" "COMPACT_STRINGS" "Z" (.int cs)) (hcs : ¬ cs.toInt = 0) :
    MetFree l (⟨"java/lang/String", "length", "()I"⟩ : MethodName) (head1 (Jvm.Cond.code (⟨"java/lang/String", "length", "()I"⟩ : MethodName) jdk_42_method_54_code 1 (some .int) :: ws) ({ frames := 1, cells := 0, slots := 0, locals := 14 } : Room)) (fun a U => a = #[(.ref a1)] ∧ Z.Warmed39 U.vm ∧ U.heap = h0) (fun _ _ _ _ _ => True) (fun _ U o U' => ∃ v L, o = .returned v ∧ Qln2 Z a1 q kb by0 by1 cs h0 n0 v U'.heap L ∧ FrameEnd U o U' L ({ frames := 1, cells := 0, slots := 0, locals := 14 } : Room).cells ({ frames := 1, cells := 0, slots := 0, locals := 14 } : Room).slots) := by
  refine MetFree.of_bodySF (plainFor_of_name pn_1) hisR ?_
  intro p e s m args below meth c s₁ Bd hml0 hP hK
  obtain ⟨rfl, hZ, hh⟩ := hP
  have hx := Bd.exec
  have hby := Bd.bytes
  have hml : c.maxLocals = 1 := hml0
  have hown : s.vm.findClass "java/lang/String" = some m.cls := findClass_of_methodNamed Bd.named
  have hnm := (name_of_methodNamed Bd.named Bd.method).1
  have X0 : Stand p l e ({ frames := 1, cells := 0, slots := 0, locals := 14 } : Room) s m #[(.ref a1)] below meth c s₁ [] 0 0 := Stand.of_body Bd
  have e0 : s₁.heap = h0 := by rw [← hh, Bd.state]; rfl
  have N0 := Fr.nil n0
  change own_Go p e below (Qln2 Z a1 q kb by0 by1 cs h0 n0) (own_Fr s ({ frames := 1, cells := 0, slots := 0, locals := 14 } : Room).cells ({ frames := 1, cells := 0, slots := 0, locals := 14 } : Room).slots) (s₁.setTop (entryFrame m #[(.ref a1)] 1))
  rw [ef_ln2 m a1]
  have rby0 := rng32 by0
  have rby1 := rng32 by1
  have rcs := rng32 cs
  refine own_aloadN (pc' := 1) X0 hx rfl rfl (hb hby dln0_0) rfl ?_
  obtain ⟨T101, X101, e101, st101⟩ := getF X0 hx hZ hown (host := "") (Or.inl (hw _ (List.mem_of_getElem? (i := 20) rfl))) Via.refl e0 F_value_a1 (g := (mkF m 1 #[.val (.ref a1)] [(.ref a1)])) rfl rfl (hb hby dln0_1)
  refine own_by st101 ?_
  show own_Go p e below (Qln2 Z a1 q kb by0 by1 cs h0 n0) (own_Fr s ({ frames := 1, cells := 0, slots := 0, locals := 14 } : Room).cells ({ frames := 1, cells := 0, slots := 0, locals := 14 } : Room).slots) (T101.setTop (mkF m 4 #[.val (.ref a1)] [(.ref q)]))
  obtain ⟨c102, B102, q102, s102, u102, H102, G102⟩ := id A_q
  refine own_by (X101.arraylength hx (by rw [e101]; exact B102.1) (State.isArrayOf_alike hZ.alike B102.2.1) (g := (mkF m 4 #[.val (.ref a1)] [(.ref q)])) rfl rfl (hb hby dln0_4)) ?_
  rw [len_of s102 u102]
  show own_Go p e below (Qln2 Z a1 q kb by0 by1 cs h0 n0) (own_Fr s ({ frames := 1, cells := 0, slots := 0, locals := 14 } : Room).cells ({ frames := 1, cells := 0, slots := 0, locals := 14 } : Room).slots) (T101.setTop (mkF m 5 #[.val (.ref a1)] [(.int (2 : Int32))]))
  refine own_aloadN (pc' := 6) X101 hx rfl rfl (hb hby dln0_5) rfl ?_
  obtain ⟨cq103, kq103, q103a, q103b, q103c⟩ := isOf hZ e101 E_a1
  obtain ⟨_, _, ⟨T103, L103, k103, n103⟩, -, X103, ⟨Lc103, hQ103, l103, y103, z103⟩, st103⟩ := X101.virtualBack hx (y := (⟨"java/lang/String", "coder", "()B"⟩ : MethodName)) (z := (⟨"java/lang/String", "coder", "()B"⟩ : MethodName)) hown (mvT hZ (hw _ (List.mem_of_getElem? (i := 54) rfl))) (mvT hZ (hw _ (List.mem_of_getElem? (i := 55) rfl))) (notFace_of_selects (args := #[]) (mvT hZ (hw _ (List.mem_of_getElem? (i := 57) rfl)))) (mvT hZ (hw _ (List.mem_of_getElem? (i := 57) rfl))) (mvT hZ (hw _ (List.mem_of_getElem? (i := 56) rfl))) (by decide) (backOf (W := 1) (rmcd l Z a0 hw [] a1 cs h0 n0 Z0 F_coder_a1 S_COMPACT_STRINGS (by omega)) hZ (hw _ (List.mem_of_getElem? (i := 58) rfl)) (hw _ (List.mem_of_getElem? (i := 3) rfl)) (by decide) (by decide)) q103a q103c (g := (mkF m 6 #[.val (.ref a1)] [(.ref a1), (.int (2 : Int32))])) rfl (by rw [hml]; rfl) (Steps.refl _) (argsL := []) (rest := [(.int (2 : Int32))]) (lenOf pd_5 rfl) rfl (by show 2 * 0 + _ ≤ _; exact Nat.le_of_eq rfl) (hb hby dln0_6) (fun _ _ => ⟨rfl, e101, (by decide : 0 + 0 ≤ _), (by decide : 0 + 0 ≤ _)⟩)
  dsimp only [Pt.U, Pt.locs, Pt.cells, Pt.slots] at X103 l103 y103 z103 st103 hQ103
  subst y103 z103
  obtain ⟨rfl, pp103, N103, e103⟩ := hQ103
  have N103a : Fr n0 L103 := by rw [l103]; exact Fr.app N0 N103
  refine own_via st103 ?_
  show own_Go p e below (Qln2 Z a1 q kb by0 by1 cs h0 n0) (own_Fr s ({ frames := 1, cells := 0, slots := 0, locals := 14 } : Room).cells ({ frames := 1, cells := 0, slots := 0, locals := 14 } : Room).slots) (T103.setTop (mkF m 9 #[.val (.ref a1)] [(.int (0 : Int32)), (.int (2 : Int32))]))
  refine own_ishr (pc' := 10) X103 hx (z := (2 : Int32)) (by decide) (hb hby dln0_9) rfl ?_
  refine own_ret X103 hx Bd.returns Bd.notSynchronized (Or.inl ⟨rfl, by simp, _, rfl⟩) (hb hby dln0_10) rfl (by decide) (by decide) ?_
  show Qln2 Z a1 q kb by0 by1 cs h0 n0 _ T103.heap _
  rw [e103]
  exact ⟨rfl, trivial, N103a, rfl⟩
theorem ef_ln3 (m : MethodId) (x0 : Addr) : entryFrame m #[(.ref x0)] 1 = mkF m 0 #[.val (.ref x0)] [] := by first | (simp [entryFrame, mkF, argsToLocals, Value.category, maxLocals]; done) | rfl
def Qln3 (Z : State) (a1 : Addr) (q : Addr) (kb : ClassId) (by0 : Int32) (by1 : Int32) (by2 : Int32) (cs : Int32) (h0 : Heap) (n0 : Nat) (v : Option Value) (h : Heap) (L : List Loc) : Prop := v = some (.int (3 : Int32)) ∧ (True) ∧ Fr n0 L ∧ h = h0
set_option maxRecDepth 65536 in
set_option maxHeartbeats 40000000 in
theorem rmln3 (l : Launch) (Z : State) (a0 : Array Value) (hw : ∀ d ∈ tables_1, d.before a0 Z = true) (ws : List Jvm.Cond) (a1 : Addr) (q : Addr) (kb : ClassId) (by0 : Int32) (by1 : Int32) (by2 : Int32) (cs : Int32) (h0 : Heap) (n0 : Nat) (Z0 : n0 ≤ h0.size) (E_a1 : Exa Z h0 a1 "java/lang/String") (F_value_a1 : Fld Z h0 a1 "java/lang/String" "value" "[B" (.ref q)) (F_coder_a1 : Fld Z h0 a1 "java/lang/String" "coder" "B" (.int (0 : Int32))) (A_q : Arv Z h0 q kb .byte (3 : Int32) [(.int by0), (.int by1), (.int by2)] (.int (0 : Int32))) (S_COMPACT_STRINGS : Sta Z h0 "java/lang/String" "COMPACT_STRINGS" "Z" (.int cs)) (hcs : ¬ cs.toInt = 0) :
    MetFree l (⟨"java/lang/String", "length", "()I"⟩ : MethodName) (head1 (Jvm.Cond.code (⟨"java/lang/String", "length", "()I"⟩ : MethodName) jdk_42_method_54_code 1 (some .int) :: ws) ({ frames := 1, cells := 0, slots := 0, locals := 14 } : Room)) (fun a U => a = #[(.ref a1)] ∧ Z.Warmed39 U.vm ∧ U.heap = h0) (fun _ _ _ _ _ => True) (fun _ U o U' => ∃ v L, o = .returned v ∧ Qln3 Z a1 q kb by0 by1 by2 cs h0 n0 v U'.heap L ∧ FrameEnd U o U' L ({ frames := 1, cells := 0, slots := 0, locals := 14 } : Room).cells ({ frames := 1, cells := 0, slots := 0, locals := 14 } : Room).slots) := by
  refine MetFree.of_bodySF (plainFor_of_name pn_1) hisR ?_
  intro p e s m args below meth c s₁ Bd hml0 hP hK
  obtain ⟨rfl, hZ, hh⟩ := hP
  have hx := Bd.exec
  have hby := Bd.bytes
  have hml : c.maxLocals = 1 := hml0
  have hown : s.vm.findClass "java/lang/String" = some m.cls := findClass_of_methodNamed Bd.named
  have hnm := (name_of_methodNamed Bd.named Bd.method).1
  have X0 : Stand p l e ({ frames := 1, cells := 0, slots := 0, locals := 14 } : Room) s m #[(.ref a1)] below meth c s₁ [] 0 0 := Stand.of_body Bd
  have e0 : s₁.heap = h0 := by rw [← hh, Bd.state]; rfl
  have N0 := Fr.nil n0
  change own_Go p e below (Qln3 Z a1 q kb by0 by1 by2 cs h0 n0) (own_Fr s ({ frames := 1, cells := 0, slots := 0, locals := 14 } : Room).cells ({ frames := 1, cells := 0, slots := 0, locals := 14 } : Room).slots) (s₁.setTop (entryFrame m #[(.ref a1)] 1))
  rw [ef_ln3 m a1]
  have rby0 := rng32 by0
  have rby1 := rng32 by1
  have rby2 := rng32 by2
  have rcs := rng32 cs
  refine own_aloadN (pc' := 1) X0 hx rfl rfl (hb hby dln0_0) rfl ?_
  obtain ⟨T101, X101, e101, st101⟩ := getF X0 hx hZ hown (host := "") (Or.inl (hw _ (List.mem_of_getElem? (i := 20) rfl))) Via.refl e0 F_value_a1 (g := (mkF m 1 #[.val (.ref a1)] [(.ref a1)])) rfl rfl (hb hby dln0_1)
  refine own_by st101 ?_
  show own_Go p e below (Qln3 Z a1 q kb by0 by1 by2 cs h0 n0) (own_Fr s ({ frames := 1, cells := 0, slots := 0, locals := 14 } : Room).cells ({ frames := 1, cells := 0, slots := 0, locals := 14 } : Room).slots) (T101.setTop (mkF m 4 #[.val (.ref a1)] [(.ref q)]))
  obtain ⟨c102, B102, q102, s102, u102, H102, G102⟩ := id A_q
  refine own_by (X101.arraylength hx (by rw [e101]; exact B102.1) (State.isArrayOf_alike hZ.alike B102.2.1) (g := (mkF m 4 #[.val (.ref a1)] [(.ref q)])) rfl rfl (hb hby dln0_4)) ?_
  rw [len_of s102 u102]
  show own_Go p e below (Qln3 Z a1 q kb by0 by1 by2 cs h0 n0) (own_Fr s ({ frames := 1, cells := 0, slots := 0, locals := 14 } : Room).cells ({ frames := 1, cells := 0, slots := 0, locals := 14 } : Room).slots) (T101.setTop (mkF m 5 #[.val (.ref a1)] [(.int (3 : Int32))]))
  refine own_aloadN (pc' := 6) X101 hx rfl rfl (hb hby dln0_5) rfl ?_
  obtain ⟨cq103, kq103, q103a, q103b, q103c⟩ := isOf hZ e101 E_a1
  obtain ⟨_, _, ⟨T103, L103, k103, n103⟩, -, X103, ⟨Lc103, hQ103, l103, y103, z103⟩, st103⟩ := X101.virtualBack hx (y := (⟨"java/lang/String", "coder", "()B"⟩ : MethodName)) (z := (⟨"java/lang/String", "coder", "()B"⟩ : MethodName)) hown (mvT hZ (hw _ (List.mem_of_getElem? (i := 54) rfl))) (mvT hZ (hw _ (List.mem_of_getElem? (i := 55) rfl))) (notFace_of_selects (args := #[]) (mvT hZ (hw _ (List.mem_of_getElem? (i := 57) rfl)))) (mvT hZ (hw _ (List.mem_of_getElem? (i := 57) rfl))) (mvT hZ (hw _ (List.mem_of_getElem? (i := 56) rfl))) (by decide) (backOf (W := 1) (rmcd l Z a0 hw [] a1 cs h0 n0 Z0 F_coder_a1 S_COMPACT_STRINGS (by omega)) hZ (hw _ (List.mem_of_getElem? (i := 58) rfl)) (hw _ (List.mem_of_getElem? (i := 3) rfl)) (by decide) (by decide)) q103a q103c (g := (mkF m 6 #[.val (.ref a1)] [(.ref a1), (.int (3 : Int32))])) rfl (by rw [hml]; rfl) (Steps.refl _) (argsL := []) (rest := [(.int (3 : Int32))]) (lenOf pd_5 rfl) rfl (by show 2 * 0 + _ ≤ _; exact Nat.le_of_eq rfl) (hb hby dln0_6) (fun _ _ => ⟨rfl, e101, (by decide : 0 + 0 ≤ _), (by decide : 0 + 0 ≤ _)⟩)
  dsimp only [Pt.U, Pt.locs, Pt.cells, Pt.slots] at X103 l103 y103 z103 st103 hQ103
  subst y103 z103
  obtain ⟨rfl, pp103, N103, e103⟩ := hQ103
  have N103a : Fr n0 L103 := by rw [l103]; exact Fr.app N0 N103
  refine own_via st103 ?_
  show own_Go p e below (Qln3 Z a1 q kb by0 by1 by2 cs h0 n0) (own_Fr s ({ frames := 1, cells := 0, slots := 0, locals := 14 } : Room).cells ({ frames := 1, cells := 0, slots := 0, locals := 14 } : Room).slots) (T103.setTop (mkF m 9 #[.val (.ref a1)] [(.int (0 : Int32)), (.int (3 : Int32))]))
  refine own_ishr (pc' := 10) X103 hx (z := (3 : Int32)) (by decide) (hb hby dln0_9) rfl ?_
  refine own_ret X103 hx Bd.returns Bd.notSynchronized (Or.inl ⟨rfl, by simp, _, rfl⟩) (hb hby dln0_10) rfl (by decide) (by decide) ?_
  show Qln3 Z a1 q kb by0 by1 by2 cs h0 n0 _ T103.heap _
  rw [e103]
  exact ⟨rfl, trivial, N103a, rfl⟩
theorem pd_12 : parseMethodDescriptor "(Ljava/lang/Object;)Z" = some ⟨[.object "java/lang/Object"], some .boolean⟩ := by decide +kernel
theorem deq_0 : decode jdk_42_method_66_code 0 = .ok (.aload_n 0, 1) := by decide +kernel
theorem deq_1 : decode jdk_42_method_66_code 1 = .ok (.aload_n 1, 1) := by decide +kernel
theorem deq_2 : decode jdk_42_method_66_code 2 = .ok (.if_acmp .ne 5, 3) := by decide +kernel
theorem deq_5 : decode jdk_42_method_66_code 5 = .ok (.iconst 1, 1) := by decide +kernel
theorem deq_6 : decode jdk_42_method_66_code 6 = .ok (.ireturn, 1) := by decide +kernel
theorem ef_eq (m : MethodId) (x0 : Addr) (x1 : Addr) : entryFrame m #[(.ref x0), (.ref x1)] 3 = mkF m 0 #[.val (.ref x0), .val (.ref x1), .unset] [] := by first | (simp [entryFrame, mkF, argsToLocals, Value.category, maxLocals]; done) | rfl
def Qeq (Z : State) (a1 : Addr) (h0 : Heap) (n0 : Nat) (v : Option Value) (h : Heap) (L : List Loc) : Prop := v = some (.int (1 : Int32)) ∧ (True) ∧ Fr n0 L ∧ h = h0
set_option maxRecDepth 65536 in
set_option maxHeartbeats 40000000 in
theorem rmeq (l : Launch) (Z : State) (a0 : Array Value) (hw : ∀ d ∈ tables_1, d.before a0 Z = true) (ws : List Jvm.Cond) (a1 : Addr) (h0 : Heap) (n0 : Nat) (Z0 : n0 ≤ h0.size) :
    MetFree l (⟨"java/lang/String", "equals", "(Ljava/lang/Object;)Z"⟩ : MethodName) (head1 (Jvm.Cond.code (⟨"java/lang/String", "equals", "(Ljava/lang/Object;)Z"⟩ : MethodName) jdk_42_method_66_code 3 (some .boolean) :: ws) ({ frames := 0, cells := 0, slots := 0, locals := 0 } : Room)) (fun a U => a = #[(.ref a1), (.ref a1)] ∧ Z.Warmed39 U.vm ∧ U.heap = h0) (fun _ _ _ _ _ => True) (fun _ U o U' => ∃ v L, o = .returned v ∧ Qeq Z a1 h0 n0 v U'.heap L ∧ FrameEnd U o U' L ({ frames := 0, cells := 0, slots := 0, locals := 0 } : Room).cells ({ frames := 0, cells := 0, slots := 0, locals := 0 } : Room).slots) := by
  refine MetFree.of_bodySF (plainFor_of_name pn_1) hisR ?_
  intro p e s m args below meth c s₁ Bd hml0 hP hK
  obtain ⟨rfl, hZ, hh⟩ := hP
  have hx := Bd.exec
  have hby := Bd.bytes
  have hml : c.maxLocals = 3 := hml0
  have hown : s.vm.findClass "java/lang/String" = some m.cls := findClass_of_methodNamed Bd.named
  have hnm := (name_of_methodNamed Bd.named Bd.method).1
  have X0 : Stand p l e ({ frames := 0, cells := 0, slots := 0, locals := 0 } : Room) s m #[(.ref a1), (.ref a1)] below meth c s₁ [] 0 0 := Stand.of_body Bd
  have e0 : s₁.heap = h0 := by rw [← hh, Bd.state]; rfl
  have N0 := Fr.nil n0
  change own_Go p e below (Qeq Z a1 h0 n0) (own_Fr s ({ frames := 0, cells := 0, slots := 0, locals := 0 } : Room).cells ({ frames := 0, cells := 0, slots := 0, locals := 0 } : Room).slots) (s₁.setTop (entryFrame m #[(.ref a1), (.ref a1)] 3))
  rw [ef_eq m a1 a1]
  refine own_aloadN (pc' := 1) X0 hx rfl rfl (hb hby deq_0) rfl ?_
  refine own_aloadN (pc' := 2) X0 hx rfl rfl (hb hby deq_1) rfl ?_
  refine own_acmpNo (pc' := 5) X0 hx (by simp [if_acmp.holds]) (hb hby deq_2) rfl ?_
  refine own_iconst (pc' := 6) X0 hx (1 : Int32) (by decide) (hb hby deq_5) rfl ?_
  refine own_ret X0 hx Bd.returns Bd.notSynchronized (Or.inl ⟨rfl, by simp, _, rfl⟩) (hb hby deq_6) rfl (by decide) (by decide) ?_
  show Qeq Z a1 h0 n0 _ s₁.heap _
  rw [e0]
  exact ⟨rfl, trivial, N0, rfl⟩
theorem pd_13 : parseMethodDescriptor "(Ljava/lang/Object;)Ljava/lang/Object;" = some ⟨[.object "java/lang/Object"], some (.object "java/lang/Object")⟩ := by decide +kernel
theorem drn_0 : decode jdk_31_method_10_code 0 = .ok (.aload_n 0, 1) := by decide +kernel
theorem drn_1 : decode jdk_31_method_10_code 1 = .ok (.ifnonnull 11, 3) := by decide +kernel
theorem drn_12 : decode jdk_31_method_10_code 12 = .ok (.aload_n 0, 1) := by decide +kernel
theorem drn_13 : decode jdk_31_method_10_code 13 = .ok (.areturn, 1) := by decide +kernel
theorem pn_4 : plainName "java/util/Objects" = true := by first | (simp [plainName, overriddenIn]; done) | decide +kernel
theorem ef_rn (m : MethodId) (x0 : Addr) : entryFrame m #[(.ref x0)] 1 = mkF m 0 #[.val (.ref x0)] [] := by first | (simp [entryFrame, mkF, argsToLocals, Value.category, maxLocals]; done) | rfl
def Qrn (Z : State) (a1 : Addr) (h0 : Heap) (n0 : Nat) (v : Option Value) (h : Heap) (L : List Loc) : Prop := v = some (.ref a1) ∧ (True) ∧ Fr n0 L ∧ h = h0
set_option maxRecDepth 65536 in
set_option maxHeartbeats 40000000 in
theorem rmrn (l : Launch) (Z : State) (a0 : Array Value) (hw : ∀ d ∈ tables_1, d.before a0 Z = true) (ws : List Jvm.Cond) (a1 : Addr) (h0 : Heap) (n0 : Nat) (Z0 : n0 ≤ h0.size) :
    MetFree l (⟨"java/util/Objects", "requireNonNull", "(Ljava/lang/Object;)Ljava/lang/Object;"⟩ : MethodName) (head1 (Jvm.Cond.code (⟨"java/util/Objects", "requireNonNull", "(Ljava/lang/Object;)Ljava/lang/Object;"⟩ : MethodName) jdk_31_method_10_code 1 (some (.object "java/lang/Object")) :: ws) ({ frames := 0, cells := 0, slots := 0, locals := 0 } : Room)) (fun a U => a = #[(.ref a1)] ∧ Z.Warmed39 U.vm ∧ U.heap = h0) (fun _ _ _ _ _ => True) (fun _ U o U' => ∃ v L, o = .returned v ∧ Qrn Z a1 h0 n0 v U'.heap L ∧ FrameEnd U o U' L ({ frames := 0, cells := 0, slots := 0, locals := 0 } : Room).cells ({ frames := 0, cells := 0, slots := 0, locals := 0 } : Room).slots) := by
  refine MetFree.of_bodySF (plainFor_of_name pn_4) hisR ?_
  intro p e s m args below meth c s₁ Bd hml0 hP hK
  obtain ⟨rfl, hZ, hh⟩ := hP
  have hx := Bd.exec
  have hby := Bd.bytes
  have hml : c.maxLocals = 1 := hml0
  have hown : s.vm.findClass "java/util/Objects" = some m.cls := findClass_of_methodNamed Bd.named
  have hnm := (name_of_methodNamed Bd.named Bd.method).1
  have X0 : Stand p l e ({ frames := 0, cells := 0, slots := 0, locals := 0 } : Room) s m #[(.ref a1)] below meth c s₁ [] 0 0 := Stand.of_body Bd
  have e0 : s₁.heap = h0 := by rw [← hh, Bd.state]; rfl
  have N0 := Fr.nil n0
  change own_Go p e below (Qrn Z a1 h0 n0) (own_Fr s ({ frames := 0, cells := 0, slots := 0, locals := 0 } : Room).cells ({ frames := 0, cells := 0, slots := 0, locals := 0 } : Room).slots) (s₁.setTop (entryFrame m #[(.ref a1)] 1))
  rw [ef_rn m a1]
  refine own_aloadN (pc' := 1) X0 hx rfl rfl (hb hby drn_0) rfl ?_
  refine own_ifnonnullYes (pc' := 12) X0 hx (hb hby drn_1) (by decide) (by decide) ?_
  refine own_aloadN (pc' := 13) X0 hx rfl rfl (hb hby drn_12) rfl ?_
  refine own_ret X0 hx Bd.returns Bd.notSynchronized (Or.inr (Or.inr (Or.inr (Or.inr ⟨rfl, rfl, rfl⟩)))) (hb hby drn_13) rfl (by decide) (by decide) ?_
  show Qrn Z a1 h0 n0 _ s₁.heap _
  rw [e0]
  exact ⟨rfl, trivial, N0, rfl⟩
theorem pd_14 : parseMethodDescriptor "(Ljava/lang/String;)V" = some ⟨[.object "java/lang/String"], none⟩ := by decide +kernel
theorem dvi_0 : decode prog_6_method_1_code 0 = .ok (.aload_n 0, 1) := by decide +kernel
theorem dvi_1 : decode prog_6_method_1_code 1 = .ok (.invokespecial 1, 3) := by decide +kernel
theorem dvi_4 : decode prog_6_method_1_code 4 = .ok (.aload_n 0, 1) := by decide +kernel
theorem dvi_5 : decode prog_6_method_1_code 5 = .ok (.aload_n 1, 1) := by decide +kernel
theorem dvi_6 : decode prog_6_method_1_code 6 = .ok (.putfield 7, 3) := by decide +kernel
theorem dvi_9 : decode prog_6_method_1_code 9 = .ok (.return_, 1) := by decide +kernel
theorem pn_5 : plainName "com/example/sigillum/sigillum/Verdict" = true := by first | (simp [plainName, overriddenIn]; done) | decide +kernel
theorem ef_vi (m : MethodId) (x0 : Addr) (x1 : Addr) : entryFrame m #[(.ref x0), (.ref x1)] 2 = mkF m 0 #[.val (.ref x0), .val (.ref x1)] [] := by first | (simp [entryFrame, mkF, argsToLocals, Value.category, maxLocals]; done) | rfl
def Qvi (Z : State) (a1 : Addr) (sa : Addr) (h0 : Heap) (n0 : Nat) (v : Option Value) (h : Heap) (L : List Loc) : Prop := v = none ∧ (True) ∧ Fr n0 L ∧ Keep h0 h [a1] ∧ Exa Z h a1 "com/example/sigillum/sigillum/Verdict" ∧ Fld Z h a1 "com/example/sigillum/sigillum/Verdict" "reason" "Ljava/lang/String;" (.ref sa)
set_option maxRecDepth 65536 in
set_option maxHeartbeats 40000000 in
theorem rmvi (l : Launch) (Z : State) (a0 : Array Value) (hw : ∀ d ∈ tables_1, d.before a0 Z = true) (ws : List Jvm.Cond) (a1 : Addr) (sa : Addr) (h0 : Heap) (n0 : Nat) (Z0 : n0 ≤ h0.size) (E_a1 : Exa Z h0 a1 "com/example/sigillum/sigillum/Verdict") (F_reason_a1 : Fld Z h0 a1 "com/example/sigillum/sigillum/Verdict" "reason" "Ljava/lang/String;" .null) (g_a1 : n0 ≤ a1) :
    MetFree l (⟨"com/example/sigillum/sigillum/Verdict", "<init>", "(Ljava/lang/String;)V"⟩ : MethodName) (head1 (Jvm.Cond.code (⟨"com/example/sigillum/sigillum/Verdict", "<init>", "(Ljava/lang/String;)V"⟩ : MethodName) prog_6_method_1_code 2 none :: ws) ({ frames := 1, cells := 0, slots := 0, locals := 12 } : Room)) (fun a U => a = #[(.ref a1), (.ref sa)] ∧ Z.Warmed39 U.vm ∧ U.heap = h0) (fun _ _ _ _ _ => True) (fun _ U o U' => ∃ v L, o = .returned v ∧ Qvi Z a1 sa h0 n0 v U'.heap L ∧ FrameEnd U o U' L ({ frames := 1, cells := 0, slots := 0, locals := 12 } : Room).cells ({ frames := 1, cells := 0, slots := 0, locals := 12 } : Room).slots) := by
  refine MetFree.of_bodySF (plainFor_of_name pn_5) hisR ?_
  intro p e s m args below meth c s₁ Bd hml0 hP hK
  obtain ⟨rfl, hZ, hh⟩ := hP
  have hx := Bd.exec
  have hby := Bd.bytes
  have hml : c.maxLocals = 2 := hml0
  have hown : s.vm.findClass "com/example/sigillum/sigillum/Verdict" = some m.cls := findClass_of_methodNamed Bd.named
  have hnm := (name_of_methodNamed Bd.named Bd.method).1
  have X0 : Stand p l e ({ frames := 1, cells := 0, slots := 0, locals := 12 } : Room) s m #[(.ref a1), (.ref sa)] below meth c s₁ [] 0 0 := Stand.of_body Bd
  have e0 : s₁.heap = h0 := by rw [← hh, Bd.state]; rfl
  have N0 := Fr.nil n0
  change own_Go p e below (Qvi Z a1 sa h0 n0) (own_Fr s ({ frames := 1, cells := 0, slots := 0, locals := 12 } : Room).cells ({ frames := 1, cells := 0, slots := 0, locals := 12 } : Room).slots) (s₁.setTop (entryFrame m #[(.ref a1), (.ref sa)] 2))
  rw [ef_vi m a1 sa]
  have K0 : Keep h0 h0 [a1] := Keep.refl h0 [a1]
  refine own_aloadN (pc' := 1) X0 hx rfl rfl (hb hby dvi_0) rfl ?_
  obtain ⟨T101, X101, e101, st101⟩ := initO X0 hx hZ hown (hw _ (List.mem_of_getElem? (i := 36) rfl)) (hw _ (List.mem_of_getElem? (i := 12) rfl)) (hw _ (List.mem_of_getElem? (i := 13) rfl)) e0 (g := (mkF m 1 #[.val (.ref a1), .val (.ref sa)] [(.ref a1)])) rfl (by rw [hml]; rfl) rfl (hb hby dvi_1) (by decide) (W := 0) (by show 2 * 0 + _ ≤ _; exact Nat.le_of_eq rfl) (by decide)
  refine own_by st101 ?_
  show own_Go p e below (Qvi Z a1 sa h0 n0) (own_Fr s ({ frames := 1, cells := 0, slots := 0, locals := 12 } : Room).cells ({ frames := 1, cells := 0, slots := 0, locals := 12 } : Room).slots) (T101.setTop (mkF m 4 #[.val (.ref a1), .val (.ref sa)] []))
  refine own_aloadN (pc' := 5) X101 hx rfl rfl (hb hby dvi_4) rfl ?_
  refine own_aloadN (pc' := 6) X101 hx rfl rfl (hb hby dvi_5) rfl ?_
  obtain ⟨T102, h102, X102, e102, W102, st102⟩ := putF X101 hx hZ hown (host := "") (Or.inl (hw _ (List.mem_of_getElem? (i := 37) rfl))) Via.refl e101 F_reason_a1 E_a1 (Or.inr ⟨(hw _ (List.mem_of_getElem? (i := 38) rfl)), rfl, hnm⟩) (hw _ (List.mem_of_getElem? (i := 27) rfl)) (ty := .object "java/lang/String") (by decide) rfl rfl (g := (mkF m 6 #[.val (.ref a1), .val (.ref sa)] [(.ref sa), (.ref a1)])) rfl rfl (hb hby dvi_6)
  have Fw102 : Fld Z h102 a1 "com/example/sigillum/sigillum/Verdict" "reason" "Ljava/lang/String;" (.ref sa) := F_reason_a1.same W102
  have E103 : Exa Z h102 a1 "com/example/sigillum/sigillum/Verdict" := E_a1.wr W102
  have Z104 : n0 ≤ h102.size := Nat.le_trans Z0 (Nat.le_of_eq W102.size.symm)
  have N105 := Fr.snoc X102 N0 g_a1
  have K106 : Keep h0 h102 [a1] := K0.wr W102 (Or.inl (List.mem_of_getElem? (i := 0) rfl))
  refine own_by st102 ?_
  show own_Go p e below (Qvi Z a1 sa h0 n0) (own_Fr s ({ frames := 1, cells := 0, slots := 0, locals := 12 } : Room).cells ({ frames := 1, cells := 0, slots := 0, locals := 12 } : Room).slots) (T102.setTop (mkF m 9 #[.val (.ref a1), .val (.ref sa)] []))
  refine own_ret0 X102 hx Bd.returns Bd.notSynchronized (hb hby dvi_9) rfl (by decide) (by decide) ?_
  show Qvi Z a1 sa h0 n0 _ T102.heap _
  rw [e102]
  exact ⟨rfl, trivial, N105, K106, E103, Fw102⟩
theorem pd_15 : parseMethodDescriptor "(Ljava/lang/String;)Lcom/example/sigillum/sigillum/Verdict;" = some ⟨[.object "java/lang/String"], some (.object "com/example/sigillum/sigillum/Verdict")⟩ := by decide +kernel
theorem dvn_0 : decode prog_6_method_3_code 0 = .ok (.new 8, 3) := by decide +kernel
theorem dvn_3 : decode prog_6_method_3_code 3 = .ok (.dup, 1) := by decide +kernel
theorem dvn_4 : decode prog_6_method_3_code 4 = .ok (.aload_n 0, 1) := by decide +kernel
theorem dvn_5 : decode prog_6_method_3_code 5 = .ok (.invokestatic 17, 3) := by decide +kernel
theorem dvn_8 : decode prog_6_method_3_code 8 = .ok (.checkcast 23, 3) := by decide +kernel
theorem dvn_11 : decode prog_6_method_3_code 11 = .ok (.invokespecial 25, 3) := by decide +kernel
theorem dvn_14 : decode prog_6_method_3_code 14 = .ok (.areturn, 1) := by decide +kernel
theorem ef_vn (m : MethodId) (x0 : Addr) : entryFrame m #[(.ref x0)] 1 = mkF m 0 #[.val (.ref x0)] [] := by first | (simp [entryFrame, mkF, argsToLocals, Value.category, maxLocals]; done) | rfl
def Qvn (Z : State) (sa : Addr) (h0 : Heap) (n0 : Nat) (v : Option Value) (h : Heap) (L : List Loc) : Prop := ∃ q : Addr, v = some (.ref q) ∧ (True) ∧ Fr n0 L ∧ Keep h0 h [] ∧ h0.size ≤ q ∧ Exa Z h q "com/example/sigillum/sigillum/Verdict" ∧ Fld Z h q "com/example/sigillum/sigillum/Verdict" "reason" "Ljava/lang/String;" (.ref sa)
set_option maxRecDepth 65536 in
set_option maxHeartbeats 40000000 in
theorem rmvn (l : Launch) (Z : State) (a0 : Array Value) (hw : ∀ d ∈ tables_1, d.before a0 Z = true) (ws : List Jvm.Cond) (sa : Addr) (h0 : Heap) (n0 : Nat) (Z0 : n0 ≤ h0.size) (E_sa : Exa Z h0 sa "java/lang/String") :
    MetFree l (⟨"com/example/sigillum/sigillum/Verdict", "invalid", "(Ljava/lang/String;)Lcom/example/sigillum/sigillum/Verdict;"⟩ : MethodName) (head1 (Jvm.Cond.code (⟨"com/example/sigillum/sigillum/Verdict", "invalid", "(Ljava/lang/String;)Lcom/example/sigillum/sigillum/Verdict;"⟩ : MethodName) prog_6_method_3_code 1 (some (.object "com/example/sigillum/sigillum/Verdict")) :: ws) ({ frames := 2, cells := 1, slots := 1, locals := 32 } : Room)) (fun a U => a = #[(.ref sa)] ∧ Z.Warmed39 U.vm ∧ U.heap = h0) (fun _ _ _ _ _ => True) (fun _ U o U' => ∃ v L, o = .returned v ∧ Qvn Z sa h0 n0 v U'.heap L ∧ FrameEnd U o U' L ({ frames := 2, cells := 1, slots := 1, locals := 32 } : Room).cells ({ frames := 2, cells := 1, slots := 1, locals := 32 } : Room).slots) := by
  refine MetFree.of_bodySF (plainFor_of_name pn_5) hisR ?_
  intro p e s m args below meth c s₁ Bd hml0 hP hK
  obtain ⟨rfl, hZ, hh⟩ := hP
  have hx := Bd.exec
  have hby := Bd.bytes
  have hml : c.maxLocals = 1 := hml0
  have hown : s.vm.findClass "com/example/sigillum/sigillum/Verdict" = some m.cls := findClass_of_methodNamed Bd.named
  have hnm := (name_of_methodNamed Bd.named Bd.method).1
  have X0 : Stand p l e ({ frames := 2, cells := 1, slots := 1, locals := 32 } : Room) s m #[(.ref sa)] below meth c s₁ [] 0 0 := Stand.of_body Bd
  have e0 : s₁.heap = h0 := by rw [← hh, Bd.state]; rfl
  have N0 := Fr.nil n0
  change own_Go p e below (Qvn Z sa h0 n0) (own_Fr s ({ frames := 2, cells := 1, slots := 1, locals := 32 } : Room).cells ({ frames := 2, cells := 1, slots := 1, locals := 32 } : Room).slots) (s₁.setTop (entryFrame m #[(.ref sa)] 1))
  rw [ef_vn m sa]
  have K0 : Keep h0 h0 [] := Keep.refl h0 []
  obtain ⟨T101, h101, X101, e101, E101, A101, D101, -, st101⟩ := newO X0 hx hZ hown (hw _ (List.mem_of_getElem? (i := 26) rfl)) (hw _ (List.mem_of_getElem? (i := 27) rfl)) (hw _ (List.mem_of_getElem? (i := 24) rfl)) e0 (g := (mkF m 0 #[.val (.ref sa)] [])) rfl (hb hby dvn_0) (by decide) (by decide)
  obtain ⟨a101, ga101⟩ : ∃ z, z = h0.size := ⟨_, rfl⟩
  rw [← ga101] at A101 D101 st101
  have y101 : h0.size ≤ h0.size := K0.1
  have n102 : sa ≠ a101 := Nat.ne_of_lt (ga101.symm ▸ E_sa.lt)
  have E103 : Exa Z h101 sa "java/lang/String" := E_sa.ext E101
  have fr101 : n0 ≤ a101 := Nat.le_trans Z0 (Nat.le_of_eq ga101.symm)
  have Z104 : n0 ≤ h101.size := Nat.le_trans Z0 E101.1
  have K105 : Keep h0 h101 [] := K0.ext E101
  have F106 : Fld Z h101 a101 "com/example/sigillum/sigillum/Verdict" "reason" "Ljava/lang/String;" .null := D101 (Or.inr (hw _ (List.mem_of_getElem? (i := 38) rfl))) (ty := (.object "java/lang/String")) (by decide)
  refine own_by st101 ?_
  show own_Go p e below (Qvn Z sa h0 n0) (own_Fr s ({ frames := 2, cells := 1, slots := 1, locals := 32 } : Room).cells ({ frames := 2, cells := 1, slots := 1, locals := 32 } : Room).slots) (T101.setTop (mkF m 3 #[.val (.ref sa)] [(.ref a101)]))
  refine own_dup (pc' := 4) X101 hx rfl (hb hby dvn_3) rfl ?_
  refine own_aloadN (pc' := 5) X101 hx rfl rfl (hb hby dvn_4) rfl ?_
  obtain ⟨_, _, ⟨T107, L107, k107, n107⟩, -, X107, ⟨Lc107, hQ107, l107, y107, z107⟩, st107⟩ := Jvm.LawKit.callS X101 hx (y := (⟨"java/util/Objects", "requireNonNull", "(Ljava/lang/Object;)Ljava/lang/Object;"⟩ : MethodName)) hown (mvT hZ (hw _ (List.mem_of_getElem? (i := 28) rfl))) (mvT hZ (hw _ (List.mem_of_getElem? (i := 29) rfl))) (mvT hZ (hw _ (List.mem_of_getElem? (i := 30) rfl))) (mvT hZ (hw _ (List.mem_of_getElem? (i := 31) rfl))) (by decide) (backOf (W := 2) (rmrn l Z a0 hw [] sa h101 n0 Z104 ) hZ (hw _ (List.mem_of_getElem? (i := 31) rfl)) (hw _ (List.mem_of_getElem? (i := 30) rfl)) (by decide) (by decide)) (g := (mkF m 5 #[.val (.ref sa)] [(.ref sa), (.ref a101), (.ref a101)])) rfl (by rw [hml]; rfl) (argsL := [(.ref sa)]) (rest := [(.ref a101), (.ref a101)]) (lenOf pd_13 rfl) rfl (by show 2 * 0 + _ ≤ _; exact Nat.le_of_eq rfl) (hb hby dvn_5) (fun _ _ => ⟨rfl, e101, (by decide : 1 + 0 ≤ _), (by decide : 1 + 0 ≤ _)⟩)
  dsimp only [Pt.U, Pt.locs, Pt.cells, Pt.slots] at X107 l107 y107 z107 st107 hQ107
  subst y107 z107
  obtain ⟨rfl, pp107, N107, e107⟩ := hQ107
  have N107a : Fr n0 L107 := by rw [l107]; exact Fr.app N0 N107
  refine own_by st107 ?_
  show own_Go p e below (Qvn Z sa h0 n0) (own_Fr s ({ frames := 2, cells := 1, slots := 1, locals := 32 } : Room).cells ({ frames := 2, cells := 1, slots := 1, locals := 32 } : Room).slots) (T107.setTop (mkF m 8 #[.val (.ref sa)] [(.ref sa), (.ref a101), (.ref a101)]))
  obtain ⟨T108, X108, e108, st108⟩ := castY X107 hx hZ hown (hw _ (List.mem_of_getElem? (i := 32) rfl)) e107 (Ins.self E103) (g := (mkF m 8 #[.val (.ref sa)] [(.ref sa), (.ref a101), (.ref a101)])) rfl rfl (hb hby dvn_8)
  refine own_by st108 ?_
  show own_Go p e below (Qvn Z sa h0 n0) (own_Fr s ({ frames := 2, cells := 1, slots := 1, locals := 32 } : Room).cells ({ frames := 2, cells := 1, slots := 1, locals := 32 } : Room).slots) (T108.setTop (mkF m 11 #[.val (.ref sa)] [(.ref sa), (.ref a101), (.ref a101)]))
  obtain ⟨_, _, ⟨T109, L109, k109, n109⟩, -, X109, ⟨Lc109, hQ109, l109, y109, z109⟩, st109⟩ := X108.specialBack hx (y := (⟨"com/example/sigillum/sigillum/Verdict", "<init>", "(Ljava/lang/String;)V"⟩ : MethodName)) rfl hown (mvT hZ (hw _ (List.mem_of_getElem? (i := 33) rfl))) (mvT hZ (hw _ (List.mem_of_getElem? (i := 34) rfl))) (mvT hZ (hw _ (List.mem_of_getElem? (i := 35) rfl))) (by decide) (backOf (W := 1) (rmvi l Z a0 hw [] a101 sa h101 n0 Z104 A101 F106 fr101) hZ (hw _ (List.mem_of_getElem? (i := 35) rfl)) (hw _ (List.mem_of_getElem? (i := 24) rfl)) (by decide) (by decide)) (g := (mkF m 11 #[.val (.ref sa)] [(.ref sa), (.ref a101), (.ref a101)])) rfl (by rw [hml]; rfl) (Steps.refl _) (a := a101) (argsL := [(.ref sa)]) (rest := [(.ref a101)]) (lenOf pd_14 rfl) rfl (by show 2 * 0 + _ ≤ _; exact Nat.le_of_eq rfl) (hb hby dvn_11) (fun _ _ => ⟨rfl, e108, (by decide : 1 + 0 ≤ _), (by decide : 1 + 0 ≤ _)⟩)
  dsimp only [Pt.U, Pt.locs, Pt.cells, Pt.slots] at X109 l109 y109 z109 st109 hQ109
  subst y109 z109
  obtain ⟨rfl, pp109, N109, Kc109, Ec109_a1, Fc109_0⟩ := hQ109
  have E110 : Exa Z T109.heap sa "java/lang/String" := E103.keep Kc109
  have Z111 : n0 ≤ T109.heap.size := Nat.le_trans Z104 Kc109.1
  have K112 : Keep h0 T109.heap [] := K105.trans Kc109 (allS (Or.inr (Nat.le_trans y101 (Nat.le_of_eq ga101.symm))) all0)
  have N109a : Fr n0 L109 := by rw [l109]; exact Fr.app N107a N109
  refine own_via st109 ?_
  show own_Go p e below (Qvn Z sa h0 n0) (own_Fr s ({ frames := 2, cells := 1, slots := 1, locals := 32 } : Room).cells ({ frames := 2, cells := 1, slots := 1, locals := 32 } : Room).slots) (T109.setTop (mkF m 14 #[.val (.ref sa)] [(.ref a101)]))
  refine own_ret X109 hx Bd.returns Bd.notSynchronized (Or.inr (Or.inr (Or.inr (Or.inr ⟨rfl, rfl, rfl⟩)))) (hb hby dvn_14) rfl (by decide) (by decide) ?_
  show Qvn Z sa h0 n0 _ T109.heap _
  exact ⟨a101, rfl, trivial, N109a, K112, Nat.le_trans y101 (Nat.le_of_eq ga101.symm), Ec109_a1, Fc109_0⟩
theorem div_0 : decode prog_6_method_4_code 0 = .ok (.aload_n 0, 1) := by decide +kernel
theorem div_1 : decode prog_6_method_4_code 1 = .ok (.getfield 7, 3) := by decide +kernel
theorem div_4 : decode prog_6_method_4_code 4 = .ok (.ifnonnull 7, 3) := by decide +kernel
theorem div_7 : decode prog_6_method_4_code 7 = .ok (.iconst 1, 1) := by decide +kernel
theorem div_8 : decode prog_6_method_4_code 8 = .ok (.goto 4, 3) := by decide +kernel
theorem div_11 : decode prog_6_method_4_code 11 = .ok (.iconst 0, 1) := by decide +kernel
theorem div_12 : decode prog_6_method_4_code 12 = .ok (.ireturn, 1) := by decide +kernel
theorem ef_iv (m : MethodId) (x0 : Addr) : entryFrame m #[(.ref x0)] 1 = mkF m 0 #[.val (.ref x0)] [] := by first | (simp [entryFrame, mkF, argsToLocals, Value.category, maxLocals]; done) | rfl
def Qiv (Z : State) (a1 : Addr) (sa : Addr) (h0 : Heap) (n0 : Nat) (v : Option Value) (h : Heap) (L : List Loc) : Prop := v = some (.int (0 : Int32)) ∧ (True) ∧ Fr n0 L ∧ h = h0
set_option maxRecDepth 65536 in
set_option maxHeartbeats 40000000 in
theorem rmiv (l : Launch) (Z : State) (a0 : Array Value) (hw : ∀ d ∈ tables_1, d.before a0 Z = true) (ws : List Jvm.Cond) (a1 : Addr) (sa : Addr) (h0 : Heap) (n0 : Nat) (Z0 : n0 ≤ h0.size) (F_reason_a1 : Fld Z h0 a1 "com/example/sigillum/sigillum/Verdict" "reason" "Ljava/lang/String;" (.ref sa)) :
    MetFree l (⟨"com/example/sigillum/sigillum/Verdict", "isValid", "()Z"⟩ : MethodName) (head1 (Jvm.Cond.code (⟨"com/example/sigillum/sigillum/Verdict", "isValid", "()Z"⟩ : MethodName) prog_6_method_4_code 1 (some .boolean) :: ws) ({ frames := 0, cells := 0, slots := 0, locals := 0 } : Room)) (fun a U => a = #[(.ref a1)] ∧ Z.Warmed39 U.vm ∧ U.heap = h0) (fun _ _ _ _ _ => True) (fun _ U o U' => ∃ v L, o = .returned v ∧ Qiv Z a1 sa h0 n0 v U'.heap L ∧ FrameEnd U o U' L ({ frames := 0, cells := 0, slots := 0, locals := 0 } : Room).cells ({ frames := 0, cells := 0, slots := 0, locals := 0 } : Room).slots) := by
  refine MetFree.of_bodySF (plainFor_of_name pn_5) hisR ?_
  intro p e s m args below meth c s₁ Bd hml0 hP hK
  obtain ⟨rfl, hZ, hh⟩ := hP
  have hx := Bd.exec
  have hby := Bd.bytes
  have hml : c.maxLocals = 1 := hml0
  have hown : s.vm.findClass "com/example/sigillum/sigillum/Verdict" = some m.cls := findClass_of_methodNamed Bd.named
  have hnm := (name_of_methodNamed Bd.named Bd.method).1
  have X0 : Stand p l e ({ frames := 0, cells := 0, slots := 0, locals := 0 } : Room) s m #[(.ref a1)] below meth c s₁ [] 0 0 := Stand.of_body Bd
  have e0 : s₁.heap = h0 := by rw [← hh, Bd.state]; rfl
  have N0 := Fr.nil n0
  change own_Go p e below (Qiv Z a1 sa h0 n0) (own_Fr s ({ frames := 0, cells := 0, slots := 0, locals := 0 } : Room).cells ({ frames := 0, cells := 0, slots := 0, locals := 0 } : Room).slots) (s₁.setTop (entryFrame m #[(.ref a1)] 1))
  rw [ef_iv m a1]
  refine own_aloadN (pc' := 1) X0 hx rfl rfl (hb hby div_0) rfl ?_
  obtain ⟨T101, X101, e101, st101⟩ := getF X0 hx hZ hown (host := "") (Or.inl (hw _ (List.mem_of_getElem? (i := 37) rfl))) Via.refl e0 F_reason_a1 (g := (mkF m 1 #[.val (.ref a1)] [(.ref a1)])) rfl rfl (hb hby div_1)
  refine own_by st101 ?_
  show own_Go p e below (Qiv Z a1 sa h0 n0) (own_Fr s ({ frames := 0, cells := 0, slots := 0, locals := 0 } : Room).cells ({ frames := 0, cells := 0, slots := 0, locals := 0 } : Room).slots) (T101.setTop (mkF m 4 #[.val (.ref a1)] [(.ref sa)]))
  refine own_ifnonnullYes (pc' := 11) X101 hx (hb hby div_4) (by decide) (by decide) ?_
  refine own_iconst (pc' := 12) X101 hx (0 : Int32) (by decide) (hb hby div_11) rfl ?_
  refine own_ret X101 hx Bd.returns Bd.notSynchronized (Or.inl ⟨rfl, by simp, _, rfl⟩) (hb hby div_12) rfl (by decide) (by decide) ?_
  show Qiv Z a1 sa h0 n0 _ T101.heap _
  rw [e101]
  exact ⟨rfl, trivial, N0, rfl⟩
theorem pd_16 : parseMethodDescriptor "()Ljava/lang/String;" = some ⟨[], some (.object "java/lang/String")⟩ := by decide +kernel
theorem dre_0 : decode prog_6_method_5_code 0 = .ok (.aload_n 0, 1) := by decide +kernel
theorem dre_1 : decode prog_6_method_5_code 1 = .ok (.getfield 7, 3) := by decide +kernel
theorem dre_4 : decode prog_6_method_5_code 4 = .ok (.ifnonnull 13, 3) := by decide +kernel
theorem dre_17 : decode prog_6_method_5_code 17 = .ok (.aload_n 0, 1) := by decide +kernel
theorem dre_18 : decode prog_6_method_5_code 18 = .ok (.getfield 7, 3) := by decide +kernel
theorem dre_21 : decode prog_6_method_5_code 21 = .ok (.areturn, 1) := by decide +kernel
theorem ef_re (m : MethodId) (x0 : Addr) : entryFrame m #[(.ref x0)] 1 = mkF m 0 #[.val (.ref x0)] [] := by first | (simp [entryFrame, mkF, argsToLocals, Value.category, maxLocals]; done) | rfl
def Qre (Z : State) (a1 : Addr) (sa : Addr) (h0 : Heap) (n0 : Nat) (v : Option Value) (h : Heap) (L : List Loc) : Prop := v = some (.ref sa) ∧ (True) ∧ Fr n0 L ∧ h = h0
set_option maxRecDepth 65536 in
set_option maxHeartbeats 40000000 in
theorem rmre (l : Launch) (Z : State) (a0 : Array Value) (hw : ∀ d ∈ tables_1, d.before a0 Z = true) (ws : List Jvm.Cond) (a1 : Addr) (sa : Addr) (h0 : Heap) (n0 : Nat) (Z0 : n0 ≤ h0.size) (F_reason_a1 : Fld Z h0 a1 "com/example/sigillum/sigillum/Verdict" "reason" "Ljava/lang/String;" (.ref sa)) :
    MetFree l (⟨"com/example/sigillum/sigillum/Verdict", "reason", "()Ljava/lang/String;"⟩ : MethodName) (head1 (Jvm.Cond.code (⟨"com/example/sigillum/sigillum/Verdict", "reason", "()Ljava/lang/String;"⟩ : MethodName) prog_6_method_5_code 1 (some (.object "java/lang/String")) :: ws) ({ frames := 0, cells := 0, slots := 0, locals := 0 } : Room)) (fun a U => a = #[(.ref a1)] ∧ Z.Warmed39 U.vm ∧ U.heap = h0) (fun _ _ _ _ _ => True) (fun _ U o U' => ∃ v L, o = .returned v ∧ Qre Z a1 sa h0 n0 v U'.heap L ∧ FrameEnd U o U' L ({ frames := 0, cells := 0, slots := 0, locals := 0 } : Room).cells ({ frames := 0, cells := 0, slots := 0, locals := 0 } : Room).slots) := by
  refine MetFree.of_bodySF (plainFor_of_name pn_5) hisR ?_
  intro p e s m args below meth c s₁ Bd hml0 hP hK
  obtain ⟨rfl, hZ, hh⟩ := hP
  have hx := Bd.exec
  have hby := Bd.bytes
  have hml : c.maxLocals = 1 := hml0
  have hown : s.vm.findClass "com/example/sigillum/sigillum/Verdict" = some m.cls := findClass_of_methodNamed Bd.named
  have hnm := (name_of_methodNamed Bd.named Bd.method).1
  have X0 : Stand p l e ({ frames := 0, cells := 0, slots := 0, locals := 0 } : Room) s m #[(.ref a1)] below meth c s₁ [] 0 0 := Stand.of_body Bd
  have e0 : s₁.heap = h0 := by rw [← hh, Bd.state]; rfl
  have N0 := Fr.nil n0
  change own_Go p e below (Qre Z a1 sa h0 n0) (own_Fr s ({ frames := 0, cells := 0, slots := 0, locals := 0 } : Room).cells ({ frames := 0, cells := 0, slots := 0, locals := 0 } : Room).slots) (s₁.setTop (entryFrame m #[(.ref a1)] 1))
  rw [ef_re m a1]
  refine own_aloadN (pc' := 1) X0 hx rfl rfl (hb hby dre_0) rfl ?_
  obtain ⟨T101, X101, e101, st101⟩ := getF X0 hx hZ hown (host := "") (Or.inl (hw _ (List.mem_of_getElem? (i := 37) rfl))) Via.refl e0 F_reason_a1 (g := (mkF m 1 #[.val (.ref a1)] [(.ref a1)])) rfl rfl (hb hby dre_1)
  refine own_by st101 ?_
  show own_Go p e below (Qre Z a1 sa h0 n0) (own_Fr s ({ frames := 0, cells := 0, slots := 0, locals := 0 } : Room).cells ({ frames := 0, cells := 0, slots := 0, locals := 0 } : Room).slots) (T101.setTop (mkF m 4 #[.val (.ref a1)] [(.ref sa)]))
  refine own_ifnonnullYes (pc' := 17) X101 hx (hb hby dre_4) (by decide) (by decide) ?_
  refine own_aloadN (pc' := 18) X101 hx rfl rfl (hb hby dre_17) rfl ?_
  obtain ⟨T102, X102, e102, st102⟩ := getF X101 hx hZ hown (host := "") (Or.inl (hw _ (List.mem_of_getElem? (i := 37) rfl))) Via.refl e101 F_reason_a1 (g := (mkF m 18 #[.val (.ref a1)] [(.ref a1)])) rfl rfl (hb hby dre_18)
  refine own_by st102 ?_
  show own_Go p e below (Qre Z a1 sa h0 n0) (own_Fr s ({ frames := 0, cells := 0, slots := 0, locals := 0 } : Room).cells ({ frames := 0, cells := 0, slots := 0, locals := 0 } : Room).slots) (T102.setTop (mkF m 21 #[.val (.ref a1)] [(.ref sa)]))
  refine own_ret X102 hx Bd.returns Bd.notSynchronized (Or.inr (Or.inr (Or.inr (Or.inr ⟨rfl, rfl, rfl⟩)))) (hb hby dre_21) rfl (by decide) (by decide) ?_
  show Qre Z a1 sa h0 n0 _ T102.heap _
  rw [e102]
  exact ⟨rfl, trivial, N0, rfl⟩
theorem ef_v0 (m : MethodId) (x0 : Addr) (x1 : Addr) : entryFrame m #[(.ref x0), (.ref x1), (.int (0 : Int32)), (.int (0 : Int32)), .null] 6 = mkF m 0 #[.val (.ref x0), .val (.ref x1), .val (.int (0 : Int32)), .val (.int (0 : Int32)), .val .null, .unset] [] := by first | (simp [entryFrame, mkF, argsToLocals, Value.category, maxLocals]; done) | rfl
def Qv0 (Z : State) (a1 : Addr) (a2 : Addr) (h0 : Heap) (n0 : Nat) (v : Option Value) (h : Heap) (L : List Loc) : Prop := ∃ q : Addr, ∃ kb : ClassId, v = none ∧ (True) ∧ Fr n0 L ∧ Keep h0 h [a1] ∧ Exa Z h a1 "java/lang/String" ∧ Fld Z h a1 "java/lang/String" "value" "[B" (.ref q) ∧ Fld Z h a1 "java/lang/String" "coder" "B" (.int (0 : Int32)) ∧ Arv Z h q kb .byte (0 : Int32) [] (.int (0 : Int32))
set_option maxRecDepth 65536 in
set_option maxHeartbeats 40000000 in
theorem rmv0 (l : Launch) (Z : State) (a0 : Array Value) (hw : ∀ d ∈ tables_1, d.before a0 Z = true) (ws : List Jvm.Cond) (a1 : Addr) (a2 : Addr) (h0 : Heap) (n0 : Nat) (Z0 : n0 ≤ h0.size) (E_a1 : Exa Z h0 a1 "java/lang/String") (F_value_a1 : Fld Z h0 a1 "java/lang/String" "value" "[B" .null) (F_coder_a1 : Fld Z h0 a1 "java/lang/String" "coder" "B" (.int (0 : Int32))) (g_a1 : n0 ≤ a1) (hCH : Jvm.Lit.constHeld Z "java/lang/String" 7) (hCW : Jvm.Lit.compactW.before a0 Z = true) (O0 : Old Z n0 h0) :
    MetFree l (⟨"java/lang/String", "<init>", "([CIILjava/lang/Void;)V"⟩ : MethodName) (head1 (Jvm.Cond.code (⟨"java/lang/String", "<init>", "([CIILjava/lang/Void;)V"⟩ : MethodName) jdk_42_method_149_code 6 none :: ws) ({ frames := 1, cells := 2, slots := 4, locals := 12 } : Room)) (fun a U => a = #[(.ref a1), (.ref a2), (.int (0 : Int32)), (.int (0 : Int32)), .null] ∧ (Z.Warmed39 U.vm ∧ U.vm.interned = Z.vm.interned) ∧ U.heap = h0) (fun _ _ _ _ _ => True) (fun _ U o U' => ∃ v L, o = .returned v ∧ Qv0 Z a1 a2 h0 n0 v U'.heap L ∧ ReturnedEndW U o U' L ({ frames := 1, cells := 2, slots := 4, locals := 12 } : Room).cells ({ frames := 1, cells := 2, slots := 4, locals := 12 } : Room).slots) := by
  refine MetFree.of_bodySF (plainFor_of_name pn_1) hisR ?_
  intro p e s m args below meth c s₁ Bd hml0 hP hK
  obtain ⟨rfl, ⟨hZ, hI⟩, hh⟩ := hP
  have hx := Bd.exec
  have hby := Bd.bytes
  have hml : c.maxLocals = 6 := hml0
  have hown : s.vm.findClass "java/lang/String" = some m.cls := findClass_of_methodNamed Bd.named
  have hnm := (name_of_methodNamed Bd.named Bd.method).1
  have X0 : Stand p l e ({ frames := 1, cells := 2, slots := 4, locals := 12 } : Room) s m #[(.ref a1), (.ref a2), (.int (0 : Int32)), (.int (0 : Int32)), .null] below meth c s₁ [] 0 0 := Stand.of_body Bd
  have e0 : s₁.heap = h0 := by rw [← hh, Bd.state]; rfl
  have N0 := Fr.nil n0
  change own_Go p e below (Qv0 Z a1 a2 h0 n0) (own_FrW s ({ frames := 1, cells := 2, slots := 4, locals := 12 } : Room).cells ({ frames := 1, cells := 2, slots := 4, locals := 12 } : Room).slots) (s₁.setTop (entryFrame m #[(.ref a1), (.ref a2), (.int (0 : Int32)), (.int (0 : Int32)), .null] 6))
  rw [ef_v0 m a1 a2]
  have K0 : Keep h0 h0 [a1] := Keep.refl h0 [a1]
  refine own_aloadN (pc' := 1) X0 hx rfl rfl (hb hby dv1_0) rfl ?_
  obtain ⟨T101, X101, e101, st101⟩ := initO X0 hx hZ hown (hw _ (List.mem_of_getElem? (i := 11) rfl)) (hw _ (List.mem_of_getElem? (i := 12) rfl)) (hw _ (List.mem_of_getElem? (i := 13) rfl)) e0 (g := (mkF m 1 #[.val (.ref a1), .val (.ref a2), .val (.int (0 : Int32)), .val (.int (0 : Int32)), .val .null, .unset] [(.ref a1)])) rfl (by rw [hml]; rfl) rfl (hb hby dv1_1) (by decide) (W := 0) (by show 2 * 0 + _ ≤ _; exact Nat.le_of_eq rfl) (by decide)
  refine own_by st101 ?_
  show own_Go p e below (Qv0 Z a1 a2 h0 n0) (own_FrW s ({ frames := 1, cells := 2, slots := 4, locals := 12 } : Room).cells ({ frames := 1, cells := 2, slots := 4, locals := 12 } : Room).slots) (T101.setTop (mkF m 4 #[.val (.ref a1), .val (.ref a2), .val (.int (0 : Int32)), .val (.int (0 : Int32)), .val .null, .unset] []))
  refine own_iloadN (pc' := 5) X101 hx rfl (hb hby dv1_4) rfl ?_
  refine own_ifNo (pc' := 8) X101 hx (by decide) (hb hby dv1_5) rfl ?_
  refine own_aloadN (pc' := 9) X101 hx rfl rfl (hb hby dv1_8) rfl ?_
  have wS102 : ∀ a ∈ Bundle.stringAtoms, a.before a0 Z = true := by
    intro d hd; simp only [Bundle.stringAtoms, List.mem_cons, List.not_mem_nil, or_false] at hd
    rcases hd with rfl | rfl | rfl | rfl | rfl | rfl | rfl
    · exact (hw _ (List.mem_of_getElem? (i := 3) rfl))
    · exact (hw _ (List.mem_of_getElem? (i := 2) rfl))
    · exact (hw _ (List.mem_of_getElem? (i := 15) rfl))
    · exact (hw _ (List.mem_of_getElem? (i := 16) rfl))
    · exact (hw _ (List.mem_of_getElem? (i := 17) rfl))
    · exact (hw _ (List.mem_of_getElem? (i := 18) rfl))
    · exact (hw _ (List.mem_of_getElem? (i := 19) rfl))
  obtain ⟨a102, T102, h102, k102, b102, kb102, X102, e102, E102, Si102, Y102, hZ102, ho102, Ex102, Fc102, Fv102, Av102, la102, lb102, IB102, Lt102, st102⟩ := ldcSVL (s := s) (vm0 := s.vm) X101 hx hZ hown (hw _ (List.mem_of_getElem? (i := 14) rfl)) wS102 e101 ((State.WarmedH.refl s).since 0) (Nat.zero_le _) (Fr.nil _) (fun b cl q => by rw [hh]; exact O0.2.2 b cl q) (Ts := []) ⟨#[], by rw [hI]; simp, fun q hq => by simp at hq⟩ (by simp) hCH hCW (vs := []) (z := (0 : Int32)) ⟨by simp, rfl⟩ (by decide) (by decide) (g := (mkF m 9 #[.val (.ref a1), .val (.ref a2), .val (.int (0 : Int32)), .val (.int (0 : Int32)), .val .null, .unset] [(.ref a1)])) rfl (hb hby dv1_9) (n := 0) (by decide) (by decide) (by decide) (by decide)
  have F103 : Fld Z h102 a1 "java/lang/String" "value" "[B" .null := F_value_a1.ext E102
  have F104 : Fld Z h102 a1 "java/lang/String" "coder" "B" (.int (0 : Int32)) := F_coder_a1.ext E102
  have E105 : Exa Z h102 a1 "java/lang/String" := E_a1.ext E102
  have Z106 : n0 ≤ h102.size := Nat.le_trans Z0 E102.1
  have K107 : Keep h0 h102 [a1] := K0.ext E102
  have hZ := hZ102
  have hown := ho102
  have na102 : a102 ≠ a1 := Fld.ne Fv102 F103 (by simp)
  have nb102 : b102 ≠ a1 := fun q => Exa.neArv E105 Av102 (hw _ (List.mem_of_getElem? (i := 2) rfl)) q.symm
  refine own_by st102 ?_
  show own_Go p e below (Qv0 Z a1 a2 h0 n0) (own_FrW s ({ frames := 1, cells := 2, slots := 4, locals := 12 } : Room).cells ({ frames := 1, cells := 2, slots := 4, locals := 12 } : Room).slots) (T102.setTop (mkF m 11 #[.val (.ref a1), .val (.ref a2), .val (.int (0 : Int32)), .val (.int (0 : Int32)), .val .null, .unset] [(.ref a102), (.ref a1)]))
  obtain ⟨T108, X108, e108, st108⟩ := getF X102 hx hZ hown (host := "") (Or.inl (hw _ (List.mem_of_getElem? (i := 20) rfl))) Via.refl e102 Fv102 (g := (mkF m 11 #[.val (.ref a1), .val (.ref a2), .val (.int (0 : Int32)), .val (.int (0 : Int32)), .val .null, .unset] [(.ref a102), (.ref a1)])) rfl rfl (hb hby dv1_11)
  refine own_by st108 ?_
  show own_Go p e below (Qv0 Z a1 a2 h0 n0) (own_FrW s ({ frames := 1, cells := 2, slots := 4, locals := 12 } : Room).cells ({ frames := 1, cells := 2, slots := 4, locals := 12 } : Room).slots) (T108.setTop (mkF m 14 #[.val (.ref a1), .val (.ref a2), .val (.int (0 : Int32)), .val (.int (0 : Int32)), .val .null, .unset] [(.ref b102), (.ref a1)]))
  obtain ⟨T109, h109, X109, e109, W109, st109⟩ := putF X108 hx hZ hown (host := "") (Or.inl (hw _ (List.mem_of_getElem? (i := 20) rfl))) Via.refl e108 F103 E105 (Or.inr ⟨(hw _ (List.mem_of_getElem? (i := 16) rfl)), rfl, hnm⟩) (hw _ (List.mem_of_getElem? (i := 2) rfl)) (ty := (.array .byte)) (by decide) rfl rfl (g := (mkF m 14 #[.val (.ref a1), .val (.ref a2), .val (.int (0 : Int32)), .val (.int (0 : Int32)), .val .null, .unset] [(.ref b102), (.ref a1)])) rfl rfl (hb hby dv1_14)
  have Fw109 : Fld Z h109 a1 "java/lang/String" "value" "[B" (.ref b102) := F103.same W109
  have F110 : Fld Z h109 a1 "java/lang/String" "coder" "B" (.int (0 : Int32)) := F104.other W109 (Or.inr (slot_ne (Or.inr (hw _ (List.mem_of_getElem? (i := 17) rfl))) (Or.inr (hw _ (List.mem_of_getElem? (i := 16) rfl))) (by decide) (t := .byte) (by decide) (t' := (.array .byte)) (by decide)))
  have F111 : Fld Z h109 a102 "java/lang/String" "value" "[B" (.ref b102) := Fv102.other W109 (Or.inl na102)
  have F112 : Fld Z h109 a102 "java/lang/String" "coder" "B" (.int (0 : Int32)) := Fc102.other W109 (Or.inl na102)
  have E113 : Exa Z h109 a1 "java/lang/String" := E105.wr W109
  have E114 : Exa Z h109 a102 "java/lang/String" := Ex102.wr W109
  have A115 : Arv Z h109 b102 kb102 .byte (0 : Int32) [] (.int (0 : Int32)) := Av102.other W109 nb102
  have Z116 : n0 ≤ h109.size := Nat.le_trans Z106 (Nat.le_of_eq W109.size.symm)
  have Y117 : k102 ≤ h109.size := Nat.le_trans Y102 (Nat.le_of_eq W109.size.symm)
  have N118 := Fr.snoc X109 N0 g_a1
  have K119 : Keep h0 h109 [a1] := K107.wr W109 (Or.inl (List.mem_of_getElem? (i := 0) rfl))
  refine own_by st109 ?_
  show own_Go p e below (Qv0 Z a1 a2 h0 n0) (own_FrW s ({ frames := 1, cells := 2, slots := 4, locals := 12 } : Room).cells ({ frames := 1, cells := 2, slots := 4, locals := 12 } : Room).slots) (T109.setTop (mkF m 17 #[.val (.ref a1), .val (.ref a2), .val (.int (0 : Int32)), .val (.int (0 : Int32)), .val .null, .unset] []))
  refine own_aloadN (pc' := 18) X109 hx rfl rfl (hb hby dv1_17) rfl ?_
  refine own_by (ldcAgain (s := s) (vm0 := T102.vm) X109 hx hZ hown (hw _ (List.mem_of_getElem? (i := 14) rfl)) Lt102 (g := (mkF m 18 #[.val (.ref a1), .val (.ref a2), .val (.int (0 : Int32)), .val (.int (0 : Int32)), .val .null, .unset] [(.ref a1)])) rfl (hb hby dv1_18)) ?_
  show own_Go p e below (Qv0 Z a1 a2 h0 n0) (own_FrW s ({ frames := 1, cells := 2, slots := 4, locals := 12 } : Room).cells ({ frames := 1, cells := 2, slots := 4, locals := 12 } : Room).slots) (T109.setTop (mkF m 20 #[.val (.ref a1), .val (.ref a2), .val (.int (0 : Int32)), .val (.int (0 : Int32)), .val .null, .unset] [(.ref a102), (.ref a1)]))
  obtain ⟨T120, X120, e120, st120⟩ := getF X109 hx hZ hown (host := "") (Or.inl (hw _ (List.mem_of_getElem? (i := 21) rfl))) Via.refl e109 F112 (g := (mkF m 20 #[.val (.ref a1), .val (.ref a2), .val (.int (0 : Int32)), .val (.int (0 : Int32)), .val .null, .unset] [(.ref a102), (.ref a1)])) rfl rfl (hb hby dv1_20)
  refine own_by st120 ?_
  show own_Go p e below (Qv0 Z a1 a2 h0 n0) (own_FrW s ({ frames := 1, cells := 2, slots := 4, locals := 12 } : Room).cells ({ frames := 1, cells := 2, slots := 4, locals := 12 } : Room).slots) (T120.setTop (mkF m 23 #[.val (.ref a1), .val (.ref a2), .val (.int (0 : Int32)), .val (.int (0 : Int32)), .val .null, .unset] [(.int (0 : Int32)), (.ref a1)]))
  obtain ⟨T121, h121, X121, e121, W121, st121⟩ := putF X120 hx hZ hown (host := "") (Or.inl (hw _ (List.mem_of_getElem? (i := 21) rfl))) Via.refl e120 F110 E113 (Or.inr ⟨(hw _ (List.mem_of_getElem? (i := 17) rfl)), rfl, hnm⟩) (hw _ (List.mem_of_getElem? (i := 2) rfl)) (ty := .byte) (by decide) rfl rfl (g := (mkF m 23 #[.val (.ref a1), .val (.ref a2), .val (.int (0 : Int32)), .val (.int (0 : Int32)), .val .null, .unset] [(.int (0 : Int32)), (.ref a1)])) rfl rfl (hb hby dv1_23)
  have Fw121 : Fld Z h121 a1 "java/lang/String" "coder" "B" (.int (0 : Int32)) := F110.same W121
  have F122 : Fld Z h121 a102 "java/lang/String" "value" "[B" (.ref b102) := F111.other W121 (Or.inl na102)
  have F123 : Fld Z h121 a102 "java/lang/String" "coder" "B" (.int (0 : Int32)) := F112.other W121 (Or.inl na102)
  have F124 : Fld Z h121 a1 "java/lang/String" "value" "[B" (.ref b102) := Fw109.other W121 (Or.inr (slot_ne (Or.inr (hw _ (List.mem_of_getElem? (i := 16) rfl))) (Or.inr (hw _ (List.mem_of_getElem? (i := 17) rfl))) (by decide) (t := (.array .byte)) (by decide) (t' := .byte) (by decide)))
  have E125 : Exa Z h121 a1 "java/lang/String" := E113.wr W121
  have E126 : Exa Z h121 a102 "java/lang/String" := E114.wr W121
  have A127 : Arv Z h121 b102 kb102 .byte (0 : Int32) [] (.int (0 : Int32)) := A115.other W121 nb102
  have Z128 : n0 ≤ h121.size := Nat.le_trans Z116 (Nat.le_of_eq W121.size.symm)
  have Y129 : k102 ≤ h121.size := Nat.le_trans Y117 (Nat.le_of_eq W121.size.symm)
  have N130 := Fr.snoc X121 N118 g_a1
  have K131 : Keep h0 h121 [a1] := K119.wr W121 (Or.inl (List.mem_of_getElem? (i := 0) rfl))
  refine own_by st121 ?_
  show own_Go p e below (Qv0 Z a1 a2 h0 n0) (own_FrW s ({ frames := 1, cells := 2, slots := 4, locals := 12 } : Room).cells ({ frames := 1, cells := 2, slots := 4, locals := 12 } : Room).slots) (T121.setTop (mkF m 26 #[.val (.ref a1), .val (.ref a2), .val (.int (0 : Int32)), .val (.int (0 : Int32)), .val .null, .unset] []))
  refine own_ret0W X121 hx Bd.returns Bd.notSynchronized Si102 (by rw [e121]; exact Y129) (hb hby dv1_26) rfl (by decide) (by decide) ?_
  show Qv0 Z a1 a2 h0 n0 _ T121.heap _
  rw [e121]
  exact ⟨b102, kb102, rfl, trivial, N130, K131, E125, F124, Fw121, A127⟩
theorem ef_i0 (m : MethodId) (x0 : Addr) (x1 : Addr) : entryFrame m #[(.ref x0), (.ref x1)] 2 = mkF m 0 #[.val (.ref x0), .val (.ref x1)] [] := by first | (simp [entryFrame, mkF, argsToLocals, Value.category, maxLocals]; done) | rfl
def Qi0 (Z : State) (a1 : Addr) (a2 : Addr) (kc : ClassId) (h0 : Heap) (n0 : Nat) (v : Option Value) (h : Heap) (L : List Loc) : Prop := ∃ q : Addr, ∃ kb : ClassId, v = none ∧ (True) ∧ Fr n0 L ∧ Keep h0 h [a1] ∧ Exa Z h a1 "java/lang/String" ∧ Fld Z h a1 "java/lang/String" "value" "[B" (.ref q) ∧ Fld Z h a1 "java/lang/String" "coder" "B" (.int (0 : Int32)) ∧ Arv Z h q kb .byte (0 : Int32) [] (.int (0 : Int32))
set_option maxRecDepth 65536 in
set_option maxHeartbeats 40000000 in
theorem rmi0 (l : Launch) (Z : State) (a0 : Array Value) (hw : ∀ d ∈ tables_1, d.before a0 Z = true) (ws : List Jvm.Cond) (a1 : Addr) (a2 : Addr) (kc : ClassId) (h0 : Heap) (n0 : Nat) (Z0 : n0 ≤ h0.size) (E_a1 : Exa Z h0 a1 "java/lang/String") (F_value_a1 : Fld Z h0 a1 "java/lang/String" "value" "[B" .null) (F_coder_a1 : Fld Z h0 a1 "java/lang/String" "coder" "B" (.int (0 : Int32))) (A_a2 : Arv Z h0 a2 kc .char (0 : Int32) [] (.int (0 : Int32))) (g_a1 : n0 ≤ a1) (ne_a1_a2 : a1 ≠ a2) (hCH : Jvm.Lit.constHeld Z "java/lang/String" 7) (hCW : Jvm.Lit.compactW.before a0 Z = true) (O0 : Old Z n0 h0) :
    MetFree l (⟨"java/lang/String", "<init>", "([C)V"⟩ : MethodName) (head1 (Jvm.Cond.code (⟨"java/lang/String", "<init>", "([C)V"⟩ : MethodName) jdk_42_method_3_code 2 none :: ws) ({ frames := 2, cells := 2, slots := 4, locals := 40 } : Room)) (fun a U => a = #[(.ref a1), (.ref a2)] ∧ (Z.Warmed39 U.vm ∧ U.vm.interned = Z.vm.interned) ∧ U.heap = h0) (fun _ _ _ _ _ => True) (fun _ U o U' => ∃ v L, o = .returned v ∧ Qi0 Z a1 a2 kc h0 n0 v U'.heap L ∧ ReturnedEndW U o U' L ({ frames := 2, cells := 2, slots := 4, locals := 40 } : Room).cells ({ frames := 2, cells := 2, slots := 4, locals := 40 } : Room).slots) := by
  refine MetFree.of_bodySF (plainFor_of_name pn_1) hisR ?_
  intro p e s m args below meth c s₁ Bd hml0 hP hK
  obtain ⟨rfl, ⟨hZ, hI⟩, hh⟩ := hP
  have hx := Bd.exec
  have hby := Bd.bytes
  have hml : c.maxLocals = 2 := hml0
  have hown : s.vm.findClass "java/lang/String" = some m.cls := findClass_of_methodNamed Bd.named
  have hnm := (name_of_methodNamed Bd.named Bd.method).1
  have X0 : Stand p l e ({ frames := 2, cells := 2, slots := 4, locals := 40 } : Room) s m #[(.ref a1), (.ref a2)] below meth c s₁ [] 0 0 := Stand.of_body Bd
  have e0 : s₁.heap = h0 := by rw [← hh, Bd.state]; rfl
  have N0 := Fr.nil n0
  change own_Go p e below (Qi0 Z a1 a2 kc h0 n0) (own_FrW s ({ frames := 2, cells := 2, slots := 4, locals := 40 } : Room).cells ({ frames := 2, cells := 2, slots := 4, locals := 40 } : Room).slots) (s₁.setTop (entryFrame m #[(.ref a1), (.ref a2)] 2))
  rw [ef_i0 m a1 a2]
  have K0 : Keep h0 h0 [a1] := Keep.refl h0 [a1]
  refine own_aloadN (pc' := 1) X0 hx rfl rfl (hb hby di1_0) rfl ?_
  refine own_aloadN (pc' := 2) X0 hx rfl rfl (hb hby di1_1) rfl ?_
  refine own_iconst (pc' := 3) X0 hx (0 : Int32) (by decide) (hb hby di1_2) rfl ?_
  refine own_aloadN (pc' := 4) X0 hx rfl rfl (hb hby di1_3) rfl ?_
  obtain ⟨c101, B101, q101, s101, u101, H101, G101⟩ := id A_a2
  refine own_by (X0.arraylength hx (by rw [e0]; exact B101.1) (State.isArrayOf_alike hZ.alike B101.2.1) (g := (mkF m 4 #[.val (.ref a1), .val (.ref a2)] [(.ref a2), (.int (0 : Int32)), (.ref a2), (.ref a1)])) rfl rfl (hb hby di1_4)) ?_
  rw [len_of s101 u101]
  show own_Go p e below (Qi0 Z a1 a2 kc h0 n0) (own_FrW s ({ frames := 2, cells := 2, slots := 4, locals := 40 } : Room).cells ({ frames := 2, cells := 2, slots := 4, locals := 40 } : Room).slots) (s₁.setTop (mkF m 5 #[.val (.ref a1), .val (.ref a2)] [(.int (0 : Int32)), (.int (0 : Int32)), (.ref a2), (.ref a1)]))
  refine own_aconstNull (pc' := 6) X0 hx (hb hby di1_5) rfl ?_
  obtain ⟨_, _, ⟨T102, L102, k102, n102⟩, -, X102, Si102, gr102, ⟨Lc102, hQ102, l102, y102, z102⟩, st102⟩ := X0.specialBackS hx (y := (⟨"java/lang/String", "<init>", "([CIILjava/lang/Void;)V"⟩ : MethodName)) rfl hown (mvT hZ (hw _ (List.mem_of_getElem? (i := 7) rfl))) (mvT hZ (hw _ (List.mem_of_getElem? (i := 8) rfl))) (mvT hZ (hw _ (List.mem_of_getElem? (i := 10) rfl))) (by decide) (own_backW (W := 0) (rmv0 l Z a0 hw [] a1 a2 h0 n0 Z0 E_a1 F_value_a1 F_coder_a1 g_a1 hCH hCW O0) hZ hI (hw _ (List.mem_of_getElem? (i := 10) rfl)) (hw _ (List.mem_of_getElem? (i := 3) rfl)) (by decide) (by decide)) (g := (mkF m 6 #[.val (.ref a1), .val (.ref a2)] [.null, (.int (0 : Int32)), (.int (0 : Int32)), (.ref a2), (.ref a1)])) rfl (by rw [hml]; rfl) (Steps.refl _) (a := a1) (argsL := [(.ref a2), (.int (0 : Int32)), (.int (0 : Int32)), .null]) (rest := []) (lenOf pd_3 rfl) rfl (by show 2 * 0 + _ ≤ _; exact Nat.le_of_eq rfl) (hb hby di1_6) (fun _ _ => ⟨rfl, e0, (by decide : 0 + 2 ≤ _), (by decide : 0 + 4 ≤ _)⟩)
  dsimp only [Pt.U, Pt.locs, Pt.cells, Pt.slots] at X102 l102 y102 z102 st102 hQ102 Si102 gr102
  subst y102 z102
  have ho102 : (s.setVm T102.vm).vm.findClass "java/lang/String" = some m.cls := by rw [show (s.setVm T102.vm).vm = T102.vm from rfl, Si102.1.alike.findClass]; exact hown
  have hZ : Z.Warmed39 (s.setVm T102.vm).vm := State.Warmed39.trans hZ Si102.1
  have hown := ho102
  obtain ⟨q_102, kb_102, rfl, pp102, N102, Kc102, Ec102_a1, Fc102_0, Fc102_1, Ac102_q⟩ := hQ102
  have A103 : Arv Z T102.heap a2 kc .char (0 : Int32) [] (.int (0 : Int32)) := A_a2.keep Kc102 (ninS (Ne.symm ne_a1_a2) nin0)
  have Z104 : n0 ≤ T102.heap.size := Nat.le_trans Z0 Kc102.1
  have K105 : Keep h0 T102.heap [a1] := K0.trans Kc102 (allS (Or.inl (List.mem_of_getElem? (i := 0) rfl)) all0)
  have N102a : Fr n0 L102 := by rw [l102]; exact Fr.app N0 N102
  refine own_via st102 ?_
  show own_Go p e below (Qi0 Z a1 a2 kc h0 n0) (own_FrW s ({ frames := 2, cells := 2, slots := 4, locals := 40 } : Room).cells ({ frames := 2, cells := 2, slots := 4, locals := 40 } : Room).slots) (T102.setTop (mkF m 9 #[.val (.ref a1), .val (.ref a2)] []))
  refine own_ret0W X102 hx Bd.returns Bd.notSynchronized Si102 (by exact (Nat.le_refl _)) (hb hby di1_9) rfl (by decide) (by decide) ?_
  show Qi0 Z a1 a2 kc h0 n0 _ T102.heap _
  exact ⟨q_102, kb_102, rfl, trivial, N102a, K105, Ec102_a1, Fc102_0, Fc102_1, Ac102_q⟩
theorem pn_6 : plainName "com/example/sigillum/sigillum/VerdictInvalidPinLaw" = true := by first | (simp [plainName, overriddenIn]; done) | decide +kernel
theorem ef_0 (m : MethodId) (x0 : Int32) (x1 : Int32) (x2 : Int32) (x3 : Int32) : entryFrame m #[(.int x0), (.int x1), (.int x2), (.int x3)] maxLocals = mkF m 0 #[.val (.int x0), .val (.int x1), .val (.int x2), .val (.int x3), .unset, .unset, .unset, .unset, .unset, .unset, .unset, .unset] [] := by first | (simp [entryFrame, mkF, argsToLocals, Value.category, maxLocals]; done) | rfl
def Q0 (Z : State) (p1 : Int32) (p2 : Int32) (p3 : Int32) (p4 : Int32) (cs : Int32) (fv : Value) (h0 : Heap) (n0 : Nat) (v : Option Value) (h : Heap) (L : List Loc) : Prop := v = some (.int 1) ∧ Fr n0 L
set_option maxRecDepth 65536 in
set_option maxHeartbeats 40000000 in
theorem rm0 (l : Launch) (Z : State) (a0 : Array Value) (hw : ∀ d ∈ tables_1, d.before a0 Z = true) (ws : List Jvm.Cond) (p1 : Int32) (p2 : Int32) (p3 : Int32) (p4 : Int32) (cs : Int32) (fv : Value) (h0 : Heap) (n0 : Nat) (Z0 : n0 ≤ h0.size) (S_COMPACT_STRINGS : Sta Z Z.heap "java/lang/String" "COMPACT_STRINGS" "Z" (.int cs)) (S_SIOOBE_FORMATTER : Sta Z Z.heap "jdk/internal/util/Preconditions" "SIOOBE_FORMATTER" "Ljava/util/function/BiFunction;" fv) (hcs : ¬ cs.toInt = 0) (hfv : fv.isRef = true) (O0 : Old Z n0 h0) (hCH : Jvm.Lit.constHeld Z "java/lang/String" 7) (hCW : Jvm.Lit.compactW.before a0 Z = true) :
    MetFree l x (head1 (Jvm.Cond.code x code maxLocals ret :: ws) room_1) (fun a U => a = #[(.int p1), (.int p2), (.int p3), (.int p4)] ∧ (Z.Warmed39 U.vm ∧ U.vm.interned = Z.vm.interned) ∧ U.heap = h0) (fun _ _ _ _ _ => True) (fun _ U o U' => ∃ v L, o = .returned v ∧ Q0 Z p1 p2 p3 p4 cs fv h0 n0 v U'.heap L ∧ ReturnedEndW U o U' L room_1.cells room_1.slots) := by
  refine MetFree.of_bodySF (plainFor_of_name pn_6) hisR ?_
  intro p e s m args below meth c s₁ Bd hml0 hP hK
  obtain ⟨rfl, ⟨hZ, hI⟩, hh⟩ := hP
  have hx := Bd.exec
  have hby := Bd.bytes
  have hml : c.maxLocals = 12 := hml0
  have hown : s.vm.findClass "com/example/sigillum/sigillum/VerdictInvalidPinLaw" = some m.cls := findClass_of_methodNamed Bd.named
  have hnm := (name_of_methodNamed Bd.named Bd.method).1
  have X0 : Stand p l e room_1 s m #[(.int p1), (.int p2), (.int p3), (.int p4)] below meth c s₁ [] 0 0 := Stand.of_body Bd
  have e0 : s₁.heap = h0 := by rw [← hh, Bd.state]; rfl
  have N0 := Fr.nil n0
  change own_Go p e below (Q0 Z p1 p2 p3 p4 cs fv h0 n0) (own_FrW s room_1.cells room_1.slots) (s₁.setTop (entryFrame m #[(.int p1), (.int p2), (.int p3), (.int p4)] maxLocals))
  rw [ef_0 m p1 p2 p3 p4]
  have rp1 := rng32 p1
  have rp2 := rng32 p2
  have rp3 := rng32 p3
  have rp4 := rng32 p4
  refine own_iloadN (pc' := 1) X0 hx rfl (hb hby at_0) rfl ?_
  refine own_iconst (pc' := 2) X0 hx (3 : Int32) (by decide) (hb hby at_1) rfl ?_
  obtain ⟨v101, hv101⟩ : ∃ z, p1 &&& (3 : Int32) = z := ⟨_, rfl⟩
  have f102 : v101.toInt = p1.toInt % 4 := by rw [← hv101]; exact c_mask p1 (3 : Int32) 2 (by decide) (by decide)
  refine own_iand (pc' := 3) X0 hx (z := v101) hv101 (hb hby at_2) rfl ?_
  refine own_istore (pc' := 5) X0 hx #[.val (.int p1), .val (.int p2), .val (.int p3), .val (.int p4), .val (.int v101), .unset, .unset, .unset, .unset, .unset, .unset, .unset] rfl (hb hby at_3) rfl ?_
  refine own_iloadN (pc' := 6) X0 hx rfl (hb hby at_5) rfl ?_
  refine own_sipush (pc' := 9) X0 hx (255 : Int32) (by decide) (hb hby at_6) rfl ?_
  obtain ⟨v103, hv103⟩ : ∃ z, p2 &&& (255 : Int32) = z := ⟨_, rfl⟩
  have f104 : v103.toInt = p2.toInt % 256 := by rw [← hv103]; exact c_mask p2 (255 : Int32) 8 (by decide) (by decide)
  refine own_iand (pc' := 10) X0 hx (z := v103) hv103 (hb hby at_9) rfl ?_
  obtain ⟨v105, hv105⟩ : ∃ z, v103.toUInt32.toUInt16.toUInt32.toInt32 = z := ⟨_, rfl⟩
  have f106 : (v105.toInt - v103.toInt) % 65536 = 0 ∧ 0 ≤ v105.toInt ∧ v105.toInt < 65536 := by rw [← hv105]; exact c_i2c v103
  replace f106 : v105.toInt = v103.toInt := by omega
  refine own_i2c (pc' := 11) X0 hx (z := v105) hv105 (hb hby at_10) rfl ?_
  refine own_istore (pc' := 13) X0 hx #[.val (.int p1), .val (.int p2), .val (.int p3), .val (.int p4), .val (.int v101), .val (.int v105), .unset, .unset, .unset, .unset, .unset, .unset] rfl (hb hby at_11) rfl ?_
  refine own_iloadN (pc' := 14) X0 hx rfl (hb hby at_13) rfl ?_
  refine own_sipush (pc' := 17) X0 hx (255 : Int32) (by decide) (hb hby at_14) rfl ?_
  obtain ⟨v107, hv107⟩ : ∃ z, p3 &&& (255 : Int32) = z := ⟨_, rfl⟩
  have f108 : v107.toInt = p3.toInt % 256 := by rw [← hv107]; exact c_mask p3 (255 : Int32) 8 (by decide) (by decide)
  refine own_iand (pc' := 18) X0 hx (z := v107) hv107 (hb hby at_17) rfl ?_
  obtain ⟨v109, hv109⟩ : ∃ z, v107.toUInt32.toUInt16.toUInt32.toInt32 = z := ⟨_, rfl⟩
  have f110 : (v109.toInt - v107.toInt) % 65536 = 0 ∧ 0 ≤ v109.toInt ∧ v109.toInt < 65536 := by rw [← hv109]; exact c_i2c v107
  replace f110 : v109.toInt = v107.toInt := by omega
  refine own_i2c (pc' := 19) X0 hx (z := v109) hv109 (hb hby at_18) rfl ?_
  refine own_istore (pc' := 21) X0 hx #[.val (.int p1), .val (.int p2), .val (.int p3), .val (.int p4), .val (.int v101), .val (.int v105), .val (.int v109), .unset, .unset, .unset, .unset, .unset] rfl (hb hby at_19) rfl ?_
  refine own_iloadN (pc' := 22) X0 hx rfl (hb hby at_21) rfl ?_
  refine own_sipush (pc' := 25) X0 hx (255 : Int32) (by decide) (hb hby at_22) rfl ?_
  obtain ⟨v111, hv111⟩ : ∃ z, p4 &&& (255 : Int32) = z := ⟨_, rfl⟩
  have f112 : v111.toInt = p4.toInt % 256 := by rw [← hv111]; exact c_mask p4 (255 : Int32) 8 (by decide) (by decide)
  refine own_iand (pc' := 26) X0 hx (z := v111) hv111 (hb hby at_25) rfl ?_
  obtain ⟨v113, hv113⟩ : ∃ z, v111.toUInt32.toUInt16.toUInt32.toInt32 = z := ⟨_, rfl⟩
  have f114 : (v113.toInt - v111.toInt) % 65536 = 0 ∧ 0 ≤ v113.toInt ∧ v113.toInt < 65536 := by rw [← hv113]; exact c_i2c v111
  replace f114 : v113.toInt = v111.toInt := by omega
  refine own_i2c (pc' := 27) X0 hx (z := v113) hv113 (hb hby at_26) rfl ?_
  refine own_istore (pc' := 29) X0 hx #[.val (.int p1), .val (.int p2), .val (.int p3), .val (.int p4), .val (.int v101), .val (.int v105), .val (.int v109), .val (.int v113), .unset, .unset, .unset, .unset] rfl (hb hby at_27) rfl ?_
  have b115 : v101.toInt = 0 ∨ v101.toInt = 1 ∨ v101.toInt = 2 ∨ v101.toInt = 3 := by omega
  rcases b115 with b115 | b115 | b115 | b115
  · obtain rfl : v101 = (0 : Int32) := Int32.toInt_inj.mp b115
    have kz116 : (0 : Int32).toInt = 0 := by decide
    refine own_iload (pc' := 31) X0 hx rfl (hb hby at_29) rfl ?_
    refine own_ifNo (pc' := 34) X0 hx (by decide) (hb hby at_31) rfl ?_
    refine own_iconst (pc' := 35) X0 hx (0 : Int32) (by decide) (hb hby at_34) rfl ?_
    obtain ⟨T117, h117, cA117, X117, e117, E117, Ar117, st117⟩ := newP X0 hx hZ (hw _ (List.mem_of_getElem? (i := 0) rfl)) e0 (g := (mkF m 35 #[.val (.int p1), .val (.int p2), .val (.int p3), .val (.int p4), .val (.int (0 : Int32)), .val (.int v105), .val (.int v109), .val (.int v113), .unset, .unset, .unset, .unset] [(.int (0 : Int32))])) rfl (hb hby at_35) (n := (0 : Int32)) rfl (by decide) (cap := 0) (by decide) (by decide) (by decide) (by decide)
    obtain ⟨a117, ga117⟩ : ∃ z, z = h0.size := ⟨_, rfl⟩
    rw [← ga117] at Ar117 st117
    have fr117 : n0 ≤ a117 := Nat.le_trans Z0 (Nat.le_of_eq ga117.symm)
    have Z118 : n0 ≤ h117.size := Nat.le_trans Z0 E117.1
    have O119 := O0.ext E117
    have A117 : Arv Z h117 a117 cA117 .char (0 : Int32) [] (.int (0 : Int32)) := (Arv.new Ar117 (by decide))
    refine own_by st117 ?_
    show own_Go p e below (Q0 Z p1 p2 p3 p4 cs fv h0 n0) (own_FrW s room_1.cells room_1.slots) (T117.setTop (mkF m 37 #[.val (.int p1), .val (.int p2), .val (.int p3), .val (.int p4), .val (.int (0 : Int32)), .val (.int v105), .val (.int v109), .val (.int v113), .unset, .unset, .unset, .unset] [(.ref a117)]))
    refine own_astore (pc' := 39) X117 hx #[.val (.int p1), .val (.int p2), .val (.int p3), .val (.int p4), .val (.int (0 : Int32)), .val (.int v105), .val (.int v109), .val (.int v113), .val (.ref a117), .unset, .unset, .unset] rfl rfl (hb hby at_37) rfl ?_
    refine own_goto (pc' := 105) X117 hx (hb hby at_39) (by decide) (by decide) ?_
    obtain ⟨T120, h120, X120, e120, E120, A120, D120, -, st120⟩ := newO X117 hx hZ hown (hw _ (List.mem_of_getElem? (i := 1) rfl)) (hw _ (List.mem_of_getElem? (i := 2) rfl)) (hw _ (List.mem_of_getElem? (i := 3) rfl)) e117 (g := (mkF m 105 #[.val (.int p1), .val (.int p2), .val (.int p3), .val (.int p4), .val (.int (0 : Int32)), .val (.int v105), .val (.int v109), .val (.int v113), .val (.ref a117), .unset, .unset, .unset] [])) rfl (hb hby at_105) (by decide) (by decide)
    obtain ⟨a120, ga120⟩ : ∃ z, z = h117.size := ⟨_, rfl⟩
    rw [← ga120] at A120 D120 st120
    have n121 : a117 ≠ a120 := Nat.ne_of_lt (ga120.symm ▸ A117.lt)
    have A122 : Arv Z h120 a117 cA117 .char (0 : Int32) [] (.int (0 : Int32)) := A117.ext E120
    have fr120 : n0 ≤ a120 := Nat.le_trans Z118 (Nat.le_of_eq ga120.symm)
    have Z123 : n0 ≤ h120.size := Nat.le_trans Z118 E120.1
    have O124 := O119.ext E120
    have F125 : Fld Z h120 a120 "java/lang/String" "value" "[B" .null := D120 (Or.inr (hw _ (List.mem_of_getElem? (i := 16) rfl))) (ty := (.array .byte)) (by decide)
    have F126 : Fld Z h120 a120 "java/lang/String" "coder" "B" (.int (0 : Int32)) := D120 (Or.inr (hw _ (List.mem_of_getElem? (i := 17) rfl))) (ty := .byte) (by decide)
    refine own_by st120 ?_
    show own_Go p e below (Q0 Z p1 p2 p3 p4 cs fv h0 n0) (own_FrW s room_1.cells room_1.slots) (T120.setTop (mkF m 108 #[.val (.int p1), .val (.int p2), .val (.int p3), .val (.int p4), .val (.int (0 : Int32)), .val (.int v105), .val (.int v109), .val (.int v113), .val (.ref a117), .unset, .unset, .unset] [(.ref a120)]))
    refine own_dup (pc' := 109) X120 hx rfl (hb hby at_108) rfl ?_
    refine own_aload (pc' := 111) X120 hx rfl rfl (hb hby at_109) rfl ?_
    obtain ⟨_, _, ⟨T127, L127, k127, n127⟩, -, X127, Si127, gr127, ⟨Lc127, hQ127, l127, y127, z127⟩, st127⟩ := X120.specialBackS hx (y := (⟨"java/lang/String", "<init>", "([C)V"⟩ : MethodName)) rfl hown (mvT hZ (hw _ (List.mem_of_getElem? (i := 4) rfl))) (mvT hZ (hw _ (List.mem_of_getElem? (i := 5) rfl))) (mvT hZ (hw _ (List.mem_of_getElem? (i := 6) rfl))) (by decide) (own_backW (W := 1) (rmi0 l Z a0 hw [] a120 a117 cA117 h120 n0 Z123 A120 F125 F126 A122 fr120 (Ne.symm n121) hCH hCW O124) hZ hI (hw _ (List.mem_of_getElem? (i := 6) rfl)) (hw _ (List.mem_of_getElem? (i := 3) rfl)) (by decide) (by decide)) (g := (mkF m 111 #[.val (.int p1), .val (.int p2), .val (.int p3), .val (.int p4), .val (.int (0 : Int32)), .val (.int v105), .val (.int v109), .val (.int v113), .val (.ref a117), .unset, .unset, .unset] [(.ref a117), (.ref a120), (.ref a120)])) rfl (by rw [hml]; rfl) (Steps.refl _) (a := a120) (argsL := [(.ref a117)]) (rest := [(.ref a120)]) (lenOf pd_4 rfl) rfl (by show 2 * 0 + _ ≤ _; exact Nat.le_of_eq rfl) (hb hby at_111) (fun _ _ => ⟨rfl, e120, (by decide : 2 + 2 ≤ _), (by decide : 4 + 4 ≤ _)⟩)
    dsimp only [Pt.U, Pt.locs, Pt.cells, Pt.slots] at X127 l127 y127 z127 st127 hQ127 Si127 gr127
    subst y127 z127
    have ho127 : (s.setVm T127.vm).vm.findClass "com/example/sigillum/sigillum/VerdictInvalidPinLaw" = some m.cls := by rw [show (s.setVm T127.vm).vm = T127.vm from rfl, Si127.1.alike.findClass]; exact hown
    have hZ : Z.Warmed39 (s.setVm T127.vm).vm := State.Warmed39.trans hZ Si127.1
    have hown := ho127
    obtain ⟨q_127, kb_127, rfl, pp127, N127, Kc127, Ec127_a1, Fc127_0, Fc127_1, Ac127_q⟩ := hQ127
    have A128 : Arv Z T127.heap a117 cA117 .char (0 : Int32) [] (.int (0 : Int32)) := A122.keep Kc127 (ninS n121 nin0)
    have Z129 : n0 ≤ T127.heap.size := Nat.le_trans Z123 Kc127.1
    have O130 := O124.keep Kc127 (allS fr120 all0)
    have N127a : Fr n0 L127 := by rw [l127]; exact Fr.app N0 N127
    refine own_via st127 ?_
    show own_Go p e below (Q0 Z p1 p2 p3 p4 cs fv h0 n0) (own_FrW s room_1.cells room_1.slots) (T127.setTop (mkF m 114 #[.val (.int p1), .val (.int p2), .val (.int p3), .val (.int p4), .val (.int (0 : Int32)), .val (.int v105), .val (.int v109), .val (.int v113), .val (.ref a117), .unset, .unset, .unset] [(.ref a120)]))
    refine own_astore (pc' := 116) X127 hx #[.val (.int p1), .val (.int p2), .val (.int p3), .val (.int p4), .val (.int (0 : Int32)), .val (.int v105), .val (.int v109), .val (.int v113), .val (.ref a117), .val (.ref a120), .unset, .unset] rfl rfl (hb hby at_114) rfl ?_
    refine own_aload (pc' := 118) X127 hx rfl rfl (hb hby at_116) rfl ?_
    obtain ⟨_, _, ⟨T131, L131, k131, n131⟩, -, X131, ⟨Lc131, hQ131, l131, y131, z131⟩, st131⟩ := Jvm.LawKit.callS X127 hx (y := (⟨"com/example/sigillum/sigillum/Verdict", "invalid", "(Ljava/lang/String;)Lcom/example/sigillum/sigillum/Verdict;"⟩ : MethodName)) hown (mvT hZ (hw _ (List.mem_of_getElem? (i := 22) rfl))) (mvT hZ (hw _ (List.mem_of_getElem? (i := 23) rfl))) (mvT hZ (hw _ (List.mem_of_getElem? (i := 24) rfl))) (mvT hZ (hw _ (List.mem_of_getElem? (i := 25) rfl))) (by decide) (backOf (W := 0) (rmvn l Z a0 hw [] a120 T127.heap n0 Z129 Ec127_a1) hZ (hw _ (List.mem_of_getElem? (i := 25) rfl)) (hw _ (List.mem_of_getElem? (i := 24) rfl)) (by decide) (by decide)) (g := (mkF m 118 #[.val (.int p1), .val (.int p2), .val (.int p3), .val (.int p4), .val (.int (0 : Int32)), .val (.int v105), .val (.int v109), .val (.int v113), .val (.ref a117), .val (.ref a120), .unset, .unset] [(.ref a120)])) rfl (by rw [hml]; rfl) (argsL := [(.ref a120)]) (rest := []) (lenOf pd_15 rfl) rfl (by show 2 * 0 + _ ≤ _; exact Nat.le_of_eq rfl) (hb hby at_118) (fun _ _ => ⟨rfl, rfl, (by decide : 4 + 1 ≤ _), (by decide : 8 + 1 ≤ _)⟩)
    dsimp only [Pt.U, Pt.locs, Pt.cells, Pt.slots] at X131 l131 y131 z131 st131 hQ131
    subst y131 z131
    obtain ⟨q_131, rfl, pp131, N131, Kc131, gc131_q, Ec131_q, Fc131_0⟩ := hQ131
    have n132 : a120 ≠ q_131 := Nat.ne_of_lt (Nat.lt_of_lt_of_le Ec127_a1.lt gc131_q)
    have n133 : a117 ≠ q_131 := Nat.ne_of_lt (Nat.lt_of_lt_of_le A128.lt gc131_q)
    have n134 : q_127 ≠ q_131 := Nat.ne_of_lt (Nat.lt_of_lt_of_le Ac127_q.lt gc131_q)
    have frq_131 : n0 ≤ q_131 := Nat.le_trans Z129 gc131_q
    have F135 : Fld Z T131.heap a120 "java/lang/String" "value" "[B" (.ref q_127) := Fc127_0.keep Kc131 nin0
    have F136 : Fld Z T131.heap a120 "java/lang/String" "coder" "B" (.int (0 : Int32)) := Fc127_1.keep Kc131 nin0
    have E137 : Exa Z T131.heap a120 "java/lang/String" := Ec127_a1.keep Kc131
    have A138 : Arv Z T131.heap a117 cA117 .char (0 : Int32) [] (.int (0 : Int32)) := A128.keep Kc131 nin0
    have A139 : Arv Z T131.heap q_127 kb_127 .byte (0 : Int32) [] (.int (0 : Int32)) := Ac127_q.keep Kc131 nin0
    have Z140 : n0 ≤ T131.heap.size := Nat.le_trans Z129 Kc131.1
    have Y141 : T127.heap.size ≤ T131.heap.size := Nat.le_trans (Nat.le_refl _) Kc131.1
    have O142 := O130.keep Kc131 all0
    have N131a : Fr n0 L131 := by rw [l131]; exact Fr.app N127a N131
    refine own_by st131 ?_
    show own_Go p e below (Q0 Z p1 p2 p3 p4 cs fv h0 n0) (own_FrW s room_1.cells room_1.slots) (T131.setTop (mkF m 121 #[.val (.int p1), .val (.int p2), .val (.int p3), .val (.int p4), .val (.int (0 : Int32)), .val (.int v105), .val (.int v109), .val (.int v113), .val (.ref a117), .val (.ref a120), .unset, .unset] [(.ref q_131)]))
    refine own_astore (pc' := 123) X131 hx #[.val (.int p1), .val (.int p2), .val (.int p3), .val (.int p4), .val (.int (0 : Int32)), .val (.int v105), .val (.int v109), .val (.int v113), .val (.ref a117), .val (.ref a120), .val (.ref q_131), .unset] rfl rfl (hb hby at_121) rfl ?_
    refine own_aload (pc' := 125) X131 hx rfl rfl (hb hby at_123) rfl ?_
    obtain ⟨cq143, kq143, q143a, q143b, q143c⟩ := isOf hZ rfl Ec131_q
    obtain ⟨_, _, ⟨T143, L143, k143, n143⟩, -, X143, ⟨Lc143, hQ143, l143, y143, z143⟩, st143⟩ := X131.virtualBack hx (y := (⟨"com/example/sigillum/sigillum/Verdict", "isValid", "()Z"⟩ : MethodName)) (z := (⟨"com/example/sigillum/sigillum/Verdict", "isValid", "()Z"⟩ : MethodName)) hown (mvT hZ (hw _ (List.mem_of_getElem? (i := 39) rfl))) (mvT hZ (hw _ (List.mem_of_getElem? (i := 40) rfl))) (notFace_of_selects (args := #[]) (mvT hZ (hw _ (List.mem_of_getElem? (i := 42) rfl)))) (mvT hZ (hw _ (List.mem_of_getElem? (i := 42) rfl))) (mvT hZ (hw _ (List.mem_of_getElem? (i := 41) rfl))) (by decide) (backOf (W := 0) (rmiv l Z a0 hw [] q_131 a120 T131.heap n0 Z140 Fc131_0) hZ (hw _ (List.mem_of_getElem? (i := 43) rfl)) (hw _ (List.mem_of_getElem? (i := 24) rfl)) (by decide) (by decide)) q143a q143c (g := (mkF m 125 #[.val (.int p1), .val (.int p2), .val (.int p3), .val (.int p4), .val (.int (0 : Int32)), .val (.int v105), .val (.int v109), .val (.int v113), .val (.ref a117), .val (.ref a120), .val (.ref q_131), .unset] [(.ref q_131)])) rfl (by rw [hml]; rfl) (Steps.refl _) (argsL := []) (rest := []) (lenOf pd_6 rfl) rfl (by show 2 * 0 + _ ≤ _; exact Nat.le_of_eq rfl) (hb hby at_125) (fun _ _ => ⟨rfl, rfl, (by decide : 5 + 0 ≤ _), (by decide : 9 + 0 ≤ _)⟩)
    dsimp only [Pt.U, Pt.locs, Pt.cells, Pt.slots] at X143 l143 y143 z143 st143 hQ143
    subst y143 z143
    obtain ⟨rfl, pp143, N143, e143⟩ := hQ143
    have N143a : Fr n0 L143 := by rw [l143]; exact Fr.app N131a N143
    refine own_via st143 ?_
    show own_Go p e below (Q0 Z p1 p2 p3 p4 cs fv h0 n0) (own_FrW s room_1.cells room_1.slots) (T143.setTop (mkF m 128 #[.val (.int p1), .val (.int p2), .val (.int p3), .val (.int p4), .val (.int (0 : Int32)), .val (.int v105), .val (.int v109), .val (.int v113), .val (.ref a117), .val (.ref a120), .val (.ref q_131), .unset] [(.int (0 : Int32))]))
    refine own_ifYes (pc' := 133) X143 hx (hb hby at_128) (by decide) (by decide) (by decide) ?_
    refine own_aload (pc' := 135) X143 hx rfl rfl (hb hby at_133) rfl ?_
    obtain ⟨cq144, kq144, q144a, q144b, q144c⟩ := isOf hZ e143 Ec131_q
    obtain ⟨_, _, ⟨T144, L144, k144, n144⟩, -, X144, ⟨Lc144, hQ144, l144, y144, z144⟩, st144⟩ := X143.virtualBack hx (y := (⟨"com/example/sigillum/sigillum/Verdict", "reason", "()Ljava/lang/String;"⟩ : MethodName)) (z := (⟨"com/example/sigillum/sigillum/Verdict", "reason", "()Ljava/lang/String;"⟩ : MethodName)) hown (mvT hZ (hw _ (List.mem_of_getElem? (i := 44) rfl))) (mvT hZ (hw _ (List.mem_of_getElem? (i := 45) rfl))) (notFace_of_selects (args := #[]) (mvT hZ (hw _ (List.mem_of_getElem? (i := 47) rfl)))) (mvT hZ (hw _ (List.mem_of_getElem? (i := 47) rfl))) (mvT hZ (hw _ (List.mem_of_getElem? (i := 46) rfl))) (by decide) (backOf (W := 0) (rmre l Z a0 hw [] q_131 a120 T131.heap n0 Z140 Fc131_0) hZ (hw _ (List.mem_of_getElem? (i := 48) rfl)) (hw _ (List.mem_of_getElem? (i := 24) rfl)) (by decide) (by decide)) q144a q144c (g := (mkF m 135 #[.val (.int p1), .val (.int p2), .val (.int p3), .val (.int p4), .val (.int (0 : Int32)), .val (.int v105), .val (.int v109), .val (.int v113), .val (.ref a117), .val (.ref a120), .val (.ref q_131), .unset] [(.ref q_131)])) rfl (by rw [hml]; rfl) (Steps.refl _) (argsL := []) (rest := []) (lenOf pd_16 rfl) rfl (by show 2 * 0 + _ ≤ _; exact Nat.le_of_eq rfl) (hb hby at_135) (fun _ _ => ⟨rfl, e143, (by decide : 5 + 0 ≤ _), (by decide : 9 + 0 ≤ _)⟩)
    dsimp only [Pt.U, Pt.locs, Pt.cells, Pt.slots] at X144 l144 y144 z144 st144 hQ144
    subst y144 z144
    obtain ⟨rfl, pp144, N144, e144⟩ := hQ144
    have N144a : Fr n0 L144 := by rw [l144]; exact Fr.app N143a N144
    refine own_via st144 ?_
    show own_Go p e below (Q0 Z p1 p2 p3 p4 cs fv h0 n0) (own_FrW s room_1.cells room_1.slots) (T144.setTop (mkF m 138 #[.val (.int p1), .val (.int p2), .val (.int p3), .val (.int p4), .val (.int (0 : Int32)), .val (.int v105), .val (.int v109), .val (.int v113), .val (.ref a117), .val (.ref a120), .val (.ref q_131), .unset] [(.ref a120)]))
    refine own_astore (pc' := 140) X144 hx #[.val (.int p1), .val (.int p2), .val (.int p3), .val (.int p4), .val (.int (0 : Int32)), .val (.int v105), .val (.int v109), .val (.int v113), .val (.ref a117), .val (.ref a120), .val (.ref q_131), .val (.ref a120)] rfl rfl (hb hby at_138) rfl ?_
    refine own_aload (pc' := 142) X144 hx rfl rfl (hb hby at_140) rfl ?_
    obtain ⟨cq145, kq145, q145a, q145b, q145c⟩ := isOf hZ e144 E137
    obtain ⟨_, _, ⟨T145, L145, k145, n145⟩, -, X145, ⟨Lc145, hQ145, l145, y145, z145⟩, st145⟩ := X144.virtualBack hx (y := (⟨"java/lang/String", "length", "()I"⟩ : MethodName)) (z := (⟨"java/lang/String", "length", "()I"⟩ : MethodName)) hown (mvT hZ (hw _ (List.mem_of_getElem? (i := 49) rfl))) (mvT hZ (hw _ (List.mem_of_getElem? (i := 50) rfl))) (notFace_of_selects (args := #[]) (mvT hZ (hw _ (List.mem_of_getElem? (i := 52) rfl)))) (mvT hZ (hw _ (List.mem_of_getElem? (i := 52) rfl))) (mvT hZ (hw _ (List.mem_of_getElem? (i := 51) rfl))) (by decide) (backOf (W := 0) (rmln0 l Z a0 hw [] a120 q_127 kb_127 cs T131.heap n0 Z140 E137 F135 F136 A139 (S_COMPACT_STRINGS.ext O142.2) (by omega)) hZ (hw _ (List.mem_of_getElem? (i := 53) rfl)) (hw _ (List.mem_of_getElem? (i := 3) rfl)) (by decide) (by decide)) q145a q145c (g := (mkF m 142 #[.val (.int p1), .val (.int p2), .val (.int p3), .val (.int p4), .val (.int (0 : Int32)), .val (.int v105), .val (.int v109), .val (.int v113), .val (.ref a117), .val (.ref a120), .val (.ref q_131), .val (.ref a120)] [(.ref a120)])) rfl (by rw [hml]; rfl) (Steps.refl _) (argsL := []) (rest := []) (lenOf pd_11 rfl) rfl (by show 2 * 0 + _ ≤ _; exact Nat.le_of_eq rfl) (hb hby at_142) (fun _ _ => ⟨rfl, e144, (by decide : 5 + 0 ≤ _), (by decide : 9 + 0 ≤ _)⟩)
    dsimp only [Pt.U, Pt.locs, Pt.cells, Pt.slots] at X145 l145 y145 z145 st145 hQ145
    subst y145 z145
    obtain ⟨rfl, pp145, N145, e145⟩ := hQ145
    have N145a : Fr n0 L145 := by rw [l145]; exact Fr.app N144a N145
    refine own_via st145 ?_
    show own_Go p e below (Q0 Z p1 p2 p3 p4 cs fv h0 n0) (own_FrW s room_1.cells room_1.slots) (T145.setTop (mkF m 145 #[.val (.int p1), .val (.int p2), .val (.int p3), .val (.int p4), .val (.int (0 : Int32)), .val (.int v105), .val (.int v109), .val (.int v113), .val (.ref a117), .val (.ref a120), .val (.ref q_131), .val (.ref a120)] [(.int (0 : Int32))]))
    refine own_iload (pc' := 147) X145 hx rfl (hb hby at_145) rfl ?_
    refine own_icmpYes (pc' := 152) X145 hx (hb hby at_147) (by decide) (by decide) (by decide) ?_
    refine own_iload (pc' := 154) X145 hx rfl (hb hby at_152) rfl ?_
    refine own_iconst (pc' := 155) X145 hx (1 : Int32) (by decide) (hb hby at_154) rfl ?_
    refine own_icmpYes (pc' := 171) X145 hx (hb hby at_155) (by decide) (by decide) (by decide) ?_
    refine own_iload (pc' := 173) X145 hx rfl (hb hby at_171) rfl ?_
    refine own_iconst (pc' := 174) X145 hx (2 : Int32) (by decide) (hb hby at_173) rfl ?_
    refine own_icmpYes (pc' := 190) X145 hx (hb hby at_174) (by decide) (by decide) (by decide) ?_
    refine own_iload (pc' := 192) X145 hx rfl (hb hby at_190) rfl ?_
    refine own_iconst (pc' := 193) X145 hx (3 : Int32) (by decide) (hb hby at_192) rfl ?_
    refine own_icmpYes (pc' := 209) X145 hx (hb hby at_193) (by decide) (by decide) (by decide) ?_
    refine own_aload (pc' := 211) X145 hx rfl rfl (hb hby at_209) rfl ?_
    refine own_aload (pc' := 213) X145 hx rfl rfl (hb hby at_211) rfl ?_
    obtain ⟨cq146, kq146, q146a, q146b, q146c⟩ := isOf hZ e145 E137
    obtain ⟨_, _, ⟨T146, L146, k146, n146⟩, -, X146, ⟨Lc146, hQ146, l146, y146, z146⟩, st146⟩ := X145.virtualBack hx (y := (⟨"java/lang/String", "equals", "(Ljava/lang/Object;)Z"⟩ : MethodName)) (z := (⟨"java/lang/String", "equals", "(Ljava/lang/Object;)Z"⟩ : MethodName)) hown (mvT hZ (hw _ (List.mem_of_getElem? (i := 60) rfl))) (mvT hZ (hw _ (List.mem_of_getElem? (i := 61) rfl))) (notFace_of_selects (args := #[]) (mvT hZ (hw _ (List.mem_of_getElem? (i := 63) rfl)))) (mvT hZ (hw _ (List.mem_of_getElem? (i := 63) rfl))) (mvT hZ (hw _ (List.mem_of_getElem? (i := 62) rfl))) (by decide) (backOf (W := 0) (rmeq l Z a0 hw [] a120 T131.heap n0 Z140 ) hZ (hw _ (List.mem_of_getElem? (i := 64) rfl)) (hw _ (List.mem_of_getElem? (i := 3) rfl)) (by decide) (by decide)) q146a q146c (g := (mkF m 213 #[.val (.int p1), .val (.int p2), .val (.int p3), .val (.int p4), .val (.int (0 : Int32)), .val (.int v105), .val (.int v109), .val (.int v113), .val (.ref a117), .val (.ref a120), .val (.ref q_131), .val (.ref a120)] [(.ref a120), (.ref a120)])) rfl (by rw [hml]; rfl) (Steps.refl _) (argsL := [(.ref a120)]) (rest := []) (lenOf pd_12 rfl) rfl (by show 2 * 0 + _ ≤ _; exact Nat.le_of_eq rfl) (hb hby at_213) (fun _ _ => ⟨rfl, e145, (by decide : 5 + 0 ≤ _), (by decide : 9 + 0 ≤ _)⟩)
    dsimp only [Pt.U, Pt.locs, Pt.cells, Pt.slots] at X146 l146 y146 z146 st146 hQ146
    subst y146 z146
    obtain ⟨rfl, pp146, N146, e146⟩ := hQ146
    have N146a : Fr n0 L146 := by rw [l146]; exact Fr.app N145a N146
    refine own_via st146 ?_
    show own_Go p e below (Q0 Z p1 p2 p3 p4 cs fv h0 n0) (own_FrW s room_1.cells room_1.slots) (T146.setTop (mkF m 216 #[.val (.int p1), .val (.int p2), .val (.int p3), .val (.int p4), .val (.int (0 : Int32)), .val (.int v105), .val (.int v109), .val (.int v113), .val (.ref a117), .val (.ref a120), .val (.ref q_131), .val (.ref a120)] [(.int (1 : Int32))]))
    refine own_retW X146 hx Bd.returns Bd.notSynchronized Si127 (by rw [e146]; exact Y141) (Or.inl ⟨rfl, by simp, _, rfl⟩) (hb hby at_216) rfl (by decide) (by decide) ?_
    show Q0 Z p1 p2 p3 p4 cs fv h0 n0 _ T146.heap _
    rw [e146]
    exact ⟨rfl, N146a⟩
  · obtain rfl : v101 = (1 : Int32) := Int32.toInt_inj.mp b115
    have kz147 : (1 : Int32).toInt = 1 := by decide
    refine own_iload (pc' := 31) X0 hx rfl (hb hby at_29) rfl ?_
    refine own_ifYes (pc' := 42) X0 hx (hb hby at_31) (by decide) (by decide) (by decide) ?_
    refine own_iload (pc' := 44) X0 hx rfl (hb hby at_42) rfl ?_
    refine own_iconst (pc' := 45) X0 hx (1 : Int32) (by decide) (hb hby at_44) rfl ?_
    refine own_icmpNo (pc' := 48) X0 hx (by decide) (hb hby at_45) rfl ?_
    refine own_iconst (pc' := 49) X0 hx (1 : Int32) (by decide) (hb hby at_48) rfl ?_
    obtain ⟨T148, h148, cA148, X148, e148, E148, Ar148, st148⟩ := newP X0 hx hZ (hw _ (List.mem_of_getElem? (i := 0) rfl)) e0 (g := (mkF m 49 #[.val (.int p1), .val (.int p2), .val (.int p3), .val (.int p4), .val (.int (1 : Int32)), .val (.int v105), .val (.int v109), .val (.int v113), .unset, .unset, .unset, .unset] [(.int (1 : Int32))])) rfl (hb hby at_49) (n := (1 : Int32)) rfl (by decide) (cap := 1) (by decide) (by decide) (by decide) (by decide)
    obtain ⟨a148, ga148⟩ : ∃ z, z = h0.size := ⟨_, rfl⟩
    rw [← ga148] at Ar148 st148
    have fr148 : n0 ≤ a148 := Nat.le_trans Z0 (Nat.le_of_eq ga148.symm)
    have Z149 : n0 ≤ h148.size := Nat.le_trans Z0 E148.1
    have O150 := O0.ext E148
    have A148 : Arv Z h148 a148 cA148 .char (1 : Int32) [(.int (0 : Int32))] (.int (0 : Int32)) := (Arv.new Ar148 (by decide)).pad (fun i => pad_rep [] (.int (0 : Int32)) 1 i)
    refine own_by st148 ?_
    show own_Go p e below (Q0 Z p1 p2 p3 p4 cs fv h0 n0) (own_FrW s room_1.cells room_1.slots) (T148.setTop (mkF m 51 #[.val (.int p1), .val (.int p2), .val (.int p3), .val (.int p4), .val (.int (1 : Int32)), .val (.int v105), .val (.int v109), .val (.int v113), .unset, .unset, .unset, .unset] [(.ref a148)]))
    refine own_dup (pc' := 52) X148 hx rfl (hb hby at_51) rfl ?_
    refine own_iconst (pc' := 53) X148 hx (0 : Int32) (by decide) (hb hby at_52) rfl ?_
    refine own_iload (pc' := 55) X148 hx rfl (hb hby at_53) rfl ?_
    obtain ⟨c151, B151, q151, s151, u151, H151, G151⟩ := id A148
    obtain ⟨T151, h151, X151, e151, W151, st151⟩ := stC X148 hx hZ e148 B151 (j := (0 : Int32)) (x := v105) (inb_of s151 (by decide)) (g := (mkF m 55 #[.val (.int p1), .val (.int p2), .val (.int p3), .val (.int p4), .val (.int (1 : Int32)), .val (.int v105), .val (.int v109), .val (.int v113), .unset, .unset, .unset, .unset] [(.int v105), (.int (0 : Int32)), (.ref a148), (.ref a148)])) rfl rfl (hb hby at_55)
    have m151 : nar .char v105 = v105 := own_nc (by omega)
    rw [m151] at W151
    have A151 : Arv Z h151 a148 cA148 .char (1 : Int32) [(.int v105)] (.int (0 : Int32)) := Arv.set B151 q151 s151 u151 H151 G151 (own_fc (by omega)) W151 0 (by decide) (by simp)
    have Z152 : n0 ≤ h151.size := Nat.le_trans Z149 (Nat.le_of_eq W151.size.symm)
    have N153 := Fr.snoc X151 N0 fr148
    have O154 := O150.wr W151 fr148
    refine own_by st151 ?_
    show own_Go p e below (Q0 Z p1 p2 p3 p4 cs fv h0 n0) (own_FrW s room_1.cells room_1.slots) (T151.setTop (mkF m 56 #[.val (.int p1), .val (.int p2), .val (.int p3), .val (.int p4), .val (.int (1 : Int32)), .val (.int v105), .val (.int v109), .val (.int v113), .unset, .unset, .unset, .unset] [(.ref a148)]))
    refine own_astore (pc' := 58) X151 hx #[.val (.int p1), .val (.int p2), .val (.int p3), .val (.int p4), .val (.int (1 : Int32)), .val (.int v105), .val (.int v109), .val (.int v113), .val (.ref a148), .unset, .unset, .unset] rfl rfl (hb hby at_56) rfl ?_
    refine own_goto (pc' := 105) X151 hx (hb hby at_58) (by decide) (by decide) ?_
    obtain ⟨T155, h155, X155, e155, E155, A155, D155, -, st155⟩ := newO X151 hx hZ hown (hw _ (List.mem_of_getElem? (i := 1) rfl)) (hw _ (List.mem_of_getElem? (i := 2) rfl)) (hw _ (List.mem_of_getElem? (i := 3) rfl)) e151 (g := (mkF m 105 #[.val (.int p1), .val (.int p2), .val (.int p3), .val (.int p4), .val (.int (1 : Int32)), .val (.int v105), .val (.int v109), .val (.int v113), .val (.ref a148), .unset, .unset, .unset] [])) rfl (hb hby at_105) (by decide) (by decide)
    obtain ⟨a155, ga155⟩ : ∃ z, z = h151.size := ⟨_, rfl⟩
    rw [← ga155] at A155 D155 st155
    have n156 : a148 ≠ a155 := Nat.ne_of_lt (ga155.symm ▸ A151.lt)
    have A157 : Arv Z h155 a148 cA148 .char (1 : Int32) [(.int v105)] (.int (0 : Int32)) := A151.ext E155
    have fr155 : n0 ≤ a155 := Nat.le_trans Z152 (Nat.le_of_eq ga155.symm)
    have Z158 : n0 ≤ h155.size := Nat.le_trans Z152 E155.1
    have O159 := O154.ext E155
    have F160 : Fld Z h155 a155 "java/lang/String" "value" "[B" .null := D155 (Or.inr (hw _ (List.mem_of_getElem? (i := 16) rfl))) (ty := (.array .byte)) (by decide)
    have F161 : Fld Z h155 a155 "java/lang/String" "coder" "B" (.int (0 : Int32)) := D155 (Or.inr (hw _ (List.mem_of_getElem? (i := 17) rfl))) (ty := .byte) (by decide)
    refine own_by st155 ?_
    show own_Go p e below (Q0 Z p1 p2 p3 p4 cs fv h0 n0) (own_FrW s room_1.cells room_1.slots) (T155.setTop (mkF m 108 #[.val (.int p1), .val (.int p2), .val (.int p3), .val (.int p4), .val (.int (1 : Int32)), .val (.int v105), .val (.int v109), .val (.int v113), .val (.ref a148), .unset, .unset, .unset] [(.ref a155)]))
    refine own_dup (pc' := 109) X155 hx rfl (hb hby at_108) rfl ?_
    refine own_aload (pc' := 111) X155 hx rfl rfl (hb hby at_109) rfl ?_
    obtain ⟨_, _, ⟨T162, L162, k162, n162⟩, -, X162, ⟨Lc162, hQ162, l162, y162, z162⟩, st162⟩ := X155.specialBack hx (y := (⟨"java/lang/String", "<init>", "([C)V"⟩ : MethodName)) rfl hown (mvT hZ (hw _ (List.mem_of_getElem? (i := 4) rfl))) (mvT hZ (hw _ (List.mem_of_getElem? (i := 5) rfl))) (mvT hZ (hw _ (List.mem_of_getElem? (i := 6) rfl))) (by decide) (backOf (W := 1) (rmi1 l Z a0 hw [] a155 a148 cA148 v105 cs h155 n0 Z158 A155 F160 F161 A157 (S_COMPACT_STRINGS.ext O159.2) fr155 (Ne.symm n156) (by omega) (by omega)) hZ (hw _ (List.mem_of_getElem? (i := 6) rfl)) (hw _ (List.mem_of_getElem? (i := 3) rfl)) (by decide) (by decide)) (g := (mkF m 111 #[.val (.int p1), .val (.int p2), .val (.int p3), .val (.int p4), .val (.int (1 : Int32)), .val (.int v105), .val (.int v109), .val (.int v113), .val (.ref a148), .unset, .unset, .unset] [(.ref a148), (.ref a155), (.ref a155)])) rfl (by rw [hml]; rfl) (Steps.refl _) (a := a155) (argsL := [(.ref a148)]) (rest := [(.ref a155)]) (lenOf pd_4 rfl) rfl (by show 2 * 0 + _ ≤ _; exact Nat.le_of_eq rfl) (hb hby at_111) (fun _ _ => ⟨rfl, e155, (by decide : 2 + 1 ≤ _), (by decide : 5 + 1 ≤ _)⟩)
    dsimp only [Pt.U, Pt.locs, Pt.cells, Pt.slots] at X162 l162 y162 z162 st162 hQ162
    subst y162 z162
    obtain ⟨q_162, kb_162, by0_162, rfl, pp162, N162, Kc162, gc162_q, Ec162_a1, Fc162_0, Fc162_1, Ac162_q⟩ := hQ162
    have n163 : a155 ≠ q_162 := Nat.ne_of_lt (Nat.lt_of_lt_of_le A155.lt gc162_q)
    have n164 : a148 ≠ q_162 := Nat.ne_of_lt (Nat.lt_of_lt_of_le A157.lt gc162_q)
    have frq_162 : n0 ≤ q_162 := Nat.le_trans Z158 gc162_q
    have A165 : Arv Z T162.heap a148 cA148 .char (1 : Int32) [(.int v105)] (.int (0 : Int32)) := A157.keep Kc162 (ninS n156 nin0)
    have Z166 : n0 ≤ T162.heap.size := Nat.le_trans Z158 Kc162.1
    have O167 := O159.keep Kc162 (allS fr155 all0)
    have rby0_162 := rng32 by0_162
    have N162a : Fr n0 L162 := by rw [l162]; exact Fr.app N153 N162
    refine own_via st162 ?_
    show own_Go p e below (Q0 Z p1 p2 p3 p4 cs fv h0 n0) (own_FrW s room_1.cells room_1.slots) (T162.setTop (mkF m 114 #[.val (.int p1), .val (.int p2), .val (.int p3), .val (.int p4), .val (.int (1 : Int32)), .val (.int v105), .val (.int v109), .val (.int v113), .val (.ref a148), .unset, .unset, .unset] [(.ref a155)]))
    refine own_astore (pc' := 116) X162 hx #[.val (.int p1), .val (.int p2), .val (.int p3), .val (.int p4), .val (.int (1 : Int32)), .val (.int v105), .val (.int v109), .val (.int v113), .val (.ref a148), .val (.ref a155), .unset, .unset] rfl rfl (hb hby at_114) rfl ?_
    refine own_aload (pc' := 118) X162 hx rfl rfl (hb hby at_116) rfl ?_
    obtain ⟨_, _, ⟨T168, L168, k168, n168⟩, -, X168, ⟨Lc168, hQ168, l168, y168, z168⟩, st168⟩ := Jvm.LawKit.callS X162 hx (y := (⟨"com/example/sigillum/sigillum/Verdict", "invalid", "(Ljava/lang/String;)Lcom/example/sigillum/sigillum/Verdict;"⟩ : MethodName)) hown (mvT hZ (hw _ (List.mem_of_getElem? (i := 22) rfl))) (mvT hZ (hw _ (List.mem_of_getElem? (i := 23) rfl))) (mvT hZ (hw _ (List.mem_of_getElem? (i := 24) rfl))) (mvT hZ (hw _ (List.mem_of_getElem? (i := 25) rfl))) (by decide) (backOf (W := 0) (rmvn l Z a0 hw [] a155 T162.heap n0 Z166 Ec162_a1) hZ (hw _ (List.mem_of_getElem? (i := 25) rfl)) (hw _ (List.mem_of_getElem? (i := 24) rfl)) (by decide) (by decide)) (g := (mkF m 118 #[.val (.int p1), .val (.int p2), .val (.int p3), .val (.int p4), .val (.int (1 : Int32)), .val (.int v105), .val (.int v109), .val (.int v113), .val (.ref a148), .val (.ref a155), .unset, .unset] [(.ref a155)])) rfl (by rw [hml]; rfl) (argsL := [(.ref a155)]) (rest := []) (lenOf pd_15 rfl) rfl (by show 2 * 0 + _ ≤ _; exact Nat.le_of_eq rfl) (hb hby at_118) (fun _ _ => ⟨rfl, rfl, (by decide : 3 + 1 ≤ _), (by decide : 6 + 1 ≤ _)⟩)
    dsimp only [Pt.U, Pt.locs, Pt.cells, Pt.slots] at X168 l168 y168 z168 st168 hQ168
    subst y168 z168
    obtain ⟨q_168, rfl, pp168, N168, Kc168, gc168_q, Ec168_q, Fc168_0⟩ := hQ168
    have n169 : a155 ≠ q_168 := Nat.ne_of_lt (Nat.lt_of_lt_of_le Ec162_a1.lt gc168_q)
    have n170 : a148 ≠ q_168 := Nat.ne_of_lt (Nat.lt_of_lt_of_le A165.lt gc168_q)
    have n171 : q_162 ≠ q_168 := Nat.ne_of_lt (Nat.lt_of_lt_of_le Ac162_q.lt gc168_q)
    have frq_168 : n0 ≤ q_168 := Nat.le_trans Z166 gc168_q
    have F172 : Fld Z T168.heap a155 "java/lang/String" "value" "[B" (.ref q_162) := Fc162_0.keep Kc168 nin0
    have F173 : Fld Z T168.heap a155 "java/lang/String" "coder" "B" (.int (0 : Int32)) := Fc162_1.keep Kc168 nin0
    have E174 : Exa Z T168.heap a155 "java/lang/String" := Ec162_a1.keep Kc168
    have A175 : Arv Z T168.heap a148 cA148 .char (1 : Int32) [(.int v105)] (.int (0 : Int32)) := A165.keep Kc168 nin0
    have A176 : Arv Z T168.heap q_162 kb_162 .byte (1 : Int32) [(.int by0_162)] (.int (0 : Int32)) := Ac162_q.keep Kc168 nin0
    have Z177 : n0 ≤ T168.heap.size := Nat.le_trans Z166 Kc168.1
    have O178 := O167.keep Kc168 all0
    have N168a : Fr n0 L168 := by rw [l168]; exact Fr.app N162a N168
    refine own_by st168 ?_
    show own_Go p e below (Q0 Z p1 p2 p3 p4 cs fv h0 n0) (own_FrW s room_1.cells room_1.slots) (T168.setTop (mkF m 121 #[.val (.int p1), .val (.int p2), .val (.int p3), .val (.int p4), .val (.int (1 : Int32)), .val (.int v105), .val (.int v109), .val (.int v113), .val (.ref a148), .val (.ref a155), .unset, .unset] [(.ref q_168)]))
    refine own_astore (pc' := 123) X168 hx #[.val (.int p1), .val (.int p2), .val (.int p3), .val (.int p4), .val (.int (1 : Int32)), .val (.int v105), .val (.int v109), .val (.int v113), .val (.ref a148), .val (.ref a155), .val (.ref q_168), .unset] rfl rfl (hb hby at_121) rfl ?_
    refine own_aload (pc' := 125) X168 hx rfl rfl (hb hby at_123) rfl ?_
    obtain ⟨cq179, kq179, q179a, q179b, q179c⟩ := isOf hZ rfl Ec168_q
    obtain ⟨_, _, ⟨T179, L179, k179, n179⟩, -, X179, ⟨Lc179, hQ179, l179, y179, z179⟩, st179⟩ := X168.virtualBack hx (y := (⟨"com/example/sigillum/sigillum/Verdict", "isValid", "()Z"⟩ : MethodName)) (z := (⟨"com/example/sigillum/sigillum/Verdict", "isValid", "()Z"⟩ : MethodName)) hown (mvT hZ (hw _ (List.mem_of_getElem? (i := 39) rfl))) (mvT hZ (hw _ (List.mem_of_getElem? (i := 40) rfl))) (notFace_of_selects (args := #[]) (mvT hZ (hw _ (List.mem_of_getElem? (i := 42) rfl)))) (mvT hZ (hw _ (List.mem_of_getElem? (i := 42) rfl))) (mvT hZ (hw _ (List.mem_of_getElem? (i := 41) rfl))) (by decide) (backOf (W := 0) (rmiv l Z a0 hw [] q_168 a155 T168.heap n0 Z177 Fc168_0) hZ (hw _ (List.mem_of_getElem? (i := 43) rfl)) (hw _ (List.mem_of_getElem? (i := 24) rfl)) (by decide) (by decide)) q179a q179c (g := (mkF m 125 #[.val (.int p1), .val (.int p2), .val (.int p3), .val (.int p4), .val (.int (1 : Int32)), .val (.int v105), .val (.int v109), .val (.int v113), .val (.ref a148), .val (.ref a155), .val (.ref q_168), .unset] [(.ref q_168)])) rfl (by rw [hml]; rfl) (Steps.refl _) (argsL := []) (rest := []) (lenOf pd_6 rfl) rfl (by show 2 * 0 + _ ≤ _; exact Nat.le_of_eq rfl) (hb hby at_125) (fun _ _ => ⟨rfl, rfl, (by decide : 4 + 0 ≤ _), (by decide : 7 + 0 ≤ _)⟩)
    dsimp only [Pt.U, Pt.locs, Pt.cells, Pt.slots] at X179 l179 y179 z179 st179 hQ179
    subst y179 z179
    obtain ⟨rfl, pp179, N179, e179⟩ := hQ179
    have N179a : Fr n0 L179 := by rw [l179]; exact Fr.app N168a N179
    refine own_via st179 ?_
    show own_Go p e below (Q0 Z p1 p2 p3 p4 cs fv h0 n0) (own_FrW s room_1.cells room_1.slots) (T179.setTop (mkF m 128 #[.val (.int p1), .val (.int p2), .val (.int p3), .val (.int p4), .val (.int (1 : Int32)), .val (.int v105), .val (.int v109), .val (.int v113), .val (.ref a148), .val (.ref a155), .val (.ref q_168), .unset] [(.int (0 : Int32))]))
    refine own_ifYes (pc' := 133) X179 hx (hb hby at_128) (by decide) (by decide) (by decide) ?_
    refine own_aload (pc' := 135) X179 hx rfl rfl (hb hby at_133) rfl ?_
    obtain ⟨cq180, kq180, q180a, q180b, q180c⟩ := isOf hZ e179 Ec168_q
    obtain ⟨_, _, ⟨T180, L180, k180, n180⟩, -, X180, ⟨Lc180, hQ180, l180, y180, z180⟩, st180⟩ := X179.virtualBack hx (y := (⟨"com/example/sigillum/sigillum/Verdict", "reason", "()Ljava/lang/String;"⟩ : MethodName)) (z := (⟨"com/example/sigillum/sigillum/Verdict", "reason", "()Ljava/lang/String;"⟩ : MethodName)) hown (mvT hZ (hw _ (List.mem_of_getElem? (i := 44) rfl))) (mvT hZ (hw _ (List.mem_of_getElem? (i := 45) rfl))) (notFace_of_selects (args := #[]) (mvT hZ (hw _ (List.mem_of_getElem? (i := 47) rfl)))) (mvT hZ (hw _ (List.mem_of_getElem? (i := 47) rfl))) (mvT hZ (hw _ (List.mem_of_getElem? (i := 46) rfl))) (by decide) (backOf (W := 0) (rmre l Z a0 hw [] q_168 a155 T168.heap n0 Z177 Fc168_0) hZ (hw _ (List.mem_of_getElem? (i := 48) rfl)) (hw _ (List.mem_of_getElem? (i := 24) rfl)) (by decide) (by decide)) q180a q180c (g := (mkF m 135 #[.val (.int p1), .val (.int p2), .val (.int p3), .val (.int p4), .val (.int (1 : Int32)), .val (.int v105), .val (.int v109), .val (.int v113), .val (.ref a148), .val (.ref a155), .val (.ref q_168), .unset] [(.ref q_168)])) rfl (by rw [hml]; rfl) (Steps.refl _) (argsL := []) (rest := []) (lenOf pd_16 rfl) rfl (by show 2 * 0 + _ ≤ _; exact Nat.le_of_eq rfl) (hb hby at_135) (fun _ _ => ⟨rfl, e179, (by decide : 4 + 0 ≤ _), (by decide : 7 + 0 ≤ _)⟩)
    dsimp only [Pt.U, Pt.locs, Pt.cells, Pt.slots] at X180 l180 y180 z180 st180 hQ180
    subst y180 z180
    obtain ⟨rfl, pp180, N180, e180⟩ := hQ180
    have N180a : Fr n0 L180 := by rw [l180]; exact Fr.app N179a N180
    refine own_via st180 ?_
    show own_Go p e below (Q0 Z p1 p2 p3 p4 cs fv h0 n0) (own_FrW s room_1.cells room_1.slots) (T180.setTop (mkF m 138 #[.val (.int p1), .val (.int p2), .val (.int p3), .val (.int p4), .val (.int (1 : Int32)), .val (.int v105), .val (.int v109), .val (.int v113), .val (.ref a148), .val (.ref a155), .val (.ref q_168), .unset] [(.ref a155)]))
    refine own_astore (pc' := 140) X180 hx #[.val (.int p1), .val (.int p2), .val (.int p3), .val (.int p4), .val (.int (1 : Int32)), .val (.int v105), .val (.int v109), .val (.int v113), .val (.ref a148), .val (.ref a155), .val (.ref q_168), .val (.ref a155)] rfl rfl (hb hby at_138) rfl ?_
    refine own_aload (pc' := 142) X180 hx rfl rfl (hb hby at_140) rfl ?_
    obtain ⟨cq181, kq181, q181a, q181b, q181c⟩ := isOf hZ e180 E174
    obtain ⟨_, _, ⟨T181, L181, k181, n181⟩, -, X181, ⟨Lc181, hQ181, l181, y181, z181⟩, st181⟩ := X180.virtualBack hx (y := (⟨"java/lang/String", "length", "()I"⟩ : MethodName)) (z := (⟨"java/lang/String", "length", "()I"⟩ : MethodName)) hown (mvT hZ (hw _ (List.mem_of_getElem? (i := 49) rfl))) (mvT hZ (hw _ (List.mem_of_getElem? (i := 50) rfl))) (notFace_of_selects (args := #[]) (mvT hZ (hw _ (List.mem_of_getElem? (i := 52) rfl)))) (mvT hZ (hw _ (List.mem_of_getElem? (i := 52) rfl))) (mvT hZ (hw _ (List.mem_of_getElem? (i := 51) rfl))) (by decide) (backOf (W := 0) (rmln1 l Z a0 hw [] a155 q_162 kb_162 by0_162 cs T168.heap n0 Z177 E174 F172 F173 A176 (S_COMPACT_STRINGS.ext O178.2) (by omega)) hZ (hw _ (List.mem_of_getElem? (i := 53) rfl)) (hw _ (List.mem_of_getElem? (i := 3) rfl)) (by decide) (by decide)) q181a q181c (g := (mkF m 142 #[.val (.int p1), .val (.int p2), .val (.int p3), .val (.int p4), .val (.int (1 : Int32)), .val (.int v105), .val (.int v109), .val (.int v113), .val (.ref a148), .val (.ref a155), .val (.ref q_168), .val (.ref a155)] [(.ref a155)])) rfl (by rw [hml]; rfl) (Steps.refl _) (argsL := []) (rest := []) (lenOf pd_11 rfl) rfl (by show 2 * 0 + _ ≤ _; exact Nat.le_of_eq rfl) (hb hby at_142) (fun _ _ => ⟨rfl, e180, (by decide : 4 + 0 ≤ _), (by decide : 7 + 0 ≤ _)⟩)
    dsimp only [Pt.U, Pt.locs, Pt.cells, Pt.slots] at X181 l181 y181 z181 st181 hQ181
    subst y181 z181
    obtain ⟨rfl, pp181, N181, e181⟩ := hQ181
    have N181a : Fr n0 L181 := by rw [l181]; exact Fr.app N180a N181
    refine own_via st181 ?_
    show own_Go p e below (Q0 Z p1 p2 p3 p4 cs fv h0 n0) (own_FrW s room_1.cells room_1.slots) (T181.setTop (mkF m 145 #[.val (.int p1), .val (.int p2), .val (.int p3), .val (.int p4), .val (.int (1 : Int32)), .val (.int v105), .val (.int v109), .val (.int v113), .val (.ref a148), .val (.ref a155), .val (.ref q_168), .val (.ref a155)] [(.int (1 : Int32))]))
    refine own_iload (pc' := 147) X181 hx rfl (hb hby at_145) rfl ?_
    refine own_icmpYes (pc' := 152) X181 hx (hb hby at_147) (by decide) (by decide) (by decide) ?_
    refine own_iload (pc' := 154) X181 hx rfl (hb hby at_152) rfl ?_
    refine own_iconst (pc' := 155) X181 hx (1 : Int32) (by decide) (hb hby at_154) rfl ?_
    refine own_icmpNo (pc' := 158) X181 hx (by decide) (hb hby at_155) rfl ?_
    refine own_aload (pc' := 160) X181 hx rfl rfl (hb hby at_158) rfl ?_
    refine own_iconst (pc' := 161) X181 hx (0 : Int32) (by decide) (hb hby at_160) rfl ?_
    obtain ⟨cq182, kq182, q182a, q182b, q182c⟩ := isOf hZ e181 E174
    obtain ⟨_, _, ⟨T182, L182, k182, n182⟩, -, X182, ⟨Lc182, hQ182, l182, y182, z182⟩, st182⟩ := X181.virtualBack hx (y := (⟨"java/lang/String", "charAt", "(I)C"⟩ : MethodName)) (z := (⟨"java/lang/String", "charAt", "(I)C"⟩ : MethodName)) hown (mvT hZ (hw _ (List.mem_of_getElem? (i := 75) rfl))) (mvT hZ (hw _ (List.mem_of_getElem? (i := 76) rfl))) (notFace_of_selects (args := #[]) (mvT hZ (hw _ (List.mem_of_getElem? (i := 78) rfl)))) (mvT hZ (hw _ (List.mem_of_getElem? (i := 78) rfl))) (mvT hZ (hw _ (List.mem_of_getElem? (i := 77) rfl))) (by decide) (backOf (W := 0) (rmca0_1 l Z a0 hw [] a155 q_162 kb_162 by0_162 cs fv T168.heap n0 Z177 E174 F172 F173 A176 (S_COMPACT_STRINGS.ext O178.2) (S_SIOOBE_FORMATTER.ext O178.2) (by omega) hfv (by omega)) hZ (hw _ (List.mem_of_getElem? (i := 79) rfl)) (hw _ (List.mem_of_getElem? (i := 3) rfl)) (by decide) (by decide)) q182a q182c (g := (mkF m 161 #[.val (.int p1), .val (.int p2), .val (.int p3), .val (.int p4), .val (.int (1 : Int32)), .val (.int v105), .val (.int v109), .val (.int v113), .val (.ref a148), .val (.ref a155), .val (.ref q_168), .val (.ref a155)] [(.int (0 : Int32)), (.ref a155)])) rfl (by rw [hml]; rfl) (Steps.refl _) (argsL := [(.int (0 : Int32))]) (rest := []) (lenOf pd_10 rfl) rfl (by show 2 * 0 + _ ≤ _; exact Nat.le_of_eq rfl) (hb hby at_161) (fun _ _ => ⟨rfl, e181, (by decide : 4 + 0 ≤ _), (by decide : 7 + 0 ≤ _)⟩)
    dsimp only [Pt.U, Pt.locs, Pt.cells, Pt.slots] at X182 l182 y182 z182 st182 hQ182
    subst y182 z182
    obtain ⟨r_182, rfl, pp182, N182, e182⟩ := hQ182
    have rr_182 := rng32 r_182
    have N182a : Fr n0 L182 := by rw [l182]; exact Fr.app N181a N182
    refine own_via st182 ?_
    show own_Go p e below (Q0 Z p1 p2 p3 p4 cs fv h0 n0) (own_FrW s room_1.cells room_1.slots) (T182.setTop (mkF m 164 #[.val (.int p1), .val (.int p2), .val (.int p3), .val (.int p4), .val (.int (1 : Int32)), .val (.int v105), .val (.int v109), .val (.int v113), .val (.ref a148), .val (.ref a155), .val (.ref q_168), .val (.ref a155)] [(.int r_182)]))
    refine own_iload (pc' := 166) X182 hx rfl (hb hby at_164) rfl ?_
    have b183 : r_182.toInt = v105.toInt := by omega
    refine own_icmpYes (pc' := 171) X182 hx (hb hby at_166) (own_yes_eq rfl rfl b183) (by decide) (by decide) ?_
    refine own_iload (pc' := 173) X182 hx rfl (hb hby at_171) rfl ?_
    refine own_iconst (pc' := 174) X182 hx (2 : Int32) (by decide) (hb hby at_173) rfl ?_
    refine own_icmpYes (pc' := 190) X182 hx (hb hby at_174) (by decide) (by decide) (by decide) ?_
    refine own_iload (pc' := 192) X182 hx rfl (hb hby at_190) rfl ?_
    refine own_iconst (pc' := 193) X182 hx (3 : Int32) (by decide) (hb hby at_192) rfl ?_
    refine own_icmpYes (pc' := 209) X182 hx (hb hby at_193) (by decide) (by decide) (by decide) ?_
    refine own_aload (pc' := 211) X182 hx rfl rfl (hb hby at_209) rfl ?_
    refine own_aload (pc' := 213) X182 hx rfl rfl (hb hby at_211) rfl ?_
    obtain ⟨cq184, kq184, q184a, q184b, q184c⟩ := isOf hZ e182 E174
    obtain ⟨_, _, ⟨T184, L184, k184, n184⟩, -, X184, ⟨Lc184, hQ184, l184, y184, z184⟩, st184⟩ := X182.virtualBack hx (y := (⟨"java/lang/String", "equals", "(Ljava/lang/Object;)Z"⟩ : MethodName)) (z := (⟨"java/lang/String", "equals", "(Ljava/lang/Object;)Z"⟩ : MethodName)) hown (mvT hZ (hw _ (List.mem_of_getElem? (i := 60) rfl))) (mvT hZ (hw _ (List.mem_of_getElem? (i := 61) rfl))) (notFace_of_selects (args := #[]) (mvT hZ (hw _ (List.mem_of_getElem? (i := 63) rfl)))) (mvT hZ (hw _ (List.mem_of_getElem? (i := 63) rfl))) (mvT hZ (hw _ (List.mem_of_getElem? (i := 62) rfl))) (by decide) (backOf (W := 0) (rmeq l Z a0 hw [] a155 T168.heap n0 Z177 ) hZ (hw _ (List.mem_of_getElem? (i := 64) rfl)) (hw _ (List.mem_of_getElem? (i := 3) rfl)) (by decide) (by decide)) q184a q184c (g := (mkF m 213 #[.val (.int p1), .val (.int p2), .val (.int p3), .val (.int p4), .val (.int (1 : Int32)), .val (.int v105), .val (.int v109), .val (.int v113), .val (.ref a148), .val (.ref a155), .val (.ref q_168), .val (.ref a155)] [(.ref a155), (.ref a155)])) rfl (by rw [hml]; rfl) (Steps.refl _) (argsL := [(.ref a155)]) (rest := []) (lenOf pd_12 rfl) rfl (by show 2 * 0 + _ ≤ _; exact Nat.le_of_eq rfl) (hb hby at_213) (fun _ _ => ⟨rfl, e182, (by decide : 4 + 0 ≤ _), (by decide : 7 + 0 ≤ _)⟩)
    dsimp only [Pt.U, Pt.locs, Pt.cells, Pt.slots] at X184 l184 y184 z184 st184 hQ184
    subst y184 z184
    obtain ⟨rfl, pp184, N184, e184⟩ := hQ184
    have N184a : Fr n0 L184 := by rw [l184]; exact Fr.app N182a N184
    refine own_via st184 ?_
    show own_Go p e below (Q0 Z p1 p2 p3 p4 cs fv h0 n0) (own_FrW s room_1.cells room_1.slots) (T184.setTop (mkF m 216 #[.val (.int p1), .val (.int p2), .val (.int p3), .val (.int p4), .val (.int (1 : Int32)), .val (.int v105), .val (.int v109), .val (.int v113), .val (.ref a148), .val (.ref a155), .val (.ref q_168), .val (.ref a155)] [(.int (1 : Int32))]))
    refine own_retW (s := s) (vm₁ := s.vm) (nn := 0) X184 hx Bd.returns Bd.notSynchronized ((State.WarmedH.refl s).since 0) (Nat.zero_le _) (Or.inl ⟨rfl, by simp, _, rfl⟩) (hb hby at_216) rfl (by decide) (by decide) ?_
    show Q0 Z p1 p2 p3 p4 cs fv h0 n0 _ T184.heap _
    rw [e184]
    exact ⟨rfl, N184a⟩
  · obtain rfl : v101 = (2 : Int32) := Int32.toInt_inj.mp b115
    have kz185 : (2 : Int32).toInt = 2 := by decide
    refine own_iload (pc' := 31) X0 hx rfl (hb hby at_29) rfl ?_
    refine own_ifYes (pc' := 42) X0 hx (hb hby at_31) (by decide) (by decide) (by decide) ?_
    refine own_iload (pc' := 44) X0 hx rfl (hb hby at_42) rfl ?_
    refine own_iconst (pc' := 45) X0 hx (1 : Int32) (by decide) (hb hby at_44) rfl ?_
    refine own_icmpYes (pc' := 61) X0 hx (hb hby at_45) (by decide) (by decide) (by decide) ?_
    refine own_iload (pc' := 63) X0 hx rfl (hb hby at_61) rfl ?_
    refine own_iconst (pc' := 64) X0 hx (2 : Int32) (by decide) (hb hby at_63) rfl ?_
    refine own_icmpNo (pc' := 67) X0 hx (by decide) (hb hby at_64) rfl ?_
    refine own_iconst (pc' := 68) X0 hx (2 : Int32) (by decide) (hb hby at_67) rfl ?_
    obtain ⟨T186, h186, cA186, X186, e186, E186, Ar186, st186⟩ := newP X0 hx hZ (hw _ (List.mem_of_getElem? (i := 0) rfl)) e0 (g := (mkF m 68 #[.val (.int p1), .val (.int p2), .val (.int p3), .val (.int p4), .val (.int (2 : Int32)), .val (.int v105), .val (.int v109), .val (.int v113), .unset, .unset, .unset, .unset] [(.int (2 : Int32))])) rfl (hb hby at_68) (n := (2 : Int32)) rfl (by decide) (cap := 2) (by decide) (by decide) (by decide) (by decide)
    obtain ⟨a186, ga186⟩ : ∃ z, z = h0.size := ⟨_, rfl⟩
    rw [← ga186] at Ar186 st186
    have fr186 : n0 ≤ a186 := Nat.le_trans Z0 (Nat.le_of_eq ga186.symm)
    have Z187 : n0 ≤ h186.size := Nat.le_trans Z0 E186.1
    have O188 := O0.ext E186
    have A186 : Arv Z h186 a186 cA186 .char (2 : Int32) [(.int (0 : Int32)), (.int (0 : Int32))] (.int (0 : Int32)) := (Arv.new Ar186 (by decide)).pad (fun i => pad_rep [] (.int (0 : Int32)) 2 i)
    refine own_by st186 ?_
    show own_Go p e below (Q0 Z p1 p2 p3 p4 cs fv h0 n0) (own_FrW s room_1.cells room_1.slots) (T186.setTop (mkF m 70 #[.val (.int p1), .val (.int p2), .val (.int p3), .val (.int p4), .val (.int (2 : Int32)), .val (.int v105), .val (.int v109), .val (.int v113), .unset, .unset, .unset, .unset] [(.ref a186)]))
    refine own_dup (pc' := 71) X186 hx rfl (hb hby at_70) rfl ?_
    refine own_iconst (pc' := 72) X186 hx (0 : Int32) (by decide) (hb hby at_71) rfl ?_
    refine own_iload (pc' := 74) X186 hx rfl (hb hby at_72) rfl ?_
    obtain ⟨c189, B189, q189, s189, u189, H189, G189⟩ := id A186
    obtain ⟨T189, h189, X189, e189, W189, st189⟩ := stC X186 hx hZ e186 B189 (j := (0 : Int32)) (x := v105) (inb_of s189 (by decide)) (g := (mkF m 74 #[.val (.int p1), .val (.int p2), .val (.int p3), .val (.int p4), .val (.int (2 : Int32)), .val (.int v105), .val (.int v109), .val (.int v113), .unset, .unset, .unset, .unset] [(.int v105), (.int (0 : Int32)), (.ref a186), (.ref a186)])) rfl rfl (hb hby at_74)
    have m189 : nar .char v105 = v105 := own_nc (by omega)
    rw [m189] at W189
    have A189 : Arv Z h189 a186 cA186 .char (2 : Int32) [(.int v105), (.int (0 : Int32))] (.int (0 : Int32)) := Arv.set B189 q189 s189 u189 H189 G189 (own_fc (by omega)) W189 0 (by decide) (by simp)
    have Z190 : n0 ≤ h189.size := Nat.le_trans Z187 (Nat.le_of_eq W189.size.symm)
    have N191 := Fr.snoc X189 N0 fr186
    have O192 := O188.wr W189 fr186
    refine own_by st189 ?_
    show own_Go p e below (Q0 Z p1 p2 p3 p4 cs fv h0 n0) (own_FrW s room_1.cells room_1.slots) (T189.setTop (mkF m 75 #[.val (.int p1), .val (.int p2), .val (.int p3), .val (.int p4), .val (.int (2 : Int32)), .val (.int v105), .val (.int v109), .val (.int v113), .unset, .unset, .unset, .unset] [(.ref a186)]))
    refine own_dup (pc' := 76) X189 hx rfl (hb hby at_75) rfl ?_
    refine own_iconst (pc' := 77) X189 hx (1 : Int32) (by decide) (hb hby at_76) rfl ?_
    refine own_iload (pc' := 79) X189 hx rfl (hb hby at_77) rfl ?_
    obtain ⟨c193, B193, q193, s193, u193, H193, G193⟩ := id A189
    obtain ⟨T193, h193, X193, e193, W193, st193⟩ := stC X189 hx hZ e189 B193 (j := (1 : Int32)) (x := v109) (inb_of s193 (by decide)) (g := (mkF m 79 #[.val (.int p1), .val (.int p2), .val (.int p3), .val (.int p4), .val (.int (2 : Int32)), .val (.int v105), .val (.int v109), .val (.int v113), .unset, .unset, .unset, .unset] [(.int v109), (.int (1 : Int32)), (.ref a186), (.ref a186)])) rfl rfl (hb hby at_79)
    have m193 : nar .char v109 = v109 := own_nc (by omega)
    rw [m193] at W193
    have A193 : Arv Z h193 a186 cA186 .char (2 : Int32) [(.int v105), (.int v109)] (.int (0 : Int32)) := Arv.set B193 q193 s193 u193 H193 G193 (own_fc (by omega)) W193 1 (by decide) (by simp)
    have Z194 : n0 ≤ h193.size := Nat.le_trans Z190 (Nat.le_of_eq W193.size.symm)
    have N195 := Fr.snoc X193 N191 fr186
    have O196 := O192.wr W193 fr186
    refine own_by st193 ?_
    show own_Go p e below (Q0 Z p1 p2 p3 p4 cs fv h0 n0) (own_FrW s room_1.cells room_1.slots) (T193.setTop (mkF m 80 #[.val (.int p1), .val (.int p2), .val (.int p3), .val (.int p4), .val (.int (2 : Int32)), .val (.int v105), .val (.int v109), .val (.int v113), .unset, .unset, .unset, .unset] [(.ref a186)]))
    refine own_astore (pc' := 82) X193 hx #[.val (.int p1), .val (.int p2), .val (.int p3), .val (.int p4), .val (.int (2 : Int32)), .val (.int v105), .val (.int v109), .val (.int v113), .val (.ref a186), .unset, .unset, .unset] rfl rfl (hb hby at_80) rfl ?_
    refine own_goto (pc' := 105) X193 hx (hb hby at_82) (by decide) (by decide) ?_
    obtain ⟨T197, h197, X197, e197, E197, A197, D197, -, st197⟩ := newO X193 hx hZ hown (hw _ (List.mem_of_getElem? (i := 1) rfl)) (hw _ (List.mem_of_getElem? (i := 2) rfl)) (hw _ (List.mem_of_getElem? (i := 3) rfl)) e193 (g := (mkF m 105 #[.val (.int p1), .val (.int p2), .val (.int p3), .val (.int p4), .val (.int (2 : Int32)), .val (.int v105), .val (.int v109), .val (.int v113), .val (.ref a186), .unset, .unset, .unset] [])) rfl (hb hby at_105) (by decide) (by decide)
    obtain ⟨a197, ga197⟩ : ∃ z, z = h193.size := ⟨_, rfl⟩
    rw [← ga197] at A197 D197 st197
    have n198 : a186 ≠ a197 := Nat.ne_of_lt (ga197.symm ▸ A193.lt)
    have A199 : Arv Z h197 a186 cA186 .char (2 : Int32) [(.int v105), (.int v109)] (.int (0 : Int32)) := A193.ext E197
    have fr197 : n0 ≤ a197 := Nat.le_trans Z194 (Nat.le_of_eq ga197.symm)
    have Z200 : n0 ≤ h197.size := Nat.le_trans Z194 E197.1
    have O201 := O196.ext E197
    have F202 : Fld Z h197 a197 "java/lang/String" "value" "[B" .null := D197 (Or.inr (hw _ (List.mem_of_getElem? (i := 16) rfl))) (ty := (.array .byte)) (by decide)
    have F203 : Fld Z h197 a197 "java/lang/String" "coder" "B" (.int (0 : Int32)) := D197 (Or.inr (hw _ (List.mem_of_getElem? (i := 17) rfl))) (ty := .byte) (by decide)
    refine own_by st197 ?_
    show own_Go p e below (Q0 Z p1 p2 p3 p4 cs fv h0 n0) (own_FrW s room_1.cells room_1.slots) (T197.setTop (mkF m 108 #[.val (.int p1), .val (.int p2), .val (.int p3), .val (.int p4), .val (.int (2 : Int32)), .val (.int v105), .val (.int v109), .val (.int v113), .val (.ref a186), .unset, .unset, .unset] [(.ref a197)]))
    refine own_dup (pc' := 109) X197 hx rfl (hb hby at_108) rfl ?_
    refine own_aload (pc' := 111) X197 hx rfl rfl (hb hby at_109) rfl ?_
    obtain ⟨_, _, ⟨T204, L204, k204, n204⟩, -, X204, ⟨Lc204, hQ204, l204, y204, z204⟩, st204⟩ := X197.specialBack hx (y := (⟨"java/lang/String", "<init>", "([C)V"⟩ : MethodName)) rfl hown (mvT hZ (hw _ (List.mem_of_getElem? (i := 4) rfl))) (mvT hZ (hw _ (List.mem_of_getElem? (i := 5) rfl))) (mvT hZ (hw _ (List.mem_of_getElem? (i := 6) rfl))) (by decide) (backOf (W := 1) (rmi2 l Z a0 hw [] a197 a186 cA186 v105 v109 cs h197 n0 Z200 A197 F202 F203 A199 (S_COMPACT_STRINGS.ext O201.2) fr197 (Ne.symm n198) (by omega) (by omega) (by omega)) hZ (hw _ (List.mem_of_getElem? (i := 6) rfl)) (hw _ (List.mem_of_getElem? (i := 3) rfl)) (by decide) (by decide)) (g := (mkF m 111 #[.val (.int p1), .val (.int p2), .val (.int p3), .val (.int p4), .val (.int (2 : Int32)), .val (.int v105), .val (.int v109), .val (.int v113), .val (.ref a186), .unset, .unset, .unset] [(.ref a186), (.ref a197), (.ref a197)])) rfl (by rw [hml]; rfl) (Steps.refl _) (a := a197) (argsL := [(.ref a186)]) (rest := [(.ref a197)]) (lenOf pd_4 rfl) rfl (by show 2 * 0 + _ ≤ _; exact Nat.le_of_eq rfl) (hb hby at_111) (fun _ _ => ⟨rfl, e197, (by decide : 2 + 1 ≤ _), (by decide : 6 + 2 ≤ _)⟩)
    dsimp only [Pt.U, Pt.locs, Pt.cells, Pt.slots] at X204 l204 y204 z204 st204 hQ204
    subst y204 z204
    obtain ⟨q_204, kb_204, by0_204, by1_204, rfl, pp204, N204, Kc204, gc204_q, Ec204_a1, Fc204_0, Fc204_1, Ac204_q⟩ := hQ204
    have n205 : a197 ≠ q_204 := Nat.ne_of_lt (Nat.lt_of_lt_of_le A197.lt gc204_q)
    have n206 : a186 ≠ q_204 := Nat.ne_of_lt (Nat.lt_of_lt_of_le A199.lt gc204_q)
    have frq_204 : n0 ≤ q_204 := Nat.le_trans Z200 gc204_q
    have A207 : Arv Z T204.heap a186 cA186 .char (2 : Int32) [(.int v105), (.int v109)] (.int (0 : Int32)) := A199.keep Kc204 (ninS n198 nin0)
    have Z208 : n0 ≤ T204.heap.size := Nat.le_trans Z200 Kc204.1
    have O209 := O201.keep Kc204 (allS fr197 all0)
    have rby0_204 := rng32 by0_204
    have rby1_204 := rng32 by1_204
    have N204a : Fr n0 L204 := by rw [l204]; exact Fr.app N195 N204
    refine own_via st204 ?_
    show own_Go p e below (Q0 Z p1 p2 p3 p4 cs fv h0 n0) (own_FrW s room_1.cells room_1.slots) (T204.setTop (mkF m 114 #[.val (.int p1), .val (.int p2), .val (.int p3), .val (.int p4), .val (.int (2 : Int32)), .val (.int v105), .val (.int v109), .val (.int v113), .val (.ref a186), .unset, .unset, .unset] [(.ref a197)]))
    refine own_astore (pc' := 116) X204 hx #[.val (.int p1), .val (.int p2), .val (.int p3), .val (.int p4), .val (.int (2 : Int32)), .val (.int v105), .val (.int v109), .val (.int v113), .val (.ref a186), .val (.ref a197), .unset, .unset] rfl rfl (hb hby at_114) rfl ?_
    refine own_aload (pc' := 118) X204 hx rfl rfl (hb hby at_116) rfl ?_
    obtain ⟨_, _, ⟨T210, L210, k210, n210⟩, -, X210, ⟨Lc210, hQ210, l210, y210, z210⟩, st210⟩ := Jvm.LawKit.callS X204 hx (y := (⟨"com/example/sigillum/sigillum/Verdict", "invalid", "(Ljava/lang/String;)Lcom/example/sigillum/sigillum/Verdict;"⟩ : MethodName)) hown (mvT hZ (hw _ (List.mem_of_getElem? (i := 22) rfl))) (mvT hZ (hw _ (List.mem_of_getElem? (i := 23) rfl))) (mvT hZ (hw _ (List.mem_of_getElem? (i := 24) rfl))) (mvT hZ (hw _ (List.mem_of_getElem? (i := 25) rfl))) (by decide) (backOf (W := 0) (rmvn l Z a0 hw [] a197 T204.heap n0 Z208 Ec204_a1) hZ (hw _ (List.mem_of_getElem? (i := 25) rfl)) (hw _ (List.mem_of_getElem? (i := 24) rfl)) (by decide) (by decide)) (g := (mkF m 118 #[.val (.int p1), .val (.int p2), .val (.int p3), .val (.int p4), .val (.int (2 : Int32)), .val (.int v105), .val (.int v109), .val (.int v113), .val (.ref a186), .val (.ref a197), .unset, .unset] [(.ref a197)])) rfl (by rw [hml]; rfl) (argsL := [(.ref a197)]) (rest := []) (lenOf pd_15 rfl) rfl (by show 2 * 0 + _ ≤ _; exact Nat.le_of_eq rfl) (hb hby at_118) (fun _ _ => ⟨rfl, rfl, (by decide : 3 + 1 ≤ _), (by decide : 8 + 1 ≤ _)⟩)
    dsimp only [Pt.U, Pt.locs, Pt.cells, Pt.slots] at X210 l210 y210 z210 st210 hQ210
    subst y210 z210
    obtain ⟨q_210, rfl, pp210, N210, Kc210, gc210_q, Ec210_q, Fc210_0⟩ := hQ210
    have n211 : a197 ≠ q_210 := Nat.ne_of_lt (Nat.lt_of_lt_of_le Ec204_a1.lt gc210_q)
    have n212 : a186 ≠ q_210 := Nat.ne_of_lt (Nat.lt_of_lt_of_le A207.lt gc210_q)
    have n213 : q_204 ≠ q_210 := Nat.ne_of_lt (Nat.lt_of_lt_of_le Ac204_q.lt gc210_q)
    have frq_210 : n0 ≤ q_210 := Nat.le_trans Z208 gc210_q
    have F214 : Fld Z T210.heap a197 "java/lang/String" "value" "[B" (.ref q_204) := Fc204_0.keep Kc210 nin0
    have F215 : Fld Z T210.heap a197 "java/lang/String" "coder" "B" (.int (0 : Int32)) := Fc204_1.keep Kc210 nin0
    have E216 : Exa Z T210.heap a197 "java/lang/String" := Ec204_a1.keep Kc210
    have A217 : Arv Z T210.heap a186 cA186 .char (2 : Int32) [(.int v105), (.int v109)] (.int (0 : Int32)) := A207.keep Kc210 nin0
    have A218 : Arv Z T210.heap q_204 kb_204 .byte (2 : Int32) [(.int by0_204), (.int by1_204)] (.int (0 : Int32)) := Ac204_q.keep Kc210 nin0
    have Z219 : n0 ≤ T210.heap.size := Nat.le_trans Z208 Kc210.1
    have O220 := O209.keep Kc210 all0
    have N210a : Fr n0 L210 := by rw [l210]; exact Fr.app N204a N210
    refine own_by st210 ?_
    show own_Go p e below (Q0 Z p1 p2 p3 p4 cs fv h0 n0) (own_FrW s room_1.cells room_1.slots) (T210.setTop (mkF m 121 #[.val (.int p1), .val (.int p2), .val (.int p3), .val (.int p4), .val (.int (2 : Int32)), .val (.int v105), .val (.int v109), .val (.int v113), .val (.ref a186), .val (.ref a197), .unset, .unset] [(.ref q_210)]))
    refine own_astore (pc' := 123) X210 hx #[.val (.int p1), .val (.int p2), .val (.int p3), .val (.int p4), .val (.int (2 : Int32)), .val (.int v105), .val (.int v109), .val (.int v113), .val (.ref a186), .val (.ref a197), .val (.ref q_210), .unset] rfl rfl (hb hby at_121) rfl ?_
    refine own_aload (pc' := 125) X210 hx rfl rfl (hb hby at_123) rfl ?_
    obtain ⟨cq221, kq221, q221a, q221b, q221c⟩ := isOf hZ rfl Ec210_q
    obtain ⟨_, _, ⟨T221, L221, k221, n221⟩, -, X221, ⟨Lc221, hQ221, l221, y221, z221⟩, st221⟩ := X210.virtualBack hx (y := (⟨"com/example/sigillum/sigillum/Verdict", "isValid", "()Z"⟩ : MethodName)) (z := (⟨"com/example/sigillum/sigillum/Verdict", "isValid", "()Z"⟩ : MethodName)) hown (mvT hZ (hw _ (List.mem_of_getElem? (i := 39) rfl))) (mvT hZ (hw _ (List.mem_of_getElem? (i := 40) rfl))) (notFace_of_selects (args := #[]) (mvT hZ (hw _ (List.mem_of_getElem? (i := 42) rfl)))) (mvT hZ (hw _ (List.mem_of_getElem? (i := 42) rfl))) (mvT hZ (hw _ (List.mem_of_getElem? (i := 41) rfl))) (by decide) (backOf (W := 0) (rmiv l Z a0 hw [] q_210 a197 T210.heap n0 Z219 Fc210_0) hZ (hw _ (List.mem_of_getElem? (i := 43) rfl)) (hw _ (List.mem_of_getElem? (i := 24) rfl)) (by decide) (by decide)) q221a q221c (g := (mkF m 125 #[.val (.int p1), .val (.int p2), .val (.int p3), .val (.int p4), .val (.int (2 : Int32)), .val (.int v105), .val (.int v109), .val (.int v113), .val (.ref a186), .val (.ref a197), .val (.ref q_210), .unset] [(.ref q_210)])) rfl (by rw [hml]; rfl) (Steps.refl _) (argsL := []) (rest := []) (lenOf pd_6 rfl) rfl (by show 2 * 0 + _ ≤ _; exact Nat.le_of_eq rfl) (hb hby at_125) (fun _ _ => ⟨rfl, rfl, (by decide : 4 + 0 ≤ _), (by decide : 9 + 0 ≤ _)⟩)
    dsimp only [Pt.U, Pt.locs, Pt.cells, Pt.slots] at X221 l221 y221 z221 st221 hQ221
    subst y221 z221
    obtain ⟨rfl, pp221, N221, e221⟩ := hQ221
    have N221a : Fr n0 L221 := by rw [l221]; exact Fr.app N210a N221
    refine own_via st221 ?_
    show own_Go p e below (Q0 Z p1 p2 p3 p4 cs fv h0 n0) (own_FrW s room_1.cells room_1.slots) (T221.setTop (mkF m 128 #[.val (.int p1), .val (.int p2), .val (.int p3), .val (.int p4), .val (.int (2 : Int32)), .val (.int v105), .val (.int v109), .val (.int v113), .val (.ref a186), .val (.ref a197), .val (.ref q_210), .unset] [(.int (0 : Int32))]))
    refine own_ifYes (pc' := 133) X221 hx (hb hby at_128) (by decide) (by decide) (by decide) ?_
    refine own_aload (pc' := 135) X221 hx rfl rfl (hb hby at_133) rfl ?_
    obtain ⟨cq222, kq222, q222a, q222b, q222c⟩ := isOf hZ e221 Ec210_q
    obtain ⟨_, _, ⟨T222, L222, k222, n222⟩, -, X222, ⟨Lc222, hQ222, l222, y222, z222⟩, st222⟩ := X221.virtualBack hx (y := (⟨"com/example/sigillum/sigillum/Verdict", "reason", "()Ljava/lang/String;"⟩ : MethodName)) (z := (⟨"com/example/sigillum/sigillum/Verdict", "reason", "()Ljava/lang/String;"⟩ : MethodName)) hown (mvT hZ (hw _ (List.mem_of_getElem? (i := 44) rfl))) (mvT hZ (hw _ (List.mem_of_getElem? (i := 45) rfl))) (notFace_of_selects (args := #[]) (mvT hZ (hw _ (List.mem_of_getElem? (i := 47) rfl)))) (mvT hZ (hw _ (List.mem_of_getElem? (i := 47) rfl))) (mvT hZ (hw _ (List.mem_of_getElem? (i := 46) rfl))) (by decide) (backOf (W := 0) (rmre l Z a0 hw [] q_210 a197 T210.heap n0 Z219 Fc210_0) hZ (hw _ (List.mem_of_getElem? (i := 48) rfl)) (hw _ (List.mem_of_getElem? (i := 24) rfl)) (by decide) (by decide)) q222a q222c (g := (mkF m 135 #[.val (.int p1), .val (.int p2), .val (.int p3), .val (.int p4), .val (.int (2 : Int32)), .val (.int v105), .val (.int v109), .val (.int v113), .val (.ref a186), .val (.ref a197), .val (.ref q_210), .unset] [(.ref q_210)])) rfl (by rw [hml]; rfl) (Steps.refl _) (argsL := []) (rest := []) (lenOf pd_16 rfl) rfl (by show 2 * 0 + _ ≤ _; exact Nat.le_of_eq rfl) (hb hby at_135) (fun _ _ => ⟨rfl, e221, (by decide : 4 + 0 ≤ _), (by decide : 9 + 0 ≤ _)⟩)
    dsimp only [Pt.U, Pt.locs, Pt.cells, Pt.slots] at X222 l222 y222 z222 st222 hQ222
    subst y222 z222
    obtain ⟨rfl, pp222, N222, e222⟩ := hQ222
    have N222a : Fr n0 L222 := by rw [l222]; exact Fr.app N221a N222
    refine own_via st222 ?_
    show own_Go p e below (Q0 Z p1 p2 p3 p4 cs fv h0 n0) (own_FrW s room_1.cells room_1.slots) (T222.setTop (mkF m 138 #[.val (.int p1), .val (.int p2), .val (.int p3), .val (.int p4), .val (.int (2 : Int32)), .val (.int v105), .val (.int v109), .val (.int v113), .val (.ref a186), .val (.ref a197), .val (.ref q_210), .unset] [(.ref a197)]))
    refine own_astore (pc' := 140) X222 hx #[.val (.int p1), .val (.int p2), .val (.int p3), .val (.int p4), .val (.int (2 : Int32)), .val (.int v105), .val (.int v109), .val (.int v113), .val (.ref a186), .val (.ref a197), .val (.ref q_210), .val (.ref a197)] rfl rfl (hb hby at_138) rfl ?_
    refine own_aload (pc' := 142) X222 hx rfl rfl (hb hby at_140) rfl ?_
    obtain ⟨cq223, kq223, q223a, q223b, q223c⟩ := isOf hZ e222 E216
    obtain ⟨_, _, ⟨T223, L223, k223, n223⟩, -, X223, ⟨Lc223, hQ223, l223, y223, z223⟩, st223⟩ := X222.virtualBack hx (y := (⟨"java/lang/String", "length", "()I"⟩ : MethodName)) (z := (⟨"java/lang/String", "length", "()I"⟩ : MethodName)) hown (mvT hZ (hw _ (List.mem_of_getElem? (i := 49) rfl))) (mvT hZ (hw _ (List.mem_of_getElem? (i := 50) rfl))) (notFace_of_selects (args := #[]) (mvT hZ (hw _ (List.mem_of_getElem? (i := 52) rfl)))) (mvT hZ (hw _ (List.mem_of_getElem? (i := 52) rfl))) (mvT hZ (hw _ (List.mem_of_getElem? (i := 51) rfl))) (by decide) (backOf (W := 0) (rmln2 l Z a0 hw [] a197 q_204 kb_204 by0_204 by1_204 cs T210.heap n0 Z219 E216 F214 F215 A218 (S_COMPACT_STRINGS.ext O220.2) (by omega)) hZ (hw _ (List.mem_of_getElem? (i := 53) rfl)) (hw _ (List.mem_of_getElem? (i := 3) rfl)) (by decide) (by decide)) q223a q223c (g := (mkF m 142 #[.val (.int p1), .val (.int p2), .val (.int p3), .val (.int p4), .val (.int (2 : Int32)), .val (.int v105), .val (.int v109), .val (.int v113), .val (.ref a186), .val (.ref a197), .val (.ref q_210), .val (.ref a197)] [(.ref a197)])) rfl (by rw [hml]; rfl) (Steps.refl _) (argsL := []) (rest := []) (lenOf pd_11 rfl) rfl (by show 2 * 0 + _ ≤ _; exact Nat.le_of_eq rfl) (hb hby at_142) (fun _ _ => ⟨rfl, e222, (by decide : 4 + 0 ≤ _), (by decide : 9 + 0 ≤ _)⟩)
    dsimp only [Pt.U, Pt.locs, Pt.cells, Pt.slots] at X223 l223 y223 z223 st223 hQ223
    subst y223 z223
    obtain ⟨rfl, pp223, N223, e223⟩ := hQ223
    have N223a : Fr n0 L223 := by rw [l223]; exact Fr.app N222a N223
    refine own_via st223 ?_
    show own_Go p e below (Q0 Z p1 p2 p3 p4 cs fv h0 n0) (own_FrW s room_1.cells room_1.slots) (T223.setTop (mkF m 145 #[.val (.int p1), .val (.int p2), .val (.int p3), .val (.int p4), .val (.int (2 : Int32)), .val (.int v105), .val (.int v109), .val (.int v113), .val (.ref a186), .val (.ref a197), .val (.ref q_210), .val (.ref a197)] [(.int (2 : Int32))]))
    refine own_iload (pc' := 147) X223 hx rfl (hb hby at_145) rfl ?_
    refine own_icmpYes (pc' := 152) X223 hx (hb hby at_147) (by decide) (by decide) (by decide) ?_
    refine own_iload (pc' := 154) X223 hx rfl (hb hby at_152) rfl ?_
    refine own_iconst (pc' := 155) X223 hx (1 : Int32) (by decide) (hb hby at_154) rfl ?_
    refine own_icmpNo (pc' := 158) X223 hx (by decide) (hb hby at_155) rfl ?_
    refine own_aload (pc' := 160) X223 hx rfl rfl (hb hby at_158) rfl ?_
    refine own_iconst (pc' := 161) X223 hx (0 : Int32) (by decide) (hb hby at_160) rfl ?_
    obtain ⟨cq224, kq224, q224a, q224b, q224c⟩ := isOf hZ e223 E216
    obtain ⟨_, _, ⟨T224, L224, k224, n224⟩, -, X224, ⟨Lc224, hQ224, l224, y224, z224⟩, st224⟩ := X223.virtualBack hx (y := (⟨"java/lang/String", "charAt", "(I)C"⟩ : MethodName)) (z := (⟨"java/lang/String", "charAt", "(I)C"⟩ : MethodName)) hown (mvT hZ (hw _ (List.mem_of_getElem? (i := 75) rfl))) (mvT hZ (hw _ (List.mem_of_getElem? (i := 76) rfl))) (notFace_of_selects (args := #[]) (mvT hZ (hw _ (List.mem_of_getElem? (i := 78) rfl)))) (mvT hZ (hw _ (List.mem_of_getElem? (i := 78) rfl))) (mvT hZ (hw _ (List.mem_of_getElem? (i := 77) rfl))) (by decide) (backOf (W := 0) (rmca0_2 l Z a0 hw [] a197 q_204 kb_204 by0_204 by1_204 cs fv T210.heap n0 Z219 E216 F214 F215 A218 (S_COMPACT_STRINGS.ext O220.2) (S_SIOOBE_FORMATTER.ext O220.2) (by omega) hfv (by omega) (by omega)) hZ (hw _ (List.mem_of_getElem? (i := 79) rfl)) (hw _ (List.mem_of_getElem? (i := 3) rfl)) (by decide) (by decide)) q224a q224c (g := (mkF m 161 #[.val (.int p1), .val (.int p2), .val (.int p3), .val (.int p4), .val (.int (2 : Int32)), .val (.int v105), .val (.int v109), .val (.int v113), .val (.ref a186), .val (.ref a197), .val (.ref q_210), .val (.ref a197)] [(.int (0 : Int32)), (.ref a197)])) rfl (by rw [hml]; rfl) (Steps.refl _) (argsL := [(.int (0 : Int32))]) (rest := []) (lenOf pd_10 rfl) rfl (by show 2 * 0 + _ ≤ _; exact Nat.le_of_eq rfl) (hb hby at_161) (fun _ _ => ⟨rfl, e223, (by decide : 4 + 0 ≤ _), (by decide : 9 + 0 ≤ _)⟩)
    dsimp only [Pt.U, Pt.locs, Pt.cells, Pt.slots] at X224 l224 y224 z224 st224 hQ224
    subst y224 z224
    obtain ⟨r_224, rfl, pp224, N224, e224⟩ := hQ224
    have rr_224 := rng32 r_224
    have N224a : Fr n0 L224 := by rw [l224]; exact Fr.app N223a N224
    refine own_via st224 ?_
    show own_Go p e below (Q0 Z p1 p2 p3 p4 cs fv h0 n0) (own_FrW s room_1.cells room_1.slots) (T224.setTop (mkF m 164 #[.val (.int p1), .val (.int p2), .val (.int p3), .val (.int p4), .val (.int (2 : Int32)), .val (.int v105), .val (.int v109), .val (.int v113), .val (.ref a186), .val (.ref a197), .val (.ref q_210), .val (.ref a197)] [(.int r_224)]))
    refine own_iload (pc' := 166) X224 hx rfl (hb hby at_164) rfl ?_
    have b225 : r_224.toInt = v105.toInt := by omega
    refine own_icmpYes (pc' := 171) X224 hx (hb hby at_166) (own_yes_eq rfl rfl b225) (by decide) (by decide) ?_
    refine own_iload (pc' := 173) X224 hx rfl (hb hby at_171) rfl ?_
    refine own_iconst (pc' := 174) X224 hx (2 : Int32) (by decide) (hb hby at_173) rfl ?_
    refine own_icmpNo (pc' := 177) X224 hx (by decide) (hb hby at_174) rfl ?_
    refine own_aload (pc' := 179) X224 hx rfl rfl (hb hby at_177) rfl ?_
    refine own_iconst (pc' := 180) X224 hx (1 : Int32) (by decide) (hb hby at_179) rfl ?_
    obtain ⟨cq226, kq226, q226a, q226b, q226c⟩ := isOf hZ e224 E216
    obtain ⟨_, _, ⟨T226, L226, k226, n226⟩, -, X226, ⟨Lc226, hQ226, l226, y226, z226⟩, st226⟩ := X224.virtualBack hx (y := (⟨"java/lang/String", "charAt", "(I)C"⟩ : MethodName)) (z := (⟨"java/lang/String", "charAt", "(I)C"⟩ : MethodName)) hown (mvT hZ (hw _ (List.mem_of_getElem? (i := 75) rfl))) (mvT hZ (hw _ (List.mem_of_getElem? (i := 76) rfl))) (notFace_of_selects (args := #[]) (mvT hZ (hw _ (List.mem_of_getElem? (i := 78) rfl)))) (mvT hZ (hw _ (List.mem_of_getElem? (i := 78) rfl))) (mvT hZ (hw _ (List.mem_of_getElem? (i := 77) rfl))) (by decide) (backOf (W := 0) (rmca1_2 l Z a0 hw [] a197 q_204 kb_204 by0_204 by1_204 cs fv T210.heap n0 Z219 E216 F214 F215 A218 (S_COMPACT_STRINGS.ext O220.2) (S_SIOOBE_FORMATTER.ext O220.2) (by omega) hfv (by omega) (by omega)) hZ (hw _ (List.mem_of_getElem? (i := 79) rfl)) (hw _ (List.mem_of_getElem? (i := 3) rfl)) (by decide) (by decide)) q226a q226c (g := (mkF m 180 #[.val (.int p1), .val (.int p2), .val (.int p3), .val (.int p4), .val (.int (2 : Int32)), .val (.int v105), .val (.int v109), .val (.int v113), .val (.ref a186), .val (.ref a197), .val (.ref q_210), .val (.ref a197)] [(.int (1 : Int32)), (.ref a197)])) rfl (by rw [hml]; rfl) (Steps.refl _) (argsL := [(.int (1 : Int32))]) (rest := []) (lenOf pd_10 rfl) rfl (by show 2 * 0 + _ ≤ _; exact Nat.le_of_eq rfl) (hb hby at_180) (fun _ _ => ⟨rfl, e224, (by decide : 4 + 0 ≤ _), (by decide : 9 + 0 ≤ _)⟩)
    dsimp only [Pt.U, Pt.locs, Pt.cells, Pt.slots] at X226 l226 y226 z226 st226 hQ226
    subst y226 z226
    obtain ⟨r_226, rfl, pp226, N226, e226⟩ := hQ226
    have rr_226 := rng32 r_226
    have N226a : Fr n0 L226 := by rw [l226]; exact Fr.app N224a N226
    refine own_via st226 ?_
    show own_Go p e below (Q0 Z p1 p2 p3 p4 cs fv h0 n0) (own_FrW s room_1.cells room_1.slots) (T226.setTop (mkF m 183 #[.val (.int p1), .val (.int p2), .val (.int p3), .val (.int p4), .val (.int (2 : Int32)), .val (.int v105), .val (.int v109), .val (.int v113), .val (.ref a186), .val (.ref a197), .val (.ref q_210), .val (.ref a197)] [(.int r_226)]))
    refine own_iload (pc' := 185) X226 hx rfl (hb hby at_183) rfl ?_
    have b227 : r_226.toInt = v109.toInt := by omega
    refine own_icmpYes (pc' := 190) X226 hx (hb hby at_185) (own_yes_eq rfl rfl b227) (by decide) (by decide) ?_
    refine own_iload (pc' := 192) X226 hx rfl (hb hby at_190) rfl ?_
    refine own_iconst (pc' := 193) X226 hx (3 : Int32) (by decide) (hb hby at_192) rfl ?_
    refine own_icmpYes (pc' := 209) X226 hx (hb hby at_193) (by decide) (by decide) (by decide) ?_
    refine own_aload (pc' := 211) X226 hx rfl rfl (hb hby at_209) rfl ?_
    refine own_aload (pc' := 213) X226 hx rfl rfl (hb hby at_211) rfl ?_
    obtain ⟨cq228, kq228, q228a, q228b, q228c⟩ := isOf hZ e226 E216
    obtain ⟨_, _, ⟨T228, L228, k228, n228⟩, -, X228, ⟨Lc228, hQ228, l228, y228, z228⟩, st228⟩ := X226.virtualBack hx (y := (⟨"java/lang/String", "equals", "(Ljava/lang/Object;)Z"⟩ : MethodName)) (z := (⟨"java/lang/String", "equals", "(Ljava/lang/Object;)Z"⟩ : MethodName)) hown (mvT hZ (hw _ (List.mem_of_getElem? (i := 60) rfl))) (mvT hZ (hw _ (List.mem_of_getElem? (i := 61) rfl))) (notFace_of_selects (args := #[]) (mvT hZ (hw _ (List.mem_of_getElem? (i := 63) rfl)))) (mvT hZ (hw _ (List.mem_of_getElem? (i := 63) rfl))) (mvT hZ (hw _ (List.mem_of_getElem? (i := 62) rfl))) (by decide) (backOf (W := 0) (rmeq l Z a0 hw [] a197 T210.heap n0 Z219 ) hZ (hw _ (List.mem_of_getElem? (i := 64) rfl)) (hw _ (List.mem_of_getElem? (i := 3) rfl)) (by decide) (by decide)) q228a q228c (g := (mkF m 213 #[.val (.int p1), .val (.int p2), .val (.int p3), .val (.int p4), .val (.int (2 : Int32)), .val (.int v105), .val (.int v109), .val (.int v113), .val (.ref a186), .val (.ref a197), .val (.ref q_210), .val (.ref a197)] [(.ref a197), (.ref a197)])) rfl (by rw [hml]; rfl) (Steps.refl _) (argsL := [(.ref a197)]) (rest := []) (lenOf pd_12 rfl) rfl (by show 2 * 0 + _ ≤ _; exact Nat.le_of_eq rfl) (hb hby at_213) (fun _ _ => ⟨rfl, e226, (by decide : 4 + 0 ≤ _), (by decide : 9 + 0 ≤ _)⟩)
    dsimp only [Pt.U, Pt.locs, Pt.cells, Pt.slots] at X228 l228 y228 z228 st228 hQ228
    subst y228 z228
    obtain ⟨rfl, pp228, N228, e228⟩ := hQ228
    have N228a : Fr n0 L228 := by rw [l228]; exact Fr.app N226a N228
    refine own_via st228 ?_
    show own_Go p e below (Q0 Z p1 p2 p3 p4 cs fv h0 n0) (own_FrW s room_1.cells room_1.slots) (T228.setTop (mkF m 216 #[.val (.int p1), .val (.int p2), .val (.int p3), .val (.int p4), .val (.int (2 : Int32)), .val (.int v105), .val (.int v109), .val (.int v113), .val (.ref a186), .val (.ref a197), .val (.ref q_210), .val (.ref a197)] [(.int (1 : Int32))]))
    refine own_retW (s := s) (vm₁ := s.vm) (nn := 0) X228 hx Bd.returns Bd.notSynchronized ((State.WarmedH.refl s).since 0) (Nat.zero_le _) (Or.inl ⟨rfl, by simp, _, rfl⟩) (hb hby at_216) rfl (by decide) (by decide) ?_
    show Q0 Z p1 p2 p3 p4 cs fv h0 n0 _ T228.heap _
    rw [e228]
    exact ⟨rfl, N228a⟩
  · obtain rfl : v101 = (3 : Int32) := Int32.toInt_inj.mp b115
    have kz229 : (3 : Int32).toInt = 3 := by decide
    refine own_iload (pc' := 31) X0 hx rfl (hb hby at_29) rfl ?_
    refine own_ifYes (pc' := 42) X0 hx (hb hby at_31) (by decide) (by decide) (by decide) ?_
    refine own_iload (pc' := 44) X0 hx rfl (hb hby at_42) rfl ?_
    refine own_iconst (pc' := 45) X0 hx (1 : Int32) (by decide) (hb hby at_44) rfl ?_
    refine own_icmpYes (pc' := 61) X0 hx (hb hby at_45) (by decide) (by decide) (by decide) ?_
    refine own_iload (pc' := 63) X0 hx rfl (hb hby at_61) rfl ?_
    refine own_iconst (pc' := 64) X0 hx (2 : Int32) (by decide) (hb hby at_63) rfl ?_
    refine own_icmpYes (pc' := 85) X0 hx (hb hby at_64) (by decide) (by decide) (by decide) ?_
    refine own_iconst (pc' := 86) X0 hx (3 : Int32) (by decide) (hb hby at_85) rfl ?_
    obtain ⟨T230, h230, cA230, X230, e230, E230, Ar230, st230⟩ := newP X0 hx hZ (hw _ (List.mem_of_getElem? (i := 0) rfl)) e0 (g := (mkF m 86 #[.val (.int p1), .val (.int p2), .val (.int p3), .val (.int p4), .val (.int (3 : Int32)), .val (.int v105), .val (.int v109), .val (.int v113), .unset, .unset, .unset, .unset] [(.int (3 : Int32))])) rfl (hb hby at_86) (n := (3 : Int32)) rfl (by decide) (cap := 3) (by decide) (by decide) (by decide) (by decide)
    obtain ⟨a230, ga230⟩ : ∃ z, z = h0.size := ⟨_, rfl⟩
    rw [← ga230] at Ar230 st230
    have fr230 : n0 ≤ a230 := Nat.le_trans Z0 (Nat.le_of_eq ga230.symm)
    have Z231 : n0 ≤ h230.size := Nat.le_trans Z0 E230.1
    have O232 := O0.ext E230
    have A230 : Arv Z h230 a230 cA230 .char (3 : Int32) [(.int (0 : Int32)), (.int (0 : Int32)), (.int (0 : Int32))] (.int (0 : Int32)) := (Arv.new Ar230 (by decide)).pad (fun i => pad_rep [] (.int (0 : Int32)) 3 i)
    refine own_by st230 ?_
    show own_Go p e below (Q0 Z p1 p2 p3 p4 cs fv h0 n0) (own_FrW s room_1.cells room_1.slots) (T230.setTop (mkF m 88 #[.val (.int p1), .val (.int p2), .val (.int p3), .val (.int p4), .val (.int (3 : Int32)), .val (.int v105), .val (.int v109), .val (.int v113), .unset, .unset, .unset, .unset] [(.ref a230)]))
    refine own_dup (pc' := 89) X230 hx rfl (hb hby at_88) rfl ?_
    refine own_iconst (pc' := 90) X230 hx (0 : Int32) (by decide) (hb hby at_89) rfl ?_
    refine own_iload (pc' := 92) X230 hx rfl (hb hby at_90) rfl ?_
    obtain ⟨c233, B233, q233, s233, u233, H233, G233⟩ := id A230
    obtain ⟨T233, h233, X233, e233, W233, st233⟩ := stC X230 hx hZ e230 B233 (j := (0 : Int32)) (x := v105) (inb_of s233 (by decide)) (g := (mkF m 92 #[.val (.int p1), .val (.int p2), .val (.int p3), .val (.int p4), .val (.int (3 : Int32)), .val (.int v105), .val (.int v109), .val (.int v113), .unset, .unset, .unset, .unset] [(.int v105), (.int (0 : Int32)), (.ref a230), (.ref a230)])) rfl rfl (hb hby at_92)
    have m233 : nar .char v105 = v105 := own_nc (by omega)
    rw [m233] at W233
    have A233 : Arv Z h233 a230 cA230 .char (3 : Int32) [(.int v105), (.int (0 : Int32)), (.int (0 : Int32))] (.int (0 : Int32)) := Arv.set B233 q233 s233 u233 H233 G233 (own_fc (by omega)) W233 0 (by decide) (by simp)
    have Z234 : n0 ≤ h233.size := Nat.le_trans Z231 (Nat.le_of_eq W233.size.symm)
    have N235 := Fr.snoc X233 N0 fr230
    have O236 := O232.wr W233 fr230
    refine own_by st233 ?_
    show own_Go p e below (Q0 Z p1 p2 p3 p4 cs fv h0 n0) (own_FrW s room_1.cells room_1.slots) (T233.setTop (mkF m 93 #[.val (.int p1), .val (.int p2), .val (.int p3), .val (.int p4), .val (.int (3 : Int32)), .val (.int v105), .val (.int v109), .val (.int v113), .unset, .unset, .unset, .unset] [(.ref a230)]))
    refine own_dup (pc' := 94) X233 hx rfl (hb hby at_93) rfl ?_
    refine own_iconst (pc' := 95) X233 hx (1 : Int32) (by decide) (hb hby at_94) rfl ?_
    refine own_iload (pc' := 97) X233 hx rfl (hb hby at_95) rfl ?_
    obtain ⟨c237, B237, q237, s237, u237, H237, G237⟩ := id A233
    obtain ⟨T237, h237, X237, e237, W237, st237⟩ := stC X233 hx hZ e233 B237 (j := (1 : Int32)) (x := v109) (inb_of s237 (by decide)) (g := (mkF m 97 #[.val (.int p1), .val (.int p2), .val (.int p3), .val (.int p4), .val (.int (3 : Int32)), .val (.int v105), .val (.int v109), .val (.int v113), .unset, .unset, .unset, .unset] [(.int v109), (.int (1 : Int32)), (.ref a230), (.ref a230)])) rfl rfl (hb hby at_97)
    have m237 : nar .char v109 = v109 := own_nc (by omega)
    rw [m237] at W237
    have A237 : Arv Z h237 a230 cA230 .char (3 : Int32) [(.int v105), (.int v109), (.int (0 : Int32))] (.int (0 : Int32)) := Arv.set B237 q237 s237 u237 H237 G237 (own_fc (by omega)) W237 1 (by decide) (by simp)
    have Z238 : n0 ≤ h237.size := Nat.le_trans Z234 (Nat.le_of_eq W237.size.symm)
    have N239 := Fr.snoc X237 N235 fr230
    have O240 := O236.wr W237 fr230
    refine own_by st237 ?_
    show own_Go p e below (Q0 Z p1 p2 p3 p4 cs fv h0 n0) (own_FrW s room_1.cells room_1.slots) (T237.setTop (mkF m 98 #[.val (.int p1), .val (.int p2), .val (.int p3), .val (.int p4), .val (.int (3 : Int32)), .val (.int v105), .val (.int v109), .val (.int v113), .unset, .unset, .unset, .unset] [(.ref a230)]))
    refine own_dup (pc' := 99) X237 hx rfl (hb hby at_98) rfl ?_
    refine own_iconst (pc' := 100) X237 hx (2 : Int32) (by decide) (hb hby at_99) rfl ?_
    refine own_iload (pc' := 102) X237 hx rfl (hb hby at_100) rfl ?_
    obtain ⟨c241, B241, q241, s241, u241, H241, G241⟩ := id A237
    obtain ⟨T241, h241, X241, e241, W241, st241⟩ := stC X237 hx hZ e237 B241 (j := (2 : Int32)) (x := v113) (inb_of s241 (by decide)) (g := (mkF m 102 #[.val (.int p1), .val (.int p2), .val (.int p3), .val (.int p4), .val (.int (3 : Int32)), .val (.int v105), .val (.int v109), .val (.int v113), .unset, .unset, .unset, .unset] [(.int v113), (.int (2 : Int32)), (.ref a230), (.ref a230)])) rfl rfl (hb hby at_102)
    have m241 : nar .char v113 = v113 := own_nc (by omega)
    rw [m241] at W241
    have A241 : Arv Z h241 a230 cA230 .char (3 : Int32) [(.int v105), (.int v109), (.int v113)] (.int (0 : Int32)) := Arv.set B241 q241 s241 u241 H241 G241 (own_fc (by omega)) W241 2 (by decide) (by simp)
    have Z242 : n0 ≤ h241.size := Nat.le_trans Z238 (Nat.le_of_eq W241.size.symm)
    have N243 := Fr.snoc X241 N239 fr230
    have O244 := O240.wr W241 fr230
    refine own_by st241 ?_
    show own_Go p e below (Q0 Z p1 p2 p3 p4 cs fv h0 n0) (own_FrW s room_1.cells room_1.slots) (T241.setTop (mkF m 103 #[.val (.int p1), .val (.int p2), .val (.int p3), .val (.int p4), .val (.int (3 : Int32)), .val (.int v105), .val (.int v109), .val (.int v113), .unset, .unset, .unset, .unset] [(.ref a230)]))
    refine own_astore (pc' := 105) X241 hx #[.val (.int p1), .val (.int p2), .val (.int p3), .val (.int p4), .val (.int (3 : Int32)), .val (.int v105), .val (.int v109), .val (.int v113), .val (.ref a230), .unset, .unset, .unset] rfl rfl (hb hby at_103) rfl ?_
    obtain ⟨T245, h245, X245, e245, E245, A245, D245, -, st245⟩ := newO X241 hx hZ hown (hw _ (List.mem_of_getElem? (i := 1) rfl)) (hw _ (List.mem_of_getElem? (i := 2) rfl)) (hw _ (List.mem_of_getElem? (i := 3) rfl)) e241 (g := (mkF m 105 #[.val (.int p1), .val (.int p2), .val (.int p3), .val (.int p4), .val (.int (3 : Int32)), .val (.int v105), .val (.int v109), .val (.int v113), .val (.ref a230), .unset, .unset, .unset] [])) rfl (hb hby at_105) (by decide) (by decide)
    obtain ⟨a245, ga245⟩ : ∃ z, z = h241.size := ⟨_, rfl⟩
    rw [← ga245] at A245 D245 st245
    have n246 : a230 ≠ a245 := Nat.ne_of_lt (ga245.symm ▸ A241.lt)
    have A247 : Arv Z h245 a230 cA230 .char (3 : Int32) [(.int v105), (.int v109), (.int v113)] (.int (0 : Int32)) := A241.ext E245
    have fr245 : n0 ≤ a245 := Nat.le_trans Z242 (Nat.le_of_eq ga245.symm)
    have Z248 : n0 ≤ h245.size := Nat.le_trans Z242 E245.1
    have O249 := O244.ext E245
    have F250 : Fld Z h245 a245 "java/lang/String" "value" "[B" .null := D245 (Or.inr (hw _ (List.mem_of_getElem? (i := 16) rfl))) (ty := (.array .byte)) (by decide)
    have F251 : Fld Z h245 a245 "java/lang/String" "coder" "B" (.int (0 : Int32)) := D245 (Or.inr (hw _ (List.mem_of_getElem? (i := 17) rfl))) (ty := .byte) (by decide)
    refine own_by st245 ?_
    show own_Go p e below (Q0 Z p1 p2 p3 p4 cs fv h0 n0) (own_FrW s room_1.cells room_1.slots) (T245.setTop (mkF m 108 #[.val (.int p1), .val (.int p2), .val (.int p3), .val (.int p4), .val (.int (3 : Int32)), .val (.int v105), .val (.int v109), .val (.int v113), .val (.ref a230), .unset, .unset, .unset] [(.ref a245)]))
    refine own_dup (pc' := 109) X245 hx rfl (hb hby at_108) rfl ?_
    refine own_aload (pc' := 111) X245 hx rfl rfl (hb hby at_109) rfl ?_
    obtain ⟨_, _, ⟨T252, L252, k252, n252⟩, -, X252, ⟨Lc252, hQ252, l252, y252, z252⟩, st252⟩ := X245.specialBack hx (y := (⟨"java/lang/String", "<init>", "([C)V"⟩ : MethodName)) rfl hown (mvT hZ (hw _ (List.mem_of_getElem? (i := 4) rfl))) (mvT hZ (hw _ (List.mem_of_getElem? (i := 5) rfl))) (mvT hZ (hw _ (List.mem_of_getElem? (i := 6) rfl))) (by decide) (backOf (W := 1) (rmi3 l Z a0 hw [] a245 a230 cA230 v105 v109 v113 cs h245 n0 Z248 A245 F250 F251 A247 (S_COMPACT_STRINGS.ext O249.2) fr245 (Ne.symm n246) (by omega) (by omega) (by omega) (by omega)) hZ (hw _ (List.mem_of_getElem? (i := 6) rfl)) (hw _ (List.mem_of_getElem? (i := 3) rfl)) (by decide) (by decide)) (g := (mkF m 111 #[.val (.int p1), .val (.int p2), .val (.int p3), .val (.int p4), .val (.int (3 : Int32)), .val (.int v105), .val (.int v109), .val (.int v113), .val (.ref a230), .unset, .unset, .unset] [(.ref a230), (.ref a245), (.ref a245)])) rfl (by rw [hml]; rfl) (Steps.refl _) (a := a245) (argsL := [(.ref a230)]) (rest := [(.ref a245)]) (lenOf pd_4 rfl) rfl (by show 2 * 0 + _ ≤ _; exact Nat.le_of_eq rfl) (hb hby at_111) (fun _ _ => ⟨rfl, e245, (by decide : 2 + 1 ≤ _), (by decide : 7 + 3 ≤ _)⟩)
    dsimp only [Pt.U, Pt.locs, Pt.cells, Pt.slots] at X252 l252 y252 z252 st252 hQ252
    subst y252 z252
    obtain ⟨q_252, kb_252, by0_252, by1_252, by2_252, rfl, pp252, N252, Kc252, gc252_q, Ec252_a1, Fc252_0, Fc252_1, Ac252_q⟩ := hQ252
    have n253 : a245 ≠ q_252 := Nat.ne_of_lt (Nat.lt_of_lt_of_le A245.lt gc252_q)
    have n254 : a230 ≠ q_252 := Nat.ne_of_lt (Nat.lt_of_lt_of_le A247.lt gc252_q)
    have frq_252 : n0 ≤ q_252 := Nat.le_trans Z248 gc252_q
    have A255 : Arv Z T252.heap a230 cA230 .char (3 : Int32) [(.int v105), (.int v109), (.int v113)] (.int (0 : Int32)) := A247.keep Kc252 (ninS n246 nin0)
    have Z256 : n0 ≤ T252.heap.size := Nat.le_trans Z248 Kc252.1
    have O257 := O249.keep Kc252 (allS fr245 all0)
    have rby0_252 := rng32 by0_252
    have rby1_252 := rng32 by1_252
    have rby2_252 := rng32 by2_252
    have N252a : Fr n0 L252 := by rw [l252]; exact Fr.app N243 N252
    refine own_via st252 ?_
    show own_Go p e below (Q0 Z p1 p2 p3 p4 cs fv h0 n0) (own_FrW s room_1.cells room_1.slots) (T252.setTop (mkF m 114 #[.val (.int p1), .val (.int p2), .val (.int p3), .val (.int p4), .val (.int (3 : Int32)), .val (.int v105), .val (.int v109), .val (.int v113), .val (.ref a230), .unset, .unset, .unset] [(.ref a245)]))
    refine own_astore (pc' := 116) X252 hx #[.val (.int p1), .val (.int p2), .val (.int p3), .val (.int p4), .val (.int (3 : Int32)), .val (.int v105), .val (.int v109), .val (.int v113), .val (.ref a230), .val (.ref a245), .unset, .unset] rfl rfl (hb hby at_114) rfl ?_
    refine own_aload (pc' := 118) X252 hx rfl rfl (hb hby at_116) rfl ?_
    obtain ⟨_, _, ⟨T258, L258, k258, n258⟩, -, X258, ⟨Lc258, hQ258, l258, y258, z258⟩, st258⟩ := Jvm.LawKit.callS X252 hx (y := (⟨"com/example/sigillum/sigillum/Verdict", "invalid", "(Ljava/lang/String;)Lcom/example/sigillum/sigillum/Verdict;"⟩ : MethodName)) hown (mvT hZ (hw _ (List.mem_of_getElem? (i := 22) rfl))) (mvT hZ (hw _ (List.mem_of_getElem? (i := 23) rfl))) (mvT hZ (hw _ (List.mem_of_getElem? (i := 24) rfl))) (mvT hZ (hw _ (List.mem_of_getElem? (i := 25) rfl))) (by decide) (backOf (W := 0) (rmvn l Z a0 hw [] a245 T252.heap n0 Z256 Ec252_a1) hZ (hw _ (List.mem_of_getElem? (i := 25) rfl)) (hw _ (List.mem_of_getElem? (i := 24) rfl)) (by decide) (by decide)) (g := (mkF m 118 #[.val (.int p1), .val (.int p2), .val (.int p3), .val (.int p4), .val (.int (3 : Int32)), .val (.int v105), .val (.int v109), .val (.int v113), .val (.ref a230), .val (.ref a245), .unset, .unset] [(.ref a245)])) rfl (by rw [hml]; rfl) (argsL := [(.ref a245)]) (rest := []) (lenOf pd_15 rfl) rfl (by show 2 * 0 + _ ≤ _; exact Nat.le_of_eq rfl) (hb hby at_118) (fun _ _ => ⟨rfl, rfl, (by decide : 3 + 1 ≤ _), (by decide : 10 + 1 ≤ _)⟩)
    dsimp only [Pt.U, Pt.locs, Pt.cells, Pt.slots] at X258 l258 y258 z258 st258 hQ258
    subst y258 z258
    obtain ⟨q_258, rfl, pp258, N258, Kc258, gc258_q, Ec258_q, Fc258_0⟩ := hQ258
    have n259 : a245 ≠ q_258 := Nat.ne_of_lt (Nat.lt_of_lt_of_le Ec252_a1.lt gc258_q)
    have n260 : a230 ≠ q_258 := Nat.ne_of_lt (Nat.lt_of_lt_of_le A255.lt gc258_q)
    have n261 : q_252 ≠ q_258 := Nat.ne_of_lt (Nat.lt_of_lt_of_le Ac252_q.lt gc258_q)
    have frq_258 : n0 ≤ q_258 := Nat.le_trans Z256 gc258_q
    have F262 : Fld Z T258.heap a245 "java/lang/String" "value" "[B" (.ref q_252) := Fc252_0.keep Kc258 nin0
    have F263 : Fld Z T258.heap a245 "java/lang/String" "coder" "B" (.int (0 : Int32)) := Fc252_1.keep Kc258 nin0
    have E264 : Exa Z T258.heap a245 "java/lang/String" := Ec252_a1.keep Kc258
    have A265 : Arv Z T258.heap a230 cA230 .char (3 : Int32) [(.int v105), (.int v109), (.int v113)] (.int (0 : Int32)) := A255.keep Kc258 nin0
    have A266 : Arv Z T258.heap q_252 kb_252 .byte (3 : Int32) [(.int by0_252), (.int by1_252), (.int by2_252)] (.int (0 : Int32)) := Ac252_q.keep Kc258 nin0
    have Z267 : n0 ≤ T258.heap.size := Nat.le_trans Z256 Kc258.1
    have O268 := O257.keep Kc258 all0
    have N258a : Fr n0 L258 := by rw [l258]; exact Fr.app N252a N258
    refine own_by st258 ?_
    show own_Go p e below (Q0 Z p1 p2 p3 p4 cs fv h0 n0) (own_FrW s room_1.cells room_1.slots) (T258.setTop (mkF m 121 #[.val (.int p1), .val (.int p2), .val (.int p3), .val (.int p4), .val (.int (3 : Int32)), .val (.int v105), .val (.int v109), .val (.int v113), .val (.ref a230), .val (.ref a245), .unset, .unset] [(.ref q_258)]))
    refine own_astore (pc' := 123) X258 hx #[.val (.int p1), .val (.int p2), .val (.int p3), .val (.int p4), .val (.int (3 : Int32)), .val (.int v105), .val (.int v109), .val (.int v113), .val (.ref a230), .val (.ref a245), .val (.ref q_258), .unset] rfl rfl (hb hby at_121) rfl ?_
    refine own_aload (pc' := 125) X258 hx rfl rfl (hb hby at_123) rfl ?_
    obtain ⟨cq269, kq269, q269a, q269b, q269c⟩ := isOf hZ rfl Ec258_q
    obtain ⟨_, _, ⟨T269, L269, k269, n269⟩, -, X269, ⟨Lc269, hQ269, l269, y269, z269⟩, st269⟩ := X258.virtualBack hx (y := (⟨"com/example/sigillum/sigillum/Verdict", "isValid", "()Z"⟩ : MethodName)) (z := (⟨"com/example/sigillum/sigillum/Verdict", "isValid", "()Z"⟩ : MethodName)) hown (mvT hZ (hw _ (List.mem_of_getElem? (i := 39) rfl))) (mvT hZ (hw _ (List.mem_of_getElem? (i := 40) rfl))) (notFace_of_selects (args := #[]) (mvT hZ (hw _ (List.mem_of_getElem? (i := 42) rfl)))) (mvT hZ (hw _ (List.mem_of_getElem? (i := 42) rfl))) (mvT hZ (hw _ (List.mem_of_getElem? (i := 41) rfl))) (by decide) (backOf (W := 0) (rmiv l Z a0 hw [] q_258 a245 T258.heap n0 Z267 Fc258_0) hZ (hw _ (List.mem_of_getElem? (i := 43) rfl)) (hw _ (List.mem_of_getElem? (i := 24) rfl)) (by decide) (by decide)) q269a q269c (g := (mkF m 125 #[.val (.int p1), .val (.int p2), .val (.int p3), .val (.int p4), .val (.int (3 : Int32)), .val (.int v105), .val (.int v109), .val (.int v113), .val (.ref a230), .val (.ref a245), .val (.ref q_258), .unset] [(.ref q_258)])) rfl (by rw [hml]; rfl) (Steps.refl _) (argsL := []) (rest := []) (lenOf pd_6 rfl) rfl (by show 2 * 0 + _ ≤ _; exact Nat.le_of_eq rfl) (hb hby at_125) (fun _ _ => ⟨rfl, rfl, (by decide : 4 + 0 ≤ _), (by decide : 11 + 0 ≤ _)⟩)
    dsimp only [Pt.U, Pt.locs, Pt.cells, Pt.slots] at X269 l269 y269 z269 st269 hQ269
    subst y269 z269
    obtain ⟨rfl, pp269, N269, e269⟩ := hQ269
    have N269a : Fr n0 L269 := by rw [l269]; exact Fr.app N258a N269
    refine own_via st269 ?_
    show own_Go p e below (Q0 Z p1 p2 p3 p4 cs fv h0 n0) (own_FrW s room_1.cells room_1.slots) (T269.setTop (mkF m 128 #[.val (.int p1), .val (.int p2), .val (.int p3), .val (.int p4), .val (.int (3 : Int32)), .val (.int v105), .val (.int v109), .val (.int v113), .val (.ref a230), .val (.ref a245), .val (.ref q_258), .unset] [(.int (0 : Int32))]))
    refine own_ifYes (pc' := 133) X269 hx (hb hby at_128) (by decide) (by decide) (by decide) ?_
    refine own_aload (pc' := 135) X269 hx rfl rfl (hb hby at_133) rfl ?_
    obtain ⟨cq270, kq270, q270a, q270b, q270c⟩ := isOf hZ e269 Ec258_q
    obtain ⟨_, _, ⟨T270, L270, k270, n270⟩, -, X270, ⟨Lc270, hQ270, l270, y270, z270⟩, st270⟩ := X269.virtualBack hx (y := (⟨"com/example/sigillum/sigillum/Verdict", "reason", "()Ljava/lang/String;"⟩ : MethodName)) (z := (⟨"com/example/sigillum/sigillum/Verdict", "reason", "()Ljava/lang/String;"⟩ : MethodName)) hown (mvT hZ (hw _ (List.mem_of_getElem? (i := 44) rfl))) (mvT hZ (hw _ (List.mem_of_getElem? (i := 45) rfl))) (notFace_of_selects (args := #[]) (mvT hZ (hw _ (List.mem_of_getElem? (i := 47) rfl)))) (mvT hZ (hw _ (List.mem_of_getElem? (i := 47) rfl))) (mvT hZ (hw _ (List.mem_of_getElem? (i := 46) rfl))) (by decide) (backOf (W := 0) (rmre l Z a0 hw [] q_258 a245 T258.heap n0 Z267 Fc258_0) hZ (hw _ (List.mem_of_getElem? (i := 48) rfl)) (hw _ (List.mem_of_getElem? (i := 24) rfl)) (by decide) (by decide)) q270a q270c (g := (mkF m 135 #[.val (.int p1), .val (.int p2), .val (.int p3), .val (.int p4), .val (.int (3 : Int32)), .val (.int v105), .val (.int v109), .val (.int v113), .val (.ref a230), .val (.ref a245), .val (.ref q_258), .unset] [(.ref q_258)])) rfl (by rw [hml]; rfl) (Steps.refl _) (argsL := []) (rest := []) (lenOf pd_16 rfl) rfl (by show 2 * 0 + _ ≤ _; exact Nat.le_of_eq rfl) (hb hby at_135) (fun _ _ => ⟨rfl, e269, (by decide : 4 + 0 ≤ _), (by decide : 11 + 0 ≤ _)⟩)
    dsimp only [Pt.U, Pt.locs, Pt.cells, Pt.slots] at X270 l270 y270 z270 st270 hQ270
    subst y270 z270
    obtain ⟨rfl, pp270, N270, e270⟩ := hQ270
    have N270a : Fr n0 L270 := by rw [l270]; exact Fr.app N269a N270
    refine own_via st270 ?_
    show own_Go p e below (Q0 Z p1 p2 p3 p4 cs fv h0 n0) (own_FrW s room_1.cells room_1.slots) (T270.setTop (mkF m 138 #[.val (.int p1), .val (.int p2), .val (.int p3), .val (.int p4), .val (.int (3 : Int32)), .val (.int v105), .val (.int v109), .val (.int v113), .val (.ref a230), .val (.ref a245), .val (.ref q_258), .unset] [(.ref a245)]))
    refine own_astore (pc' := 140) X270 hx #[.val (.int p1), .val (.int p2), .val (.int p3), .val (.int p4), .val (.int (3 : Int32)), .val (.int v105), .val (.int v109), .val (.int v113), .val (.ref a230), .val (.ref a245), .val (.ref q_258), .val (.ref a245)] rfl rfl (hb hby at_138) rfl ?_
    refine own_aload (pc' := 142) X270 hx rfl rfl (hb hby at_140) rfl ?_
    obtain ⟨cq271, kq271, q271a, q271b, q271c⟩ := isOf hZ e270 E264
    obtain ⟨_, _, ⟨T271, L271, k271, n271⟩, -, X271, ⟨Lc271, hQ271, l271, y271, z271⟩, st271⟩ := X270.virtualBack hx (y := (⟨"java/lang/String", "length", "()I"⟩ : MethodName)) (z := (⟨"java/lang/String", "length", "()I"⟩ : MethodName)) hown (mvT hZ (hw _ (List.mem_of_getElem? (i := 49) rfl))) (mvT hZ (hw _ (List.mem_of_getElem? (i := 50) rfl))) (notFace_of_selects (args := #[]) (mvT hZ (hw _ (List.mem_of_getElem? (i := 52) rfl)))) (mvT hZ (hw _ (List.mem_of_getElem? (i := 52) rfl))) (mvT hZ (hw _ (List.mem_of_getElem? (i := 51) rfl))) (by decide) (backOf (W := 0) (rmln3 l Z a0 hw [] a245 q_252 kb_252 by0_252 by1_252 by2_252 cs T258.heap n0 Z267 E264 F262 F263 A266 (S_COMPACT_STRINGS.ext O268.2) (by omega)) hZ (hw _ (List.mem_of_getElem? (i := 53) rfl)) (hw _ (List.mem_of_getElem? (i := 3) rfl)) (by decide) (by decide)) q271a q271c (g := (mkF m 142 #[.val (.int p1), .val (.int p2), .val (.int p3), .val (.int p4), .val (.int (3 : Int32)), .val (.int v105), .val (.int v109), .val (.int v113), .val (.ref a230), .val (.ref a245), .val (.ref q_258), .val (.ref a245)] [(.ref a245)])) rfl (by rw [hml]; rfl) (Steps.refl _) (argsL := []) (rest := []) (lenOf pd_11 rfl) rfl (by show 2 * 0 + _ ≤ _; exact Nat.le_of_eq rfl) (hb hby at_142) (fun _ _ => ⟨rfl, e270, (by decide : 4 + 0 ≤ _), (by decide : 11 + 0 ≤ _)⟩)
    dsimp only [Pt.U, Pt.locs, Pt.cells, Pt.slots] at X271 l271 y271 z271 st271 hQ271
    subst y271 z271
    obtain ⟨rfl, pp271, N271, e271⟩ := hQ271
    have N271a : Fr n0 L271 := by rw [l271]; exact Fr.app N270a N271
    refine own_via st271 ?_
    show own_Go p e below (Q0 Z p1 p2 p3 p4 cs fv h0 n0) (own_FrW s room_1.cells room_1.slots) (T271.setTop (mkF m 145 #[.val (.int p1), .val (.int p2), .val (.int p3), .val (.int p4), .val (.int (3 : Int32)), .val (.int v105), .val (.int v109), .val (.int v113), .val (.ref a230), .val (.ref a245), .val (.ref q_258), .val (.ref a245)] [(.int (3 : Int32))]))
    refine own_iload (pc' := 147) X271 hx rfl (hb hby at_145) rfl ?_
    refine own_icmpYes (pc' := 152) X271 hx (hb hby at_147) (by decide) (by decide) (by decide) ?_
    refine own_iload (pc' := 154) X271 hx rfl (hb hby at_152) rfl ?_
    refine own_iconst (pc' := 155) X271 hx (1 : Int32) (by decide) (hb hby at_154) rfl ?_
    refine own_icmpNo (pc' := 158) X271 hx (by decide) (hb hby at_155) rfl ?_
    refine own_aload (pc' := 160) X271 hx rfl rfl (hb hby at_158) rfl ?_
    refine own_iconst (pc' := 161) X271 hx (0 : Int32) (by decide) (hb hby at_160) rfl ?_
    obtain ⟨cq272, kq272, q272a, q272b, q272c⟩ := isOf hZ e271 E264
    obtain ⟨_, _, ⟨T272, L272, k272, n272⟩, -, X272, ⟨Lc272, hQ272, l272, y272, z272⟩, st272⟩ := X271.virtualBack hx (y := (⟨"java/lang/String", "charAt", "(I)C"⟩ : MethodName)) (z := (⟨"java/lang/String", "charAt", "(I)C"⟩ : MethodName)) hown (mvT hZ (hw _ (List.mem_of_getElem? (i := 75) rfl))) (mvT hZ (hw _ (List.mem_of_getElem? (i := 76) rfl))) (notFace_of_selects (args := #[]) (mvT hZ (hw _ (List.mem_of_getElem? (i := 78) rfl)))) (mvT hZ (hw _ (List.mem_of_getElem? (i := 78) rfl))) (mvT hZ (hw _ (List.mem_of_getElem? (i := 77) rfl))) (by decide) (backOf (W := 0) (rmca0_3 l Z a0 hw [] a245 q_252 kb_252 by0_252 by1_252 by2_252 cs fv T258.heap n0 Z267 E264 F262 F263 A266 (S_COMPACT_STRINGS.ext O268.2) (S_SIOOBE_FORMATTER.ext O268.2) (by omega) hfv (by omega) (by omega) (by omega)) hZ (hw _ (List.mem_of_getElem? (i := 79) rfl)) (hw _ (List.mem_of_getElem? (i := 3) rfl)) (by decide) (by decide)) q272a q272c (g := (mkF m 161 #[.val (.int p1), .val (.int p2), .val (.int p3), .val (.int p4), .val (.int (3 : Int32)), .val (.int v105), .val (.int v109), .val (.int v113), .val (.ref a230), .val (.ref a245), .val (.ref q_258), .val (.ref a245)] [(.int (0 : Int32)), (.ref a245)])) rfl (by rw [hml]; rfl) (Steps.refl _) (argsL := [(.int (0 : Int32))]) (rest := []) (lenOf pd_10 rfl) rfl (by show 2 * 0 + _ ≤ _; exact Nat.le_of_eq rfl) (hb hby at_161) (fun _ _ => ⟨rfl, e271, (by decide : 4 + 0 ≤ _), (by decide : 11 + 0 ≤ _)⟩)
    dsimp only [Pt.U, Pt.locs, Pt.cells, Pt.slots] at X272 l272 y272 z272 st272 hQ272
    subst y272 z272
    obtain ⟨r_272, rfl, pp272, N272, e272⟩ := hQ272
    have rr_272 := rng32 r_272
    have N272a : Fr n0 L272 := by rw [l272]; exact Fr.app N271a N272
    refine own_via st272 ?_
    show own_Go p e below (Q0 Z p1 p2 p3 p4 cs fv h0 n0) (own_FrW s room_1.cells room_1.slots) (T272.setTop (mkF m 164 #[.val (.int p1), .val (.int p2), .val (.int p3), .val (.int p4), .val (.int (3 : Int32)), .val (.int v105), .val (.int v109), .val (.int v113), .val (.ref a230), .val (.ref a245), .val (.ref q_258), .val (.ref a245)] [(.int r_272)]))
    refine own_iload (pc' := 166) X272 hx rfl (hb hby at_164) rfl ?_
    have b273 : r_272.toInt = v105.toInt := by omega
    refine own_icmpYes (pc' := 171) X272 hx (hb hby at_166) (own_yes_eq rfl rfl b273) (by decide) (by decide) ?_
    refine own_iload (pc' := 173) X272 hx rfl (hb hby at_171) rfl ?_
    refine own_iconst (pc' := 174) X272 hx (2 : Int32) (by decide) (hb hby at_173) rfl ?_
    refine own_icmpNo (pc' := 177) X272 hx (by decide) (hb hby at_174) rfl ?_
    refine own_aload (pc' := 179) X272 hx rfl rfl (hb hby at_177) rfl ?_
    refine own_iconst (pc' := 180) X272 hx (1 : Int32) (by decide) (hb hby at_179) rfl ?_
    obtain ⟨cq274, kq274, q274a, q274b, q274c⟩ := isOf hZ e272 E264
    obtain ⟨_, _, ⟨T274, L274, k274, n274⟩, -, X274, ⟨Lc274, hQ274, l274, y274, z274⟩, st274⟩ := X272.virtualBack hx (y := (⟨"java/lang/String", "charAt", "(I)C"⟩ : MethodName)) (z := (⟨"java/lang/String", "charAt", "(I)C"⟩ : MethodName)) hown (mvT hZ (hw _ (List.mem_of_getElem? (i := 75) rfl))) (mvT hZ (hw _ (List.mem_of_getElem? (i := 76) rfl))) (notFace_of_selects (args := #[]) (mvT hZ (hw _ (List.mem_of_getElem? (i := 78) rfl)))) (mvT hZ (hw _ (List.mem_of_getElem? (i := 78) rfl))) (mvT hZ (hw _ (List.mem_of_getElem? (i := 77) rfl))) (by decide) (backOf (W := 0) (rmca1_3 l Z a0 hw [] a245 q_252 kb_252 by0_252 by1_252 by2_252 cs fv T258.heap n0 Z267 E264 F262 F263 A266 (S_COMPACT_STRINGS.ext O268.2) (S_SIOOBE_FORMATTER.ext O268.2) (by omega) hfv (by omega) (by omega) (by omega)) hZ (hw _ (List.mem_of_getElem? (i := 79) rfl)) (hw _ (List.mem_of_getElem? (i := 3) rfl)) (by decide) (by decide)) q274a q274c (g := (mkF m 180 #[.val (.int p1), .val (.int p2), .val (.int p3), .val (.int p4), .val (.int (3 : Int32)), .val (.int v105), .val (.int v109), .val (.int v113), .val (.ref a230), .val (.ref a245), .val (.ref q_258), .val (.ref a245)] [(.int (1 : Int32)), (.ref a245)])) rfl (by rw [hml]; rfl) (Steps.refl _) (argsL := [(.int (1 : Int32))]) (rest := []) (lenOf pd_10 rfl) rfl (by show 2 * 0 + _ ≤ _; exact Nat.le_of_eq rfl) (hb hby at_180) (fun _ _ => ⟨rfl, e272, (by decide : 4 + 0 ≤ _), (by decide : 11 + 0 ≤ _)⟩)
    dsimp only [Pt.U, Pt.locs, Pt.cells, Pt.slots] at X274 l274 y274 z274 st274 hQ274
    subst y274 z274
    obtain ⟨r_274, rfl, pp274, N274, e274⟩ := hQ274
    have rr_274 := rng32 r_274
    have N274a : Fr n0 L274 := by rw [l274]; exact Fr.app N272a N274
    refine own_via st274 ?_
    show own_Go p e below (Q0 Z p1 p2 p3 p4 cs fv h0 n0) (own_FrW s room_1.cells room_1.slots) (T274.setTop (mkF m 183 #[.val (.int p1), .val (.int p2), .val (.int p3), .val (.int p4), .val (.int (3 : Int32)), .val (.int v105), .val (.int v109), .val (.int v113), .val (.ref a230), .val (.ref a245), .val (.ref q_258), .val (.ref a245)] [(.int r_274)]))
    refine own_iload (pc' := 185) X274 hx rfl (hb hby at_183) rfl ?_
    have b275 : r_274.toInt = v109.toInt := by omega
    refine own_icmpYes (pc' := 190) X274 hx (hb hby at_185) (own_yes_eq rfl rfl b275) (by decide) (by decide) ?_
    refine own_iload (pc' := 192) X274 hx rfl (hb hby at_190) rfl ?_
    refine own_iconst (pc' := 193) X274 hx (3 : Int32) (by decide) (hb hby at_192) rfl ?_
    refine own_icmpNo (pc' := 196) X274 hx (by decide) (hb hby at_193) rfl ?_
    refine own_aload (pc' := 198) X274 hx rfl rfl (hb hby at_196) rfl ?_
    refine own_iconst (pc' := 199) X274 hx (2 : Int32) (by decide) (hb hby at_198) rfl ?_
    obtain ⟨cq276, kq276, q276a, q276b, q276c⟩ := isOf hZ e274 E264
    obtain ⟨_, _, ⟨T276, L276, k276, n276⟩, -, X276, ⟨Lc276, hQ276, l276, y276, z276⟩, st276⟩ := X274.virtualBack hx (y := (⟨"java/lang/String", "charAt", "(I)C"⟩ : MethodName)) (z := (⟨"java/lang/String", "charAt", "(I)C"⟩ : MethodName)) hown (mvT hZ (hw _ (List.mem_of_getElem? (i := 75) rfl))) (mvT hZ (hw _ (List.mem_of_getElem? (i := 76) rfl))) (notFace_of_selects (args := #[]) (mvT hZ (hw _ (List.mem_of_getElem? (i := 78) rfl)))) (mvT hZ (hw _ (List.mem_of_getElem? (i := 78) rfl))) (mvT hZ (hw _ (List.mem_of_getElem? (i := 77) rfl))) (by decide) (backOf (W := 0) (rmca2_3 l Z a0 hw [] a245 q_252 kb_252 by0_252 by1_252 by2_252 cs fv T258.heap n0 Z267 E264 F262 F263 A266 (S_COMPACT_STRINGS.ext O268.2) (S_SIOOBE_FORMATTER.ext O268.2) (by omega) hfv (by omega) (by omega) (by omega)) hZ (hw _ (List.mem_of_getElem? (i := 79) rfl)) (hw _ (List.mem_of_getElem? (i := 3) rfl)) (by decide) (by decide)) q276a q276c (g := (mkF m 199 #[.val (.int p1), .val (.int p2), .val (.int p3), .val (.int p4), .val (.int (3 : Int32)), .val (.int v105), .val (.int v109), .val (.int v113), .val (.ref a230), .val (.ref a245), .val (.ref q_258), .val (.ref a245)] [(.int (2 : Int32)), (.ref a245)])) rfl (by rw [hml]; rfl) (Steps.refl _) (argsL := [(.int (2 : Int32))]) (rest := []) (lenOf pd_10 rfl) rfl (by show 2 * 0 + _ ≤ _; exact Nat.le_of_eq rfl) (hb hby at_199) (fun _ _ => ⟨rfl, e274, (by decide : 4 + 0 ≤ _), (by decide : 11 + 0 ≤ _)⟩)
    dsimp only [Pt.U, Pt.locs, Pt.cells, Pt.slots] at X276 l276 y276 z276 st276 hQ276
    subst y276 z276
    obtain ⟨r_276, rfl, pp276, N276, e276⟩ := hQ276
    have rr_276 := rng32 r_276
    have N276a : Fr n0 L276 := by rw [l276]; exact Fr.app N274a N276
    refine own_via st276 ?_
    show own_Go p e below (Q0 Z p1 p2 p3 p4 cs fv h0 n0) (own_FrW s room_1.cells room_1.slots) (T276.setTop (mkF m 202 #[.val (.int p1), .val (.int p2), .val (.int p3), .val (.int p4), .val (.int (3 : Int32)), .val (.int v105), .val (.int v109), .val (.int v113), .val (.ref a230), .val (.ref a245), .val (.ref q_258), .val (.ref a245)] [(.int r_276)]))
    refine own_iload (pc' := 204) X276 hx rfl (hb hby at_202) rfl ?_
    have b277 : r_276.toInt = v113.toInt := by omega
    refine own_icmpYes (pc' := 209) X276 hx (hb hby at_204) (own_yes_eq rfl rfl b277) (by decide) (by decide) ?_
    refine own_aload (pc' := 211) X276 hx rfl rfl (hb hby at_209) rfl ?_
    refine own_aload (pc' := 213) X276 hx rfl rfl (hb hby at_211) rfl ?_
    obtain ⟨cq278, kq278, q278a, q278b, q278c⟩ := isOf hZ e276 E264
    obtain ⟨_, _, ⟨T278, L278, k278, n278⟩, -, X278, ⟨Lc278, hQ278, l278, y278, z278⟩, st278⟩ := X276.virtualBack hx (y := (⟨"java/lang/String", "equals", "(Ljava/lang/Object;)Z"⟩ : MethodName)) (z := (⟨"java/lang/String", "equals", "(Ljava/lang/Object;)Z"⟩ : MethodName)) hown (mvT hZ (hw _ (List.mem_of_getElem? (i := 60) rfl))) (mvT hZ (hw _ (List.mem_of_getElem? (i := 61) rfl))) (notFace_of_selects (args := #[]) (mvT hZ (hw _ (List.mem_of_getElem? (i := 63) rfl)))) (mvT hZ (hw _ (List.mem_of_getElem? (i := 63) rfl))) (mvT hZ (hw _ (List.mem_of_getElem? (i := 62) rfl))) (by decide) (backOf (W := 0) (rmeq l Z a0 hw [] a245 T258.heap n0 Z267 ) hZ (hw _ (List.mem_of_getElem? (i := 64) rfl)) (hw _ (List.mem_of_getElem? (i := 3) rfl)) (by decide) (by decide)) q278a q278c (g := (mkF m 213 #[.val (.int p1), .val (.int p2), .val (.int p3), .val (.int p4), .val (.int (3 : Int32)), .val (.int v105), .val (.int v109), .val (.int v113), .val (.ref a230), .val (.ref a245), .val (.ref q_258), .val (.ref a245)] [(.ref a245), (.ref a245)])) rfl (by rw [hml]; rfl) (Steps.refl _) (argsL := [(.ref a245)]) (rest := []) (lenOf pd_12 rfl) rfl (by show 2 * 0 + _ ≤ _; exact Nat.le_of_eq rfl) (hb hby at_213) (fun _ _ => ⟨rfl, e276, (by decide : 4 + 0 ≤ _), (by decide : 11 + 0 ≤ _)⟩)
    dsimp only [Pt.U, Pt.locs, Pt.cells, Pt.slots] at X278 l278 y278 z278 st278 hQ278
    subst y278 z278
    obtain ⟨rfl, pp278, N278, e278⟩ := hQ278
    have N278a : Fr n0 L278 := by rw [l278]; exact Fr.app N276a N278
    refine own_via st278 ?_
    show own_Go p e below (Q0 Z p1 p2 p3 p4 cs fv h0 n0) (own_FrW s room_1.cells room_1.slots) (T278.setTop (mkF m 216 #[.val (.int p1), .val (.int p2), .val (.int p3), .val (.int p4), .val (.int (3 : Int32)), .val (.int v105), .val (.int v109), .val (.int v113), .val (.ref a230), .val (.ref a245), .val (.ref q_258), .val (.ref a245)] [(.int (1 : Int32))]))
    refine own_retW (s := s) (vm₁ := s.vm) (nn := 0) X278 hx Bd.returns Bd.notSynchronized ((State.WarmedH.refl s).since 0) (Nat.zero_le _) (Or.inl ⟨rfl, by simp, _, rfl⟩) (hb hby at_216) rfl (by decide) (by decide) ?_
    show Q0 Z p1 p2 p3 p4 cs fv h0 n0 _ T278.heap _
    rw [e278]
    exact ⟨rfl, N278a⟩
set_option maxRecDepth 65536 in
set_option maxHeartbeats 40000000 in
theorem comes_1 {Post : Tables → Env → Array Value → State → Outcome → State → Prop} (hpost : ∀ tb e args s v u, (limb_1_1.after args s (.returned v) u = true ∧ limb_1_2.after args s (.returned v) u = true ∧ True) → ReturnedEndW s (.returned v) u (Jvm.fieldLocs frame_1_writes args s ++ Jvm.arrayLocs frame_1_arrays args s ++ Jvm.staticLocs frame_1_statics s) 24 1152 → Post tb e args s (.returned v) u) :
    ArmFor flags0 classFile x code maxLocals ret World_1 tables_1 room_1 Calls_1 rest_1 Pre_1 Post := by
  intro l hfl _ _ p e ha hc hk s m args below hf hA hF happ hP
  obtain ⟨hcalls, hrest, hpre⟩ := hP
  obtain ⟨-, -, -, hnamed, -, -, -, hat⟩ := (Spec.applies_iff hf).mp happ
  obtain ⟨hg, hn⟩ := and_e (Cond.before_iff.mp (show (Jvm.Cond.and given_1 narrow_1).before args s = true from hpre))
  obtain ⟨g0, gr0⟩ := and_e hg
  obtain ⟨g1, gr1⟩ := and_e gr0
  obtain ⟨g2, gr2⟩ := and_e gr1
  obtain ⟨g3, gr3⟩ := and_e gr2
  obtain ⟨w0, w1, w2, w3, rfl⟩ : ∃ w0 w1 w2 w3 : Value, args = #[w0, w1, w2, w3] := by
    have hs : args.size = 4 := by simpa [Cond.value, given_1] using g0
    obtain ⟨L⟩ := args
    match L, hs with
    | [w0, w1, w2, w3], _ => exact ⟨w0, w1, w2, w3, rfl⟩
  have hw := fun d (hd : d ∈ tables_1) => atoms_spec (ws := Jvm.Cond.code x code maxLocals ret :: tables_1) hat d (List.mem_cons_of_mem _ hd)
  obtain ⟨i0, ev0⟩ := is_v g1
  obtain rfl : w0 = (.int i0) := Option.some.inj ev0
  obtain ⟨i1, ev1⟩ := is_v g2
  obtain rfl : w1 = (.int i1) := Option.some.inj ev1
  obtain ⟨i2, ev2⟩ := is_v g3
  obtain rfl : w2 = (.int i2) := Option.some.inj ev2
  obtain ⟨i3, ev3⟩ := is_v gr3
  obtain rfl : w3 = (.int i3) := Option.some.inj ev3
  have hsets := (atoms_of (own := restOwn_1) jdkStatics_1 (show (jdkStatics_1.foldr Jvm.Cond.and restOwn_1).before _ s = true from hrest)).1
  obtain ⟨cs, evc⟩ := is_v (Cond.before_iff.mp (hsets _ (List.mem_of_getElem? (i := 1) rfl)))
  have S_CS : Sta s s.heap "java/lang/String" "COMPACT_STRINGS" "Z" (.int cs) := Sta.start evc (Or.inl (hsets _ (List.mem_of_getElem? (i := 0) rfl)))
  have hcs : ¬ cs.toInt = 0 := by
    intro q
    have q2 : cs = 0 := Int32.toInt_inj.mp q
    have w := (hsets _ (List.mem_of_getElem? (i := 2) rfl))
    simp [Cond.before, Cond.holds, Cond.value, evc, q2, Term.int_eval] at w
  obtain ⟨fv, evf, hfv⟩ := isR_v (Cond.before_iff.mp (hsets _ (List.mem_of_getElem? (i := 8) rfl)))
  have S_SI : Sta s s.heap "jdk/internal/util/Preconditions" "SIOOBE_FORMATTER" "Ljava/util/function/BiFunction;" fv := Sta.start evf (Or.inl (hsets _ (List.mem_of_getElem? (i := 7) rfl)))
  have hCH : Jvm.Lit.constHeld s "java/lang/String" 7 := hcalls.1 ("java/lang/String", 7) (by simp [consts_1])
  obtain ⟨n, o, h1, h2, h3, _, L, rfl, ⟨rfl, N⟩, hq⟩ := rm0 l s _ hw tables_1 i0 i1 i2 i3 cs fv s.heap s.heap.size (Nat.le_refl _) S_CS S_SI hcs hfv (Old.start s) hCH (hsets _ (List.mem_of_getElem? (i := 2) rfl)) p e ha hc hk s m _ below hf ((Spec.applies_iff_loose hf).mp happ).1 ⟨rfl, ⟨State.Warmed39.refl s, rfl⟩, rfl⟩ trivial
  refine ⟨n, _, h1, h2, h3, hpost _ _ _ _ _ _ ⟨Cond.after_iff.mpr rfl, Cond.after_iff.mpr (eq_i res_at (Term.int_eval (1)) rfl), trivial⟩ ⟨hq.1, hq.2.1, hq.2.2.1, (hq.2.2.2.sift fun y hy => Or.inr (N y hy)).mono (by decide) (by decide)⟩⟩
theorem main_1_1 : Claimed_1_1 := comes_1 fun _ _ _ _ _ _ h hF => ⟨h.1, hF⟩
theorem main_1_2 : Claimed_1_2 := comes_1 fun _ _ _ _ _ _ h hF => ⟨h.2.1, hF⟩
end Jvm.Pilot.@@N@@
namespace Jvm.Pilot.@@N@@
open Jvm Jvm.ClassFile Sem Op Lib Jvm.Free Jvm.Stand Jvm.Pilot.@@N@@.Jvm.D
/-! MADE BY PROGRAM (witnessworld.py) out of the Statement's table words and the real class files: 21 classes; the members and pool entries that the words name. The judged class is class 1, her method 1. -/
namespace start1
open Jvm.ClassFile
def u (s : String) : CpInfo := .utf8 (stringToUtf16 s)
/-- a pool by its gaps: so many unusable entries, then the entry; so many at the end -/
def gap : Nat → List CpInfo → List CpInfo
  | 0, r => r
  | n + 1, r => .unusable :: gap n r
def poolList (es : List (Nat × CpInfo)) (last : Nat) : List CpInfo := es.foldr (fun e r => gap e.1 (e.2 :: r)) (gap last [])
def pool (es : List (Nat × CpInfo)) (last : Nat) : Array CpInfo := ⟨poolList es last⟩
def fileOf (pool : Array CpInfo) (this : Nat) (attrs : Array Attribute := #[]) (ms : Array MethodInfo := #[]) (fl : Nat := 33) (sup : Nat := 0) (ifs : Array Nat := #[]) (fds : Array FieldInfo := #[]) : ClassFile where
  minorVersion := 0
  majorVersion := 65
  constantPool := pool
  accessFlags := fl
  thisClass := this
  superClass := sup
  interfaces := ifs
  fields := fds
  methods := ms
  attributes := attrs
def plain (name : String) (sup : Option ClassId) : Class where
  name := name
  kind := .ordinary
  loader := none
  accessFlags := 33
  super := sup
  interfaces := #[]
  cf := none
  fields := #[]
  methods := #[]
  instanceTypes := #[]
  staticTypes := #[]
  resolved := #[]
  callSites := []
  init := .initialized
  statics := none
  mirror := none

def pool0 : Array CpInfo := pool [(5, u "<init>"), (0, u "()V"), (1, .class_ 10), (1, u "java/lang/Object")] 113

def k0c0 : Code := { maxStack := 0, maxLocals := 1, code := object_method_1_code, exceptionTable := #[], attributes := #[] }
def k0m0 : Method := { name := "<init>", desc := "()V", sig := { parameters := [], returnType := none }, accessFlags := 1, code := some k0c0 }
/-- java/lang/Object -/
def k0 : Class := { plain "java/lang/Object" none with
  accessFlags := 33
  interfaces := #[]
  cf := some (fileOf pool0 8 #[] #[{ accessFlags := 1, nameIndex := 5, descriptorIndex := 6, attributes := #[] }] 33 0 #[] #[])
  fields := #[]
  methods := #[k0m0]
  instanceTypes := #[]
  staticTypes := #[]
  resolved := Array.replicate 124 none
  statics := none }

def pool1 : Array CpInfo := pool [(2, .class_ 4), (1, u "java/lang/Object"), (0, u "<init>"), (0, u "()V"), (0, .class_ 8), (0, u "java/lang/String"), (0, .methodref 7 10), (0, .nameAndType 5 11), (0, u "([C)V"), (0, .methodref 13 14), (0, .class_ 15), (0, .nameAndType 16 17), (0, u "com/example/sigillum/sigillum/Verdict"), (0, u "invalid"), (0, u "(Ljava/lang/String;)Lcom/example/sigillum/sigillum/Verdict;"), (0, .methodref 13 19), (0, .nameAndType 20 21), (0, u "isValid"), (0, u "()Z"), (0, .methodref 13 23), (0, .nameAndType 24 25), (0, u "reason"), (0, u "()Ljava/lang/String;"), (0, .methodref 7 27), (0, .nameAndType 28 29), (0, u "length"), (0, u "()I"), (0, .methodref 7 31), (0, .nameAndType 32 33), (0, u "charAt"), (0, u "(I)C"), (0, .methodref 7 35), (0, .nameAndType 36 37), (0, u "equals"), (0, u "(Ljava/lang/Object;)Z"), (0, .class_ 39), (0, u "com/example/sigillum/sigillum/VerdictInvalidPinLaw"), (2, u "law"), (0, u "(IIII)Z")] 5

def k1m0 : Method := { name := "<init>", desc := "()V", sig := { parameters := [], returnType := none }, accessFlags := 1, code := none }
def k1c1 : Code := { maxStack := 4, maxLocals := 12, code := code, exceptionTable := #[], attributes := #[] }
def k1m1 : Method := { name := "law", desc := "(IIII)Z", sig := { parameters := [.int, .int, .int, .int], returnType := some .boolean }, accessFlags := 9, code := some k1c1 }
/-- com/example/sigillum/sigillum/VerdictInvalidPinLaw -/
def k1 : Class := { plain "com/example/sigillum/sigillum/VerdictInvalidPinLaw" (some 0) with
  accessFlags := 49
  interfaces := #[]
  cf := some (fileOf pool1 38 #[] #[{ accessFlags := 1, nameIndex := 5, descriptorIndex := 6, attributes := #[] }, { accessFlags := 9, nameIndex := 42, descriptorIndex := 43, attributes := #[] }] 49 2 #[] #[])
  fields := #[]
  methods := #[k1m0, k1m1]
  instanceTypes := #[]
  staticTypes := #[]
  resolved := Array.replicate 49 none
  statics := none }

def pool2 : Array CpInfo := pool [(1, .class_ 2), (0, u "java/io/Serializable"), (0, .class_ 4), (0, u "java/lang/Object")] 2

/-- java/io/Serializable -/
def k2 : Class := { plain "java/io/Serializable" (some 0) with
  accessFlags := 1537
  interfaces := #[]
  cf := some (fileOf pool2 1 #[] #[] 1537 3 #[] #[])
  fields := #[]
  methods := #[]
  instanceTypes := #[]
  staticTypes := #[]
  resolved := Array.replicate 7 none
  statics := none }

def pool3 : Array CpInfo := pool [(1, .class_ 2), (0, u "java/lang/Comparable"), (0, .class_ 4), (0, u "java/lang/Object")] 7

/-- java/lang/Comparable -/
def k3 : Class := { plain "java/lang/Comparable" (some 0) with
  accessFlags := 1537
  interfaces := #[]
  cf := some (fileOf pool3 1 #[] #[] 1537 3 #[] #[])
  fields := #[]
  methods := #[]
  instanceTypes := #[]
  staticTypes := #[]
  resolved := Array.replicate 12 none
  statics := none }

def pool4 : Array CpInfo := pool [(2, .class_ 4), (1, u "java/lang/CharSequence"), (42, .class_ 48), (0, u "java/lang/CharSequence$1CodePointIterator"), (10, .class_ 60), (0, u "java/lang/CharSequence$1CharIterator"), (5, .class_ 67), (0, u "java/lang/Object")] 63

/-- java/lang/CharSequence -/
def k4 : Class := { plain "java/lang/CharSequence" (some 0) with
  accessFlags := 1537
  interfaces := #[]
  cf := some (fileOf pool4 2 #[.nestMembers #[47, 59]] #[] 1537 66 #[] #[])
  fields := #[]
  methods := #[]
  instanceTypes := #[]
  staticTypes := #[]
  resolved := Array.replicate 131 none
  statics := none }

def pool5 : Array CpInfo := pool [(1, .class_ 2), (0, u "java/lang/constant/Constable"), (0, .class_ 4), (0, u "java/lang/Object")] 6

/-- java/lang/constant/Constable -/
def k5 : Class := { plain "java/lang/constant/Constable" (some 0) with
  accessFlags := 1537
  interfaces := #[]
  cf := some (fileOf pool5 1 #[] #[] 1537 3 #[] #[])
  fields := #[]
  methods := #[]
  instanceTypes := #[]
  staticTypes := #[]
  resolved := Array.replicate 11 none
  statics := none }

def pool6 : Array CpInfo := pool [(1, .class_ 2), (0, u "java/lang/constant/ConstantDesc"), (0, .class_ 4), (0, u "java/lang/Object")] 32

/-- java/lang/constant/ConstantDesc -/
def k6 : Class := { plain "java/lang/constant/ConstantDesc" (some 0) with
  accessFlags := 1537
  interfaces := #[]
  cf := some (fileOf pool6 1 #[] #[] 1537 3 #[] #[])
  fields := #[]
  methods := #[]
  instanceTypes := #[]
  staticTypes := #[]
  resolved := Array.replicate 37 none
  statics := none }

def pool7 : Array CpInfo := pool [(1, .methodref 2 3), (0, .class_ 4), (0, .nameAndType 5 6), (0, u "java/lang/Object"), (0, u "<init>"), (0, u "()V"), (0, .string 8), (0, u ""), (0, .fieldref 10 11), (0, .class_ 12), (0, .nameAndType 13 14), (0, u "java/lang/String"), (0, u "value"), (0, u "[B"), (0, .fieldref 10 16), (0, .nameAndType 17 18), (0, u "coder"), (0, u "B"), (2, u "hash"), (0, u "I"), (2, u "hashIsZero"), (0, u "Z"), (0, .methodref 10 28), (0, .nameAndType 5 29), (0, u "([CIILjava/lang/Void;)V"), (8, .fieldref 10 39), (0, .nameAndType 40 26), (0, u "COMPACT_STRINGS"), (1, .class_ 44), (1, u "java/lang/StringUTF16"), (0, u "compress"), (1, .methodref 42 48), (0, .nameAndType 49 50), (0, u "coderFromArrayLen"), (0, u "([BI)B"), (56, .class_ 109), (1, u "java/lang/StringLatin1"), (32, u "()Z"), (34, .methodref 42 178), (0, .nameAndType 45 179), (0, u "([CII)[B"), (154, u "()I"), (0, .methodref 10 336), (0, .nameAndType 17 337), (0, u "()B"), (25, u "([BI)C"), (27, u "(II)V"), (35, u "(I)C"), (64, .methodref 10 493), (0, .nameAndType 494 142), (0, u "isLatin1"), (0, .methodref 107 496), (0, .nameAndType 497 363), (0, u "charAt"), (3, u "checkIndex"), (5, u "length"), (35, u "equals"), (29, u "(Ljava/lang/Object;)Z"), (1, .class_ 576), (0, u "java/lang/CharSequence"), (22, u "CASE_INSENSITIVE_ORDER"), (0, u "Ljava/util/Comparator;"), (409, u "([C)V"), (42, .fieldref 1054 1055), (0, .class_ 1056), (0, .nameAndType 1057 1058), (0, u "jdk/internal/util/Preconditions"), (0, u "SIOOBE_FORMATTER"), (0, u "Ljava/util/function/BiFunction;"), (0, .methodref 1054 1060), (0, .nameAndType 501 1061), (0, u "(IILjava/util/function/BiFunction;)I"), (39, u "serialPersistentFields"), (0, u "[Ljava/io/ObjectStreamField;"), (0, .class_ 1104), (0, u "java/lang/String$CaseInsensitiveComparator"), (1, .class_ 1107), (0, u "java/io/Serializable"), (0, .class_ 1109), (0, u "java/lang/Comparable"), (0, .class_ 1111), (0, u "java/lang/constant/Constable"), (0, .class_ 1113), (0, u "java/lang/constant/ConstantDesc"), (2, u "serialVersionUID"), (0, u "J"), (3, u "REPL"), (0, u "C"), (2, u "LATIN1"), (1, u "UTF16")] 323

def k7m0 : Method := { name := "<init>", desc := "()V", sig := { parameters := [], returnType := none }, accessFlags := 1, code := none }
def k7c1 : Code := { maxStack := 5, maxLocals := 2, code := jdk_42_method_3_code, exceptionTable := #[], attributes := #[] }
def k7m1 : Method := { name := "<init>", desc := "([C)V", sig := { parameters := [(.array .char)], returnType := none }, accessFlags := 1, code := some k7c1 }
def k7c2 : Code := { maxStack := 2, maxLocals := 1, code := jdk_42_method_54_code, exceptionTable := #[], attributes := #[] }
def k7m2 : Method := { name := "length", desc := "()I", sig := { parameters := [], returnType := some .int }, accessFlags := 1, code := some k7c2 }
def k7c3 : Code := { maxStack := 2, maxLocals := 2, code := jdk_42_method_56_code, exceptionTable := #[], attributes := #[] }
def k7m3 : Method := { name := "charAt", desc := "(I)C", sig := { parameters := [.int], returnType := some .char }, accessFlags := 1, code := some k7c3 }
def k7c4 : Code := { maxStack := 2, maxLocals := 3, code := jdk_42_method_66_code, exceptionTable := #[], attributes := #[] }
def k7m4 : Method := { name := "equals", desc := "(Ljava/lang/Object;)Z", sig := { parameters := [(.object "java/lang/Object")], returnType := some .boolean }, accessFlags := 1, code := some k7c4 }
def k7c5 : Code := { maxStack := 4, maxLocals := 6, code := jdk_42_method_149_code, exceptionTable := #[], attributes := #[] }
def k7m5 : Method := { name := "<init>", desc := "([CIILjava/lang/Void;)V", sig := { parameters := [(.array .char), .int, .int, (.object "java/lang/Void")], returnType := none }, accessFlags := 2, code := some k7c5 }
def k7c6 : Code := { maxStack := 1, maxLocals := 1, code := jdk_42_method_152_code, exceptionTable := #[], attributes := #[] }
def k7m6 : Method := { name := "coder", desc := "()B", sig := { parameters := [], returnType := some .byte }, accessFlags := 0, code := some k7c6 }
def k7c7 : Code := { maxStack := 1, maxLocals := 1, code := jdk_42_method_154_code, exceptionTable := #[], attributes := #[] }
def k7m7 : Method := { name := "isLatin1", desc := "()Z", sig := { parameters := [], returnType := some .boolean }, accessFlags := 0, code := some k7c7 }
def k7c8 : Code := { maxStack := 3, maxLocals := 2, code := jdk_42_method_155_code, exceptionTable := #[], attributes := #[] }
def k7m8 : Method := { name := "checkIndex", desc := "(II)V", sig := { parameters := [.int, .int], returnType := none }, accessFlags := 8, code := some k7c8 }
/-- java/lang/String -/
def k7 : Class := { plain "java/lang/String" (some 0) with
  accessFlags := 49
  interfaces := #[2, 3, 4, 5, 6]
  cf := some (fileOf pool7 10 #[.nestMembers #[1103]] #[{ accessFlags := 1, nameIndex := 5, descriptorIndex := 6, attributes := #[] }, { accessFlags := 1, nameIndex := 5, descriptorIndex := 1010, attributes := #[] }, { accessFlags := 1, nameIndex := 507, descriptorIndex := 334, attributes := #[] }, { accessFlags := 1, nameIndex := 497, descriptorIndex := 427, attributes := #[] }, { accessFlags := 1, nameIndex := 543, descriptorIndex := 573, attributes := #[] }, { accessFlags := 2, nameIndex := 5, descriptorIndex := 29, attributes := #[] }, { accessFlags := 0, nameIndex := 17, descriptorIndex := 337, attributes := #[] }, { accessFlags := 0, nameIndex := 494, descriptorIndex := 142, attributes := #[] }, { accessFlags := 8, nameIndex := 501, descriptorIndex := 391, attributes := #[] }] 49 2 #[1106, 1108, 575, 1110, 1112] #[{ accessFlags := 18, nameIndex := 13, descriptorIndex := 14, attributes := #[] }, { accessFlags := 18, nameIndex := 17, descriptorIndex := 18, attributes := #[] }, { accessFlags := 2, nameIndex := 21, descriptorIndex := 22, attributes := #[] }, { accessFlags := 2, nameIndex := 25, descriptorIndex := 26, attributes := #[] }, { accessFlags := 26, nameIndex := 1116, descriptorIndex := 1117, attributes := #[] }, { accessFlags := 24, nameIndex := 40, descriptorIndex := 26, attributes := #[] }, { accessFlags := 26, nameIndex := 1101, descriptorIndex := 1102, attributes := #[] }, { accessFlags := 26, nameIndex := 1121, descriptorIndex := 1122, attributes := #[] }, { accessFlags := 25, nameIndex := 599, descriptorIndex := 600, attributes := #[] }, { accessFlags := 24, nameIndex := 1125, descriptorIndex := 18, attributes := #[] }, { accessFlags := 24, nameIndex := 1127, descriptorIndex := 18, attributes := #[] }])
  fields := #[{ name := "value", type := (.array .byte), accessFlags := 18, slot := 0, constantValue := 0 }, { name := "coder", type := .byte, accessFlags := 18, slot := 1, constantValue := 0 }, { name := "hash", type := .int, accessFlags := 2, slot := 2, constantValue := 0 }, { name := "hashIsZero", type := .boolean, accessFlags := 2, slot := 3, constantValue := 0 }, { name := "serialVersionUID", type := .long, accessFlags := 26, slot := 0, constantValue := 0 }, { name := "COMPACT_STRINGS", type := .boolean, accessFlags := 24, slot := 1, constantValue := 0 }, { name := "serialPersistentFields", type := (.array (.object "java/io/ObjectStreamField")), accessFlags := 26, slot := 2, constantValue := 0 }, { name := "REPL", type := .char, accessFlags := 26, slot := 3, constantValue := 0 }, { name := "CASE_INSENSITIVE_ORDER", type := (.object "java/util/Comparator"), accessFlags := 25, slot := 4, constantValue := 0 }, { name := "LATIN1", type := .byte, accessFlags := 24, slot := 5, constantValue := 0 }, { name := "UTF16", type := .byte, accessFlags := 24, slot := 6, constantValue := 0 }]
  methods := #[k7m0, k7m1, k7m2, k7m3, k7m4, k7m5, k7m6, k7m7, k7m8]
  instanceTypes := #[(.array .byte), .byte, .int, .boolean]
  staticTypes := #[.long, .boolean, (.array (.object "java/io/ObjectStreamField")), .char, (.object "java/util/Comparator"), .byte, .byte]
  resolved := Array.replicate 1451 none
  statics := some 0 }

def pool8 : Array CpInfo := pool [(1, .methodref 2 3), (0, .class_ 4), (0, .nameAndType 5 6), (0, u "java/lang/Object"), (0, u "<init>"), (0, u "()V"), (0, .fieldref 8 9), (0, .class_ 10), (0, .nameAndType 11 12), (0, u "com/example/sigillum/sigillum/Verdict"), (0, u "reason"), (0, u "Ljava/lang/String;"), (2, u "VALID"), (0, u "Lcom/example/sigillum/sigillum/Verdict;"), (0, .methodref 18 19), (0, .class_ 20), (0, .nameAndType 21 22), (0, u "java/util/Objects"), (0, u "requireNonNull"), (0, u "(Ljava/lang/Object;)Ljava/lang/Object;"), (0, .class_ 24), (0, u "java/lang/String"), (0, .methodref 8 26), (0, .nameAndType 5 27), (0, u "(Ljava/lang/String;)V"), (14, u "invalid"), (0, u "(Ljava/lang/String;)Lcom/example/sigillum/sigillum/Verdict;"), (0, u "isValid"), (0, u "()Z"), (1, u "()Ljava/lang/String;")] 19

def k8c0 : Code := { maxStack := 2, maxLocals := 2, code := prog_6_method_1_code, exceptionTable := #[], attributes := #[] }
def k8m0 : Method := { name := "<init>", desc := "(Ljava/lang/String;)V", sig := { parameters := [(.object "java/lang/String")], returnType := none }, accessFlags := 2, code := some k8c0 }
def k8c1 : Code := { maxStack := 3, maxLocals := 1, code := prog_6_method_3_code, exceptionTable := #[], attributes := #[] }
def k8m1 : Method := { name := "invalid", desc := "(Ljava/lang/String;)Lcom/example/sigillum/sigillum/Verdict;", sig := { parameters := [(.object "java/lang/String")], returnType := some (.object "com/example/sigillum/sigillum/Verdict") }, accessFlags := 9, code := some k8c1 }
def k8c2 : Code := { maxStack := 1, maxLocals := 1, code := prog_6_method_4_code, exceptionTable := #[], attributes := #[] }
def k8m2 : Method := { name := "isValid", desc := "()Z", sig := { parameters := [], returnType := some .boolean }, accessFlags := 1, code := some k8c2 }
def k8c3 : Code := { maxStack := 3, maxLocals := 1, code := prog_6_method_5_code, exceptionTable := #[], attributes := #[] }
def k8m3 : Method := { name := "reason", desc := "()Ljava/lang/String;", sig := { parameters := [], returnType := some (.object "java/lang/String") }, accessFlags := 1, code := some k8c3 }
/-- com/example/sigillum/sigillum/Verdict -/
def k8 : Class := { plain "com/example/sigillum/sigillum/Verdict" (some 0) with
  accessFlags := 49
  interfaces := #[]
  cf := some (fileOf pool8 8 #[] #[{ accessFlags := 2, nameIndex := 5, descriptorIndex := 27, attributes := #[] }, { accessFlags := 9, nameIndex := 42, descriptorIndex := 43, attributes := #[] }, { accessFlags := 1, nameIndex := 44, descriptorIndex := 45, attributes := #[] }, { accessFlags := 1, nameIndex := 11, descriptorIndex := 47, attributes := #[] }] 49 2 #[] #[{ accessFlags := 26, nameIndex := 15, descriptorIndex := 16, attributes := #[] }, { accessFlags := 18, nameIndex := 11, descriptorIndex := 12, attributes := #[] }])
  fields := #[{ name := "VALID", type := (.object "com/example/sigillum/sigillum/Verdict"), accessFlags := 26, slot := 0, constantValue := 0 }, { name := "reason", type := (.object "java/lang/String"), accessFlags := 18, slot := 0, constantValue := 0 }]
  methods := #[k8m0, k8m1, k8m2, k8m3]
  instanceTypes := #[(.object "java/lang/String")]
  staticTypes := #[(.object "com/example/sigillum/sigillum/Verdict")]
  resolved := Array.replicate 67 none
  statics := none }

def pool9 : Array CpInfo := pool [(2, .class_ 4), (1, u "java/lang/Object"), (0, u "<init>"), (0, u "()V"), (35, .class_ 44), (1, u "java/util/Objects"), (0, u "requireNonNull"), (0, u "(Ljava/lang/Object;)Ljava/lang/Object;")] 137

def k9m0 : Method := { name := "<init>", desc := "()V", sig := { parameters := [], returnType := none }, accessFlags := 2, code := none }
def k9c1 : Code := { maxStack := 2, maxLocals := 1, code := jdk_31_method_10_code, exceptionTable := #[], attributes := #[] }
def k9m1 : Method := { name := "requireNonNull", desc := "(Ljava/lang/Object;)Ljava/lang/Object;", sig := { parameters := [(.object "java/lang/Object")], returnType := some (.object "java/lang/Object") }, accessFlags := 9, code := some k9c1 }
/-- java/util/Objects -/
def k9 : Class := { plain "java/util/Objects" (some 0) with
  accessFlags := 49
  interfaces := #[]
  cf := some (fileOf pool9 42 #[] #[{ accessFlags := 2, nameIndex := 5, descriptorIndex := 6, attributes := #[] }, { accessFlags := 9, nameIndex := 45, descriptorIndex := 46, attributes := #[] }] 49 2 #[] #[])
  fields := #[]
  methods := #[k9m0, k9m1]
  instanceTypes := #[]
  staticTypes := #[]
  resolved := Array.replicate 184 none
  statics := none }

def pool10 : Array CpInfo := pool [(6, .class_ 8), (1, u "java/lang/Object"), (0, u "<init>"), (0, u "()V"), (1, .class_ 14), (1, u "java/lang/StringUTF16"), (31, u "$assertionsDisabled"), (0, u "Z"), (13, u "HI_BYTE_SHIFT"), (0, u "I"), (2, u "LO_BYTE_SHIFT"), (49, .methodref 12 116), (0, .nameAndType 117 118), (0, u "compress"), (0, u "([CI[BII)I"), (3, u "([CII)[B"), (138, u "coderFromArrayLen"), (0, u "([BI)B"), (106, .class_ 371), (1, u "java/lang/StringUTF16$LinesSpliterator"), (58, u "MAX_LENGTH"), (196, .class_ 628), (0, u "java/lang/StringUTF16$CodePointsSpliterator"), (0, .class_ 630), (0, u "java/lang/StringUTF16$CharsSpliterator")] 4

def k10m0 : Method := { name := "<init>", desc := "()V", sig := { parameters := [], returnType := none }, accessFlags := 0, code := none }
def k10c1 : Code := { maxStack := 2, maxLocals := 2, code := jdk_52_method_15_code, exceptionTable := #[], attributes := #[] }
def k10m1 : Method := { name := "coderFromArrayLen", desc := "([BI)B", sig := { parameters := [(.array .byte), .int], returnType := some .byte }, accessFlags := 8, code := some k10c1 }
def k10c2 : Code := { maxStack := 5, maxLocals := 6, code := jdk_52_method_16_code, exceptionTable := #[], attributes := #[] }
def k10m2 : Method := { name := "compress", desc := "([CII)[B", sig := { parameters := [(.array .char), .int, .int], returnType := some (.array .byte) }, accessFlags := 9, code := some k10c2 }
def k10c3 : Code := { maxStack := 3, maxLocals := 7, code := jdk_52_method_21_code, exceptionTable := #[], attributes := #[] }
def k10m3 : Method := { name := "compress", desc := "([CI[BII)I", sig := { parameters := [(.array .char), .int, (.array .byte), .int, .int], returnType := some .int }, accessFlags := 9, code := some k10c3 }
/-- java/lang/StringUTF16 -/
def k10 : Class := { plain "java/lang/StringUTF16" (some 0) with
  accessFlags := 48
  interfaces := #[]
  cf := some (fileOf pool10 12 #[.nestMembers #[627, 629, 369]] #[{ accessFlags := 0, nameIndex := 9, descriptorIndex := 10, attributes := #[] }, { accessFlags := 8, nameIndex := 261, descriptorIndex := 262, attributes := #[] }, { accessFlags := 9, nameIndex := 117, descriptorIndex := 122, attributes := #[] }, { accessFlags := 9, nameIndex := 117, descriptorIndex := 118, attributes := #[] }] 48 6 #[] #[{ accessFlags := 26, nameIndex := 61, descriptorIndex := 62, attributes := #[] }, { accessFlags := 26, nameIndex := 65, descriptorIndex := 62, attributes := #[] }, { accessFlags := 24, nameIndex := 430, descriptorIndex := 62, attributes := #[] }, { accessFlags := 4120, nameIndex := 46, descriptorIndex := 47, attributes := #[] }])
  fields := #[{ name := "HI_BYTE_SHIFT", type := .int, accessFlags := 26, slot := 0, constantValue := 0 }, { name := "LO_BYTE_SHIFT", type := .int, accessFlags := 26, slot := 1, constantValue := 0 }, { name := "MAX_LENGTH", type := .int, accessFlags := 24, slot := 2, constantValue := 0 }, { name := "$assertionsDisabled", type := .boolean, accessFlags := 4120, slot := 3, constantValue := 0 }]
  methods := #[k10m0, k10m1, k10m2, k10m3]
  instanceTypes := #[]
  staticTypes := #[.int, .int, .int, .boolean]
  resolved := Array.replicate 635 none
  statics := none }

def pool11 : Array CpInfo := pool [(1, .class_ 2), (0, u "java/lang/String"), (1, .class_ 6), (1, u "java/lang/Object"), (0, u "<init>"), (0, u "()V"), (0, .methodref 1 10), (0, .nameAndType 11 12), (0, u "checkIndex"), (0, u "(II)V"), (1, .class_ 16), (1, u "java/lang/StringLatin1"), (36, u "([BI)C"), (67, u "$assertionsDisabled"), (0, u "Z"), (98, .class_ 223), (1, u "java/lang/StringLatin1$LinesSpliterator"), (28, u "charAt"), (137, .class_ 391), (0, u "java/lang/StringLatin1$CharsSpliterator")] 3

def k11m0 : Method := { name := "<init>", desc := "()V", sig := { parameters := [], returnType := none }, accessFlags := 0, code := none }
def k11c1 : Code := { maxStack := 2, maxLocals := 2, code := jdk_43_method_2_code, exceptionTable := #[], attributes := #[] }
def k11m1 : Method := { name := "charAt", desc := "([BI)C", sig := { parameters := [(.array .byte), .int], returnType := some .char }, accessFlags := 9, code := some k11c1 }
/-- java/lang/StringLatin1 -/
def k11 : Class := { plain "java/lang/StringLatin1" (some 0) with
  accessFlags := 48
  interfaces := #[]
  cf := some (fileOf pool11 14 #[.nestMembers #[390, 221]] #[{ accessFlags := 0, nameIndex := 7, descriptorIndex := 8, attributes := #[] }, { accessFlags := 9, nameIndex := 252, descriptorIndex := 53, attributes := #[] }] 48 4 #[] #[{ accessFlags := 4120, nameIndex := 121, descriptorIndex := 122, attributes := #[] }])
  fields := #[{ name := "$assertionsDisabled", type := .boolean, accessFlags := 4120, slot := 0, constantValue := 0 }]
  methods := #[k11m0, k11m1]
  instanceTypes := #[]
  staticTypes := #[.boolean]
  resolved := Array.replicate 395 none
  statics := none }

def pool12 : Array CpInfo := pool [(2, .class_ 4), (1, u "java/lang/Object"), (0, u "<init>"), (0, u "()V"), (17, .class_ 26), (1, u "jdk/internal/util/Preconditions"), (6, u "checkIndex"), (21, .class_ 56), (0, u "jdk/internal/util/Preconditions$4"), (57, .class_ 115), (0, u "jdk/internal/util/Preconditions$1"), (7, u "SIOOBE_FORMATTER"), (0, u "Ljava/util/function/BiFunction;"), (0, .class_ 126), (0, u "jdk/internal/util/Preconditions$2"), (3, u "AIOOBE_FORMATTER"), (0, .class_ 132), (0, u "jdk/internal/util/Preconditions$3"), (3, u "IOOBE_FORMATTER"), (41, u "(IILjava/util/function/BiFunction;)I")] 15

def k12m0 : Method := { name := "<init>", desc := "()V", sig := { parameters := [], returnType := none }, accessFlags := 1, code := none }
def k12c1 : Code := { maxStack := 3, maxLocals := 3, code := jdk_41_method_11_code, exceptionTable := #[], attributes := #[] }
def k12m1 : Method := { name := "checkIndex", desc := "(IILjava/util/function/BiFunction;)I", sig := { parameters := [.int, .int, (.object "java/util/function/BiFunction")], returnType := some .int }, accessFlags := 9, code := some k12c1 }
/-- jdk/internal/util/Preconditions -/
def k12 : Class := { plain "jdk/internal/util/Preconditions" (some 0) with
  accessFlags := 33
  interfaces := #[]
  cf := some (fileOf pool12 24 #[.nestMembers #[55, 131, 125, 114]] #[{ accessFlags := 1, nameIndex := 5, descriptorIndex := 6, attributes := #[] }, { accessFlags := 9, nameIndex := 33, descriptorIndex := 178, attributes := #[] }] 33 2 #[] #[{ accessFlags := 25, nameIndex := 123, descriptorIndex := 124, attributes := #[] }, { accessFlags := 25, nameIndex := 130, descriptorIndex := 124, attributes := #[] }, { accessFlags := 25, nameIndex := 136, descriptorIndex := 124, attributes := #[] }])
  fields := #[{ name := "SIOOBE_FORMATTER", type := (.object "java/util/function/BiFunction"), accessFlags := 25, slot := 0, constantValue := 0 }, { name := "AIOOBE_FORMATTER", type := (.object "java/util/function/BiFunction"), accessFlags := 25, slot := 1, constantValue := 0 }, { name := "IOOBE_FORMATTER", type := (.object "java/util/function/BiFunction"), accessFlags := 25, slot := 2, constantValue := 0 }]
  methods := #[k12m0, k12m1]
  instanceTypes := #[]
  staticTypes := #[(.object "java/util/function/BiFunction"), (.object "java/util/function/BiFunction"), (.object "java/util/function/BiFunction")]
  resolved := Array.replicate 194 none
  statics := some 1 }

def pool13 : Array CpInfo := pool [(9, u "<init>"), (6, .class_ 18), (1, u "java/lang/Object"), (0, u "()V"), (1, .class_ 23), (1, u "jdk/internal/util/ArraysSupport"), (0, u "LOG2_ARRAY_LONG_INDEX_SCALE"), (0, u "I"), (2, u "U"), (0, u "Ljdk/internal/misc/Unsafe;"), (8, u "BIG_ENDIAN"), (0, u "Z"), (8, u "LOG2_BYTE_BIT_SIZE"), (4, u "LOG2_ARRAY_INT_INDEX_SCALE"), (54, u "JLA"), (0, u "Ljdk/internal/access/JavaLangAccess;"), (11, u "LOG2_ARRAY_BOOLEAN_INDEX_SCALE"), (9, u "LOG2_ARRAY_BYTE_INDEX_SCALE"), (5, u "LOG2_ARRAY_CHAR_INDEX_SCALE"), (5, u "LOG2_ARRAY_SHORT_INDEX_SCALE"), (18, u "LOG2_ARRAY_FLOAT_INDEX_SCALE"), (24, u "LOG2_ARRAY_DOUBLE_INDEX_SCALE"), (89, u "T_BOOLEAN"), (2, u "T_CHAR"), (1, u "T_FLOAT"), (1, u "T_DOUBLE"), (1, u "T_BYTE"), (1, u "T_SHORT"), (1, u "T_INT"), (1, u "T_LONG"), (1, u "SOFT_MAX_ARRAY_LENGTH")] 83

def k13m0 : Method := { name := "<init>", desc := "()V", sig := { parameters := [], returnType := none }, accessFlags := 2, code := none }
/-- jdk/internal/util/ArraysSupport -/
def k13 : Class := { plain "jdk/internal/util/ArraysSupport" (some 0) with
  accessFlags := 33
  interfaces := #[]
  cf := some (fileOf pool13 21 #[] #[{ accessFlags := 2, nameIndex := 9, descriptorIndex := 19, attributes := #[] }] 33 16 #[] #[{ accessFlags := 24, nameIndex := 28, descriptorIndex := 29, attributes := #[] }, { accessFlags := 26, nameIndex := 38, descriptorIndex := 39, attributes := #[] }, { accessFlags := 25, nameIndex := 121, descriptorIndex := 25, attributes := #[] }, { accessFlags := 25, nameIndex := 131, descriptorIndex := 25, attributes := #[] }, { accessFlags := 25, nameIndex := 137, descriptorIndex := 25, attributes := #[] }, { accessFlags := 25, nameIndex := 143, descriptorIndex := 25, attributes := #[] }, { accessFlags := 25, nameIndex := 53, descriptorIndex := 25, attributes := #[] }, { accessFlags := 25, nameIndex := 24, descriptorIndex := 25, attributes := #[] }, { accessFlags := 25, nameIndex := 162, descriptorIndex := 25, attributes := #[] }, { accessFlags := 25, nameIndex := 187, descriptorIndex := 25, attributes := #[] }, { accessFlags := 26, nameIndex := 48, descriptorIndex := 25, attributes := #[] }, { accessFlags := 25, nameIndex := 277, descriptorIndex := 25, attributes := #[] }, { accessFlags := 25, nameIndex := 280, descriptorIndex := 25, attributes := #[] }, { accessFlags := 25, nameIndex := 282, descriptorIndex := 25, attributes := #[] }, { accessFlags := 25, nameIndex := 284, descriptorIndex := 25, attributes := #[] }, { accessFlags := 25, nameIndex := 286, descriptorIndex := 25, attributes := #[] }, { accessFlags := 25, nameIndex := 288, descriptorIndex := 25, attributes := #[] }, { accessFlags := 25, nameIndex := 290, descriptorIndex := 25, attributes := #[] }, { accessFlags := 25, nameIndex := 292, descriptorIndex := 25, attributes := #[] }, { accessFlags := 26, nameIndex := 108, descriptorIndex := 109, attributes := #[] }, { accessFlags := 25, nameIndex := 294, descriptorIndex := 25, attributes := #[] }])
  fields := #[{ name := "U", type := (.object "jdk/internal/misc/Unsafe"), accessFlags := 24, slot := 0, constantValue := 0 }, { name := "BIG_ENDIAN", type := .boolean, accessFlags := 26, slot := 1, constantValue := 0 }, { name := "LOG2_ARRAY_BOOLEAN_INDEX_SCALE", type := .int, accessFlags := 25, slot := 2, constantValue := 0 }, { name := "LOG2_ARRAY_BYTE_INDEX_SCALE", type := .int, accessFlags := 25, slot := 3, constantValue := 0 }, { name := "LOG2_ARRAY_CHAR_INDEX_SCALE", type := .int, accessFlags := 25, slot := 4, constantValue := 0 }, { name := "LOG2_ARRAY_SHORT_INDEX_SCALE", type := .int, accessFlags := 25, slot := 5, constantValue := 0 }, { name := "LOG2_ARRAY_INT_INDEX_SCALE", type := .int, accessFlags := 25, slot := 6, constantValue := 0 }, { name := "LOG2_ARRAY_LONG_INDEX_SCALE", type := .int, accessFlags := 25, slot := 7, constantValue := 0 }, { name := "LOG2_ARRAY_FLOAT_INDEX_SCALE", type := .int, accessFlags := 25, slot := 8, constantValue := 0 }, { name := "LOG2_ARRAY_DOUBLE_INDEX_SCALE", type := .int, accessFlags := 25, slot := 9, constantValue := 0 }, { name := "LOG2_BYTE_BIT_SIZE", type := .int, accessFlags := 26, slot := 10, constantValue := 0 }, { name := "T_BOOLEAN", type := .int, accessFlags := 25, slot := 11, constantValue := 0 }, { name := "T_CHAR", type := .int, accessFlags := 25, slot := 12, constantValue := 0 }, { name := "T_FLOAT", type := .int, accessFlags := 25, slot := 13, constantValue := 0 }, { name := "T_DOUBLE", type := .int, accessFlags := 25, slot := 14, constantValue := 0 }, { name := "T_BYTE", type := .int, accessFlags := 25, slot := 15, constantValue := 0 }, { name := "T_SHORT", type := .int, accessFlags := 25, slot := 16, constantValue := 0 }, { name := "T_INT", type := .int, accessFlags := 25, slot := 17, constantValue := 0 }, { name := "T_LONG", type := .int, accessFlags := 25, slot := 18, constantValue := 0 }, { name := "JLA", type := (.object "jdk/internal/access/JavaLangAccess"), accessFlags := 26, slot := 19, constantValue := 0 }, { name := "SOFT_MAX_ARRAY_LENGTH", type := .int, accessFlags := 25, slot := 20, constantValue := 0 }]
  methods := #[k13m0]
  instanceTypes := #[]
  staticTypes := #[(.object "jdk/internal/misc/Unsafe"), .boolean, .int, .int, .int, .int, .int, .int, .int, .int, .int, .int, .int, .int, .int, .int, .int, .int, .int, (.object "jdk/internal/access/JavaLangAccess"), .int]
  resolved := Array.replicate 378 none
  statics := none }

def pool14 : Array CpInfo := pool [(1, u "java/lang/Cloneable"), (0, .class_ 1), (0, u "java/lang/Object"), (0, .class_ 3)] 3

/-- java/lang/Cloneable -/
def k14 : Class := { plain "java/lang/Cloneable" (some 0) with
  accessFlags := 1537
  interfaces := #[]
  cf := some (fileOf pool14 2 #[] #[] 1537 4 #[] #[])
  fields := #[]
  methods := #[]
  instanceTypes := #[]
  staticTypes := #[]
  resolved := Array.replicate 8 none
  statics := none }

/-- the primitive byte -/
def k15 : Class := { plain "byte" none with kind := .primitive 'B', accessFlags := 0x411 }
/-- [B -/
def k16 : Class := { plain "[B" (some 0) with kind := .array 15 .byte, interfaces := #[14, 2], accessFlags := 1041 }

/-- the primitive char -/
def k17 : Class := { plain "char" none with kind := .primitive 'C', accessFlags := 0x411 }
/-- [C -/
def k18 : Class := { plain "[C" (some 0) with kind := .array 17 .char, interfaces := #[14, 2], accessFlags := 1041 }

/-- the primitive int -/
def k19 : Class := { plain "int" none with kind := .primitive 'I', accessFlags := 0x411 }
/-- [I -/
def k20 : Class := { plain "[I" (some 0) with kind := .array 19 .int, interfaces := #[14, 2], accessFlags := 1041 }

def heap : Heap := #[{ cls := 7, slots := #[.long 0, .int 1, .null, .int 0, .null, .int 0, .int 0], vm := .statics 7 },
  { cls := 12, slots := #[.null, .null, .null], vm := .statics 12 }]
def classes : Array Class := #[k0, k1, k2, k3, k4, k5, k6, k7, k8, k9, k10, k11, k12, k13, k14, k15, k16, k17, k18, k19, k20]
def interned : List (Array UInt16 × Addr) := []
def slotsUsed : Nat := 10
def theMethod : MethodId := ⟨1, 1⟩
def args0 : Array Value := #[.int 1, .int 65, .int 66, .int 67]
def aboutOver (below : List Frame) : State where
  vm := { classes := classes, interned := interned.toArray }
  heap := heap
  slotsUsed := slotsUsed
  threads := #[{ frames := .invoking theMethod args0 :: below }]
def below0 : List Frame := [.native { method := ⟨0, 0⟩, args := #[] }]
def about1 : State := aboutOver below0
def p0 : Program := .bare "" "" ""
def e0 : Env := launch0.env 0 0 0
theorem w_frames : about1.frames = Frame.invoking theMethod args0 :: below0 := rfl
set_option maxRecDepth 65536 in
theorem w_args : argsFit about1.vm theMethod args0 = true := by decide +kernel
set_option maxRecDepth 65536 in
theorem w_heap : heapFits about1 = true := by decide +kernel
set_option maxRecDepth 65536 in
theorem w_runnable : about1.curStatus? = some .runnable := by decide +kernel
set_option maxRecDepth 65536 in
theorem w_alone : about1.alone = true := by decide +kernel
set_option maxRecDepth 65536 in
theorem w_named : about1.methodNamed? x = some theMethod := by decide +kernel
set_option maxRecDepth 65536 in
theorem w_hears : about1.hears theMethod below0 = true := by decide +kernel
set_option maxRecDepth 65536 in
theorem w_ripe : about1.ripe theMethod args0 below0 = true := by decide +kernel
theorem w_running : about1.status = .running := rfl
set_option maxRecDepth 65536 in
theorem w_room : about1.hasRoom e0.platform room_1 = true :=
  launch0.hasRoom_least _ room_1 (by decide +kernel) (by decide +kernel) (by decide +kernel) (by decide +kernel) (by decide +kernel) (by decide +kernel)
theorem allAtoms_all (ts : List Jvm.Cond) (a : Array Jvm.Value) (st : Jvm.State) : (allAtoms ts).before a st = ts.all (fun c => c.before a st) := by
  induction ts with
  | nil => rfl
  | cons c t ih =>
    show (Jvm.Cond.and c (allAtoms t)).before a st = _
    rw [Jvm.Cond.before_and, ih, List.all_cons]
def words1 : List Jvm.Cond := Jvm.Cond.code x code maxLocals ret :: tables_1
/-- a 'code' word, met by the world's own term for the bytes: nothing is compared byte by byte -/
theorem code_word {y : MethodName} {bytes : ByteArray} {mx : Nat} {rt : Option FieldType} {a : Array Value} {s : State} {m : MethodId} {meth : Method} {c : Code} (h1 : s.methodNamed? y = some m) (h2 : s.vm.method? m = some meth) (h3 : meth.code = some c) (h4 : c.code = bytes)
    (h5 : (c.maxLocals == mx && c.exceptionTable.isEmpty && decide (c.maxStack ≤ mostOperands) && decide (meth.sig.returnType = rt) && !meth.locks && decide (parseMethodDescriptor y.desc = some meth.sig)) = true) : (Jvm.Cond.code y bytes mx rt).before a s = true := by
  simp only [Bool.and_eq_true, beq_iff_eq, Bool.not_eq_true', decide_eq_true_eq] at h5
  obtain ⟨⟨⟨⟨⟨g1, g2⟩, g3⟩, g4⟩, g5⟩, g6⟩ := h5
  simp [Cond.before, Cond.holds, Cond.value, h1, h2, h3, h4, g1, g2, g3, g4, g5, g6]
def isCode : Jvm.Cond → Bool
  | .code _ _ _ _ => true
  | _ => false
theorem all_split {L : List Jvm.Cond} {P : Jvm.Cond → Bool} (h1 : L.all (fun c => isCode c || P c) = true) (h2 : ∀ c ∈ L.filter isCode, P c = true) : L.all P = true := by
  refine List.all_eq_true.mpr fun c hc => ?_
  have h := List.all_eq_true.mp h1 c hc
  rcases Bool.eq_false_or_eq_true (isCode c) with hi | hi
  · exact h2 c (List.mem_filter.mpr ⟨hc, hi⟩)
  · simpa [hi] using h
set_option maxRecDepth 65536 in
theorem w_c0 : (Jvm.Cond.code x code maxLocals ret).before args0 about1 = true := code_word (m := ⟨1, 1⟩) (meth := k1m1) (c := k1c1) (by decide +kernel) rfl rfl rfl (by decide +kernel)
set_option maxRecDepth 65536 in
theorem w_c1 : (Jvm.Cond.code ({ cls := "java/lang/String", name := "<init>", desc := "([C)V" } : Jvm.MethodName) jdk_42_method_3_code (2 : Nat) (Option.none : Option Jvm.ClassFile.FieldType)).before args0 about1 = true := code_word (m := ⟨7, 1⟩) (meth := k7m1) (c := k7c1) (by decide +kernel) rfl rfl rfl (by decide +kernel)
set_option maxRecDepth 65536 in
theorem w_c2 : (Jvm.Cond.code ({ cls := "java/lang/String", name := "<init>", desc := "([CIILjava/lang/Void;)V" } : Jvm.MethodName) jdk_42_method_149_code (6 : Nat) (Option.none : Option Jvm.ClassFile.FieldType)).before args0 about1 = true := code_word (m := ⟨7, 5⟩) (meth := k7m5) (c := k7c5) (by decide +kernel) rfl rfl rfl (by decide +kernel)
set_option maxRecDepth 65536 in
theorem w_c3 : (Jvm.Cond.code ({ cls := "java/lang/Object", name := "<init>", desc := "()V" } : Jvm.MethodName) object_method_1_code (1 : Nat) (Option.none : Option Jvm.ClassFile.FieldType)).before args0 about1 = true := code_word (m := ⟨0, 0⟩) (meth := k0m0) (c := k0c0) (by decide +kernel) rfl rfl rfl (by decide +kernel)
set_option maxRecDepth 65536 in
theorem w_c4 : (Jvm.Cond.code ({ cls := "com/example/sigillum/sigillum/Verdict", name := "invalid", desc := "(Ljava/lang/String;)Lcom/example/sigillum/sigillum/Verdict;" } : Jvm.MethodName) prog_6_method_3_code (1 : Nat) (Option.some (Jvm.ClassFile.FieldType.object "com/example/sigillum/sigillum/Verdict"))).before args0 about1 = true := code_word (m := ⟨8, 1⟩) (meth := k8m1) (c := k8c1) (by decide +kernel) rfl rfl rfl (by decide +kernel)
set_option maxRecDepth 65536 in
theorem w_c5 : (Jvm.Cond.code ({ cls := "java/util/Objects", name := "requireNonNull", desc := "(Ljava/lang/Object;)Ljava/lang/Object;" } : Jvm.MethodName) jdk_31_method_10_code (1 : Nat) (Option.some (Jvm.ClassFile.FieldType.object "java/lang/Object"))).before args0 about1 = true := code_word (m := ⟨9, 1⟩) (meth := k9m1) (c := k9c1) (by decide +kernel) rfl rfl rfl (by decide +kernel)
set_option maxRecDepth 65536 in
theorem w_c6 : (Jvm.Cond.code ({ cls := "com/example/sigillum/sigillum/Verdict", name := "<init>", desc := "(Ljava/lang/String;)V" } : Jvm.MethodName) prog_6_method_1_code (2 : Nat) (Option.none : Option Jvm.ClassFile.FieldType)).before args0 about1 = true := code_word (m := ⟨8, 0⟩) (meth := k8m0) (c := k8c0) (by decide +kernel) rfl rfl rfl (by decide +kernel)
set_option maxRecDepth 65536 in
theorem w_c7 : (Jvm.Cond.code ({ cls := "com/example/sigillum/sigillum/Verdict", name := "isValid", desc := "()Z" } : Jvm.MethodName) prog_6_method_4_code (1 : Nat) (Option.some Jvm.ClassFile.FieldType.boolean)).before args0 about1 = true := code_word (m := ⟨8, 2⟩) (meth := k8m2) (c := k8c2) (by decide +kernel) rfl rfl rfl (by decide +kernel)
set_option maxRecDepth 65536 in
theorem w_c8 : (Jvm.Cond.code ({ cls := "com/example/sigillum/sigillum/Verdict", name := "reason", desc := "()Ljava/lang/String;" } : Jvm.MethodName) prog_6_method_5_code (1 : Nat) (Option.some (Jvm.ClassFile.FieldType.object "java/lang/String"))).before args0 about1 = true := code_word (m := ⟨8, 3⟩) (meth := k8m3) (c := k8c3) (by decide +kernel) rfl rfl rfl (by decide +kernel)
set_option maxRecDepth 65536 in
theorem w_c9 : (Jvm.Cond.code ({ cls := "java/lang/String", name := "length", desc := "()I" } : Jvm.MethodName) jdk_42_method_54_code (1 : Nat) (Option.some Jvm.ClassFile.FieldType.int)).before args0 about1 = true := code_word (m := ⟨7, 2⟩) (meth := k7m2) (c := k7c2) (by decide +kernel) rfl rfl rfl (by decide +kernel)
set_option maxRecDepth 65536 in
theorem w_c10 : (Jvm.Cond.code ({ cls := "java/lang/String", name := "coder", desc := "()B" } : Jvm.MethodName) jdk_42_method_152_code (1 : Nat) (Option.some Jvm.ClassFile.FieldType.byte)).before args0 about1 = true := code_word (m := ⟨7, 6⟩) (meth := k7m6) (c := k7c6) (by decide +kernel) rfl rfl rfl (by decide +kernel)
set_option maxRecDepth 65536 in
theorem w_c11 : (Jvm.Cond.code ({ cls := "java/lang/String", name := "equals", desc := "(Ljava/lang/Object;)Z" } : Jvm.MethodName) jdk_42_method_66_code (3 : Nat) (Option.some Jvm.ClassFile.FieldType.boolean)).before args0 about1 = true := code_word (m := ⟨7, 4⟩) (meth := k7m4) (c := k7c4) (by decide +kernel) rfl rfl rfl (by decide +kernel)
set_option maxRecDepth 65536 in
theorem w_c12 : (Jvm.Cond.code ({ cls := "java/lang/StringUTF16", name := "compress", desc := "([CII)[B" } : Jvm.MethodName) jdk_52_method_16_code (6 : Nat) (Option.some (Jvm.ClassFile.FieldType.array Jvm.ClassFile.FieldType.byte))).before args0 about1 = true := code_word (m := ⟨10, 2⟩) (meth := k10m2) (c := k10c2) (by decide +kernel) rfl rfl rfl (by decide +kernel)
set_option maxRecDepth 65536 in
theorem w_c13 : (Jvm.Cond.code ({ cls := "java/lang/StringUTF16", name := "compress", desc := "([CI[BII)I" } : Jvm.MethodName) jdk_52_method_21_code (7 : Nat) (Option.some Jvm.ClassFile.FieldType.int)).before args0 about1 = true := code_word (m := ⟨10, 3⟩) (meth := k10m3) (c := k10c3) (by decide +kernel) rfl rfl rfl (by decide +kernel)
set_option maxRecDepth 65536 in
theorem w_c14 : (Jvm.Cond.code ({ cls := "java/lang/StringUTF16", name := "coderFromArrayLen", desc := "([BI)B" } : Jvm.MethodName) jdk_52_method_15_code (2 : Nat) (Option.some Jvm.ClassFile.FieldType.byte)).before args0 about1 = true := code_word (m := ⟨10, 1⟩) (meth := k10m1) (c := k10c1) (by decide +kernel) rfl rfl rfl (by decide +kernel)
set_option maxRecDepth 65536 in
theorem w_c15 : (Jvm.Cond.code ({ cls := "java/lang/String", name := "charAt", desc := "(I)C" } : Jvm.MethodName) jdk_42_method_56_code (2 : Nat) (Option.some Jvm.ClassFile.FieldType.char)).before args0 about1 = true := code_word (m := ⟨7, 3⟩) (meth := k7m3) (c := k7c3) (by decide +kernel) rfl rfl rfl (by decide +kernel)
set_option maxRecDepth 65536 in
theorem w_c16 : (Jvm.Cond.code ({ cls := "java/lang/String", name := "isLatin1", desc := "()Z" } : Jvm.MethodName) jdk_42_method_154_code (1 : Nat) (Option.some Jvm.ClassFile.FieldType.boolean)).before args0 about1 = true := code_word (m := ⟨7, 7⟩) (meth := k7m7) (c := k7c7) (by decide +kernel) rfl rfl rfl (by decide +kernel)
set_option maxRecDepth 65536 in
theorem w_c17 : (Jvm.Cond.code ({ cls := "java/lang/StringLatin1", name := "charAt", desc := "([BI)C" } : Jvm.MethodName) jdk_43_method_2_code (2 : Nat) (Option.some Jvm.ClassFile.FieldType.char)).before args0 about1 = true := code_word (m := ⟨11, 1⟩) (meth := k11m1) (c := k11c1) (by decide +kernel) rfl rfl rfl (by decide +kernel)
set_option maxRecDepth 65536 in
theorem w_c18 : (Jvm.Cond.code ({ cls := "java/lang/String", name := "checkIndex", desc := "(II)V" } : Jvm.MethodName) jdk_42_method_155_code (2 : Nat) (Option.none : Option Jvm.ClassFile.FieldType)).before args0 about1 = true := code_word (m := ⟨7, 8⟩) (meth := k7m8) (c := k7c8) (by decide +kernel) rfl rfl rfl (by decide +kernel)
set_option maxRecDepth 65536 in
theorem w_c19 : (Jvm.Cond.code ({ cls := "jdk/internal/util/Preconditions", name := "checkIndex", desc := "(IILjava/util/function/BiFunction;)I" } : Jvm.MethodName) jdk_41_method_11_code (3 : Nat) (Option.some Jvm.ClassFile.FieldType.int)).before args0 about1 = true := code_word (m := ⟨12, 1⟩) (meth := k12m1) (c := k12c1) (by decide +kernel) rfl rfl rfl (by decide +kernel)
def codes1 : List Jvm.Cond := [Jvm.Cond.code x code maxLocals ret, Jvm.Cond.code ({ cls := "java/lang/String", name := "<init>", desc := "([C)V" } : Jvm.MethodName) jdk_42_method_3_code (2 : Nat) (Option.none : Option Jvm.ClassFile.FieldType), Jvm.Cond.code ({ cls := "java/lang/String", name := "<init>", desc := "([CIILjava/lang/Void;)V" } : Jvm.MethodName) jdk_42_method_149_code (6 : Nat) (Option.none : Option Jvm.ClassFile.FieldType), Jvm.Cond.code ({ cls := "java/lang/Object", name := "<init>", desc := "()V" } : Jvm.MethodName) object_method_1_code (1 : Nat) (Option.none : Option Jvm.ClassFile.FieldType), Jvm.Cond.code ({ cls := "com/example/sigillum/sigillum/Verdict", name := "invalid", desc := "(Ljava/lang/String;)Lcom/example/sigillum/sigillum/Verdict;" } : Jvm.MethodName) prog_6_method_3_code (1 : Nat) (Option.some (Jvm.ClassFile.FieldType.object "com/example/sigillum/sigillum/Verdict")), Jvm.Cond.code ({ cls := "java/util/Objects", name := "requireNonNull", desc := "(Ljava/lang/Object;)Ljava/lang/Object;" } : Jvm.MethodName) jdk_31_method_10_code (1 : Nat) (Option.some (Jvm.ClassFile.FieldType.object "java/lang/Object")), Jvm.Cond.code ({ cls := "com/example/sigillum/sigillum/Verdict", name := "<init>", desc := "(Ljava/lang/String;)V" } : Jvm.MethodName) prog_6_method_1_code (2 : Nat) (Option.none : Option Jvm.ClassFile.FieldType), Jvm.Cond.code ({ cls := "com/example/sigillum/sigillum/Verdict", name := "isValid", desc := "()Z" } : Jvm.MethodName) prog_6_method_4_code (1 : Nat) (Option.some Jvm.ClassFile.FieldType.boolean), Jvm.Cond.code ({ cls := "com/example/sigillum/sigillum/Verdict", name := "reason", desc := "()Ljava/lang/String;" } : Jvm.MethodName) prog_6_method_5_code (1 : Nat) (Option.some (Jvm.ClassFile.FieldType.object "java/lang/String")), Jvm.Cond.code ({ cls := "java/lang/String", name := "length", desc := "()I" } : Jvm.MethodName) jdk_42_method_54_code (1 : Nat) (Option.some Jvm.ClassFile.FieldType.int), Jvm.Cond.code ({ cls := "java/lang/String", name := "coder", desc := "()B" } : Jvm.MethodName) jdk_42_method_152_code (1 : Nat) (Option.some Jvm.ClassFile.FieldType.byte), Jvm.Cond.code ({ cls := "java/lang/String", name := "equals", desc := "(Ljava/lang/Object;)Z" } : Jvm.MethodName) jdk_42_method_66_code (3 : Nat) (Option.some Jvm.ClassFile.FieldType.boolean), Jvm.Cond.code ({ cls := "java/lang/StringUTF16", name := "compress", desc := "([CII)[B" } : Jvm.MethodName) jdk_52_method_16_code (6 : Nat) (Option.some (Jvm.ClassFile.FieldType.array Jvm.ClassFile.FieldType.byte)), Jvm.Cond.code ({ cls := "java/lang/StringUTF16", name := "compress", desc := "([CI[BII)I" } : Jvm.MethodName) jdk_52_method_21_code (7 : Nat) (Option.some Jvm.ClassFile.FieldType.int), Jvm.Cond.code ({ cls := "java/lang/StringUTF16", name := "coderFromArrayLen", desc := "([BI)B" } : Jvm.MethodName) jdk_52_method_15_code (2 : Nat) (Option.some Jvm.ClassFile.FieldType.byte), Jvm.Cond.code ({ cls := "java/lang/String", name := "charAt", desc := "(I)C" } : Jvm.MethodName) jdk_42_method_56_code (2 : Nat) (Option.some Jvm.ClassFile.FieldType.char), Jvm.Cond.code ({ cls := "java/lang/String", name := "isLatin1", desc := "()Z" } : Jvm.MethodName) jdk_42_method_154_code (1 : Nat) (Option.some Jvm.ClassFile.FieldType.boolean), Jvm.Cond.code ({ cls := "java/lang/StringLatin1", name := "charAt", desc := "([BI)C" } : Jvm.MethodName) jdk_43_method_2_code (2 : Nat) (Option.some Jvm.ClassFile.FieldType.char), Jvm.Cond.code ({ cls := "java/lang/String", name := "checkIndex", desc := "(II)V" } : Jvm.MethodName) jdk_42_method_155_code (2 : Nat) (Option.none : Option Jvm.ClassFile.FieldType), Jvm.Cond.code ({ cls := "jdk/internal/util/Preconditions", name := "checkIndex", desc := "(IILjava/util/function/BiFunction;)I" } : Jvm.MethodName) jdk_41_method_11_code (3 : Nat) (Option.some Jvm.ClassFile.FieldType.int)]
set_option maxRecDepth 65536 in
theorem codes_eq : words1.filter isCode = codes1 := rfl
theorem w_codes : ∀ c ∈ words1.filter isCode, c.before args0 about1 = true := by
  rw [codes_eq]
  intro c hc
  simp only [codes1, List.mem_cons, List.not_mem_nil, or_false] at hc
  rcases hc with rfl | rfl | rfl | rfl | rfl | rfl | rfl | rfl | rfl | rfl | rfl | rfl | rfl | rfl | rfl | rfl | rfl | rfl | rfl | rfl
  · exact w_c0
  · exact w_c1
  · exact w_c2
  · exact w_c3
  · exact w_c4
  · exact w_c5
  · exact w_c6
  · exact w_c7
  · exact w_c8
  · exact w_c9
  · exact w_c10
  · exact w_c11
  · exact w_c12
  · exact w_c13
  · exact w_c14
  · exact w_c15
  · exact w_c16
  · exact w_c17
  · exact w_c18
  · exact w_c19
set_option maxRecDepth 65536 in
theorem w_t1 : (words1.take 24).all (fun c => isCode c || c.before args0 about1) = true := by decide +kernel
set_option maxRecDepth 65536 in
theorem w_t2 : ((words1.drop 24).take 24).all (fun c => isCode c || c.before args0 about1) = true := by decide +kernel
set_option maxRecDepth 65536 in
theorem w_t3 : (((words1.drop 24).drop 24).take 24).all (fun c => isCode c || c.before args0 about1) = true := by decide +kernel
set_option maxRecDepth 65536 in
theorem w_t4 : ((((words1.drop 24).drop 24).drop 24).take 24).all (fun c => isCode c || c.before args0 about1) = true := by decide +kernel
set_option maxRecDepth 65536 in
theorem w_t5 : ((((words1.drop 24).drop 24).drop 24).drop 24).all (fun c => isCode c || c.before args0 about1) = true := by decide +kernel
theorem w_tables : (allAtoms (Jvm.Cond.code x code maxLocals ret :: tables_1)).before args0 about1 = true := by
  rw [allAtoms_all]
  show words1.all (fun c => c.before args0 about1) = true
  refine all_split ?_ w_codes
  rw [← List.take_append_drop 24 words1, List.all_append, w_t1, ← List.take_append_drop 24 (words1.drop 24), List.all_append, w_t2, ← List.take_append_drop 24 ((words1.drop 24).drop 24), List.all_append, w_t3, ← List.take_append_drop 24 (((words1.drop 24).drop 24).drop 24), List.all_append, w_t4, w_t5]
  rfl
set_option maxRecDepth 65536 in
theorem w_rest : rest_1_c.before args0 about1 = true := by decide +kernel
set_option maxRecDepth 65536 in
theorem w_case : (Jvm.Cond.and given_1 narrow_1).before args0 about1 = true := by decide +kernel
set_option maxRecDepth 65536 in
theorem w_consts : constsHeld consts_1 about1 := Jvm.Lit.constsHeldB_iff.mp (by decide +kernel)
theorem w_applies : (headSpec (Jvm.Cond.code x code maxLocals ret :: tables_1) room_1).applies x e0.platform about1 = true :=
  (Spec.applies_iff w_frames).mpr ⟨w_running, w_runnable, w_alone, w_named, w_hears, w_ripe, w_room, w_tables⟩
theorem atStart : AtStart classFile x code maxLocals ret World_1 tables_1 room_1 Calls_1 rest_1 Pre_1 launch0 p0 e0 about1 theMethod args0 below0 :=
  ⟨lists_1, trivial, launch0.admits_env _ _ _, launch0.least_env, fairChoices_fair.cas, fairChoices_fair.clock, w_frames, w_args, w_heap, w_applies, ⟨w_consts, trivial⟩, w_rest, w_case⟩
end start1
theorem witness_1 : WitnessClaimed_1 := ⟨start1.p0, start1.e0, start1.about1, start1.theMethod, start1.args0, start1.below0, start1.atStart⟩
end Jvm.Pilot.@@N@@
