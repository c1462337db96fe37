import JvmDerived
import JvmDerived.Pilot.@@N@@Statement
import JvmDerived.Pilot.@@N@@Code
set_option linter.unusedVariables false
set_option linter.unusedSimpArgs false
namespace Jvm.OwnKit
open Sem ClassFile Op Lib Jvm.Stand Jvm.Free Jvm.LawKit Jvm.RoadKit Jvm.Free.Fl
/-- from U the run comes to a return whose value, heap, written places, new cells and slots meet G -/
def Good (tb : Tables) (e : Env) (below : List Frame) (s : State) (G : Option Value → Heap → List Loc → Nat → Nat → Prop) (U : State) : Prop :=
  ∃ (T : State) (fs : List Frame) (v : Option Value) (locs : List Loc) (cells slots : Nat), Steps tb e below U (T.setFrames fs) ∧ (T.setFrames fs).status = .running ∧ Ended (T.setFrames fs) below (.returned v) ∧ s.WarmedH (T.setFrames fs).vm ∧ s.sameButNew ({ T.setFrames fs with vm := s.vm } : State) locs cells slots ∧ G v T.heap locs cells slots
theorem Good.go {tb : Tables} {e : Env} {below : List Frame} {s : State} {G : Option Value → Heap → List Loc → Nat → Nat → Prop} {U U' : State} (st : ∀ target, Steps tb e below U' target → Steps tb e below U target) (k : Good tb e below s G U') : Good tb e below s G U := by
  obtain ⟨T, fs, v, L, a, b, q, r⟩ := k
  exact ⟨T, fs, v, L, a, b, st _ q, r⟩
section Kit
variable {p : Program} {l : Launch} {e : Env} {R : Room} {s : State} {m : MethodId} {args : Array Value} {below : List Frame} {meth : Method} {c : Code} {T : State} {locs : List Loc} {cells slots : Nat} {G : Option Value → Heap → List Loc → Nat → Nat → Prop}
theorem Good.ret (X : Stand p l e R s m args below meth c T locs cells slots) (hx : p.tables.exec = Jvm.exec) (hlk : meth.locks = false) {pc : Nat} {Ls : Array Slot} {w : Value} {t : FieldType} {i : Instr} {rest : List Value} (hret : meth.sig.returnType = some t) (hn : narrow t w = w)
    (hi : (i = .ireturn ∧ (t = .int ∨ t = .boolean ∨ t = .byte ∨ t = .char ∨ t = .short) ∧ ∃ z, w = .int z) ∨ (i = .lreturn ∧ t = .long ∧ ∃ z, w = .long z) ∨ (i = .dreturn ∧ t = .double ∧ ∃ z, w = .double z) ∨ (i = .freturn ∧ t = .float ∧ ∃ z, w = .float z) ∨ (i = .areturn ∧ t.isReference = true ∧ w.isRef = true))
    (hd : decode c.code pc = .ok (i, 1)) (hG : G (some w) T.heap locs cells slots) : Good p.tables e below s G (T.setTop (mkF m pc Ls (w :: rest))) := by
  obtain ⟨fs, hr, h1, h2, h3, h4⟩ := X.leave (v := some w) (fun q => by rw [hret] at q; cases q) hlk
  exact ⟨T, fs, some w, locs, cells, slots, retOut X hx hret hn hi hd hr, h1, h2, h3, h4, hG⟩
theorem Good.retD (X : Stand p l e R s m args below meth c T locs cells slots) (hx : p.tables.exec = Jvm.exec) (hlk : meth.locks = false) {pc : Nat} {Ls : Array Slot} {w : UInt64} {rest : List Value} (hret : meth.sig.returnType = some .double) (hd : decode c.code pc = .ok (.dreturn, 1)) (hG : G (some (.double w)) T.heap locs cells slots) : Good p.tables e below s G (T.setTop (mkF m pc Ls (.double w :: rest))) :=
  Good.ret X hx hlk hret rfl (Or.inr (Or.inr (Or.inl ⟨rfl, rfl, _, rfl⟩))) hd hG
theorem Good.retA (X : Stand p l e R s m args below meth c T locs cells slots) (hx : p.tables.exec = Jvm.exec) (hlk : meth.locks = false) {pc : Nat} {Ls : Array Slot} {w : Value} {t : FieldType} {rest : List Value} (hret : meth.sig.returnType = some t) (ht : t.isReference = true) (hw : w.isRef = true) (hd : decode c.code pc = .ok (.areturn, 1)) (hG : G (some w) T.heap locs cells slots) : Good p.tables e below s G (T.setTop (mkF m pc Ls (w :: rest))) :=
  Good.ret X hx hlk hret (by cases t <;> first | (exact Bool.noConfusion ht) | (cases w <;> first | rfl | exact Bool.noConfusion hw)) (Or.inr (Or.inr (Or.inr (Or.inr ⟨rfl, ht, hw⟩)))) hd hG
theorem Good.retI (X : Stand p l e R s m args below meth c T locs cells slots) (hx : p.tables.exec = Jvm.exec) (hlk : meth.locks = false) {pc : Nat} {Ls : Array Slot} {w : Int32} {rest : List Value} (hret : meth.sig.returnType = some .int) (hd : decode c.code pc = .ok (.ireturn, 1)) (hG : G (some (.int w)) T.heap locs cells slots) : Good p.tables e below s G (T.setTop (mkF m pc Ls (.int w :: rest))) :=
  Good.ret X hx hlk hret rfl (Or.inl ⟨rfl, Or.inl rfl, _, rfl⟩) hd hG
theorem Good.retZ (X : Stand p l e R s m args below meth c T locs cells slots) (hx : p.tables.exec = Jvm.exec) (hlk : meth.locks = false) {pc : Nat} {Ls : Array Slot} {w : Int32} {rest : List Value} (hret : meth.sig.returnType = some .boolean) (hd : decode c.code pc = .ok (.ireturn, 1)) (hw : w = 0 ∨ w = 1) (hG : G (some (.int w)) T.heap locs cells slots) : Good p.tables e below s G (T.setTop (mkF m pc Ls (.int w :: rest))) :=
  Good.ret X hx hlk hret (by rcases hw with rfl | rfl <;> rfl) (Or.inl ⟨rfl, Or.inr (Or.inl rfl), _, rfl⟩) hd hG
theorem Good.ret0 (X : Stand p l e R s m args below meth c T locs cells slots) (hx : p.tables.exec = Jvm.exec) (hlk : meth.locks = false) {pc : Nat} {Ls : Array Slot} (hret : meth.sig.returnType = none) (hd : decode c.code pc = .ok (.return_, 1)) (hG : G none T.heap locs cells slots) : Good p.tables e below s G (T.setTop (mkF m pc Ls [])) := by
  obtain ⟨fs, hr, h1, h2, h3, h4⟩ := X.leave (v := none) (fun _ => rfl) hlk
  exact ⟨T, fs, none, locs, cells, slots, X.returnOut hx hret hd hr, h1, h2, h3, h4, hG⟩

theorem Good.aloadN (X : Stand p l e R s m args below meth c T locs cells slots) (hx : p.tables.exec = Jvm.exec) {pc pc' : Nat} {Ls : Array Slot} {k : Fin 4} {v : Value} {st : List Value} (hp : pc + 1 = pc') (hd : decode c.code pc = .ok (.aload_n k, 1)) (hl : Ls[k.val]? = some (.val v)) (hv : v.isRef = true) (k : Good p.tables e below s G (T.setTop (mkF m pc' Ls (v :: st)))) : Good p.tables e below s G (T.setTop (mkF m pc Ls st)) := by
  subst hp
  exact Good.go (fun _ q => XS.aloadN X.here hx rfl hd hl hv q) k
theorem Good.aload (X : Stand p l e R s m args below meth c T locs cells slots) (hx : p.tables.exec = Jvm.exec) {pc pc' : Nat} {Ls : Array Slot} {k : Nat} {v : Value} {st : List Value} (hp : pc + 2 = pc') (hd : decode c.code pc = .ok (.aload k, 2)) (hl : Ls[k]? = some (.val v)) (hv : v.isRef = true) (k : Good p.tables e below s G (T.setTop (mkF m pc' Ls (v :: st)))) : Good p.tables e below s G (T.setTop (mkF m pc Ls st)) := by
  subst hp
  exact Good.go (fun _ q => XS.aload X.here hx rfl hd hl hv q) k
theorem Good.iloadN (X : Stand p l e R s m args below meth c T locs cells slots) (hx : p.tables.exec = Jvm.exec) {pc pc' : Nat} {Ls : Array Slot} {k : Fin 4} {v : Int32} {st : List Value} (hp : pc + 1 = pc') (hd : decode c.code pc = .ok (.iload_n k, 1)) (hl : Ls[k.val]? = some (.val (.int v))) (k : Good p.tables e below s G (T.setTop (mkF m pc' Ls (.int v :: st)))) : Good p.tables e below s G (T.setTop (mkF m pc Ls st)) := by
  subst hp
  exact Good.go (fun _ q => XS.iloadN X.here hx rfl hd hl q) k
theorem Good.iload (X : Stand p l e R s m args below meth c T locs cells slots) (hx : p.tables.exec = Jvm.exec) {pc pc' : Nat} {Ls : Array Slot} {k : Nat} {v : Int32} {st : List Value} (hp : pc + 2 = pc') (hd : decode c.code pc = .ok (.iload k, 2)) (hl : Ls[k]? = some (.val (.int v))) (k : Good p.tables e below s G (T.setTop (mkF m pc' Ls (.int v :: st)))) : Good p.tables e below s G (T.setTop (mkF m pc Ls st)) := by
  subst hp
  exact Good.go (fun _ q => XS.iload X.here hx rfl hd hl q) k
theorem Good.lloadN (X : Stand p l e R s m args below meth c T locs cells slots) (hx : p.tables.exec = Jvm.exec) {pc pc' : Nat} {Ls : Array Slot} {k : Fin 4} {v : Int64} {st : List Value} (hp : pc + 1 = pc') (hd : decode c.code pc = .ok (.lload_n k, 1)) (hl : Ls[k.val]? = some (.val (.long v))) (k : Good p.tables e below s G (T.setTop (mkF m pc' Ls (.long v :: st)))) : Good p.tables e below s G (T.setTop (mkF m pc Ls st)) := by
  subst hp
  exact Good.go (fun _ q => XT.lloadN X.here hx rfl hd hl q) k
theorem Good.lload (X : Stand p l e R s m args below meth c T locs cells slots) (hx : p.tables.exec = Jvm.exec) {pc pc' : Nat} {Ls : Array Slot} {k : Nat} {v : Int64} {st : List Value} (hp : pc + 2 = pc') (hd : decode c.code pc = .ok (.lload k, 2)) (hl : Ls[k]? = some (.val (.long v))) (k : Good p.tables e below s G (T.setTop (mkF m pc' Ls (.long v :: st)))) : Good p.tables e below s G (T.setTop (mkF m pc Ls st)) := by
  subst hp
  exact Good.go (fun _ q => XT.lload X.here hx rfl hd hl q) k
theorem Good.dloadN (X : Stand p l e R s m args below meth c T locs cells slots) (hx : p.tables.exec = Jvm.exec) {pc pc' : Nat} {Ls : Array Slot} {k : Fin 4} {v : UInt64} {st : List Value} (hp : pc + 1 = pc') (hd : decode c.code pc = .ok (.dload_n k, 1)) (hl : Ls[k.val]? = some (.val (.double v))) (k : Good p.tables e below s G (T.setTop (mkF m pc' Ls (.double v :: st)))) : Good p.tables e below s G (T.setTop (mkF m pc Ls st)) := by
  subst hp
  refine Good.go (fun _ q => ?_) k
  show Steps p.tables e below (T.setTop { method := m, pc := pc, locals := Ls, stack := st, locked := none }) _
  jvm_step X.here [X.here.top, hx, hd, hl]
  exact q
theorem Good.dload (X : Stand p l e R s m args below meth c T locs cells slots) (hx : p.tables.exec = Jvm.exec) {pc pc' : Nat} {Ls : Array Slot} {k : Nat} {v : UInt64} {st : List Value} (hp : pc + 2 = pc') (hd : decode c.code pc = .ok (.dload k, 2)) (hl : Ls[k]? = some (.val (.double v))) (k : Good p.tables e below s G (T.setTop (mkF m pc' Ls (.double v :: st)))) : Good p.tables e below s G (T.setTop (mkF m pc Ls st)) := by
  subst hp
  refine Good.go (fun _ q => ?_) k
  show Steps p.tables e below (T.setTop { method := m, pc := pc, locals := Ls, stack := st, locked := none }) _
  jvm_step X.here [X.here.top, hx, hd, hl]
  exact q
theorem Good.iconst (X : Stand p l e R s m args below meth c T locs cells slots) (hx : p.tables.exec = Jvm.exec) {pc pc' : Nat} {Ls : Array Slot} {i : Int} {w : Int32} {st : List Value} (hp : pc + 1 = pc') (hd : decode c.code pc = .ok (.iconst i, 1)) (hv : Int32.ofInt i = w) (k : Good p.tables e below s G (T.setTop (mkF m pc' Ls (.int w :: st)))) : Good p.tables e below s G (T.setTop (mkF m pc Ls st)) := by
  subst hp; subst hv
  exact Good.go (fun _ q => XS.iconst X.here hx rfl hd q) k
theorem Good.bipush (X : Stand p l e R s m args below meth c T locs cells slots) (hx : p.tables.exec = Jvm.exec) {pc pc' : Nat} {Ls : Array Slot} {i : Int} {w : Int32} {st : List Value} (hp : pc + 2 = pc') (hd : decode c.code pc = .ok (.bipush i, 2)) (hv : (Int8.ofInt i).toInt32 = w) (k : Good p.tables e below s G (T.setTop (mkF m pc' Ls (.int w :: st)))) : Good p.tables e below s G (T.setTop (mkF m pc Ls st)) := by
  subst hp; subst hv
  exact Good.go (fun _ q => XS.bipush X.here hx rfl hd q) k
theorem Good.sipush (X : Stand p l e R s m args below meth c T locs cells slots) (hx : p.tables.exec = Jvm.exec) {pc pc' : Nat} {Ls : Array Slot} {i : Int} {w : Int32} {st : List Value} (hp : pc + 3 = pc') (hd : decode c.code pc = .ok (.sipush i, 3)) (hv : (Int16.ofInt i).toInt32 = w) (k : Good p.tables e below s G (T.setTop (mkF m pc' Ls (.int w :: st)))) : Good p.tables e below s G (T.setTop (mkF m pc Ls st)) := by
  subst hp; subst hv
  exact Good.go (fun _ q => XS.sipush X.here hx rfl hd q) k
theorem Good.dconst0 (X : Stand p l e R s m args below meth c T locs cells slots) (hx : p.tables.exec = Jvm.exec) {pc pc' : Nat} {Ls : Array Slot} {st : List Value} (hp : pc + 1 = pc') (hd : decode c.code pc = .ok (.dconst 0, 1))  (k : Good p.tables e below s G (T.setTop (mkF m pc' Ls (.double FP.dconst0 :: st)))) : Good p.tables e below s G (T.setTop (mkF m pc Ls st)) := by
  subst hp
  refine Good.go (fun _ q => ?_) k
  show Steps p.tables e below (T.setTop { method := m, pc := pc, locals := Ls, stack := st, locked := none }) _
  jvm_step X.here [X.here.top, hx, hd, dconst.sem]
  exact q
theorem Good.dconst1 (X : Stand p l e R s m args below meth c T locs cells slots) (hx : p.tables.exec = Jvm.exec) {pc pc' : Nat} {Ls : Array Slot} {st : List Value} (hp : pc + 1 = pc') (hd : decode c.code pc = .ok (.dconst 1, 1))  (k : Good p.tables e below s G (T.setTop (mkF m pc' Ls (.double FP.dconst1 :: st)))) : Good p.tables e below s G (T.setTop (mkF m pc Ls st)) := by
  subst hp
  refine Good.go (fun _ q => ?_) k
  show Steps p.tables e below (T.setTop { method := m, pc := pc, locals := Ls, stack := st, locked := none }) _
  jvm_step X.here [X.here.top, hx, hd, dconst.sem]
  exact q
theorem Good.aconstNull (X : Stand p l e R s m args below meth c T locs cells slots) (hx : p.tables.exec = Jvm.exec) {pc pc' : Nat} {Ls : Array Slot} {st : List Value} (hp : pc + 1 = pc') (hd : decode c.code pc = .ok (.aconst_null, 1))  (k : Good p.tables e below s G (T.setTop (mkF m pc' Ls (.null :: st)))) : Good p.tables e below s G (T.setTop (mkF m pc Ls st)) := by
  subst hp
  exact Good.go (fun _ q => XS.aconstNull X.here hx rfl hd q) k
theorem Good.iadd (X : Stand p l e R s m args below meth c T locs cells slots) (hx : p.tables.exec = Jvm.exec) {pc pc' : Nat} {Ls : Array Slot} {x y : Int32} {st : List Value} (hp : pc + 1 = pc') (hd : decode c.code pc = .ok (.iadd, 1))  (k : Good p.tables e below s G (T.setTop (mkF m pc' Ls (.int (x + y) :: st)))) : Good p.tables e below s G (T.setTop (mkF m pc Ls (.int y :: .int x :: st))) := by
  subst hp
  exact Good.go (fun _ q => XS.iadd X.here hx rfl hd rfl q) k
theorem Good.isub (X : Stand p l e R s m args below meth c T locs cells slots) (hx : p.tables.exec = Jvm.exec) {pc pc' : Nat} {Ls : Array Slot} {x y : Int32} {st : List Value} (hp : pc + 1 = pc') (hd : decode c.code pc = .ok (.isub, 1))  (k : Good p.tables e below s G (T.setTop (mkF m pc' Ls (.int (x - y) :: st)))) : Good p.tables e below s G (T.setTop (mkF m pc Ls (.int y :: .int x :: st))) := by
  subst hp
  exact Good.go (fun _ q => XS.isub X.here hx rfl hd rfl q) k
theorem Good.iand (X : Stand p l e R s m args below meth c T locs cells slots) (hx : p.tables.exec = Jvm.exec) {pc pc' : Nat} {Ls : Array Slot} {x y : Int32} {st : List Value} (hp : pc + 1 = pc') (hd : decode c.code pc = .ok (.iand, 1))  (k : Good p.tables e below s G (T.setTop (mkF m pc' Ls (.int (x &&& y) :: st)))) : Good p.tables e below s G (T.setTop (mkF m pc Ls (.int y :: .int x :: st))) := by
  subst hp
  exact Good.go (fun _ q => XS.iand X.here hx rfl hd rfl q) k
theorem Good.imul (X : Stand p l e R s m args below meth c T locs cells slots) (hx : p.tables.exec = Jvm.exec) {pc pc' : Nat} {Ls : Array Slot} {x y : Int32} {st : List Value} (hp : pc + 1 = pc') (hd : decode c.code pc = .ok (.imul, 1))  (k : Good p.tables e below s G (T.setTop (mkF m pc' Ls (.int (x * y) :: st)))) : Good p.tables e below s G (T.setTop (mkF m pc Ls (.int y :: .int x :: st))) := by
  subst hp
  exact Good.go (fun _ q => XS.imul X.here hx rfl hd rfl q) k
theorem Good.ixor (X : Stand p l e R s m args below meth c T locs cells slots) (hx : p.tables.exec = Jvm.exec) {pc pc' : Nat} {Ls : Array Slot} {x y : Int32} {st : List Value} (hp : pc + 1 = pc') (hd : decode c.code pc = .ok (.ixor, 1))  (k : Good p.tables e below s G (T.setTop (mkF m pc' Ls (.int (x ^^^ y) :: st)))) : Good p.tables e below s G (T.setTop (mkF m pc Ls (.int y :: .int x :: st))) := by
  subst hp
  exact Good.go (fun _ q => XT.ixor X.here hx rfl hd rfl q) k
theorem Good.iushr (X : Stand p l e R s m args below meth c T locs cells slots) (hx : p.tables.exec = Jvm.exec) {pc pc' : Nat} {Ls : Array Slot} {x y : Int32} {st : List Value} (hp : pc + 1 = pc') (hd : decode c.code pc = .ok (.iushr, 1))  (k : Good p.tables e below s G (T.setTop (mkF m pc' Ls (.int (XT.ushr x y) :: st)))) : Good p.tables e below s G (T.setTop (mkF m pc Ls (.int y :: .int x :: st))) := by
  subst hp
  exact Good.go (fun _ q => XT.iushr X.here hx rfl hd rfl q) k
theorem Good.ishr (X : Stand p l e R s m args below meth c T locs cells slots) (hx : p.tables.exec = Jvm.exec) {pc pc' : Nat} {Ls : Array Slot} {x y : Int32} {st : List Value} (hp : pc + 1 = pc') (hd : decode c.code pc = .ok (.ishr, 1))  (k : Good p.tables e below s G (T.setTop (mkF m pc' Ls (.int (x >>> (y &&& 31)) :: st)))) : Good p.tables e below s G (T.setTop (mkF m pc Ls (.int y :: .int x :: st))) := by
  subst hp
  exact Good.go (fun _ q => XT.ishr X.here hx rfl hd rfl q) k
theorem Good.irem (X : Stand p l e R s m args below meth c T locs cells slots) (hx : p.tables.exec = Jvm.exec) {pc pc' : Nat} {Ls : Array Slot} {x y : Int32} {st : List Value} (hp : pc + 1 = pc') (hd : decode c.code pc = .ok (.irem, 1)) (hy : y ≠ 0) (k : Good p.tables e below s G (T.setTop (mkF m pc' Ls (.int (x % y) :: st)))) : Good p.tables e below s G (T.setTop (mkF m pc Ls (.int y :: .int x :: st))) := by
  subst hp
  exact Good.go (fun _ q => iremM X hx rfl hd rfl hy q) k
theorem Good.ladd (X : Stand p l e R s m args below meth c T locs cells slots) (hx : p.tables.exec = Jvm.exec) {pc pc' : Nat} {Ls : Array Slot} {x y : Int64} {st : List Value} (hp : pc + 1 = pc') (hd : decode c.code pc = .ok (.ladd, 1))  (k : Good p.tables e below s G (T.setTop (mkF m pc' Ls (.long (x + y) :: st)))) : Good p.tables e below s G (T.setTop (mkF m pc Ls (.long y :: .long x :: st))) := by
  subst hp
  exact Good.go (fun _ q => XT.ladd X.here hx rfl hd rfl q) k
theorem Good.lsub (X : Stand p l e R s m args below meth c T locs cells slots) (hx : p.tables.exec = Jvm.exec) {pc pc' : Nat} {Ls : Array Slot} {x y : Int64} {st : List Value} (hp : pc + 1 = pc') (hd : decode c.code pc = .ok (.lsub, 1))  (k : Good p.tables e below s G (T.setTop (mkF m pc' Ls (.long (x - y) :: st)))) : Good p.tables e below s G (T.setTop (mkF m pc Ls (.long y :: .long x :: st))) := by
  subst hp
  exact Good.go (fun _ q => XT.lsub X.here hx rfl hd rfl q) k
theorem Good.lrem (X : Stand p l e R s m args below meth c T locs cells slots) (hx : p.tables.exec = Jvm.exec) {pc pc' : Nat} {Ls : Array Slot} {x y : Int64} {st : List Value} (hp : pc + 1 = pc') (hd : decode c.code pc = .ok (.lrem, 1)) (hy : y ≠ 0) (k : Good p.tables e below s G (T.setTop (mkF m pc' Ls (.long (x - (x / y) * y) :: st)))) : Good p.tables e below s G (T.setTop (mkF m pc Ls (.long y :: .long x :: st))) := by
  subst hp
  exact Good.go (fun _ q => XT.lrem X.here hx rfl hd rfl hy q) k
theorem Good.i2l (X : Stand p l e R s m args below meth c T locs cells slots) (hx : p.tables.exec = Jvm.exec) {pc pc' : Nat} {Ls : Array Slot} {x : Int32} {st : List Value} (hp : pc + 1 = pc') (hd : decode c.code pc = .ok (.i2l, 1))  (k : Good p.tables e below s G (T.setTop (mkF m pc' Ls (.long x.toInt64 :: st)))) : Good p.tables e below s G (T.setTop (mkF m pc Ls (.int x :: st))) := by
  subst hp
  exact Good.go (fun _ q => XT.i2l X.here hx rfl hd rfl q) k
theorem Good.i2b (X : Stand p l e R s m args below meth c T locs cells slots) (hx : p.tables.exec = Jvm.exec) {pc pc' : Nat} {Ls : Array Slot} {x : Int32} {st : List Value} (hp : pc + 1 = pc') (hd : decode c.code pc = .ok (.i2b, 1))  (k : Good p.tables e below s G (T.setTop (mkF m pc' Ls (.int x.toInt8.toInt32 :: st)))) : Good p.tables e below s G (T.setTop (mkF m pc Ls (.int x :: st))) := by
  subst hp
  exact Good.go (fun _ q => XT.i2b X.here hx rfl hd rfl q) k
theorem Good.i2c (X : Stand p l e R s m args below meth c T locs cells slots) (hx : p.tables.exec = Jvm.exec) {pc pc' : Nat} {Ls : Array Slot} {x : Int32} {st : List Value} (hp : pc + 1 = pc') (hd : decode c.code pc = .ok (.i2c, 1))  (k : Good p.tables e below s G (T.setTop (mkF m pc' Ls (.int x.toUInt32.toUInt16.toUInt32.toInt32 :: st)))) : Good p.tables e below s G (T.setTop (mkF m pc Ls (.int x :: st))) := by
  subst hp
  exact Good.go (fun _ q => XT.i2c X.here hx rfl hd rfl q) k
theorem Good.l2i (X : Stand p l e R s m args below meth c T locs cells slots) (hx : p.tables.exec = Jvm.exec) {pc pc' : Nat} {Ls : Array Slot} {x : Int64} {st : List Value} (hp : pc + 1 = pc') (hd : decode c.code pc = .ok (.l2i, 1))  (k : Good p.tables e below s G (T.setTop (mkF m pc' Ls (.int x.toInt32 :: st)))) : Good p.tables e below s G (T.setTop (mkF m pc Ls (.long x :: st))) := by
  subst hp
  exact Good.go (fun _ q => XT.l2i X.here hx rfl hd rfl q) k
theorem Good.lshr (X : Stand p l e R s m args below meth c T locs cells slots) (hx : p.tables.exec = Jvm.exec) {pc pc' : Nat} {Ls : Array Slot} {x : Int64} {y : Int32} {st : List Value} (hp : pc + 1 = pc') (hd : decode c.code pc = .ok (.lshr, 1))  (k : Good p.tables e below s G (T.setTop (mkF m pc' Ls (.long (x >>> (y.toInt64 &&& 63)) :: st)))) : Good p.tables e below s G (T.setTop (mkF m pc Ls (.int y :: .long x :: st))) := by
  subst hp
  exact Good.go (fun _ q => XT.lshr X.here hx rfl hd rfl q) k
theorem Good.i2d (X : Stand p l e R s m args below meth c T locs cells slots) (hx : p.tables.exec = Jvm.exec) {pc pc' : Nat} {Ls : Array Slot} {x : Int32} {st : List Value} (hp : pc + 1 = pc') (hd : decode c.code pc = .ok (.i2d, 1))  (k : Good p.tables e below s G (T.setTop (mkF m pc' Ls (.double (FP.i2d x) :: st)))) : Good p.tables e below s G (T.setTop (mkF m pc Ls (.int x :: st))) := by
  subst hp
  refine Good.go (fun _ q => ?_) k
  show Steps p.tables e below (T.setTop { method := m, pc := pc, locals := Ls, stack := (.int x :: st), locked := none }) _
  jvm_step X.here [X.here.top, hx, hd]
  exact q
theorem Good.l2d (X : Stand p l e R s m args below meth c T locs cells slots) (hx : p.tables.exec = Jvm.exec) {pc pc' : Nat} {Ls : Array Slot} {x : Int64} {st : List Value} (hp : pc + 1 = pc') (hd : decode c.code pc = .ok (.l2d, 1))  (k : Good p.tables e below s G (T.setTop (mkF m pc' Ls (.double (FP.l2d x) :: st)))) : Good p.tables e below s G (T.setTop (mkF m pc Ls (.long x :: st))) := by
  subst hp
  refine Good.go (fun _ q => ?_) k
  show Steps p.tables e below (T.setTop { method := m, pc := pc, locals := Ls, stack := (.long x :: st), locked := none }) _
  jvm_step X.here [X.here.top, hx, hd]
  exact q
theorem Good.d2l (X : Stand p l e R s m args below meth c T locs cells slots) (hx : p.tables.exec = Jvm.exec) {pc pc' : Nat} {Ls : Array Slot} {x : UInt64} {st : List Value} (hp : pc + 1 = pc') (hd : decode c.code pc = .ok (.d2l, 1))  (k : Good p.tables e below s G (T.setTop (mkF m pc' Ls (.long (FP.d2l x) :: st)))) : Good p.tables e below s G (T.setTop (mkF m pc Ls (.double x :: st))) := by
  subst hp
  refine Good.go (fun _ q => ?_) k
  show Steps p.tables e below (T.setTop { method := m, pc := pc, locals := Ls, stack := (.double x :: st), locked := none }) _
  jvm_step X.here [X.here.top, hx, hd]
  exact q
theorem Good.dadd (X : Stand p l e R s m args below meth c T locs cells slots) (hx : p.tables.exec = Jvm.exec) {pc pc' : Nat} {Ls : Array Slot} {x y : UInt64} {st : List Value} (hp : pc + 1 = pc') (hd : decode c.code pc = .ok (.dadd, 1)) (hn : NoNaN64 (FP.dadd x y)) (k : Good p.tables e below s G (T.setTop (mkF m pc' Ls (.double (FP.dadd x y) :: st)))) : Good p.tables e below s G (T.setTop (mkF m pc Ls (.double y :: .double x :: st))) := by
  subst hp
  refine Good.go (fun _ q => ?_) k
  show Steps p.tables e below (T.setTop { method := m, pc := pc, locals := Ls, stack := (.double y :: .double x :: st), locked := none }) _
  jvm_step X.here [X.here.top, hx, hd, Op.dadd.at_number X.here.top hn]
  exact q
theorem Good.dsub (X : Stand p l e R s m args below meth c T locs cells slots) (hx : p.tables.exec = Jvm.exec) {pc pc' : Nat} {Ls : Array Slot} {x y : UInt64} {st : List Value} (hp : pc + 1 = pc') (hd : decode c.code pc = .ok (.dsub, 1)) (hn : NoNaN64 (FP.dsub x y)) (k : Good p.tables e below s G (T.setTop (mkF m pc' Ls (.double (FP.dsub x y) :: st)))) : Good p.tables e below s G (T.setTop (mkF m pc Ls (.double y :: .double x :: st))) := by
  subst hp
  refine Good.go (fun _ q => ?_) k
  show Steps p.tables e below (T.setTop { method := m, pc := pc, locals := Ls, stack := (.double y :: .double x :: st), locked := none }) _
  jvm_step X.here [X.here.top, hx, hd, Op.dsub.at_number X.here.top hn]
  exact q
theorem Good.dmul (X : Stand p l e R s m args below meth c T locs cells slots) (hx : p.tables.exec = Jvm.exec) {pc pc' : Nat} {Ls : Array Slot} {x y : UInt64} {st : List Value} (hp : pc + 1 = pc') (hd : decode c.code pc = .ok (.dmul, 1)) (hn : NoNaN64 (FP.dmul x y)) (k : Good p.tables e below s G (T.setTop (mkF m pc' Ls (.double (FP.dmul x y) :: st)))) : Good p.tables e below s G (T.setTop (mkF m pc Ls (.double y :: .double x :: st))) := by
  subst hp
  refine Good.go (fun _ q => ?_) k
  show Steps p.tables e below (T.setTop { method := m, pc := pc, locals := Ls, stack := (.double y :: .double x :: st), locked := none }) _
  jvm_step X.here [X.here.top, hx, hd, Op.dmul.at_number X.here.top hn]
  exact q
theorem Good.ddiv (X : Stand p l e R s m args below meth c T locs cells slots) (hx : p.tables.exec = Jvm.exec) {pc pc' : Nat} {Ls : Array Slot} {x y : UInt64} {st : List Value} (hp : pc + 1 = pc') (hd : decode c.code pc = .ok (.ddiv, 1)) (hn : NoNaN64 (FP.ddiv x y)) (k : Good p.tables e below s G (T.setTop (mkF m pc' Ls (.double (FP.ddiv x y) :: st)))) : Good p.tables e below s G (T.setTop (mkF m pc Ls (.double y :: .double x :: st))) := by
  subst hp
  refine Good.go (fun _ q => ?_) k
  show Steps p.tables e below (T.setTop { method := m, pc := pc, locals := Ls, stack := (.double y :: .double x :: st), locked := none }) _
  jvm_step X.here [X.here.top, hx, hd, Op.ddiv.at_number X.here.top hn]
  exact q
theorem Good.dcmp (X : Stand p l e R s m args below meth c T locs cells slots) (hx : p.tables.exec = Jvm.exec) {pc pc' : Nat} {Ls : Array Slot} {x y : UInt64} {op : CmpOp} {st : List Value} (hp : pc + 1 = pc') (hd : decode c.code pc = .ok (.dcmp op, 1))  (k : Good p.tables e below s G (T.setTop (mkF m pc' Ls (.int (cmpValue (FP.dcmp x y) op) :: st)))) : Good p.tables e below s G (T.setTop (mkF m pc Ls (.double y :: .double x :: st))) := by
  subst hp
  refine Good.go (fun _ q => ?_) k
  show Steps p.tables e below (T.setTop { method := m, pc := pc, locals := Ls, stack := (.double y :: .double x :: st), locked := none }) _
  jvm_step X.here [X.here.top, hx, hd]
  exact q
theorem Good.dup (X : Stand p l e R s m args below meth c T locs cells slots) (hx : p.tables.exec = Jvm.exec) {pc pc' : Nat} {Ls : Array Slot} {x : Value} {st : List Value} (hp : pc + 1 = pc') (hd : decode c.code pc = .ok (.dup, 1)) (hc : x.category = 1) (k : Good p.tables e below s G (T.setTop (mkF m pc' Ls (x :: x :: st)))) : Good p.tables e below s G (T.setTop (mkF m pc Ls (x :: st))) := by
  subst hp
  exact Good.go (fun _ q => XS.dup X.here hx rfl hd rfl hc q) k
theorem Good.istoreN (X : Stand p l e R s m args below meth c T locs cells slots) (hx : p.tables.exec = Jvm.exec) {pc pc' : Nat} {Ls : Array Slot} {k : Fin 4} {x : Int32} {Ls' : Array Slot} {st : List Value} (hp : pc + 1 = pc') (hd : decode c.code pc = .ok (.istore_n k, 1)) (hl : storeLocals Ls k.val (.int x) = some Ls') (k : Good p.tables e below s G (T.setTop (mkF m pc' Ls' st))) : Good p.tables e below s G (T.setTop (mkF m pc Ls (.int x :: st))) := by
  subst hp
  exact Good.go (fun _ q => XS.istoreN X.here hx rfl hd rfl hl q) k
theorem Good.istore (X : Stand p l e R s m args below meth c T locs cells slots) (hx : p.tables.exec = Jvm.exec) {pc pc' : Nat} {Ls : Array Slot} {k : Nat} {x : Int32} {Ls' : Array Slot} {st : List Value} (hp : pc + 2 = pc') (hd : decode c.code pc = .ok (.istore k, 2)) (hl : storeLocals Ls k (.int x) = some Ls') (k : Good p.tables e below s G (T.setTop (mkF m pc' Ls' st))) : Good p.tables e below s G (T.setTop (mkF m pc Ls (.int x :: st))) := by
  subst hp
  exact Good.go (fun _ q => XS.istore X.here hx rfl hd rfl hl q) k
theorem Good.astoreN (X : Stand p l e R s m args below meth c T locs cells slots) (hx : p.tables.exec = Jvm.exec) {pc pc' : Nat} {Ls : Array Slot} {k : Fin 4} {x : Value} {Ls' : Array Slot} {st : List Value} (hp : pc + 1 = pc') (hd : decode c.code pc = .ok (.astore_n k, 1)) (hv : x.isRef = true) (hl : storeLocals Ls k.val x = some Ls') (k : Good p.tables e below s G (T.setTop (mkF m pc' Ls' st))) : Good p.tables e below s G (T.setTop (mkF m pc Ls (x :: st))) := by
  subst hp
  exact Good.go (fun _ q => XS.astoreN X.here hx rfl hd rfl hv hl q) k
theorem Good.astore (X : Stand p l e R s m args below meth c T locs cells slots) (hx : p.tables.exec = Jvm.exec) {pc pc' : Nat} {Ls : Array Slot} {k : Nat} {x : Value} {Ls' : Array Slot} {st : List Value} (hp : pc + 2 = pc') (hd : decode c.code pc = .ok (.astore k, 2)) (hv : x.isRef = true) (hl : storeLocals Ls k x = some Ls') (k : Good p.tables e below s G (T.setTop (mkF m pc' Ls' st))) : Good p.tables e below s G (T.setTop (mkF m pc Ls (x :: st))) := by
  subst hp
  exact Good.go (fun _ q => XS.astore X.here hx rfl hd rfl hv hl q) k
theorem Good.lstoreN (X : Stand p l e R s m args below meth c T locs cells slots) (hx : p.tables.exec = Jvm.exec) {pc pc' : Nat} {Ls : Array Slot} {k : Fin 4} {x : Int64} {Ls' : Array Slot} {st : List Value} (hp : pc + 1 = pc') (hd : decode c.code pc = .ok (.lstore_n k, 1)) (hl : storeLocals Ls k.val (.long x) = some Ls') (k : Good p.tables e below s G (T.setTop (mkF m pc' Ls' st))) : Good p.tables e below s G (T.setTop (mkF m pc Ls (.long x :: st))) := by
  subst hp
  exact Good.go (fun _ q => XT.lstoreN X.here hx rfl hd rfl hl q) k
theorem Good.lstore (X : Stand p l e R s m args below meth c T locs cells slots) (hx : p.tables.exec = Jvm.exec) {pc pc' : Nat} {Ls : Array Slot} {k : Nat} {x : Int64} {Ls' : Array Slot} {st : List Value} (hp : pc + 2 = pc') (hd : decode c.code pc = .ok (.lstore k, 2)) (hl : storeLocals Ls k (.long x) = some Ls') (k : Good p.tables e below s G (T.setTop (mkF m pc' Ls' st))) : Good p.tables e below s G (T.setTop (mkF m pc Ls (.long x :: st))) := by
  subst hp
  exact Good.go (fun _ q => XT.lstore X.here hx rfl hd rfl hl q) k
theorem Good.dstoreN (X : Stand p l e R s m args below meth c T locs cells slots) (hx : p.tables.exec = Jvm.exec) {pc pc' : Nat} {Ls : Array Slot} {k : Fin 4} {x : UInt64} {Ls' : Array Slot} {st : List Value} (hp : pc + 1 = pc') (hd : decode c.code pc = .ok (.dstore_n k, 1)) (hl : storeLocals Ls k.val (.double x) = some Ls') (k : Good p.tables e below s G (T.setTop (mkF m pc' Ls' st))) : Good p.tables e below s G (T.setTop (mkF m pc Ls (.double x :: st))) := by
  subst hp
  refine Good.go (fun _ q => ?_) k
  show Steps p.tables e below (T.setTop { method := m, pc := pc, locals := Ls, stack := (.double x :: st), locked := none }) _
  jvm_step X.here [X.here.top, hx, hd, hl]
  exact q
theorem Good.dstore (X : Stand p l e R s m args below meth c T locs cells slots) (hx : p.tables.exec = Jvm.exec) {pc pc' : Nat} {Ls : Array Slot} {k : Nat} {x : UInt64} {Ls' : Array Slot} {st : List Value} (hp : pc + 2 = pc') (hd : decode c.code pc = .ok (.dstore k, 2)) (hl : storeLocals Ls k (.double x) = some Ls') (k : Good p.tables e below s G (T.setTop (mkF m pc' Ls' st))) : Good p.tables e below s G (T.setTop (mkF m pc Ls (.double x :: st))) := by
  subst hp
  refine Good.go (fun _ q => ?_) k
  show Steps p.tables e below (T.setTop { method := m, pc := pc, locals := Ls, stack := (.double x :: st), locked := none }) _
  jvm_step X.here [X.here.top, hx, hd, hl]
  exact q
theorem Good.iinc (X : Stand p l e R s m args below meth c T locs cells slots) (hx : p.tables.exec = Jvm.exec) {pc pc' : Nat} {Ls : Array Slot} {k : Nat} {cst : Int} {x : Int32} {w : Int32} {Ls' : Array Slot} {st : List Value} (hp : pc + 3 = pc') (hd : decode c.code pc = .ok (.iinc k cst, 3)) (hl : Ls[k]? = some (.val (.int x))) (hv : Int32.ofInt cst = w) (hl' : storeLocals Ls k (.int (x + w)) = some Ls') (k : Good p.tables e below s G (T.setTop (mkF m pc' Ls' st))) : Good p.tables e below s G (T.setTop (mkF m pc Ls st)) := by
  subst hp; subst hv
  exact Good.go (fun _ q => XS.iinc X.here hx rfl hd hl hl' q) k
theorem Good.goto (X : Stand p l e R s m args below meth c T locs cells slots) (hx : p.tables.exec = Jvm.exec) {pc pc' : Nat} {Ls : Array Slot} {st : List Value} {o : Int} (hp : (pc : Int) + o = (pc' : Int)) (hd : decode c.code pc = .ok (.goto o, 3))  (k : Good p.tables e below s G (T.setTop (mkF m pc' Ls st))) : Good p.tables e below s G (T.setTop (mkF m pc Ls st)) :=
  Good.go (fun _ q => XS.goto X.here hx rfl (pc0 := pc) (pc' := pc') rfl hd (by omega) (by omega) q) k
theorem Good.ifYes (X : Stand p l e R s m args below meth c T locs cells slots) (hx : p.tables.exec = Jvm.exec) {pc pc' : Nat} {Ls : Array Slot} {cd : ClassFile.Cond} {x : Int32} {st : List Value} {o : Int} (hp : (pc : Int) + o = (pc' : Int)) (hd : decode c.code pc = .ok (.ifCond cd o, 3)) (hc : ifCond.holds cd x = true) (k : Good p.tables e below s G (T.setTop (mkF m pc' Ls st))) : Good p.tables e below s G (T.setTop (mkF m pc Ls (.int x :: st))) :=
  Good.go (fun _ q => XS.ifYes X.here hx rfl (pc0 := pc) (pc' := pc') rfl hd rfl hc (by omega) (by omega) q) k
theorem Good.ifNo (X : Stand p l e R s m args below meth c T locs cells slots) (hx : p.tables.exec = Jvm.exec) {pc pc' : Nat} {Ls : Array Slot} {cd : ClassFile.Cond} {o : Int} {x : Int32} {st : List Value} (hp : pc + 3 = pc') (hd : decode c.code pc = .ok (.ifCond cd o, 3)) (hc : ifCond.holds cd x = false) (k : Good p.tables e below s G (T.setTop (mkF m pc' Ls st))) : Good p.tables e below s G (T.setTop (mkF m pc Ls (.int x :: st))) := by
  subst hp
  exact Good.go (fun _ q => XS.ifNo X.here hx rfl hd rfl hc q) k
theorem Good.icmpYes (X : Stand p l e R s m args below meth c T locs cells slots) (hx : p.tables.exec = Jvm.exec) {pc pc' : Nat} {Ls : Array Slot} {cd : ClassFile.Cond} {x y : Int32} {st : List Value} {o : Int} (hp : (pc : Int) + o = (pc' : Int)) (hd : decode c.code pc = .ok (.if_icmp cd o, 3)) (hc : if_icmp.holds cd x y = true) (k : Good p.tables e below s G (T.setTop (mkF m pc' Ls st))) : Good p.tables e below s G (T.setTop (mkF m pc Ls (.int y :: .int x :: st))) :=
  Good.go (fun _ q => XS.icmpYes X.here hx rfl (pc0 := pc) (pc' := pc') rfl hd rfl hc (by omega) (by omega) q) k
theorem Good.icmpNo (X : Stand p l e R s m args below meth c T locs cells slots) (hx : p.tables.exec = Jvm.exec) {pc pc' : Nat} {Ls : Array Slot} {cd : ClassFile.Cond} {o : Int} {x y : Int32} {st : List Value} (hp : pc + 3 = pc') (hd : decode c.code pc = .ok (.if_icmp cd o, 3)) (hc : if_icmp.holds cd x y = false) (k : Good p.tables e below s G (T.setTop (mkF m pc' Ls st))) : Good p.tables e below s G (T.setTop (mkF m pc Ls (.int y :: .int x :: st))) := by
  subst hp
  exact Good.go (fun _ q => XS.icmpNo X.here hx rfl hd rfl hc q) k
theorem Good.ifnullYes (X : Stand p l e R s m args below meth c T locs cells slots) (hx : p.tables.exec = Jvm.exec) {pc pc' : Nat} {Ls : Array Slot} {st : List Value} {o : Int} (hp : (pc : Int) + o = (pc' : Int)) (hd : decode c.code pc = .ok (.ifnull o, 3))  (k : Good p.tables e below s G (T.setTop (mkF m pc' Ls st))) : Good p.tables e below s G (T.setTop (mkF m pc Ls (.null :: st))) :=
  Good.go (fun _ q => XS.ifnullYes X.here hx rfl (pc0 := pc) (pc' := pc') rfl hd rfl (by omega) (by omega) q) k
theorem Good.ifnullNo (X : Stand p l e R s m args below meth c T locs cells slots) (hx : p.tables.exec = Jvm.exec) {pc pc' : Nat} {Ls : Array Slot} {o : Int} {b : Addr} {st : List Value} (hp : pc + 3 = pc') (hd : decode c.code pc = .ok (.ifnull o, 3))  (k : Good p.tables e below s G (T.setTop (mkF m pc' Ls st))) : Good p.tables e below s G (T.setTop (mkF m pc Ls (.ref b :: st))) := by
  subst hp
  exact Good.go (fun _ q => XS.ifnullNo X.here hx rfl hd rfl q) k
theorem Good.acmpYes (X : Stand p l e R s m args below meth c T locs cells slots) (hx : p.tables.exec = Jvm.exec) {pc pc' : Nat} {Ls : Array Slot} {cd : ClassFile.ACond} {x y : Value} {st : List Value} {o : Int} (hp : (pc : Int) + o = (pc' : Int)) (hd : decode c.code pc = .ok (.if_acmp cd o, 3)) (h1 : x.isRef = true) (h2 : y.isRef = true) (hc : XT.acmp cd x y = true) (k : Good p.tables e below s G (T.setTop (mkF m pc' Ls st))) : Good p.tables e below s G (T.setTop (mkF m pc Ls (y :: x :: st))) :=
  Good.go (fun _ q => XT.acmpYes X.here hx rfl (pc0 := pc) (pc' := pc') rfl hd rfl h1 h2 hc (by omega) (by omega) q) k
theorem Good.acmpNo (X : Stand p l e R s m args below meth c T locs cells slots) (hx : p.tables.exec = Jvm.exec) {pc pc' : Nat} {Ls : Array Slot} {cd : ClassFile.ACond} {o : Int} {x y : Value} {st : List Value} (hp : pc + 3 = pc') (hd : decode c.code pc = .ok (.if_acmp cd o, 3)) (h1 : x.isRef = true) (h2 : y.isRef = true) (hc : XT.acmp cd x y = false) (k : Good p.tables e below s G (T.setTop (mkF m pc' Ls st))) : Good p.tables e below s G (T.setTop (mkF m pc Ls (y :: x :: st))) := by
  subst hp
  exact Good.go (fun _ q => XT.acmpNo X.here hx rfl hd rfl h1 h2 hc q) k
theorem Good.ifFork (X : Stand p l e R s m args below meth c T locs cells slots) (hx : p.tables.exec = Jvm.exec) {pc pc1 pc2 : Nat} {Ls : Array Slot} {cd : ClassFile.Cond} {o : Int} {x : Int32} {st : List Value} (hd : decode c.code pc = .ok (.ifCond cd o, 3)) (hp1 : (pc : Int) + o = (pc1 : Int)) (hp2 : pc + 3 = pc2) (k1 : ifCond.holds cd x = true → Good p.tables e below s G (T.setTop (mkF m pc1 Ls st))) (k2 : ifCond.holds cd x = false → Good p.tables e below s G (T.setTop (mkF m pc2 Ls st))) : Good p.tables e below s G (T.setTop (mkF m pc Ls (.int x :: st))) := by
  cases hc : ifCond.holds cd x
  · exact Good.ifNo X hx hp2 hd hc (k2 hc)
  · exact Good.ifYes X hx hp1 hd hc (k1 hc)
theorem Good.icmpFork (X : Stand p l e R s m args below meth c T locs cells slots) (hx : p.tables.exec = Jvm.exec) {pc pc1 pc2 : Nat} {Ls : Array Slot} {cd : ClassFile.Cond} {o : Int} {x y : Int32} {st : List Value} (hd : decode c.code pc = .ok (.if_icmp cd o, 3)) (hp1 : (pc : Int) + o = (pc1 : Int)) (hp2 : pc + 3 = pc2) (k1 : if_icmp.holds cd x y = true → Good p.tables e below s G (T.setTop (mkF m pc1 Ls st))) (k2 : if_icmp.holds cd x y = false → Good p.tables e below s G (T.setTop (mkF m pc2 Ls st))) : Good p.tables e below s G (T.setTop (mkF m pc Ls (.int y :: .int x :: st))) := by
  cases hc : if_icmp.holds cd x y
  · exact Good.icmpNo X hx hp2 hd hc (k2 hc)
  · exact Good.icmpYes X hx hp1 hd hc (k1 hc)
variable {Z : State} {a0 : Array Value} {h : Heap}
theorem Good.ldcI (X : Stand p l e R s m args below meth c T locs cells slots) (hx : p.tables.exec = Jvm.exec) (hZ : Z.Warmed39 s.vm) {own : String} {index : Nat} {v : Int32} (hown : s.vm.findClass own = some m.cls) (w : (Cond.constant own index v).before a0 Z = true) {pc pc' : Nat} {Ls : Array Slot} {st : List Value} (hp : pc + 2 = pc') (hd : decode c.code pc = .ok (.ldc index, 2)) (k : Good p.tables e below s G (T.setTop (mkF m pc' Ls (.int v :: st)))) : Good p.tables e below s G (T.setTop (mkF m pc Ls st)) := by
  subst hp
  exact Good.go (fun _ q => X.ldcInt hx hown (mvT hZ w) (g := mkF m pc Ls st) rfl hd _ q) k
theorem Good.ldc2J (X : Stand p l e R s m args below meth c T locs cells slots) (hx : p.tables.exec = Jvm.exec) (hZ : Z.Warmed39 s.vm) {own : String} {index : Nat} {v : Int64} (hown : s.vm.findClass own = some m.cls) (w : (Cond.constantLong own index v).before a0 Z = true) {pc pc' : Nat} {Ls : Array Slot} {st : List Value} (hp : pc + 3 = pc') (hd : decode c.code pc = .ok (.ldc2_w index, 3)) (k : Good p.tables e below s G (T.setTop (mkF m pc' Ls (.long v :: st)))) : Good p.tables e below s G (T.setTop (mkF m pc Ls st)) := by
  subst hp
  exact Good.go (fun _ q => X.ldc2Long hx hown (mvT hZ w) (g := mkF m pc Ls st) rfl hd _ q) k
theorem Good.ldc2D (X : Stand p l e R s m args below meth c T locs cells slots) (hx : p.tables.exec = Jvm.exec) (hZ : Z.Warmed39 s.vm) {own : String} {index : Nat} {v : UInt64} (hown : s.vm.findClass own = some m.cls) (w : (Cond.constantDouble own index v).before a0 Z = true) {pc pc' : Nat} {Ls : Array Slot} {st : List Value} (hp : pc + 3 = pc') (hd : decode c.code pc = .ok (.ldc2_w index, 3)) (k : Good p.tables e below s G (T.setTop (mkF m pc' Ls (.double v :: st)))) : Good p.tables e below s G (T.setTop (mkF m pc Ls st)) := by
  subst hp
  exact Good.go (fun _ q => X.ldc2DoubleC hx hown (mvT hZ w) (g := mkF m pc Ls st) rfl hd _ q) k
theorem Good.daload (X : Stand p l e R s m args below meth c T locs cells slots) (hx : p.tables.exec = Jvm.exec) (hZ : Z.Warmed39 s.vm) (eT : T.heap = h) {a : Addr} {cl : Cell} {j : Int32} {v : UInt64} (A : Arr Z h a cl .double) (hin : ¬ (j < 0 ∨ cl.slots.size ≤ j.toNatClampNeg)) (hv : cl.slots[j.toNatClampNeg]? = some (.double v)) {pc pc' : Nat} {Ls : Array Slot} {st : List Value} (hp : pc + 1 = pc') (hd : decode c.code pc = .ok (.daload, 1)) (k : Good p.tables e below s G (T.setTop (mkF m pc' Ls (.double v :: st)))) : Good p.tables e below s G (T.setTop (mkF m pc Ls (.int j :: .ref a :: st))) := by
  subst hp
  exact Good.go (fun _ q => X.daload hx (by rw [eT]; exact A.1) (State.isArrayOf_alike hZ.alike A.2.1) A.2.2 hin hv (g := mkF m pc Ls (.int j :: .ref a :: st)) rfl rfl hd _ q) k
theorem stD (X : Stand p l e R s m args below meth c T locs cells slots) (hx : p.tables.exec = Jvm.exec) (hZ : Z.Warmed39 s.vm) (eT : T.heap = h) {a : Addr} {cl : Cell} (A : Arr Z h a cl .double) {j : Int32} {x : UInt64} (hj : ¬ (j < 0 ∨ cl.slots.size ≤ j.toNatClampNeg)) {g : JFrame} (hg : g.method = m) {rest : List Value} (hs : g.stack = .double x :: .int j :: .ref a :: rest) (hd : decode c.code g.pc = .ok (.dastore, 1)) :
    ∃ T' h', Stand p l e R s m args below meth c T' (locs ++ [⟨a, j.toNatClampNeg⟩]) cells slots ∧ T'.heap = h' ∧ Wr h h' a j.toNatClampNeg (.double x) ∧ ∀ target, Steps p.tables e below (T'.setTop { g with pc := g.pc + 1, stack := rest }) target → Steps p.tables e below (T.setTop g) target := by
  obtain ⟨X', st⟩ := X.dastore hx (by rw [eT]; exact A.1) (State.isArrayOf_alike hZ.alike A.2.1) A.2.2 hj hg hs hd
  exact ⟨_, _, X', rfl, ⟨cl, A.1, A.plain, Nat.lt_of_not_le fun q => hj (Or.inr q), by rw [← eT]; rfl⟩, st⟩
theorem Good.dastore (X : Stand p l e R s m args below meth c T locs cells slots) (hx : p.tables.exec = Jvm.exec) (hZ : Z.Warmed39 s.vm) (eT : T.heap = h) {a : Addr} {cl : Cell} {j : Int32} {x : UInt64} (A : Arr Z h a cl .double) (hin : ¬ (j < 0 ∨ cl.slots.size ≤ j.toNatClampNeg)) {pc pc' : Nat} {Ls : Array Slot} {st : List Value} (hp : pc + 1 = pc') (hd : decode c.code pc = .ok (.dastore, 1))
    (k : ∀ T' h', Stand p l e R s m args below meth c T' (locs ++ [⟨a, j.toNatClampNeg⟩]) cells slots → T'.heap = h' → Wr h h' a j.toNatClampNeg (.double x) → Good p.tables e below s G (T'.setTop (mkF m pc' Ls st))) : Good p.tables e below s G (T.setTop (mkF m pc Ls (.double x :: .int j :: .ref a :: st))) := by
  subst hp
  obtain ⟨T', h', X', e', W', st'⟩ := stD X hx hZ eT A hin (g := mkF m pc Ls (.double x :: .int j :: .ref a :: st)) rfl rfl hd
  exact Good.go st' (k T' h' X' e' W')
theorem Good.iastore (X : Stand p l e R s m args below meth c T locs cells slots) (hx : p.tables.exec = Jvm.exec) (hZ : Z.Warmed39 s.vm) (eT : T.heap = h) {a : Addr} {cl : Cell} {j : Int32} {x : Int32} (A : Arr Z h a cl .int) (hin : ¬ (j < 0 ∨ cl.slots.size ≤ j.toNatClampNeg)) {pc pc' : Nat} {Ls : Array Slot} {st : List Value} (hp : pc + 1 = pc') (hd : decode c.code pc = .ok (.iastore, 1))
    (k : ∀ T' h', Stand p l e R s m args below meth c T' (locs ++ [⟨a, j.toNatClampNeg⟩]) cells slots → T'.heap = h' → Wr h h' a j.toNatClampNeg (.int x) → Good p.tables e below s G (T'.setTop (mkF m pc' Ls st))) : Good p.tables e below s G (T.setTop (mkF m pc Ls (.int x :: .int j :: .ref a :: st))) := by
  subst hp
  obtain ⟨T', h', X', e', W', st'⟩ := stI X hx hZ eT A hin (g := mkF m pc Ls (.int x :: .int j :: .ref a :: st)) rfl rfl hd
  exact Good.go st' (k T' h' X' e' W')
theorem Good.arraylength (X : Stand p l e R s m args below meth c T locs cells slots) (hx : p.tables.exec = Jvm.exec) (hZ : Z.Warmed39 s.vm) (eT : T.heap = h) {a : Addr} {cl : Cell} {ty : FieldType} (A : Arr Z h a cl ty) {n : Int32} (hn : cl.slots.size = n.toNatClampNeg) (hn0 : ¬ n < 0) {pc pc' : Nat} {Ls : Array Slot} {st : List Value} (hp : pc + 1 = pc') (hd : decode c.code pc = .ok (.arraylength, 1)) (k : Good p.tables e below s G (T.setTop (mkF m pc' Ls (.int n :: st)))) : Good p.tables e below s G (T.setTop (mkF m pc Ls (.ref a :: st))) := by
  subst hp
  refine Good.go (fun t q => X.arraylength hx (by rw [eT]; exact A.1) (State.isArrayOf_alike hZ.alike A.2.1) (g := mkF m pc Ls (.ref a :: st)) rfl rfl hd t ?_) k
  rw [len_of hn hn0]; exact q
theorem Good.getfield (X : Stand p l e R s m args below meth c T locs cells slots) (hx : p.tables.exec = Jvm.exec) (hZ : Z.Warmed39 s.vm) {own R0 O n d : String} {index : Nat} (hown : s.vm.findClass own = some m.cls) (w : (Cond.fieldLink own index R0 n d).before a0 Z = true) (via : Via Z R0 O n d) (eT : T.heap = h) {a : Addr} {v : Value} (F : Fld Z h a O n d v) {pc pc' : Nat} {Ls : Array Slot} {st : List Value} (hp : pc + 3 = pc') (hd : decode c.code pc = .ok (.getfield index, 3))
    (k : ∀ T', Stand p l e R s m args below meth c T' locs cells slots → T'.heap = h → Good p.tables e below s G (T'.setTop (mkF m pc' Ls (v :: st)))) : Good p.tables e below s G (T.setTop (mkF m pc Ls (.ref a :: st))) := by
  subst hp
  obtain ⟨T', X', e', st'⟩ := getF X hx hZ hown (host := "") (Or.inl w) via eT F (g := mkF m pc Ls (.ref a :: st)) rfl rfl hd
  exact Good.go st' (k T' X' e')
theorem Good.getstatic (X : Stand p l e R s m args below meth c T locs cells slots) (hx : p.tables.exec = Jvm.exec) (hZ : Z.Warmed39 s.vm) {own R0 O n d : String} {index : Nat} (hown : s.vm.findClass own = some m.cls) (w : (Cond.fieldLink own index R0 n d).before a0 Z = true) (via : Via Z R0 O n d) (eT : T.heap = h) {v : Value} (F : Sta Z h O n d v) {pc pc' : Nat} {Ls : Array Slot} {st : List Value} (hp : pc + 3 = pc') (hd : decode c.code pc = .ok (.getstatic index, 3))
    (k : ∀ T', Stand p l e R s m args below meth c T' locs cells slots → T'.heap = h → Good p.tables e below s G (T'.setTop (mkF m pc' Ls (v :: st)))) : Good p.tables e below s G (T.setTop (mkF m pc Ls st)) := by
  subst hp
  obtain ⟨T', X', e', st'⟩ := getS2 X hx hZ hown (host := "") (Or.inl w) via eT F (g := mkF m pc Ls st) rfl hd
  exact Good.go st' (k T' X' e')
theorem Good.putfield (X : Stand p l e R s m args below meth c T locs cells slots) (hx : p.tables.exec = Jvm.exec) (hZ : Z.Warmed39 s.vm) {own R0 O n d C : String} {index kk : Nat} {ty : FieldType} (hown : s.vm.findClass own = some m.cls) (w : (Cond.fieldLink own index R0 n d).before a0 Z = true) (via : Via Z R0 O n d) (eT : T.heap = h) {a : Addr} {v old : Value} (F : Fld Z h a O n d old) (E : Exa Z h a C) (L : (Cond.lays C O n d).before a0 Z = true ∨ ((Cond.laysFinal C O n d).before a0 Z = true ∧ own = O ∧ meth.name = "<init>")) (wi : (Cond.instantiable C kk).before a0 Z = true) (hty : parseFieldDescriptor d = some ty) (hn : narrow ty v = v) (hf : fits ty v = true) {pc pc' : Nat} {Ls : Array Slot} {st : List Value} (hp : pc + 3 = pc') (hd : decode c.code pc = .ok (.putfield index, 3))
    (k : ∀ T' h', Stand p l e R s m args below meth c T' (locs ++ [⟨a, RoadKit.slotOf Z O n d⟩]) cells slots → T'.heap = h' → Wr h h' a (RoadKit.slotOf Z O n d) v → Good p.tables e below s G (T'.setTop (mkF m pc' Ls st))) : Good p.tables e below s G (T.setTop (mkF m pc Ls (v :: .ref a :: st))) := by
  subst hp
  obtain ⟨T', h', X', e', W', st'⟩ := putF X hx hZ hown (host := "") (Or.inl w) via eT F E L wi hty hn hf (g := mkF m pc Ls (v :: .ref a :: st)) rfl rfl hd
  exact Good.go st' (k T' h' X' e' W')
theorem Good.new (X : Stand p l e R s m args below meth c T locs cells slots) (hx : p.tables.exec = Jvm.exec) (hZ : Z.Warmed39 s.vm) {own C : String} {index n : Nat} (hown : s.vm.findClass own = some m.cls) (w : (Cond.classLink own index C).before a0 Z = true) (wi : (Cond.instantiable C n).before a0 Z = true) (wz : (Cond.initialized C).before a0 Z = true) (eT : T.heap = h) {pc pc' : Nat} {Ls : Array Slot} {st : List Value} (hp : pc + 3 = pc') (hd : decode c.code pc = .ok (.new index, 3)) (hc : cells + 1 ≤ R.cells) (hl : slots + n ≤ R.slots)
    (k : ∀ T' h' b, b = h.size → Stand p l e R s m args below meth c T' locs (cells + 1) (slots + n) → T'.heap = h' → Ext h h' → Exa Z h' b C → (∀ {O nm d : String} {ty : FieldType}, Laid Z a0 C O nm d → parseFieldDescriptor d = some ty → Fld Z h' b O nm d (defaultValue ty)) → Good p.tables e below s G (T'.setTop (mkF m pc' Ls (.ref b :: st)))) : Good p.tables e below s G (T.setTop (mkF m pc Ls st)) := by
  subst hp
  obtain ⟨T', h', X', e', E', A', D', -, st'⟩ := newO X hx hZ hown w wi wz eT (g := mkF m pc Ls st) rfl hd hc hl
  exact Good.go st' (k T' h' _ rfl X' e' E' A' D')
theorem Good.newarray (X : Stand p l e R s m args below meth c T locs cells slots) (hx : p.tables.exec = Jvm.exec) (hZ : Z.Warmed39 s.vm) {aty : ArrayType} (w : (Cond.arrayClass (newarray.typeOf aty)).before a0 Z = true) (eT : T.heap = h) {n : Int32} {pc pc' : Nat} {Ls : Array Slot} {st : List Value} (hp : pc + 2 = pc') (hd : decode c.code pc = .ok (.newarray aty, 2)) (hn : ¬ n < 0) {cap : Nat} (hcap : n.toNatClampNeg ≤ cap) (hb : cap * 8 ≤ 536870912) (hc : cells + 1 ≤ R.cells) (hl : slots + cap ≤ R.slots)
    (k : ∀ T' h' cA b, b = h.size → Stand p l e R s m args below meth c T' locs (cells + 1) (slots + cap) → T'.heap = h' → Ext h h' → Arr Z h' b (newA cA (newarray.typeOf aty) n) (newarray.typeOf aty) → Good p.tables e below s G (T'.setTop (mkF m pc' Ls (.ref b :: st)))) : Good p.tables e below s G (T.setTop (mkF m pc Ls (.int n :: st))) := by
  subst hp
  obtain ⟨T', h', cA, X', e', E', A', st'⟩ := newP X hx hZ w eT (g := mkF m pc Ls (.int n :: st)) rfl hd rfl hn hcap hb hc hl
  exact Good.go st' (k T' h' cA _ rfl X' e' E' A')
theorem Good.initO (X : Stand p l e R s m args below meth c T locs cells slots) (hx : p.tables.exec = Jvm.exec) (hZ : Z.Warmed39 s.vm) {own : String} {idx : Nat} (hown : s.vm.findClass own = some m.cls) (w1 : (Cond.methodLink own idx Lib.objectInit).before a0 Z = true) (w2 : (Cond.instanceMethod Lib.objectInit).before a0 Z = true) (w3 : (Cond.code Lib.objectInit ⟨#[0xb1]⟩ 1 none).before a0 Z = true) (eT : T.heap = h) {a : Addr} {pc pc' : Nat} {Ls : Array Slot} {rest : List Value} (hp : pc + 3 = pc') (hsz : Ls.size = c.maxLocals) (hd : decode c.code pc = .ok (.invokespecial idx, 3)) (hf : 1 ≤ R.frames) {W : Nat} (hW : (rest.map fun v => v.category).sum ≤ W) (hlo : W + 12 ≤ R.locals)
    (k : ∀ T', Stand p l e R s m args below meth c T' locs cells slots → T'.heap = h → Good p.tables e below s G (T'.setTop (mkF m pc' Ls rest))) : Good p.tables e below s G (T.setTop (mkF m pc Ls (.ref a :: rest))) := by
  subst hp
  obtain ⟨T', X', e', st'⟩ := Jvm.RoadKit.initO X hx hZ hown w1 w2 w3 eT (g := mkF m pc Ls (.ref a :: rest)) rfl hsz rfl hd hf (W := W) (by simpa using hW) hlo
  exact Good.go st' (k T' X' e')
/-- the contract of a body: called with these arguments on this heap it returns, and Q holds -/
def Con (l : Launch) (Z : State) (y : MethodName) (bytes : ByteArray) (maxL : Nat) (ret : Option FieldType) (rm : Room) (as' : Array Value) (h : Heap) (Q : Option Value → Heap → List Loc → Prop) : Prop :=
  ∀ ws : List Cond, MetFree l y (head1 (Cond.code y bytes maxL ret :: ws) rm) (fun a U => a = as' ∧ Z.Warmed39 U.vm ∧ U.heap = h) (fun _ _ _ _ _ => True) (fun _ U o U' => ∃ v L, o = .returned v ∧ Q v U'.heap L ∧ FrameEnd U o U' L rm.cells rm.slots)
theorem Con.body {y : MethodName} {bytes : ByteArray} {maxL : Nat} {ret : Option FieldType} {rm : Room} {as' : Array Value} {Q : Option Value → Heap → List Loc → Prop} (hpl : plainFor y = true)
    (B : ∀ G : Option Value → Heap → List Loc → Nat → Nat → Prop, (∀ v h' L k n, Q v h' L → k ≤ rm.cells → n ≤ rm.slots → G v h' L k n) → ∀ (p : Program) (e : Env) (s : State) (m : MethodId) (below : List Frame) (meth : Method) (c : Code) (T : State), Stand p l e rm s m as' below meth c T [] 0 0 → p.tables.exec = Jvm.exec → c.code = bytes → c.maxLocals = maxL → s.vm.findClass y.cls = some m.cls → meth.name = y.name → meth.sig.returnType = ret → meth.locks = false → Z.Warmed39 s.vm → T.heap = h →
      Good p.tables e below s G (T.setTop (entryFrame m as' maxL))) : Con l Z y bytes maxL ret rm as' h Q := by
  intro ws
  refine MetFree.of_bodySF hpl hisR ?_
  intro p e s m args below meth c s₁ Bd hml hP hK
  obtain ⟨rfl, hZ, hh⟩ := hP
  obtain ⟨T, fs, v, L, k, n, q, h1, h2, h3, h4, hQ, hk, hn⟩ := B (fun v h' L k n => Q v h' L ∧ k ≤ rm.cells ∧ n ≤ rm.slots) (fun _ _ _ _ _ a b c => ⟨a, b, c⟩) p e s m below meth c s₁ (Stand.of_body Bd) Bd.exec Bd.bytes hml (findClass_of_methodNamed Bd.named) (name_of_methodNamed Bd.named Bd.method).1 Bd.returns Bd.notSynchronized hZ (by rw [← hh, Bd.state]; rfl)
  exact ⟨_, _, q, h1, h2, v, L, rfl, hQ, ⟨_, rfl⟩, h3, h4.mono hk hn⟩
theorem Good.callS (X : Stand p l e R s m args below meth c T locs cells slots) (hx : p.tables.exec = Jvm.exec) (hZ : Z.Warmed39 s.vm) {own : String} {index : Nat} {y : MethodName} {bytes : ByteArray} {maxL : Nat} {ret : Option FieldType} {rm : Room} {Q : Option Value → Heap → List Loc → Prop} (hown : s.vm.findClass own = some m.cls) (w1 : (Cond.methodLink own index y).before a0 Z = true) (w2 : (Cond.static y).before a0 Z = true) (w3 : (Cond.initialized y.cls).before a0 Z = true) (w4 : (Cond.code y bytes maxL ret).before a0 Z = true) (hy : y.cls ≠ "java/lang/invoke/MethodHandle" ∧ y.cls ≠ "java/lang/invoke/VarHandle") (eT : T.heap = h) {argsL rest : List Value} (K : Con l Z y bytes maxL ret rm argsL.toArray h Q) {ps : List FieldType} {r : Option FieldType} (hdesc : parseMethodDescriptor y.desc = some ⟨ps, r⟩) (hlen : argsL.length = ps.length) {pc pc' : Nat} {Ls : Array Slot} {st : List Value} (hp : pc + 3 = pc') (hsz : Ls.size = c.maxLocals) (hs : st = argsL.reverse ++ rest) (hd : decode c.code pc = .ok (.invokestatic index, 3)) {W : Nat} (hW : (rest.map fun v => v.category).sum ≤ W) (hf : rm.frames + 1 ≤ R.frames) (hlo : W + (maxL + 11) + rm.locals ≤ R.locals) (hce : cells + rm.cells ≤ R.cells) (hsl : slots + rm.slots ≤ R.slots)
    (k : ∀ v T' L, Stand p l e R s m args below meth c T' (locs ++ L) (cells + rm.cells) (slots + rm.slots) → Q v T'.heap L → Good p.tables e below s G (T'.setTop (mkF m pc' Ls (v.toList ++ rest)))) : Good p.tables e below s G (T.setTop (mkF m pc Ls st)) := by
  subst hp hs
  obtain ⟨v, vm₁, ⟨T', L', k', n'⟩, -, X', ⟨L, hQ, l1, l2, l3⟩, st⟩ := Jvm.LawKit.callS X hx (y := y) hown (mvT hZ w1) (mvT hZ w2) (mvT hZ w3) (mvT hZ w4) hy (backOf (W := W) (K []) hZ w4 w3 hf hlo) (g := mkF m pc Ls (argsL.reverse ++ rest)) rfl hsz (argsL := argsL) (rest := rest) (lenOf hdesc hlen) rfl (by simpa using hW) hd (fun _ _ => ⟨rfl, eT, hce, hsl⟩)
  dsimp only [Pt.U, Pt.locs, Pt.cells, Pt.slots] at X' l1 l2 l3 st hQ
  subst l1 l2 l3
  exact Good.go st (k v T' L X' hQ)
theorem Good.callN (X : Stand p l e R s m args below meth c T locs cells slots) (hx : p.tables.exec = Jvm.exec) (hZ : Z.Warmed39 s.vm) {own : String} {index : Nat} {y : MethodName} {bytes : ByteArray} {maxL : Nat} {rm : Room} {Q : Option Value → Heap → List Loc → Prop} (hyn : y.name = "<init>") (hown : s.vm.findClass own = some m.cls) (w1 : (Cond.methodLink own index y).before a0 Z = true) (w2 : (Cond.instanceMethod y).before a0 Z = true) (w3 : (Cond.initialized y.cls).before a0 Z = true) (w4 : (Cond.code y bytes maxL none).before a0 Z = true) (hy : y.cls ≠ "java/lang/invoke/MethodHandle" ∧ y.cls ≠ "java/lang/invoke/VarHandle") (eT : T.heap = h) {a : Addr} {argsL rest : List Value} (K : Con l Z y bytes maxL none rm (.ref a :: argsL).toArray h Q) {ps : List FieldType} {r : Option FieldType} (hdesc : parseMethodDescriptor y.desc = some ⟨ps, r⟩) (hlen : argsL.length = ps.length) {pc pc' : Nat} {Ls : Array Slot} {st : List Value} (hp : pc + 3 = pc') (hsz : Ls.size = c.maxLocals) (hs : st = argsL.reverse ++ .ref a :: rest) (hd : decode c.code pc = .ok (.invokespecial index, 3)) {W : Nat} (hW : (rest.map fun v => v.category).sum ≤ W) (hf : rm.frames + 1 ≤ R.frames) (hlo : W + (maxL + 11) + rm.locals ≤ R.locals) (hce : cells + rm.cells ≤ R.cells) (hsl : slots + rm.slots ≤ R.slots)
    (k : ∀ v T' L, Stand p l e R s m args below meth c T' (locs ++ L) (cells + rm.cells) (slots + rm.slots) → Q v T'.heap L → Good p.tables e below s G (T'.setTop (mkF m pc' Ls (v.toList ++ rest)))) : Good p.tables e below s G (T.setTop (mkF m pc Ls st)) := by
  subst hp hs
  obtain ⟨v, vm₁, ⟨T', L', k', n'⟩, -, X', ⟨L, hQ, l1, l2, l3⟩, st⟩ := X.specialBack hx (y := y) hyn hown (mvT hZ w1) (mvT hZ w2) (mvT hZ w4) hy (backOf (W := W) (K []) hZ w4 w3 hf hlo) (g := mkF m pc Ls (argsL.reverse ++ .ref a :: rest)) rfl hsz (Steps.refl _) (a := a) (argsL := argsL) (rest := rest) (lenOf hdesc hlen) rfl (by simpa using hW) hd (fun _ _ => ⟨rfl, eT, hce, hsl⟩)
  dsimp only [Pt.U, Pt.locs, Pt.cells, Pt.slots] at X' l1 l2 l3 st hQ
  subst l1 l2 l3
  exact Good.go (fun _ q => st.trans q) (k v T' L X' hQ)
theorem Good.callV (X : Stand p l e R s m args below meth c T locs cells slots) (hx : p.tables.exec = Jvm.exec) (hZ : Z.Warmed39 s.vm) {own C : String} {index : Nat} {y : MethodName} {bytes : ByteArray} {maxL : Nat} {ret : Option FieldType} {rm : Room} {Q : Option Value → Heap → List Loc → Prop} (hown : s.vm.findClass own = some m.cls) (w1 : (Cond.methodLink own index y).before a0 Z = true) (wd : (Cond.declares y).before a0 Z = true) (ws : (Cond.selects C y y).before a0 Z = true) (w2 : (Cond.instanceMethod y).before a0 Z = true) (w3 : (Cond.initialized y.cls).before a0 Z = true) (w4 : (Cond.code y bytes maxL ret).before a0 Z = true) (hy : y.cls ≠ "java/lang/invoke/MethodHandle" ∧ y.cls ≠ "java/lang/invoke/VarHandle") (eT : T.heap = h) {a : Addr} (E : Exa Z h a C) {argsL rest : List Value} (K : Con l Z y bytes maxL ret rm (.ref a :: argsL).toArray h Q) {ps : List FieldType} {r : Option FieldType} (hdesc : parseMethodDescriptor y.desc = some ⟨ps, r⟩) (hlen : argsL.length = ps.length) {pc pc' : Nat} {Ls : Array Slot} {st : List Value} (hp : pc + 3 = pc') (hsz : Ls.size = c.maxLocals) (hs : st = argsL.reverse ++ .ref a :: rest) (hd : decode c.code pc = .ok (.invokevirtual index, 3)) {W : Nat} (hW : (rest.map fun v => v.category).sum ≤ W) (hf : rm.frames + 1 ≤ R.frames) (hlo : W + (maxL + 11) + rm.locals ≤ R.locals) (hce : cells + rm.cells ≤ R.cells) (hsl : slots + rm.slots ≤ R.slots)
    (k : ∀ v T' L, Stand p l e R s m args below meth c T' (locs ++ L) (cells + rm.cells) (slots + rm.slots) → Q v T'.heap L → Good p.tables e below s G (T'.setTop (mkF m pc' Ls (v.toList ++ rest)))) : Good p.tables e below s G (T.setTop (mkF m pc Ls st)) := by
  subst hp hs
  obtain ⟨cq, kq, q1, q2, q3⟩ := isOf hZ eT E
  obtain ⟨v, vm₁, ⟨T', L', k', n'⟩, -, X', ⟨L, hQ, l1, l2, l3⟩, st⟩ := X.virtualBack hx (y := y) (z := y) hown (mvT hZ w1) (mvT hZ wd) (notFace_of_selects (args := #[]) (mvT hZ ws)) (mvT hZ ws) (mvT hZ w2) hy (backOf (W := W) (K []) hZ w4 w3 hf hlo) q1 q3 (g := mkF m pc Ls (argsL.reverse ++ .ref a :: rest)) rfl hsz (Steps.refl _) (argsL := argsL) (rest := rest) (lenOf hdesc hlen) rfl (by simpa using hW) hd (fun _ _ => ⟨rfl, eT, hce, hsl⟩)
  dsimp only [Pt.U, Pt.locs, Pt.cells, Pt.slots] at X' l1 l2 l3 st hQ
  subst l1 l2 l3
  exact Good.go (fun _ q => st.trans q) (k v T' L X' hQ)

theorem Good.iaddN (X : Stand p l e R s m args below meth c T locs cells slots) (hx : p.tables.exec = Jvm.exec) {pc pc' : Nat} {Ls : Array Slot} {x y : Nat} {st : List Value} (hp : pc + 1 = pc') (hd : decode c.code pc = .ok (.iadd, 1)) (k : Good p.tables e below s G (T.setTop (mkF m pc' Ls (.int (Int32.ofNat (x + y)) :: st)))) : Good p.tables e below s G (T.setTop (mkF m pc Ls (.int (Int32.ofNat y) :: .int (Int32.ofNat x) :: st))) :=
  Good.iadd X hx hp hd (by rw [← Int32.ofNat_add]; exact k)
theorem Good.imulN (X : Stand p l e R s m args below meth c T locs cells slots) (hx : p.tables.exec = Jvm.exec) {pc pc' : Nat} {Ls : Array Slot} {x y : Nat} {st : List Value} (hp : pc + 1 = pc') (hd : decode c.code pc = .ok (.imul, 1)) (k : Good p.tables e below s G (T.setTop (mkF m pc' Ls (.int (Int32.ofNat (x * y)) :: st)))) : Good p.tables e below s G (T.setTop (mkF m pc Ls (.int (Int32.ofNat y) :: .int (Int32.ofNat x) :: st))) :=
  Good.imul X hx hp hd (by rw [← Int32.ofNat_mul]; exact k)
theorem Good.iincN (X : Stand p l e R s m args below meth c T locs cells slots) (hx : p.tables.exec = Jvm.exec) {pc pc' : Nat} {Ls : Array Slot} {i x w : Nat} {cst : Int} {Ls' : Array Slot} {st : List Value} (hp : pc + 3 = pc') (hd : decode c.code pc = .ok (.iinc i cst, 3)) (hl : Ls[i]? = some (.val (.int (Int32.ofNat x)))) (hv : Int32.ofInt cst = Int32.ofNat w) (hl' : storeLocals Ls i (.int (Int32.ofNat (x + w))) = some Ls') (k : Good p.tables e below s G (T.setTop (mkF m pc' Ls' st))) : Good p.tables e below s G (T.setTop (mkF m pc Ls st)) :=
  Good.iinc X hx hp hd hl hv (by rw [← Int32.ofNat_add]; exact hl') k
/-- a slot that a one-word value may be laid over -/
def One (o : Slot) : Prop := o = .unset ∨ ∃ w, o = .val w ∧ w.category = 1
/-- two slots that a double may be laid over -/
def Two (o o' : Slot) : Prop := (o = .unset ∧ o' = .unset) ∨ ∃ d, o = .val (.double d) ∧ o' = .second
theorem One.u : One .unset := Or.inl rfl
theorem One.i (x : Int32) : One (.val (.int x)) := Or.inr ⟨_, rfl, rfl⟩
theorem Two.u : Two .unset .unset := Or.inl ⟨rfl, rfl⟩
theorem Two.d (x : UInt64) : Two (.val (.double x)) .second := Or.inr ⟨_, rfl, rfl⟩
theorem store2 {l : Array Slot} {i : Nat} {x : UInt64} {o o' : Slot} (h1 : l[i]? = some o) (h2 : l[i + 1]? = some o') (ho : Two o o') : storeLocals l i (.double x) = some ((l.setIfInBounds i (.val (.double x))).setIfInBounds (i + 1) .second) := by
  obtain ⟨hi, g1⟩ := Array.getElem?_eq_some_iff.mp h1
  obtain ⟨hj, g2⟩ := Array.getElem?_eq_some_iff.mp h2
  rcases ho with ⟨rfl, rfl⟩ | ⟨d, rfl, rfl⟩
  · simp [storeLocals, storeSelf, setAt, Value.category, hi, hj, g1, g2]
  · simp [storeLocals, storeSelf, setAt, Value.category, hi, hj, g1, g2]
    apply Array.ext_getElem?
    intro j
    simp only [Array.getElem?_setIfInBounds, Array.size_setIfInBounds]
    by_cases q1 : i + 1 = j
    · simp [q1]
    · by_cases q2 : i = j <;> simp [q1, q2]
end Kit
section Arrays
variable {Z : State} {h h' : Heap} {a b : Addr} {n : Nat} {f : Nat → UInt64} {sl : Nat} {v : Value} {ws : List Addr} {ty : FieldType}
/-- a double[] of n places, place i holds f i -/
def DA (Z : State) (h : Heap) (a : Addr) (n : Nat) (f : Nat → UInt64) : Prop := ∃ cl : Cell, Arr Z h a cl .double ∧ cl.slots.size = n ∧ ∀ i, i < n → cl.slots[i]? = some (.double (f i))
def updD (f : Nat → UInt64) (j : Nat) (x : UInt64) : Nat → UInt64 := fun i => if i = j then x else f i
/-- an array of n places -/
def AR (Z : State) (h : Heap) (a : Addr) (n : Nat) (ty : FieldType) : Prop := ∃ cl : Cell, Arr Z h a cl ty ∧ cl.slots.size = n
theorem DA.lt (F : DA Z h a n f) : a < h.size := by obtain ⟨c, A, -⟩ := F; exact A.lt
theorem DA.ext (F : DA Z h a n f) (E : Ext h h') : DA Z h' a n f := by obtain ⟨c, A, r⟩ := F; exact ⟨c, A.ext E, r⟩
theorem DA.other (F : DA Z h b n f) (W : Wr h h' a sl v) (q : b ≠ a) : DA Z h' b n f := by obtain ⟨c, A, r⟩ := F; exact ⟨c, A.other W q, r⟩
theorem DA.keep (F : DA Z h a n f) (K : Keep h h' ws) (q : a ∉ ws) : DA Z h' a n f := by obtain ⟨c, A, r⟩ := F; exact ⟨c, ⟨K.2.1 a c A.1 q, A.2⟩, r⟩
theorem AR.lt (F : AR Z h a n ty) : a < h.size := by obtain ⟨c, A, -⟩ := F; exact A.lt
theorem AR.ext (F : AR Z h a n ty) (E : Ext h h') : AR Z h' a n ty := by obtain ⟨c, A, r⟩ := F; exact ⟨c, A.ext E, r⟩
theorem AR.other (F : AR Z h b n ty) (W : Wr h h' a sl v) (q : b ≠ a) : AR Z h' b n ty := by obtain ⟨c, A, r⟩ := F; exact ⟨c, A.other W q, r⟩
theorem AR.keep (F : AR Z h a n ty) (K : Keep h h' ws) (q : a ∉ ws) : AR Z h' a n ty := by obtain ⟨c, A, r⟩ := F; exact ⟨c, ⟨K.2.1 a c A.1 q, A.2⟩, r⟩
theorem clampOf {j : Int32} {i : Nat} (hj : j.toInt = (i : Int)) : j.toNatClampNeg = i := by
  show j.toInt.toNat = i
  rw [hj]; rfl
theorem inOf {j : Int32} {i m : Nat} (hj : j.toInt = (i : Int)) (hi : i < m) : ¬ (j < 0 ∨ m ≤ j.toNatClampNeg) := by
  rw [clampOf hj, Int32.lt_iff_toInt_lt, hj]
  have e0 : (0 : Int32).toInt = 0 := rfl
  omega
theorem DA.new {k : ClassId} {z : Int32} (A : Arr Z h a (newA k (newarray.typeOf .double) z) (newarray.typeOf .double)) (hz : z.toInt = (n : Int)) : DA Z h a n (fun _ => 0) :=
  ⟨_, A, by rw [sz_new, clampOf hz], fun i hi => by
    show (Array.replicate z.toNatClampNeg (defaultValue .double))[i]? = _
    rw [clampOf hz, Array.getElem?_replicate, if_pos hi]; rfl⟩
theorem AR.new {k : ClassId} {z : Int32} (A : Arr Z h a (newA k ty z) ty) (hz : z.toInt = (n : Int)) : AR Z h a n ty := ⟨_, A, by rw [sz_new, clampOf hz]⟩
theorem DA.set (F : DA Z h a n f) {j : Nat} {x : UInt64} (W : Wr h h' a j (.double x)) : DA Z h' a n (updD f j x) := by
  obtain ⟨cl, A, S, H⟩ := F
  refine ⟨_, A.same W, by rw [sz_set]; exact S, fun i hi => ?_⟩
  show (cl.slots.setIfInBounds j (.double x))[i]? = some (.double (if i = j then x else f i))
  by_cases q : i = j
  · subst q
    rw [if_pos rfl, Array.getElem?_setIfInBounds_self_of_lt (by omega)]
  · rw [if_neg q, Array.getElem?_setIfInBounds_ne (fun z => q z.symm)]; exact H i hi
theorem AR.set (F : AR Z h a n ty) (W : Wr h h' a sl v) : AR Z h' a n ty := by
  obtain ⟨cl, A, S⟩ := F
  exact ⟨_, A.same W, by rw [sz_set]; exact S⟩
theorem DA.eq (F : DA Z h a n f) {g : Nat → UInt64} (q : ∀ i, i < n → f i = g i) : DA Z h a n g := by
  obtain ⟨cl, A, S, H⟩ := F
  exact ⟨cl, A, S, fun i hi => by rw [← q i hi]; exact H i hi⟩
theorem DA.ar (F : DA Z h a n f) : AR Z h a n .double := by obtain ⟨cl, A, S, -⟩ := F; exact ⟨cl, A, S⟩
variable {p : Program} {l : Launch} {e : Env} {R : Room} {s : State} {m : MethodId} {args : Array Value} {below : List Frame} {meth : Method} {c : Code} {T : State} {locs : List Loc} {cells slots : Nat} {G : Option Value → Heap → List Loc → Nat → Nat → Prop}
theorem Good.daloadF (X : Stand p l e R s m args below meth c T locs cells slots) (hx : p.tables.exec = Jvm.exec) (hZ : Z.Warmed39 s.vm) (eT : T.heap = h) (A : DA Z h a n f) {j : Int32} (i : Nat) (hj : j.toInt = (i : Int)) (hi : i < n) {w : UInt64} (hw : f i = w) {pc pc' : Nat} {Ls : Array Slot} {st : List Value} (hp : pc + 1 = pc') (hd : decode c.code pc = .ok (.daload, 1)) (k : Good p.tables e below s G (T.setTop (mkF m pc' Ls (.double w :: st)))) : Good p.tables e below s G (T.setTop (mkF m pc Ls (.int j :: .ref a :: st))) := by
  obtain ⟨cl, A, S, H⟩ := A
  exact Good.daload X hx hZ eT A (by rw [S]; exact inOf hj hi) (by rw [clampOf hj, H i hi, hw]) hp hd k
theorem Good.dastoreF (X : Stand p l e R s m args below meth c T locs cells slots) (hx : p.tables.exec = Jvm.exec) (hZ : Z.Warmed39 s.vm) (eT : T.heap = h) (A : DA Z h a n f) {j : Int32} (i : Nat) (hj : j.toInt = (i : Int)) (hi : i < n) {x : UInt64} {pc pc' : Nat} {Ls : Array Slot} {st : List Value} (hp : pc + 1 = pc') (hd : decode c.code pc = .ok (.dastore, 1))
    (k : ∀ T' h', Stand p l e R s m args below meth c T' (locs ++ [⟨a, i⟩]) cells slots → T'.heap = h' → Wr h h' a i (.double x) → DA Z h' a n (updD f i x) → Good p.tables e below s G (T'.setTop (mkF m pc' Ls st))) : Good p.tables e below s G (T.setTop (mkF m pc Ls (.double x :: .int j :: .ref a :: st))) := by
  have A0 := A
  obtain ⟨cl, A, S, H⟩ := A
  refine Good.dastore X hx hZ eT A (by rw [S]; exact inOf hj hi) hp hd fun T' h' X' e' W' => ?_
  rw [clampOf hj] at X' W'
  exact k T' h' X' e' W' (A0.set W')
theorem Good.iastoreF (X : Stand p l e R s m args below meth c T locs cells slots) (hx : p.tables.exec = Jvm.exec) (hZ : Z.Warmed39 s.vm) (eT : T.heap = h) (A : AR Z h a n .int) {j : Int32} (i : Nat) (hj : j.toInt = (i : Int)) (hi : i < n) {x : Int32} {pc pc' : Nat} {Ls : Array Slot} {st : List Value} (hp : pc + 1 = pc') (hd : decode c.code pc = .ok (.iastore, 1))
    (k : ∀ T' h', Stand p l e R s m args below meth c T' (locs ++ [⟨a, i⟩]) cells slots → T'.heap = h' → Wr h h' a i (.int x) → AR Z h' a n .int → Good p.tables e below s G (T'.setTop (mkF m pc' Ls st))) : Good p.tables e below s G (T.setTop (mkF m pc Ls (.int x :: .int j :: .ref a :: st))) := by
  have A0 := A
  obtain ⟨cl, A, S⟩ := A
  refine Good.iastore X hx hZ eT A (by rw [S]; exact inOf hj hi) hp hd fun T' h' X' e' W' => ?_
  rw [clampOf hj] at X' W'
  exact k T' h' X' e' W' (A0.set W')
theorem Good.alenF (X : Stand p l e R s m args below meth c T locs cells slots) (hx : p.tables.exec = Jvm.exec) (hZ : Z.Warmed39 s.vm) (eT : T.heap = h) (A : DA Z h a n f) {z : Int32} (hz : z.toInt = (n : Int)) {pc pc' : Nat} {Ls : Array Slot} {st : List Value} (hp : pc + 1 = pc') (hd : decode c.code pc = .ok (.arraylength, 1)) (k : Good p.tables e below s G (T.setTop (mkF m pc' Ls (.int z :: st)))) : Good p.tables e below s G (T.setTop (mkF m pc Ls (.ref a :: st))) := by
  obtain ⟨cl, A, S, H⟩ := A
  refine Good.arraylength X hx hZ eT A (n := z) (by rw [S, clampOf hz]) ?_ hp hd k
  rw [Int32.lt_iff_toInt_lt, hz]
  have e0 : (0 : Int32).toInt = 0 := rfl
  omega
end Arrays
section Chars
variable {p : Program} {l : Launch} {e : Env} {R : Room} {s : State} {m : MethodId} {args : Array Value} {below : List Frame} {meth : Method} {c : Code} {T : State} {locs : List Loc} {cells slots : Nat} {G : Option Value → Heap → List Loc → Nat → Nat → Prop} {Z : State} {a0 : Array Value} {h : Heap}
/-- a char laid into an array of two, whose values are known -/
theorem Good.castoreV (X : Stand p l e R s m args below meth c T locs cells slots) (hx : p.tables.exec = Jvm.exec) (hZ : Z.Warmed39 s.vm) (eT : T.heap = h) {a : Addr} {kC : ClassId} {z j x : Int32} {vs : List Value} {dv : Value} (A : Arv Z h a kC .char z vs dv) (i : Nat) (hj : j.toInt = (i : Int)) (hi : (i : Int) < z.toInt) (hl : i < vs.length) {pc pc' : Nat} {Ls : Array Slot} {st : List Value} (hp : pc + 1 = pc') (hd : decode c.code pc = .ok (.castore, 1))
    (k : ∀ T' h', Stand p l e R s m args below meth c T' (locs ++ [⟨a, i⟩]) cells slots → T'.heap = h' → Wr h h' a i (.int (nar .char x)) → Arv Z h' a kC .char z (vs.set i (.int (nar .char x))) dv → Good p.tables e below s G (T'.setTop (mkF m pc' Ls st))) : Good p.tables e below s G (T.setTop (mkF m pc Ls (.int x :: .int j :: .ref a :: st))) := by
  subst hp
  obtain ⟨cl, A, q1, S, q3, H, U⟩ := A
  have hin : ¬ (j < 0 ∨ cl.slots.size ≤ j.toNatClampNeg) := by
    rw [S]
    refine inOf hj ?_
    show i < z.toInt.toNat
    omega
  obtain ⟨T', h', X', e', W', st'⟩ := stC X hx hZ eT A hin (g := mkF m pc Ls (.int x :: .int j :: .ref a :: st)) rfl rfl hd
  have V := Arv.set A q1 S q3 H U (fits_nar_char x) W' i (clampOf hj) hl
  rw [clampOf hj] at X' W'
  exact Good.go st' (k T' h' X' e' W' V)
/-- a constructor paid by a Back -/
theorem Good.callNB (X : Stand p l e R s m args below meth c T locs cells slots) (hx : p.tables.exec = Jvm.exec) (hZ : Z.Warmed39 s.vm) {own : String} {index : Nat} {y : MethodName} {bytes : ByteArray} {maxL kc ks : Nat} {Q : Option Value → Heap → List Loc → Prop} (hyn : y.name = "<init>") (hown : s.vm.findClass own = some m.cls) (w1 : (Cond.methodLink own index y).before a0 Z = true) (w2 : (Cond.instanceMethod y).before a0 Z = true) (w4 : (Cond.code y bytes maxL none).before a0 Z = true) (hy : y.cls ≠ "java/lang/invoke/MethodHandle" ∧ y.cls ≠ "java/lang/invoke/VarHandle") (eT : T.heap = h) {a : Addr} {argsL rest : List Value} {W : Nat}
    (K : Back l R p e below s args y 3 W (fun P a' => a' = (.ref a :: argsL).toArray ∧ P.U.heap = h ∧ P.cells + kc ≤ R.cells ∧ P.slots + ks ≤ R.slots) (fun P _ v B => ∃ L, Q v B.U.heap L ∧ B.locs = P.locs ++ L ∧ B.cells = P.cells + kc ∧ B.slots = P.slots + ks)) {ps : List FieldType} {r : Option FieldType} (hdesc : parseMethodDescriptor y.desc = some ⟨ps, r⟩) (hlen : argsL.length = ps.length) {pc pc' : Nat} {Ls : Array Slot} {st : List Value} (hp : pc + 3 = pc') (hsz : Ls.size = c.maxLocals) (hs : st = argsL.reverse ++ .ref a :: rest) (hd : decode c.code pc = .ok (.invokespecial index, 3)) (hW : (rest.map fun v => v.category).sum ≤ W) (hce : cells + kc ≤ R.cells) (hsl : slots + ks ≤ R.slots)
    (k : ∀ v T' L, Stand p l e R s m args below meth c T' (locs ++ L) (cells + kc) (slots + ks) → Q v T'.heap L → Good p.tables e below s G (T'.setTop (mkF m pc' Ls (v.toList ++ rest)))) : Good p.tables e below s G (T.setTop (mkF m pc Ls st)) := by
  subst hp hs
  obtain ⟨v, vm₁, ⟨T', L', k', n'⟩, -, X', ⟨L, hQ, l1, l2, l3⟩, st⟩ := X.specialBack hx (y := y) hyn hown (mvT hZ w1) (mvT hZ w2) (mvT hZ w4) hy K (g := mkF m pc Ls (argsL.reverse ++ .ref a :: rest)) rfl hsz (Steps.refl _) (a := a) (argsL := argsL) (rest := rest) (lenOf hdesc hlen) rfl (by simpa using hW) hd (fun _ _ => ⟨rfl, eT, hce, hsl⟩)
  dsimp only [Pt.U, Pt.locs, Pt.cells, Pt.slots] at X' l1 l2 l3 st hQ
  subst l1 l2 l3
  exact Good.go (fun _ q => st.trans q) (k v T' L X' hQ)
end Chars
end Jvm.OwnKit
namespace Jvm.Pilot.@@N@@
open Jvm Jvm.ClassFile Sem Op Lib Jvm.Free Jvm.Stand Jvm.LawKit Jvm.RoadKit Jvm.OwnKit Jvm.Free.Fl Bundle Jvm.Pilot.@@N@@.Jvm.D
theorem own_n32 {i : Nat} (h : i < 100) : (Int32.ofNat i).toInt = (i : Int) := Int32.toInt_ofNat_of_lt (by omega)
theorem own_lt {i n : Nat} (h : i < n) (hn : n < 100) : if_icmp.holds .ge (Int32.ofNat i) (Int32.ofNat n) = false := by
  refine (tlt ?_).2.1
  rw [Int32.lt_iff_toInt_lt, own_n32 (by omega), own_n32 hn]; omega
theorem own_ge {i n : Nat} (h : ¬ i < n) (hi : i < 100) (hn : n < 100) : if_icmp.holds .ge (Int32.ofNat i) (Int32.ofNat n) = true := by
  refine (flt ?_).2.1
  rw [Int32.lt_iff_toInt_lt, own_n32 hi, own_n32 hn]; omega
theorem own_one (i : Nat) : Int32.ofNat i + (1 : Int32) = Int32.ofNat (i + 1) := (Int32.ofNat_add i 1).symm
theorem own_mid0 : ∀ lo hi : Fin 5, XT.ushr (Int32.ofNat lo.1 + Int32.ofNat hi.1) (1 : Int32) = Int32.ofNat ((lo.1 + hi.1) / 2) := by decide
theorem own_mid {lo hi : Nat} (h1 : lo < 5) (h2 : hi < 5) : XT.ushr (Int32.ofNat lo + Int32.ofNat hi) (1 : Int32) = Int32.ofNat ((lo + hi) / 2) := own_mid0 ⟨lo, h1⟩ ⟨hi, h2⟩
theorem own_count (c : Int32) : ∃ n : Nat, 1 ≤ n ∧ n ≤ 5 ∧ (c &&& (2147483647 : Int32)) % (5 : Int32) + (1 : Int32) = Int32.ofNat n := by
  have h0 : 0 ≤ (c &&& (2147483647 : Int32)).toInt := (c_andS c 2147483647).2.2 (by decide)
  have h1 := (c_irem (c &&& (2147483647 : Int32)) 5 5 (by decide)).1 h0
  have h2 : ((c &&& (2147483647 : Int32)) % (5 : Int32)) = Int32.ofNat ((c &&& (2147483647 : Int32)).toInt % 5).toNat := by
    apply Int32.toInt_inj.mp
    rw [h1, own_n32 (by omega)]; omega
  refine ⟨((c &&& (2147483647 : Int32)).toInt % 5).toNat + 1, by omega, by omega, ?_⟩
  rw [h2, own_one]
/-- the first of k places from i on at which lt fails, else the last -/
def first (lt : Nat → Bool) : Nat → Nat → Nat
  | 0, i => i
  | k + 1, i => if lt (i + 1) then first lt k (i + 1) else i
theorem first_le (lt : Nat → Bool) : ∀ k i, i ≤ first lt k i ∧ first lt k i ≤ i + k
  | 0, i => ⟨Nat.le_refl _, Nat.le_refl _⟩
  | k + 1, i => by
    have := first_le lt k (i + 1)
    unfold first; split <;> omega
theorem first_below (lt : Nat → Bool) : ∀ k i j, i ≤ j → j < first lt k i → lt (j + 1) = true
  | 0, i, j, h1, h2 => by unfold first at h2; omega
  | k + 1, i, j, h1, h2 => by
    unfold first at h2
    by_cases q : lt (i + 1) = true
    · rw [if_pos q] at h2
      by_cases z : j = i
      · subst z; exact q
      · exact first_below lt k (i + 1) j (by omega) h2
    · rw [if_neg q] at h2; omega
theorem first_at (lt : Nat → Bool) : ∀ k i, first lt k i < i + k → lt (first lt k i + 1) = false
  | 0, i, h => by unfold first at h; omega
  | k + 1, i, h => by
    unfold first at h ⊢
    by_cases q : lt (i + 1) = true
    · rw [if_pos q] at h ⊢; exact first_at lt k (i + 1) (by omega)
    · rw [if_neg q]; simpa using q
theorem first_t {lt : Nat → Bool} {k i : Nat} (h : lt (i + 1) = true) : first lt (k + 1) i = first lt k (i + 1) := by rw [first, if_pos h]
theorem first_f {lt : Nat → Bool} {k i : Nat} (h : lt (i + 1) = false) : first lt (k + 1) i = i := by rw [first, h]; rfl
theorem own_cmpL {x y : UInt64} (hx : NoNaN64 x) (hy : NoNaN64 y) : ifCond.holds .lt (cmpValue (FP.dcmp x y) .l) = decide (FP.dcmp x y = some .lt) := by
  obtain ⟨o, ho⟩ := dcmp_of_noNaN hx hy
  rw [ho]; cases o <;> decide
theorem own_cmpG {x y : UInt64} (hx : NoNaN64 x) (hy : NoNaN64 y) : ifCond.holds .ge (cmpValue (FP.dcmp x y) .g) = !decide (FP.dcmp x y = some .lt) := by
  obtain ⟨o, ho⟩ := dcmp_of_noNaN hx hy
  rw [ho]; cases o <;> decide
open Jvm.FP.Core in
theorem own_zv {x y : UInt64} (hx : NoNaN64 x) (hy : NoNaN64 y) : FP.dcmp x y = some (compare (zval b64 (val64 x)) (zval b64 (val64 y))) :=
  order_zval good_b64 (val64_fits _) (val64_fits _) (val64_no.mp hx) (val64_no.mp hy)
theorem own_clt {a b : Int} : compare a b = .lt ↔ a < b := by
  simp only [compare, compareOfLessAndEq]
  by_cases h : a < b
  · simp [h]
  · by_cases q : a = b <;> simp [h, q]
open Jvm.FP.Core in
theorem own_mono {x y z : UInt64} {i j : Int} (hx : DInt i x) (hy : DInt j y) (hz : NoNaN64 z) (hij : i ≤ j) (h : FP.dcmp y z = some .lt) : FP.dcmp x z = some .lt := by
  have nx : NoNaN64 x := val64_no.mpr fun q => by unfold DInt at hx; rw [q] at hx; exact hx.elim
  have ny : NoNaN64 y := val64_no.mpr fun q => by unfold DInt at hy; rw [q] at hy; exact hy.elim
  have e1 : FP.dcmp y x = some (compare j i) := dcmp_int hy hx
  rw [own_zv ny nx] at e1
  rw [own_zv ny hz] at h
  rw [own_zv nx hz]
  have h1 := own_clt.mp (Option.some.inj h)
  have h2 : ¬ zval b64 (val64 y) < zval b64 (val64 x) := fun q => by
    rw [own_clt.mpr q] at e1
    have := own_clt.mp (Option.some.inj e1).symm
    omega
  exact congrArg some (own_clt.mpr (by omega))
open Jvm.FP.Core in
theorem own_no {i : Int} {a : UInt64} (h : DInt i a) : NoNaN64 a := val64_no.mpr fun q => by
  unfold DInt at h
  rw [q] at h
  exact h.elim
theorem own_add15 {s t : Int64} {x : Int32} (e : t = s + (x &&& (15 : Int32)).toInt64) (lo hi : Int) (h1 : lo ≤ s.toInt) (h2 : s.toInt ≤ hi) (h3 : -2 ^ 40 ≤ lo) (h4 : hi ≤ 2 ^ 40) : s.toInt ≤ t.toInt ∧ t.toInt ≤ hi + 15 := by
  have k1 : (x &&& (15 : Int32)).toBitVec.toNat ≤ 15 := by
    simp only [Int32.toBitVec_and, BitVec.toNat_and]
    exact Nat.and_le_right
  have k2 : 0 ≤ (x &&& (15 : Int32)).toInt := (c_andS x 15).2.2 (by decide)
  have k3 : (x &&& (15 : Int32)).toInt ≤ 15 := by
    have : (x &&& (15 : Int32)).toInt = (x &&& (15 : Int32)).toBitVec.toInt := rfl
    rw [this, BitVec.toInt_eq_toNat_cond]; split <;> omega
  have k4 : ((x &&& (15 : Int32)).toInt64).toInt = (x &&& (15 : Int32)).toInt := Int32.toInt_toInt64 _
  have k5 : t.toInt = s.toInt + (x &&& (15 : Int32)).toInt := by
    rw [e, Int64.toInt_add, k4]; exact Int.bmod_eq_of_le (by omega) (by omega)
  omega
theorem own_half : Fin64 (4602678819172646912 : UInt64) := by unfold Fin64; decide
theorem own_n1 (o : Int32) : NoNaN64 (FP.dmul (FP.i2d o) (4602678819172646912 : UInt64)) := dmul_out (i2d_fin o) own_half
theorem own_n2 (a o : Int32) : NoNaN64 (FP.dadd (FP.i2d a) (FP.dmul (FP.i2d o) (4602678819172646912 : UInt64))) := dadd_out' (i2d_fin a) (own_n1 o)
theorem d1_0 : decode prog_115_method_2_code 0 = .ok (.iconst 0, 1) := by decide +kernel
theorem d1_1 : decode prog_115_method_2_code 1 = .ok (.istore 4, 2) := by decide +kernel
theorem d1_3 : decode prog_115_method_2_code 3 = .ok (.iload_n 1, 1) := by decide +kernel
theorem d1_4 : decode prog_115_method_2_code 4 = .ok (.iconst 1, 1) := by decide +kernel
theorem d1_5 : decode prog_115_method_2_code 5 = .ok (.isub, 1) := by decide +kernel
theorem d1_6 : decode prog_115_method_2_code 6 = .ok (.istore 5, 2) := by decide +kernel
theorem d1_8 : decode prog_115_method_2_code 8 = .ok (.iload 4, 2) := by decide +kernel
theorem d1_10 : decode prog_115_method_2_code 10 = .ok (.iload 5, 2) := by decide +kernel
theorem d1_12 : decode prog_115_method_2_code 12 = .ok (.if_icmp .ge 39, 3) := by decide +kernel
theorem d1_15 : decode prog_115_method_2_code 15 = .ok (.iload 4, 2) := by decide +kernel
theorem d1_17 : decode prog_115_method_2_code 17 = .ok (.iload 5, 2) := by decide +kernel
theorem d1_19 : decode prog_115_method_2_code 19 = .ok (.iadd, 1) := by decide +kernel
theorem d1_20 : decode prog_115_method_2_code 20 = .ok (.iconst 1, 1) := by decide +kernel
theorem d1_21 : decode prog_115_method_2_code 21 = .ok (.iushr, 1) := by decide +kernel
theorem d1_22 : decode prog_115_method_2_code 22 = .ok (.istore 6, 2) := by decide +kernel
theorem d1_24 : decode prog_115_method_2_code 24 = .ok (.aload_n 0, 1) := by decide +kernel
theorem d1_25 : decode prog_115_method_2_code 25 = .ok (.iload 6, 2) := by decide +kernel
theorem d1_27 : decode prog_115_method_2_code 27 = .ok (.iconst 1, 1) := by decide +kernel
theorem d1_28 : decode prog_115_method_2_code 28 = .ok (.iadd, 1) := by decide +kernel
theorem d1_29 : decode prog_115_method_2_code 29 = .ok (.daload, 1) := by decide +kernel
theorem d1_30 : decode prog_115_method_2_code 30 = .ok (.dload_n 2, 1) := by decide +kernel
theorem d1_31 : decode prog_115_method_2_code 31 = .ok (.dcmp .g, 1) := by decide +kernel
theorem d1_32 : decode prog_115_method_2_code 32 = .ok (.ifCond .ge 12, 3) := by decide +kernel
theorem d1_35 : decode prog_115_method_2_code 35 = .ok (.iload 6, 2) := by decide +kernel
theorem d1_37 : decode prog_115_method_2_code 37 = .ok (.iconst 1, 1) := by decide +kernel
theorem d1_38 : decode prog_115_method_2_code 38 = .ok (.iadd, 1) := by decide +kernel
theorem d1_39 : decode prog_115_method_2_code 39 = .ok (.istore 4, 2) := by decide +kernel
theorem d1_41 : decode prog_115_method_2_code 41 = .ok (.goto 7, 3) := by decide +kernel
theorem d1_44 : decode prog_115_method_2_code 44 = .ok (.iload 6, 2) := by decide +kernel
theorem d1_46 : decode prog_115_method_2_code 46 = .ok (.istore 5, 2) := by decide +kernel
theorem d1_48 : decode prog_115_method_2_code 48 = .ok (.goto (-40), 3) := by decide +kernel
theorem d1_51 : decode prog_115_method_2_code 51 = .ok (.iload 4, 2) := by decide +kernel
theorem d1_53 : decode prog_115_method_2_code 53 = .ok (.ireturn, 1) := by decide +kernel
theorem pn_1 : plainName "com/example/roadbound/roadbound/network/Pieces" = true := by first | (simp [plainName, overriddenIn]; done) | decide +kernel
theorem pn_0 : plainName "com/example/roadbound/roadbound/network/PiecesAtPinLaw" = true := by first | (simp [plainName, overriddenIn]; done) | decide +kernel
set_option maxRecDepth 65536 in
set_option maxHeartbeats 40000000 in
theorem loop1 {p : Program} {l : Launch} {e : Env} {R : Room} {s : State} {m : MethodId} {args : Array Value} {below : List Frame} {meth : Method} {c : Code} {T : State} {Z : State} {h0 : Heap} {G : Option Value → Heap → List Loc → Nat → Nat → Prop} {a : Addr} {n z : Nat} {f : Nat → UInt64} {off : UInt64} {lt : Nat → Bool} (X : Stand p l e R s m args below meth c T [] 0 0) (hx : p.tables.exec = Jvm.exec) (hby : c.code = prog_115_method_2_code) (hret : meth.sig.returnType = some .int) (hlk : meth.locks = false) (hZ : Z.Warmed39 s.vm) (e0 : T.heap = h0) (A : DA Z h0 a z f) (hn1 : 1 ≤ n) (hn5 : n ≤ 5) (hz : n < z) (hlt : ∀ k, 1 ≤ k → k < n → ifCond.holds .ge (cmpValue (FP.dcmp (f k) off) .g) = !lt k) (hmo : ∀ i j, 1 ≤ i → i ≤ j → j < n → lt j = true → lt i = true) (hv : G (some (.int (Int32.ofNat (first lt (n - 1) 0)))) T.heap [] 0 0) :
    ∀ (k lo hi : Nat) (s6 : Slot), hi - lo ≤ k → lo ≤ first lt (n - 1) 0 → first lt (n - 1) 0 ≤ hi → hi ≤ n - 1 → (s6 = .unset ∨ ∃ z, s6 = .val (.int z)) → Good p.tables e below s G (T.setTop (mkF m 8 #[.val (.ref a), .val (.int (Int32.ofNat n)), .val (.double off), .second, .val (.int (Int32.ofNat lo)), .val (.int (Int32.ofNat hi)), s6] [])) := by
  intro k
  induction k with
  | zero =>
    intro lo hi s6 hk h1 h2 h3 hs
    refine Good.iload X hx (pc' := 10) rfl (hb hby d1_8) rfl ?_
    refine Good.iload X hx (pc' := 12) rfl (hb hby d1_10) rfl ?_
    refine Good.icmpYes X hx (pc' := 51) (by decide) (hb hby d1_12) (own_ge (by omega) (by omega) (by omega)) ?_
    refine Good.iload X hx (pc' := 53) rfl (hb hby d1_51) rfl ?_
    rw [show first lt (n - 1) 0 = lo by omega] at hv
    exact Good.retI X hx hlk hret (hb hby d1_53) hv
  | succ k ih =>
    intro lo hi s6 hk h1 h2 h3 hs
    by_cases hlh : lo < hi
    · refine Good.iload X hx (pc' := 10) rfl (hb hby d1_8) rfl ?_
      refine Good.iload X hx (pc' := 12) rfl (hb hby d1_10) rfl ?_
      refine Good.icmpNo X hx (pc' := 15) rfl (hb hby d1_12) (own_lt hlh (by omega)) ?_
      refine Good.iload X hx (pc' := 17) rfl (hb hby d1_15) rfl ?_
      refine Good.iload X hx (pc' := 19) rfl (hb hby d1_17) rfl ?_
      refine Good.iadd X hx (pc' := 20) rfl (hb hby d1_19) ?_
      refine Good.iconst X hx (pc' := 21) (w := (1 : Int32)) rfl (hb hby d1_20) rfl ?_
      refine Good.iushr X hx (pc' := 22) rfl (hb hby d1_21) ?_
      rw [own_mid (by omega) (by omega)]
      obtain ⟨md, hmd⟩ : ∃ md, md = (lo + hi) / 2 := ⟨_, rfl⟩
      rw [← hmd]
      have hst : storeLocals #[.val (.ref a), .val (.int (Int32.ofNat n)), .val (.double off), .second, .val (.int (Int32.ofNat lo)), .val (.int (Int32.ofNat hi)), s6] 6 (.int (Int32.ofNat md)) = some #[.val (.ref a), .val (.int (Int32.ofNat n)), .val (.double off), .second, .val (.int (Int32.ofNat lo)), .val (.int (Int32.ofNat hi)), .val (.int (Int32.ofNat md))] := by rcases hs with rfl | ⟨z, rfl⟩ <;> rfl
      refine Good.istore X hx (pc' := 24) (Ls' := #[.val (.ref a), .val (.int (Int32.ofNat n)), .val (.double off), .second, .val (.int (Int32.ofNat lo)), .val (.int (Int32.ofNat hi)), .val (.int (Int32.ofNat md))]) rfl (hb hby d1_22) hst ?_
      refine Good.aloadN X hx (pc' := 25) rfl (hb hby d1_24) rfl rfl ?_
      refine Good.iload X hx (pc' := 27) rfl (hb hby d1_25) rfl ?_
      refine Good.iconst X hx (pc' := 28) (w := (1 : Int32)) rfl (hb hby d1_27) rfl ?_
      refine Good.iadd X hx (pc' := 29) rfl (hb hby d1_28) ?_
      rw [own_one]
      refine Good.daloadF X hx hZ e0 A (md + 1) (own_n32 (by omega)) (by omega) (w := (f (md + 1))) rfl (pc' := 30) rfl (hb hby d1_29) ?_
      refine Good.dloadN X hx (pc' := 31) rfl (hb hby d1_30) rfl ?_
      refine Good.dcmp X hx (pc' := 32) rfl (hb hby d1_31) ?_
      refine Good.ifFork X hx (pc1 := 44) (pc2 := 35) (hb hby d1_32) (by decide) rfl (fun hc => ?_) (fun hc => ?_)
      · rw [hlt (md + 1) (by omega) (by omega)] at hc
        have q : lt (md + 1) = false := by simpa using hc
        refine Good.iload X hx (pc' := 46) rfl (hb hby d1_44) rfl ?_
        refine Good.istore X hx (pc' := 48) (Ls' := #[.val (.ref a), .val (.int (Int32.ofNat n)), .val (.double off), .second, .val (.int (Int32.ofNat lo)), .val (.int (Int32.ofNat md)), .val (.int (Int32.ofNat md))]) rfl (hb hby d1_46) rfl ?_
        refine Good.goto X hx (pc' := 8) (by decide) (hb hby d1_48) ?_
        refine ih lo md _ (by omega) h1 (Nat.le_of_not_lt fun u => ?_) (by omega) (Or.inr ⟨_, rfl⟩)
        rw [first_below lt (n - 1) 0 md (by omega) u] at q; cases q
      · rw [hlt (md + 1) (by omega) (by omega)] at hc
        have q : lt (md + 1) = true := by simpa using hc
        refine Good.iload X hx (pc' := 37) rfl (hb hby d1_35) rfl ?_
        refine Good.iconst X hx (pc' := 38) (w := (1 : Int32)) rfl (hb hby d1_37) rfl ?_
        refine Good.iadd X hx (pc' := 39) rfl (hb hby d1_38) ?_
        rw [own_one]
        refine Good.istore X hx (pc' := 41) (Ls' := #[.val (.ref a), .val (.int (Int32.ofNat n)), .val (.double off), .second, .val (.int (Int32.ofNat (md + 1))), .val (.int (Int32.ofNat hi)), .val (.int (Int32.ofNat md))]) rfl (hb hby d1_39) rfl ?_
        refine Good.goto X hx (pc' := 48) (by decide) (hb hby d1_41) ?_
        refine Good.goto X hx (pc' := 8) (by decide) (hb hby d1_48) ?_
        refine ih (md + 1) hi _ (by omega) (Nat.lt_of_not_le fun u => ?_) h2 h3 (Or.inr ⟨_, rfl⟩)
        have u1 := first_at lt (n - 1) 0 (by omega)
        rw [hmo (first lt (n - 1) 0 + 1) (md + 1) (by omega) (by omega) (by omega) q] at u1; cases u1
    · refine Good.iload X hx (pc' := 10) rfl (hb hby d1_8) rfl ?_
      refine Good.iload X hx (pc' := 12) rfl (hb hby d1_10) rfl ?_
      refine Good.icmpYes X hx (pc' := 51) (by decide) (hb hby d1_12) (own_ge (by omega) (by omega) (by omega)) ?_
      refine Good.iload X hx (pc' := 53) rfl (hb hby d1_51) rfl ?_
      rw [show first lt (n - 1) 0 = lo by omega] at hv
      exact Good.retI X hx hlk hret (hb hby d1_53) hv
theorem own_sub1 {n : Nat} (h1 : 1 ≤ n) (h5 : n ≤ 5) : Int32.ofNat n - (1 : Int32) = Int32.ofNat (n - 1) := by
  match n, h1, h5 with
  | 1, _, _ => decide
  | 2, _, _ => decide
  | 3, _, _ => decide
  | 4, _, _ => decide
  | 5, _, _ => decide
set_option maxRecDepth 65536 in
set_option maxHeartbeats 40000000 in
theorem c_at (l : Launch) (Z : State) (a0 : Array Value) (hw : ∀ d ∈ tables_1, d.before a0 Z = true) (a : Addr) (n z : Nat) (f : Nat → UInt64) (off : UInt64) (lt : Nat → Bool) (h0 : Heap) (A : DA Z h0 a z f) (hn1 : 1 ≤ n) (hn5 : n ≤ 5) (hz : n < z) (hlt : ∀ k, 1 ≤ k → k < n → ifCond.holds .ge (cmpValue (FP.dcmp (f k) off) .g) = !lt k) (hmo : ∀ i j, 1 ≤ i → i ≤ j → j < n → lt j = true → lt i = true) :
    Con l Z (⟨"com/example/roadbound/roadbound/network/Pieces", "at", "([DID)I"⟩ : MethodName) prog_115_method_2_code 7 (some .int) ({ frames := 0, cells := 0, slots := 0, locals := 0 } : Room) #[.ref a, .int (Int32.ofNat n), .double off] h0 (fun v h L => v = some (.int (Int32.ofNat (first lt (n - 1) 0))) ∧ h = h0 ∧ L = []) := by
  refine Con.body (plainFor_of_name pn_1) ?_
  intro G hG p e s m below meth c T X hx hby hml hown hnm hret hlk hZ e0
  rw [show entryFrame m #[.ref a, .int (Int32.ofNat n), .double off] 7 = mkF m 0 #[.val (.ref a), .val (.int (Int32.ofNat n)), .val (.double off), .second, .unset, .unset, .unset] [] from by first | (simp [entryFrame, mkF, argsToLocals, Value.category, maxLocals]; done) | rfl]
  refine Good.iconst X hx (pc' := 1) (w := (0 : Int32)) rfl (hb hby d1_0) rfl ?_
  refine Good.istore X hx (pc' := 3) (Ls' := #[.val (.ref a), .val (.int (Int32.ofNat n)), .val (.double off), .second, .val (.int (0 : Int32)), .unset, .unset]) rfl (hb hby d1_1) rfl ?_
  refine Good.iloadN X hx (pc' := 4) rfl (hb hby d1_3) rfl ?_
  refine Good.iconst X hx (pc' := 5) (w := (1 : Int32)) rfl (hb hby d1_4) rfl ?_
  refine Good.isub X hx (pc' := 6) rfl (hb hby d1_5) ?_
  rw [own_sub1 hn1 hn5]
  refine Good.istore X hx (pc' := 8) (Ls' := #[.val (.ref a), .val (.int (Int32.ofNat n)), .val (.double off), .second, .val (.int (0 : Int32)), .val (.int (Int32.ofNat (n - 1))), .unset]) rfl (hb hby d1_6) rfl ?_
  refine loop1 (f := f) (lt := lt) (z := z) X hx hby hret hlk hZ e0 A hn1 hn5 hz hlt hmo (hG _ _ _ _ _ ⟨rfl, e0, rfl⟩ (by decide) (by decide)) (n - 1) 0 (n - 1) .unset (by omega) (by omega) ?_ (by omega) (Or.inl rfl)
  have := (first_le lt (n - 1) 0).2; omega
theorem pd_0 : parseMethodDescriptor "([DID)I" = some ⟨[(.array .double), .int, .double], some .int⟩ := by decide +kernel
theorem int32_rng (a : Int32) : -2 ^ 31 ≤ a.toInt ∧ a.toInt < 2 ^ 31 := ⟨Int32.le_toInt a, Int32.toInt_lt a⟩
set_option maxRecDepth 65536 in
set_option maxHeartbeats 40000000 in
theorem c_law (l : Launch) (Z : State) (a0 : Array Value) (hw : ∀ d ∈ tables_1, d.before a0 Z = true) (a b c' o e' : Int32) (h0 : Heap) (n0 : Nat) (Z0 : n0 ≤ h0.size) :
    Con l Z x code maxLocals ret room_1 #[.int a, .int b, .int c', .int o, .int e'] h0 (fun v h L => v = some (.int 1) ∧ Fr n0 L) := by
  refine Con.body (plainFor_of_name pn_0) ?_
  intro G hG p e s m below meth c T X hx hby hml hown hnm hret hlk hZ e0
  rw [show entryFrame m #[.int a, .int b, .int c', .int o, .int e'] maxLocals = mkF m 0 #[.val (.int a), .val (.int b), .val (.int c'), .val (.int o), .val (.int e'), .unset, .unset, .unset, .unset, .unset, .unset, .unset, .unset, .unset, .unset, .unset, .unset, .unset, .unset, .unset, .unset, .unset, .unset, .unset, .unset] [] from by first | (simp [entryFrame, mkF, argsToLocals, Value.category, maxLocals]; done) | rfl]
  have N0 := Fr.nil n0
  obtain ⟨n, hn1, hn5, hn⟩ := own_count c'
  refine Good.iloadN X hx (pc' := 1) rfl (hb hby at_0) rfl ?_
  refine Good.ldcI X hx hZ hown (hw _ (List.mem_of_getElem? (i := 0) rfl)) (pc' := 3) rfl (hb hby at_1) ?_
  refine Good.iand X hx (pc' := 4) rfl (hb hby at_3) ?_
  refine Good.iconst X hx (pc' := 5) (w := (5 : Int32)) rfl (hb hby at_4) rfl ?_
  refine Good.irem X hx (pc' := 6) rfl (hb hby at_5) (by decide) ?_
  refine Good.iconst X hx (pc' := 7) (w := (1 : Int32)) rfl (hb hby at_6) rfl ?_
  refine Good.iadd X hx (pc' := 8) rfl (hb hby at_7) ?_
  rw [hn]
  refine Good.istore X hx (pc' := 10) (Ls' := #[.val (.int a), .val (.int b), .val (.int c'), .val (.int o), .val (.int e'), .val (.int (Int32.ofNat n)), .unset, .unset, .unset, .unset, .unset, .unset, .unset, .unset, .unset, .unset, .unset, .unset, .unset, .unset, .unset, .unset, .unset, .unset, .unset]) rfl (hb hby at_8) rfl ?_
  refine Good.iloadN X hx (pc' := 11) rfl (hb hby at_10) rfl ?_
  refine Good.i2l X hx (pc' := 12) rfl (hb hby at_11) ?_
  obtain ⟨s0, es0⟩ : ∃ z, z = (a).toInt64 := ⟨_, rfl⟩
  rw [← es0]
  refine Good.lstore X hx (pc' := 14) (Ls' := #[.val (.int a), .val (.int b), .val (.int c'), .val (.int o), .val (.int e'), .val (.int (Int32.ofNat n)), .val (.long s0), .second, .unset, .unset, .unset, .unset, .unset, .unset, .unset, .unset, .unset, .unset, .unset, .unset, .unset, .unset, .unset, .unset, .unset]) rfl (hb hby at_12) rfl ?_
  refine Good.lload X hx (pc' := 16) rfl (hb hby at_14) rfl ?_
  refine Good.iloadN X hx (pc' := 17) rfl (hb hby at_16) rfl ?_
  refine Good.bipush X hx (pc' := 19) (w := (15 : Int32)) rfl (hb hby at_17) rfl ?_
  refine Good.iand X hx (pc' := 20) rfl (hb hby at_19) ?_
  refine Good.i2l X hx (pc' := 21) rfl (hb hby at_20) ?_
  refine Good.ladd X hx (pc' := 22) rfl (hb hby at_21) ?_
  obtain ⟨s1, es1⟩ : ∃ z, z = (s0 + ((b &&& (15 : Int32))).toInt64) := ⟨_, rfl⟩
  rw [← es1]
  refine Good.lstore X hx (pc' := 24) (Ls' := #[.val (.int a), .val (.int b), .val (.int c'), .val (.int o), .val (.int e'), .val (.int (Int32.ofNat n)), .val (.long s0), .second, .val (.long s1), .second, .unset, .unset, .unset, .unset, .unset, .unset, .unset, .unset, .unset, .unset, .unset, .unset, .unset, .unset, .unset]) rfl (hb hby at_22) rfl ?_
  refine Good.lload X hx (pc' := 26) rfl (hb hby at_24) rfl ?_
  refine Good.iloadN X hx (pc' := 27) rfl (hb hby at_26) rfl ?_
  refine Good.iconst X hx (pc' := 28) (w := (4 : Int32)) rfl (hb hby at_27) rfl ?_
  refine Good.iushr X hx (pc' := 29) rfl (hb hby at_28) ?_
  refine Good.bipush X hx (pc' := 31) (w := (15 : Int32)) rfl (hb hby at_29) rfl ?_
  refine Good.iand X hx (pc' := 32) rfl (hb hby at_31) ?_
  refine Good.i2l X hx (pc' := 33) rfl (hb hby at_32) ?_
  refine Good.ladd X hx (pc' := 34) rfl (hb hby at_33) ?_
  obtain ⟨s2, es2⟩ : ∃ z, z = (s1 + (((XT.ushr b (4 : Int32)) &&& (15 : Int32))).toInt64) := ⟨_, rfl⟩
  rw [← es2]
  refine Good.lstore X hx (pc' := 36) (Ls' := #[.val (.int a), .val (.int b), .val (.int c'), .val (.int o), .val (.int e'), .val (.int (Int32.ofNat n)), .val (.long s0), .second, .val (.long s1), .second, .val (.long s2), .second, .unset, .unset, .unset, .unset, .unset, .unset, .unset, .unset, .unset, .unset, .unset, .unset, .unset]) rfl (hb hby at_34) rfl ?_
  refine Good.lload X hx (pc' := 38) rfl (hb hby at_36) rfl ?_
  refine Good.iloadN X hx (pc' := 39) rfl (hb hby at_38) rfl ?_
  refine Good.bipush X hx (pc' := 41) (w := (8 : Int32)) rfl (hb hby at_39) rfl ?_
  refine Good.iushr X hx (pc' := 42) rfl (hb hby at_41) ?_
  refine Good.bipush X hx (pc' := 44) (w := (15 : Int32)) rfl (hb hby at_42) rfl ?_
  refine Good.iand X hx (pc' := 45) rfl (hb hby at_44) ?_
  refine Good.i2l X hx (pc' := 46) rfl (hb hby at_45) ?_
  refine Good.ladd X hx (pc' := 47) rfl (hb hby at_46) ?_
  obtain ⟨s3, es3⟩ : ∃ z, z = (s2 + (((XT.ushr b (8 : Int32)) &&& (15 : Int32))).toInt64) := ⟨_, rfl⟩
  rw [← es3]
  refine Good.lstore X hx (pc' := 49) (Ls' := #[.val (.int a), .val (.int b), .val (.int c'), .val (.int o), .val (.int e'), .val (.int (Int32.ofNat n)), .val (.long s0), .second, .val (.long s1), .second, .val (.long s2), .second, .val (.long s3), .second, .unset, .unset, .unset, .unset, .unset, .unset, .unset, .unset, .unset, .unset, .unset]) rfl (hb hby at_47) rfl ?_
  refine Good.lload X hx (pc' := 51) rfl (hb hby at_49) rfl ?_
  refine Good.iloadN X hx (pc' := 52) rfl (hb hby at_51) rfl ?_
  refine Good.bipush X hx (pc' := 54) (w := (12 : Int32)) rfl (hb hby at_52) rfl ?_
  refine Good.iushr X hx (pc' := 55) rfl (hb hby at_54) ?_
  refine Good.bipush X hx (pc' := 57) (w := (15 : Int32)) rfl (hb hby at_55) rfl ?_
  refine Good.iand X hx (pc' := 58) rfl (hb hby at_57) ?_
  refine Good.i2l X hx (pc' := 59) rfl (hb hby at_58) ?_
  refine Good.ladd X hx (pc' := 60) rfl (hb hby at_59) ?_
  obtain ⟨s4, es4⟩ : ∃ z, z = (s3 + (((XT.ushr b (12 : Int32)) &&& (15 : Int32))).toInt64) := ⟨_, rfl⟩
  rw [← es4]
  refine Good.lstore X hx (pc' := 62) (Ls' := #[.val (.int a), .val (.int b), .val (.int c'), .val (.int o), .val (.int e'), .val (.int (Int32.ofNat n)), .val (.long s0), .second, .val (.long s1), .second, .val (.long s2), .second, .val (.long s3), .second, .val (.long s4), .second, .unset, .unset, .unset, .unset, .unset, .unset, .unset, .unset, .unset]) rfl (hb hby at_60) rfl ?_
  refine Good.lload X hx (pc' := 64) rfl (hb hby at_62) rfl ?_
  refine Good.iloadN X hx (pc' := 65) rfl (hb hby at_64) rfl ?_
  refine Good.bipush X hx (pc' := 67) (w := (16 : Int32)) rfl (hb hby at_65) rfl ?_
  refine Good.iushr X hx (pc' := 68) rfl (hb hby at_67) ?_
  refine Good.bipush X hx (pc' := 70) (w := (15 : Int32)) rfl (hb hby at_68) rfl ?_
  refine Good.iand X hx (pc' := 71) rfl (hb hby at_70) ?_
  refine Good.i2l X hx (pc' := 72) rfl (hb hby at_71) ?_
  refine Good.ladd X hx (pc' := 73) rfl (hb hby at_72) ?_
  obtain ⟨s5, es5⟩ : ∃ z, z = (s4 + (((XT.ushr b (16 : Int32)) &&& (15 : Int32))).toInt64) := ⟨_, rfl⟩
  rw [← es5]
  have k0 : s0.toInt = a.toInt := by rw [es0]; exact Int32.toInt_toInt64 _
  have ka := int32_rng a
  have k1 := own_add15 es1 (-2 ^ 31) (2 ^ 31 + 0) (by omega) (by omega) (by decide) (by decide)
  have k2 := own_add15 es2 (-2 ^ 31) (2 ^ 31 + 15) (by omega) (by omega) (by decide) (by decide)
  have k3 := own_add15 es3 (-2 ^ 31) (2 ^ 31 + 30) (by omega) (by omega) (by decide) (by decide)
  have k4 := own_add15 es4 (-2 ^ 31) (2 ^ 31 + 45) (by omega) (by omega) (by decide) (by decide)
  have k5 := own_add15 es5 (-2 ^ 31) (2 ^ 31 + 60) (by omega) (by omega) (by decide) (by decide)
  have d0 : Jvm.FP.Core.DInt s0.toInt (FP.l2d s0) := Jvm.FP.Core.l2d_int (by omega)
  have d1 : Jvm.FP.Core.DInt s1.toInt (FP.l2d s1) := Jvm.FP.Core.l2d_int (by omega)
  have d2 : Jvm.FP.Core.DInt s2.toInt (FP.l2d s2) := Jvm.FP.Core.l2d_int (by omega)
  have d3 : Jvm.FP.Core.DInt s3.toInt (FP.l2d s3) := Jvm.FP.Core.l2d_int (by omega)
  have d4 : Jvm.FP.Core.DInt s4.toInt (FP.l2d s4) := Jvm.FP.Core.l2d_int (by omega)
  have d5 : Jvm.FP.Core.DInt s5.toInt (FP.l2d s5) := Jvm.FP.Core.l2d_int (by omega)
  refine Good.lstore X hx (pc' := 75) (Ls' := #[.val (.int a), .val (.int b), .val (.int c'), .val (.int o), .val (.int e'), .val (.int (Int32.ofNat n)), .val (.long s0), .second, .val (.long s1), .second, .val (.long s2), .second, .val (.long s3), .second, .val (.long s4), .second, .val (.long s5), .second, .unset, .unset, .unset, .unset, .unset, .unset, .unset]) rfl (hb hby at_73) rfl ?_
  refine Good.iload X hx (pc' := 77) rfl (hb hby at_75) rfl ?_
  refine Good.i2d X hx (pc' := 78) rfl (hb hby at_77) ?_
  refine Good.dstore X hx (pc' := 80) (Ls' := #[.val (.int a), .val (.int b), .val (.int c'), .val (.int o), .val (.int e'), .val (.int (Int32.ofNat n)), .val (.long s0), .second, .val (.long s1), .second, .val (.long s2), .second, .val (.long s3), .second, .val (.long s4), .second, .val (.long s5), .second, .val (.double (FP.i2d e')), .second, .unset, .unset, .unset, .unset, .unset]) rfl (hb hby at_78) rfl ?_
  refine Good.bipush X hx (pc' := 82) (w := (6 : Int32)) rfl (hb hby at_80) rfl ?_
  refine Good.newarray X hx hZ (hw _ (List.mem_of_getElem? (i := 1) rfl)) e0 (pc' := 84) rfl (hb hby at_82) (by decide) (cap := 6) (by decide) (by decide) (by decide) (by decide) fun T1 h1 k1 b1 g1 X1 e1 E1 A1 => ?_
  have ge_b1 : n0 ≤ b1 := by rw [g1]; exact Z0
  have Z_1 := Nat.le_trans Z0 E1.1
  have DA_b1 : DA Z h1 b1 6 (fun _ => 0) := DA.new A1 rfl
  refine Good.astore X1 hx (pc' := 86) (Ls' := #[.val (.int a), .val (.int b), .val (.int c'), .val (.int o), .val (.int e'), .val (.int (Int32.ofNat n)), .val (.long s0), .second, .val (.long s1), .second, .val (.long s2), .second, .val (.long s3), .second, .val (.long s4), .second, .val (.long s5), .second, .val (.double (FP.i2d e')), .second, .val (.ref b1), .unset, .unset, .unset, .unset]) rfl (hb hby at_84) rfl rfl ?_
  refine Good.aload X1 hx (pc' := 88) rfl (hb hby at_86) rfl rfl ?_
  refine Good.iconst X1 hx (pc' := 89) (w := (0 : Int32)) rfl (hb hby at_88) rfl ?_
  refine Good.lload X1 hx (pc' := 91) rfl (hb hby at_89) rfl ?_
  refine Good.l2d X1 hx (pc' := 92) rfl (hb hby at_91) ?_
  refine Good.dastoreF X1 hx hZ e1 DA_b1 (0) rfl (by decide) (pc' := 93) rfl (hb hby at_92) fun T2 h2 X2 e2 W2 V2 => ?_
  have Z_2 : n0 ≤ h2.size := by rw [W2.size]; exact Z_1
  have N_2 := Fr.snoc X2 N0 ge_b1
  refine Good.aload X2 hx (pc' := 95) rfl (hb hby at_93) rfl rfl ?_
  refine Good.iconst X2 hx (pc' := 96) (w := (1 : Int32)) rfl (hb hby at_95) rfl ?_
  refine Good.lload X2 hx (pc' := 98) rfl (hb hby at_96) rfl ?_
  refine Good.l2d X2 hx (pc' := 99) rfl (hb hby at_98) ?_
  refine Good.dastoreF X2 hx hZ e2 V2 (1) rfl (by decide) (pc' := 100) rfl (hb hby at_99) fun T3 h3 X3 e3 W3 V3 => ?_
  have Z_3 : n0 ≤ h3.size := by rw [W3.size]; exact Z_2
  have N_3 := Fr.snoc X3 N_2 ge_b1
  refine Good.aload X3 hx (pc' := 102) rfl (hb hby at_100) rfl rfl ?_
  refine Good.iconst X3 hx (pc' := 103) (w := (2 : Int32)) rfl (hb hby at_102) rfl ?_
  refine Good.iload X3 hx (pc' := 105) rfl (hb hby at_103) rfl ?_
  refine Good.iconst X3 hx (pc' := 106) (w := (2 : Int32)) rfl (hb hby at_105) rfl ?_
  obtain ⟨off, eoff⟩ : ∃ z, z = FP.dadd (FP.i2d a) (FP.dmul (FP.i2d (o % (160 : Int32))) (4602678819172646912 : UInt64)) := ⟨_, rfl⟩
  have noff : NoNaN64 off := by rw [eoff]; exact own_n2 a _
  obtain rfl | rfl | rfl | rfl | rfl : n = 1 ∨ n = 2 ∨ n = 3 ∨ n = 4 ∨ n = 5 := by omega
  · show Good p.tables e below s G (T3.setTop (mkF m 106 #[.val (.int a), .val (.int b), .val (.int c'), .val (.int o), .val (.int e'), .val (.int (1 : Int32)), .val (.long s0), .second, .val (.long s1), .second, .val (.long s2), .second, .val (.long s3), .second, .val (.long s4), .second, .val (.long s5), .second, .val (.double (FP.i2d e')), .second, .val (.ref b1), .unset, .unset, .unset, .unset] [(.int (2 : Int32)), (.int (1 : Int32)), (.int (2 : Int32)), (.ref b1)]))
    refine Good.icmpYes X3 hx (pc' := 115) (by decide) (hb hby at_106) rfl ?_
    refine Good.dload X3 hx (pc' := 117) rfl (hb hby at_115) rfl ?_
    refine Good.dastoreF X3 hx hZ e3 V3 (2) rfl (by decide) (pc' := 118) rfl (hb hby at_117) fun T4 h4 X4 e4 W4 V4 => ?_
    have Z_4 : n0 ≤ h4.size := by rw [W4.size]; exact Z_3
    have N_4 := Fr.snoc X4 N_3 ge_b1
    refine Good.aload X4 hx (pc' := 120) rfl (hb hby at_118) rfl rfl ?_
    refine Good.iconst X4 hx (pc' := 121) (w := (3 : Int32)) rfl (hb hby at_120) rfl ?_
    refine Good.iload X4 hx (pc' := 123) rfl (hb hby at_121) rfl ?_
    refine Good.iconst X4 hx (pc' := 124) (w := (3 : Int32)) rfl (hb hby at_123) rfl ?_
    refine Good.icmpYes X4 hx (pc' := 133) (by decide) (hb hby at_124) rfl ?_
    refine Good.dload X4 hx (pc' := 135) rfl (hb hby at_133) rfl ?_
    refine Good.dastoreF X4 hx hZ e4 V4 (3) rfl (by decide) (pc' := 136) rfl (hb hby at_135) fun T5 h5 X5 e5 W5 V5 => ?_
    have Z_5 : n0 ≤ h5.size := by rw [W5.size]; exact Z_4
    have N_5 := Fr.snoc X5 N_4 ge_b1
    refine Good.aload X5 hx (pc' := 138) rfl (hb hby at_136) rfl rfl ?_
    refine Good.iconst X5 hx (pc' := 139) (w := (4 : Int32)) rfl (hb hby at_138) rfl ?_
    refine Good.iload X5 hx (pc' := 141) rfl (hb hby at_139) rfl ?_
    refine Good.iconst X5 hx (pc' := 142) (w := (4 : Int32)) rfl (hb hby at_141) rfl ?_
    refine Good.icmpYes X5 hx (pc' := 151) (by decide) (hb hby at_142) rfl ?_
    refine Good.dload X5 hx (pc' := 153) rfl (hb hby at_151) rfl ?_
    refine Good.dastoreF X5 hx hZ e5 V5 (4) rfl (by decide) (pc' := 154) rfl (hb hby at_153) fun T6 h6 X6 e6 W6 V6 => ?_
    have Z_6 : n0 ≤ h6.size := by rw [W6.size]; exact Z_5
    have N_6 := Fr.snoc X6 N_5 ge_b1
    refine Good.aload X6 hx (pc' := 156) rfl (hb hby at_154) rfl rfl ?_
    refine Good.iconst X6 hx (pc' := 157) (w := (5 : Int32)) rfl (hb hby at_156) rfl ?_
    refine Good.iload X6 hx (pc' := 159) rfl (hb hby at_157) rfl ?_
    refine Good.iconst X6 hx (pc' := 160) (w := (5 : Int32)) rfl (hb hby at_159) rfl ?_
    refine Good.icmpYes X6 hx (pc' := 169) (by decide) (hb hby at_160) rfl ?_
    refine Good.dload X6 hx (pc' := 171) rfl (hb hby at_169) rfl ?_
    refine Good.dastoreF X6 hx hZ e6 V6 (5) rfl (by decide) (pc' := 172) rfl (hb hby at_171) fun T7 h7 X7 e7 W7 V7 => ?_
    have Z_7 : n0 ≤ h7.size := by rw [W7.size]; exact Z_6
    have N_7 := Fr.snoc X7 N_6 ge_b1
    refine Good.iloadN X7 hx (pc' := 173) rfl (hb hby at_172) rfl ?_
    refine Good.i2d X7 hx (pc' := 174) rfl (hb hby at_173) ?_
    refine Good.iloadN X7 hx (pc' := 175) rfl (hb hby at_174) rfl ?_
    refine Good.sipush X7 hx (pc' := 178) (w := (160 : Int32)) rfl (hb hby at_175) rfl ?_
    refine Good.irem X7 hx (pc' := 179) rfl (hb hby at_178) (by decide) ?_
    refine Good.i2d X7 hx (pc' := 180) rfl (hb hby at_179) ?_
    refine Good.ldc2D X7 hx hZ hown (hw _ (List.mem_of_getElem? (i := 2) rfl)) (pc' := 183) rfl (hb hby at_180) ?_
    refine Good.dmul X7 hx (pc' := 184) rfl (hb hby at_183) (own_n1 _) ?_
    refine Good.dadd X7 hx (pc' := 185) rfl (hb hby at_184) (own_n2 a _) ?_
    rw [← eoff]
    refine Good.dstore X7 hx (pc' := 187) (Ls' := #[.val (.int a), .val (.int b), .val (.int c'), .val (.int o), .val (.int e'), .val (.int (1 : Int32)), .val (.long s0), .second, .val (.long s1), .second, .val (.long s2), .second, .val (.long s3), .second, .val (.long s4), .second, .val (.long s5), .second, .val (.double (FP.i2d e')), .second, .val (.ref b1), .val (.double off), .second, .unset, .unset]) rfl (hb hby at_185) rfl ?_
    refine Good.iload X7 hx (pc' := 189) rfl (hb hby at_187) rfl ?_
    refine Good.iconst X7 hx (pc' := 190) (w := (1 : Int32)) rfl (hb hby at_189) rfl ?_
    refine Good.isub X7 hx (pc' := 191) rfl (hb hby at_190) ?_
    show Good p.tables e below s G (T7.setTop (mkF m 191 #[.val (.int a), .val (.int b), .val (.int c'), .val (.int o), .val (.int e'), .val (.int (1 : Int32)), .val (.long s0), .second, .val (.long s1), .second, .val (.long s2), .second, .val (.long s3), .second, .val (.long s4), .second, .val (.long s5), .second, .val (.double (FP.i2d e')), .second, .val (.ref b1), .val (.double off), .second, .unset, .unset] [(.int (0 : Int32))]))
    refine Good.istore X7 hx (pc' := 193) (Ls' := #[.val (.int a), .val (.int b), .val (.int c'), .val (.int o), .val (.int e'), .val (.int (1 : Int32)), .val (.long s0), .second, .val (.long s1), .second, .val (.long s2), .second, .val (.long s3), .second, .val (.long s4), .second, .val (.long s5), .second, .val (.double (FP.i2d e')), .second, .val (.ref b1), .val (.double off), .second, .val (.int (0 : Int32)), .unset]) rfl (hb hby at_191) rfl ?_
    refine Good.iload X7 hx (pc' := 195) rfl (hb hby at_193) rfl ?_
    refine Good.iconst X7 hx (pc' := 196) (w := (2 : Int32)) rfl (hb hby at_195) rfl ?_
    refine Good.isub X7 hx (pc' := 197) rfl (hb hby at_196) ?_
    refine Good.iconst X7 hx (pc' := 198) (w := (3 : Int32)) rfl (hb hby at_197) rfl ?_
    obtain ⟨ltf, eltf⟩ : ∃ z : Nat → Bool, z = fun k => decide (FP.dcmp ((updD (updD (updD (updD (updD (updD (fun _ => 0) (0) (FP.l2d s0)) (1) (FP.l2d s1)) (2) (FP.i2d e')) (3) (FP.i2d e')) (4) (FP.i2d e')) (5) (FP.i2d e')) k) off = some .lt) := ⟨_, rfl⟩
    have hlt : ∀ k, 1 ≤ k → k < 1 → ifCond.holds .ge (cmpValue (FP.dcmp ((updD (updD (updD (updD (updD (updD (fun _ => 0) (0) (FP.l2d s0)) (1) (FP.l2d s1)) (2) (FP.i2d e')) (3) (FP.i2d e')) (4) (FP.i2d e')) (5) (FP.i2d e')) k) off) .g) = !ltf k := by
      intro k hk1 hk2
      omega
    have hmo : ∀ i j, 1 ≤ i → i ≤ j → j < 1 → ltf j = true → ltf i = true := by
      intro i j h1 h2 h3 h4
      rw [eltf] at h4 ⊢
      omega
    have hfin : ∀ r : Int32, r = Int32.ofNat (first ltf 0 0) → Good p.tables e below s G (T7.setTop (mkF m 276 #[.val (.int a), .val (.int b), .val (.int c'), .val (.int o), .val (.int e'), .val (.int (1 : Int32)), .val (.long s0), .second, .val (.long s1), .second, .val (.long s2), .second, .val (.long s3), .second, .val (.long s4), .second, .val (.long s5), .second, .val (.double (FP.i2d e')), .second, .val (.ref b1), .val (.double off), .second, .val (.int r), .unset] [])) := by
      intro r hr
      refine Good.aload X7 hx (pc' := 278) rfl (hb hby at_276) rfl rfl ?_
      refine Good.iload X7 hx (pc' := 280) rfl (hb hby at_278) rfl ?_
      refine Good.dload X7 hx (pc' := 282) rfl (hb hby at_280) rfl ?_
      refine Good.callS X7 hx hZ (y := ⟨"com/example/roadbound/roadbound/network/Pieces", "at", "([DID)I"⟩) hown (hw _ (List.mem_of_getElem? (i := 3) rfl)) (hw _ (List.mem_of_getElem? (i := 4) rfl)) (hw _ (List.mem_of_getElem? (i := 5) rfl)) (hw _ (List.mem_of_getElem? (i := 6) rfl)) (by decide) e7 (argsL := [(.ref b1), (.int (1 : Int32)), (.double off)]) (rest := []) (c_at l Z a0 hw b1 1 6 (updD (updD (updD (updD (updD (updD (fun _ => 0) (0) (FP.l2d s0)) (1) (FP.l2d s1)) (2) (FP.i2d e')) (3) (FP.i2d e')) (4) (FP.i2d e')) (5) (FP.i2d e')) off ltf h7 V7 (by decide) (by decide) (by decide) hlt hmo) (hdesc := pd_0) rfl (pc' := 285) rfl (by rw [hml]; rfl) rfl (hb hby at_282) (W := 0) (Nat.le_of_eq rfl) (by decide) (by decide) (by decide) (by decide) fun v8 T8 L8 X8 Q8 => ?_
      obtain ⟨rfl, hh, rfl⟩ := Q8
      refine Good.istore X8 hx (pc' := 287) (Ls' := #[.val (.int a), .val (.int b), .val (.int c'), .val (.int o), .val (.int e'), .val (.int (1 : Int32)), .val (.long s0), .second, .val (.long s1), .second, .val (.long s2), .second, .val (.long s3), .second, .val (.long s4), .second, .val (.long s5), .second, .val (.double (FP.i2d e')), .second, .val (.ref b1), .val (.double off), .second, .val (.int r), .val (.int (Int32.ofNat (first ltf (1 - 1) 0)))]) rfl (hb hby at_285) rfl ?_
      refine Good.iload X8 hx (pc' := 289) rfl (hb hby at_287) rfl ?_
      refine Good.iload X8 hx (pc' := 291) rfl (hb hby at_289) rfl ?_
      rw [hr]
      refine Good.icmpNo X8 hx (pc' := 294) rfl (hb hby at_291) (by simp [if_icmp.holds]) ?_
      refine Good.iconst X8 hx (pc' := 295) (w := (1 : Int32)) rfl (hb hby at_294) rfl ?_
      refine Good.goto X8 hx (pc' := 299) (by decide) (hb hby at_295) ?_
      exact Good.retZ X8 hx hlk hret (hb hby at_299) (Or.inr rfl) (hG _ _ _ _ _ (⟨rfl, Fr.app N_7 (Fr.nil n0)⟩) (by decide) (by decide))
    refine Good.icmpYes X7 hx (pc' := 214) (by decide) (hb hby at_198) rfl ?_
    refine Good.iload X7 hx (pc' := 216) rfl (hb hby at_214) rfl ?_
    refine Good.iconst X7 hx (pc' := 217) (w := (2 : Int32)) rfl (hb hby at_216) rfl ?_
    refine Good.isub X7 hx (pc' := 218) rfl (hb hby at_217) ?_
    refine Good.iconst X7 hx (pc' := 219) (w := (2 : Int32)) rfl (hb hby at_218) rfl ?_
    refine Good.icmpYes X7 hx (pc' := 235) (by decide) (hb hby at_219) rfl ?_
    refine Good.iload X7 hx (pc' := 237) rfl (hb hby at_235) rfl ?_
    refine Good.iconst X7 hx (pc' := 238) (w := (2 : Int32)) rfl (hb hby at_237) rfl ?_
    refine Good.isub X7 hx (pc' := 239) rfl (hb hby at_238) ?_
    refine Good.iconst X7 hx (pc' := 240) (w := (1 : Int32)) rfl (hb hby at_239) rfl ?_
    refine Good.icmpYes X7 hx (pc' := 256) (by decide) (hb hby at_240) rfl ?_
    refine Good.iload X7 hx (pc' := 258) rfl (hb hby at_256) rfl ?_
    refine Good.iconst X7 hx (pc' := 259) (w := (2 : Int32)) rfl (hb hby at_258) rfl ?_
    refine Good.isub X7 hx (pc' := 260) rfl (hb hby at_259) ?_
    refine Good.ifYes X7 hx (pc' := 276) (by decide) (hb hby at_260) rfl ?_
    exact hfin _ rfl
  · show Good p.tables e below s G (T3.setTop (mkF m 106 #[.val (.int a), .val (.int b), .val (.int c'), .val (.int o), .val (.int e'), .val (.int (2 : Int32)), .val (.long s0), .second, .val (.long s1), .second, .val (.long s2), .second, .val (.long s3), .second, .val (.long s4), .second, .val (.long s5), .second, .val (.double (FP.i2d e')), .second, .val (.ref b1), .unset, .unset, .unset, .unset] [(.int (2 : Int32)), (.int (2 : Int32)), (.int (2 : Int32)), (.ref b1)]))
    refine Good.icmpNo X3 hx (pc' := 109) rfl (hb hby at_106) rfl ?_
    refine Good.lload X3 hx (pc' := 111) rfl (hb hby at_109) rfl ?_
    refine Good.l2d X3 hx (pc' := 112) rfl (hb hby at_111) ?_
    refine Good.goto X3 hx (pc' := 117) (by decide) (hb hby at_112) ?_
    refine Good.dastoreF X3 hx hZ e3 V3 (2) rfl (by decide) (pc' := 118) rfl (hb hby at_117) fun T4 h4 X4 e4 W4 V4 => ?_
    have Z_4 : n0 ≤ h4.size := by rw [W4.size]; exact Z_3
    have N_4 := Fr.snoc X4 N_3 ge_b1
    refine Good.aload X4 hx (pc' := 120) rfl (hb hby at_118) rfl rfl ?_
    refine Good.iconst X4 hx (pc' := 121) (w := (3 : Int32)) rfl (hb hby at_120) rfl ?_
    refine Good.iload X4 hx (pc' := 123) rfl (hb hby at_121) rfl ?_
    refine Good.iconst X4 hx (pc' := 124) (w := (3 : Int32)) rfl (hb hby at_123) rfl ?_
    refine Good.icmpYes X4 hx (pc' := 133) (by decide) (hb hby at_124) rfl ?_
    refine Good.dload X4 hx (pc' := 135) rfl (hb hby at_133) rfl ?_
    refine Good.dastoreF X4 hx hZ e4 V4 (3) rfl (by decide) (pc' := 136) rfl (hb hby at_135) fun T5 h5 X5 e5 W5 V5 => ?_
    have Z_5 : n0 ≤ h5.size := by rw [W5.size]; exact Z_4
    have N_5 := Fr.snoc X5 N_4 ge_b1
    refine Good.aload X5 hx (pc' := 138) rfl (hb hby at_136) rfl rfl ?_
    refine Good.iconst X5 hx (pc' := 139) (w := (4 : Int32)) rfl (hb hby at_138) rfl ?_
    refine Good.iload X5 hx (pc' := 141) rfl (hb hby at_139) rfl ?_
    refine Good.iconst X5 hx (pc' := 142) (w := (4 : Int32)) rfl (hb hby at_141) rfl ?_
    refine Good.icmpYes X5 hx (pc' := 151) (by decide) (hb hby at_142) rfl ?_
    refine Good.dload X5 hx (pc' := 153) rfl (hb hby at_151) rfl ?_
    refine Good.dastoreF X5 hx hZ e5 V5 (4) rfl (by decide) (pc' := 154) rfl (hb hby at_153) fun T6 h6 X6 e6 W6 V6 => ?_
    have Z_6 : n0 ≤ h6.size := by rw [W6.size]; exact Z_5
    have N_6 := Fr.snoc X6 N_5 ge_b1
    refine Good.aload X6 hx (pc' := 156) rfl (hb hby at_154) rfl rfl ?_
    refine Good.iconst X6 hx (pc' := 157) (w := (5 : Int32)) rfl (hb hby at_156) rfl ?_
    refine Good.iload X6 hx (pc' := 159) rfl (hb hby at_157) rfl ?_
    refine Good.iconst X6 hx (pc' := 160) (w := (5 : Int32)) rfl (hb hby at_159) rfl ?_
    refine Good.icmpYes X6 hx (pc' := 169) (by decide) (hb hby at_160) rfl ?_
    refine Good.dload X6 hx (pc' := 171) rfl (hb hby at_169) rfl ?_
    refine Good.dastoreF X6 hx hZ e6 V6 (5) rfl (by decide) (pc' := 172) rfl (hb hby at_171) fun T7 h7 X7 e7 W7 V7 => ?_
    have Z_7 : n0 ≤ h7.size := by rw [W7.size]; exact Z_6
    have N_7 := Fr.snoc X7 N_6 ge_b1
    refine Good.iloadN X7 hx (pc' := 173) rfl (hb hby at_172) rfl ?_
    refine Good.i2d X7 hx (pc' := 174) rfl (hb hby at_173) ?_
    refine Good.iloadN X7 hx (pc' := 175) rfl (hb hby at_174) rfl ?_
    refine Good.sipush X7 hx (pc' := 178) (w := (160 : Int32)) rfl (hb hby at_175) rfl ?_
    refine Good.irem X7 hx (pc' := 179) rfl (hb hby at_178) (by decide) ?_
    refine Good.i2d X7 hx (pc' := 180) rfl (hb hby at_179) ?_
    refine Good.ldc2D X7 hx hZ hown (hw _ (List.mem_of_getElem? (i := 2) rfl)) (pc' := 183) rfl (hb hby at_180) ?_
    refine Good.dmul X7 hx (pc' := 184) rfl (hb hby at_183) (own_n1 _) ?_
    refine Good.dadd X7 hx (pc' := 185) rfl (hb hby at_184) (own_n2 a _) ?_
    rw [← eoff]
    refine Good.dstore X7 hx (pc' := 187) (Ls' := #[.val (.int a), .val (.int b), .val (.int c'), .val (.int o), .val (.int e'), .val (.int (2 : Int32)), .val (.long s0), .second, .val (.long s1), .second, .val (.long s2), .second, .val (.long s3), .second, .val (.long s4), .second, .val (.long s5), .second, .val (.double (FP.i2d e')), .second, .val (.ref b1), .val (.double off), .second, .unset, .unset]) rfl (hb hby at_185) rfl ?_
    refine Good.iload X7 hx (pc' := 189) rfl (hb hby at_187) rfl ?_
    refine Good.iconst X7 hx (pc' := 190) (w := (1 : Int32)) rfl (hb hby at_189) rfl ?_
    refine Good.isub X7 hx (pc' := 191) rfl (hb hby at_190) ?_
    show Good p.tables e below s G (T7.setTop (mkF m 191 #[.val (.int a), .val (.int b), .val (.int c'), .val (.int o), .val (.int e'), .val (.int (2 : Int32)), .val (.long s0), .second, .val (.long s1), .second, .val (.long s2), .second, .val (.long s3), .second, .val (.long s4), .second, .val (.long s5), .second, .val (.double (FP.i2d e')), .second, .val (.ref b1), .val (.double off), .second, .unset, .unset] [(.int (1 : Int32))]))
    refine Good.istore X7 hx (pc' := 193) (Ls' := #[.val (.int a), .val (.int b), .val (.int c'), .val (.int o), .val (.int e'), .val (.int (2 : Int32)), .val (.long s0), .second, .val (.long s1), .second, .val (.long s2), .second, .val (.long s3), .second, .val (.long s4), .second, .val (.long s5), .second, .val (.double (FP.i2d e')), .second, .val (.ref b1), .val (.double off), .second, .val (.int (1 : Int32)), .unset]) rfl (hb hby at_191) rfl ?_
    refine Good.iload X7 hx (pc' := 195) rfl (hb hby at_193) rfl ?_
    refine Good.iconst X7 hx (pc' := 196) (w := (2 : Int32)) rfl (hb hby at_195) rfl ?_
    refine Good.isub X7 hx (pc' := 197) rfl (hb hby at_196) ?_
    refine Good.iconst X7 hx (pc' := 198) (w := (3 : Int32)) rfl (hb hby at_197) rfl ?_
    obtain ⟨ltf, eltf⟩ : ∃ z : Nat → Bool, z = fun k => decide (FP.dcmp ((updD (updD (updD (updD (updD (updD (fun _ => 0) (0) (FP.l2d s0)) (1) (FP.l2d s1)) (2) (FP.l2d s2)) (3) (FP.i2d e')) (4) (FP.i2d e')) (5) (FP.i2d e')) k) off = some .lt) := ⟨_, rfl⟩
    have q1 : ifCond.holds .lt (cmpValue (FP.dcmp (FP.l2d s1) off) .l) = ltf 1 := by rw [own_cmpL (own_no d1) noff, eltf]; rfl
    have hlt : ∀ k, 1 ≤ k → k < 2 → ifCond.holds .ge (cmpValue (FP.dcmp ((updD (updD (updD (updD (updD (updD (fun _ => 0) (0) (FP.l2d s0)) (1) (FP.l2d s1)) (2) (FP.l2d s2)) (3) (FP.i2d e')) (4) (FP.i2d e')) (5) (FP.i2d e')) k) off) .g) = !ltf k := by
      intro k hk1 hk2
      rw [eltf]
      match k, hk1, hk2 with
      | 1, _, _ => exact own_cmpG (own_no d1) noff
    have hmo : ∀ i j, 1 ≤ i → i ≤ j → j < 2 → ltf j = true → ltf i = true := by
      intro i j h1 h2 h3 h4
      rw [eltf] at h4 ⊢
      have h4' := of_decide_eq_true h4
      obtain rfl : j = 1 := by omega
      · obtain rfl : i = 1 := by omega
        exact decide_eq_true (own_mono d1 d1 noff (by omega) h4')
    have hfin : ∀ r : Int32, r = Int32.ofNat (first ltf 1 0) → Good p.tables e below s G (T7.setTop (mkF m 276 #[.val (.int a), .val (.int b), .val (.int c'), .val (.int o), .val (.int e'), .val (.int (2 : Int32)), .val (.long s0), .second, .val (.long s1), .second, .val (.long s2), .second, .val (.long s3), .second, .val (.long s4), .second, .val (.long s5), .second, .val (.double (FP.i2d e')), .second, .val (.ref b1), .val (.double off), .second, .val (.int r), .unset] [])) := by
      intro r hr
      refine Good.aload X7 hx (pc' := 278) rfl (hb hby at_276) rfl rfl ?_
      refine Good.iload X7 hx (pc' := 280) rfl (hb hby at_278) rfl ?_
      refine Good.dload X7 hx (pc' := 282) rfl (hb hby at_280) rfl ?_
      refine Good.callS X7 hx hZ (y := ⟨"com/example/roadbound/roadbound/network/Pieces", "at", "([DID)I"⟩) hown (hw _ (List.mem_of_getElem? (i := 3) rfl)) (hw _ (List.mem_of_getElem? (i := 4) rfl)) (hw _ (List.mem_of_getElem? (i := 5) rfl)) (hw _ (List.mem_of_getElem? (i := 6) rfl)) (by decide) e7 (argsL := [(.ref b1), (.int (2 : Int32)), (.double off)]) (rest := []) (c_at l Z a0 hw b1 2 6 (updD (updD (updD (updD (updD (updD (fun _ => 0) (0) (FP.l2d s0)) (1) (FP.l2d s1)) (2) (FP.l2d s2)) (3) (FP.i2d e')) (4) (FP.i2d e')) (5) (FP.i2d e')) off ltf h7 V7 (by decide) (by decide) (by decide) hlt hmo) (hdesc := pd_0) rfl (pc' := 285) rfl (by rw [hml]; rfl) rfl (hb hby at_282) (W := 0) (Nat.le_of_eq rfl) (by decide) (by decide) (by decide) (by decide) fun v8 T8 L8 X8 Q8 => ?_
      obtain ⟨rfl, hh, rfl⟩ := Q8
      refine Good.istore X8 hx (pc' := 287) (Ls' := #[.val (.int a), .val (.int b), .val (.int c'), .val (.int o), .val (.int e'), .val (.int (2 : Int32)), .val (.long s0), .second, .val (.long s1), .second, .val (.long s2), .second, .val (.long s3), .second, .val (.long s4), .second, .val (.long s5), .second, .val (.double (FP.i2d e')), .second, .val (.ref b1), .val (.double off), .second, .val (.int r), .val (.int (Int32.ofNat (first ltf (2 - 1) 0)))]) rfl (hb hby at_285) rfl ?_
      refine Good.iload X8 hx (pc' := 289) rfl (hb hby at_287) rfl ?_
      refine Good.iload X8 hx (pc' := 291) rfl (hb hby at_289) rfl ?_
      rw [hr]
      refine Good.icmpNo X8 hx (pc' := 294) rfl (hb hby at_291) (by simp [if_icmp.holds]) ?_
      refine Good.iconst X8 hx (pc' := 295) (w := (1 : Int32)) rfl (hb hby at_294) rfl ?_
      refine Good.goto X8 hx (pc' := 299) (by decide) (hb hby at_295) ?_
      exact Good.retZ X8 hx hlk hret (hb hby at_299) (Or.inr rfl) (hG _ _ _ _ _ (⟨rfl, Fr.app N_7 (Fr.nil n0)⟩) (by decide) (by decide))
    refine Good.icmpYes X7 hx (pc' := 214) (by decide) (hb hby at_198) rfl ?_
    refine Good.iload X7 hx (pc' := 216) rfl (hb hby at_214) rfl ?_
    refine Good.iconst X7 hx (pc' := 217) (w := (2 : Int32)) rfl (hb hby at_216) rfl ?_
    refine Good.isub X7 hx (pc' := 218) rfl (hb hby at_217) ?_
    refine Good.iconst X7 hx (pc' := 219) (w := (2 : Int32)) rfl (hb hby at_218) rfl ?_
    refine Good.icmpYes X7 hx (pc' := 235) (by decide) (hb hby at_219) rfl ?_
    refine Good.iload X7 hx (pc' := 237) rfl (hb hby at_235) rfl ?_
    refine Good.iconst X7 hx (pc' := 238) (w := (2 : Int32)) rfl (hb hby at_237) rfl ?_
    refine Good.isub X7 hx (pc' := 239) rfl (hb hby at_238) ?_
    refine Good.iconst X7 hx (pc' := 240) (w := (1 : Int32)) rfl (hb hby at_239) rfl ?_
    refine Good.icmpYes X7 hx (pc' := 256) (by decide) (hb hby at_240) rfl ?_
    refine Good.iload X7 hx (pc' := 258) rfl (hb hby at_256) rfl ?_
    refine Good.iconst X7 hx (pc' := 259) (w := (2 : Int32)) rfl (hb hby at_258) rfl ?_
    refine Good.isub X7 hx (pc' := 260) rfl (hb hby at_259) ?_
    refine Good.ifNo X7 hx (pc' := 263) rfl (hb hby at_260) rfl ?_
    refine Good.aload X7 hx (pc' := 265) rfl (hb hby at_263) rfl rfl ?_
    refine Good.iconst X7 hx (pc' := 266) (w := (1 : Int32)) rfl (hb hby at_265) rfl ?_
    refine Good.daloadF X7 hx hZ e7 V7 (1) rfl (by decide) (w := (FP.l2d s1)) rfl (pc' := 267) rfl (hb hby at_266) ?_
    refine Good.dload X7 hx (pc' := 269) rfl (hb hby at_267) rfl ?_
    refine Good.dcmp X7 hx (pc' := 270) rfl (hb hby at_269) ?_
    have J0 : ∀ r0 : Int32, r0 = Int32.ofNat (first ltf 1 0) → Good p.tables e below s G (T7.setTop (mkF m 276 #[.val (.int a), .val (.int b), .val (.int c'), .val (.int o), .val (.int e'), .val (.int (2 : Int32)), .val (.long s0), .second, .val (.long s1), .second, .val (.long s2), .second, .val (.long s3), .second, .val (.long s4), .second, .val (.long s5), .second, .val (.double (FP.i2d e')), .second, .val (.ref b1), .val (.double off), .second, .val (.int r0), .unset] [])) := by
      intro r0 hr0
      exact hfin _ hr0
    refine Good.ifFork X7 hx (pc1 := 276) (pc2 := 273) (hb hby at_270) (by decide) rfl (fun hf0 => ?_) (fun hf0 => ?_)
    · rw [q1] at hf0
      exact J0 _ (by rw [first_t hf0]; exact rfl)
    · rw [q1] at hf0
      refine Good.iconst X7 hx (pc' := 274) (w := (0 : Int32)) rfl (hb hby at_273) rfl ?_
      refine Good.istore X7 hx (pc' := 276) (Ls' := #[.val (.int a), .val (.int b), .val (.int c'), .val (.int o), .val (.int e'), .val (.int (2 : Int32)), .val (.long s0), .second, .val (.long s1), .second, .val (.long s2), .second, .val (.long s3), .second, .val (.long s4), .second, .val (.long s5), .second, .val (.double (FP.i2d e')), .second, .val (.ref b1), .val (.double off), .second, .val (.int (0 : Int32)), .unset]) rfl (hb hby at_274) rfl ?_
      exact J0 _ (by rw [first_f hf0]; rfl)
  · show Good p.tables e below s G (T3.setTop (mkF m 106 #[.val (.int a), .val (.int b), .val (.int c'), .val (.int o), .val (.int e'), .val (.int (3 : Int32)), .val (.long s0), .second, .val (.long s1), .second, .val (.long s2), .second, .val (.long s3), .second, .val (.long s4), .second, .val (.long s5), .second, .val (.double (FP.i2d e')), .second, .val (.ref b1), .unset, .unset, .unset, .unset] [(.int (2 : Int32)), (.int (3 : Int32)), (.int (2 : Int32)), (.ref b1)]))
    refine Good.icmpNo X3 hx (pc' := 109) rfl (hb hby at_106) rfl ?_
    refine Good.lload X3 hx (pc' := 111) rfl (hb hby at_109) rfl ?_
    refine Good.l2d X3 hx (pc' := 112) rfl (hb hby at_111) ?_
    refine Good.goto X3 hx (pc' := 117) (by decide) (hb hby at_112) ?_
    refine Good.dastoreF X3 hx hZ e3 V3 (2) rfl (by decide) (pc' := 118) rfl (hb hby at_117) fun T4 h4 X4 e4 W4 V4 => ?_
    have Z_4 : n0 ≤ h4.size := by rw [W4.size]; exact Z_3
    have N_4 := Fr.snoc X4 N_3 ge_b1
    refine Good.aload X4 hx (pc' := 120) rfl (hb hby at_118) rfl rfl ?_
    refine Good.iconst X4 hx (pc' := 121) (w := (3 : Int32)) rfl (hb hby at_120) rfl ?_
    refine Good.iload X4 hx (pc' := 123) rfl (hb hby at_121) rfl ?_
    refine Good.iconst X4 hx (pc' := 124) (w := (3 : Int32)) rfl (hb hby at_123) rfl ?_
    refine Good.icmpNo X4 hx (pc' := 127) rfl (hb hby at_124) rfl ?_
    refine Good.lload X4 hx (pc' := 129) rfl (hb hby at_127) rfl ?_
    refine Good.l2d X4 hx (pc' := 130) rfl (hb hby at_129) ?_
    refine Good.goto X4 hx (pc' := 135) (by decide) (hb hby at_130) ?_
    refine Good.dastoreF X4 hx hZ e4 V4 (3) rfl (by decide) (pc' := 136) rfl (hb hby at_135) fun T5 h5 X5 e5 W5 V5 => ?_
    have Z_5 : n0 ≤ h5.size := by rw [W5.size]; exact Z_4
    have N_5 := Fr.snoc X5 N_4 ge_b1
    refine Good.aload X5 hx (pc' := 138) rfl (hb hby at_136) rfl rfl ?_
    refine Good.iconst X5 hx (pc' := 139) (w := (4 : Int32)) rfl (hb hby at_138) rfl ?_
    refine Good.iload X5 hx (pc' := 141) rfl (hb hby at_139) rfl ?_
    refine Good.iconst X5 hx (pc' := 142) (w := (4 : Int32)) rfl (hb hby at_141) rfl ?_
    refine Good.icmpYes X5 hx (pc' := 151) (by decide) (hb hby at_142) rfl ?_
    refine Good.dload X5 hx (pc' := 153) rfl (hb hby at_151) rfl ?_
    refine Good.dastoreF X5 hx hZ e5 V5 (4) rfl (by decide) (pc' := 154) rfl (hb hby at_153) fun T6 h6 X6 e6 W6 V6 => ?_
    have Z_6 : n0 ≤ h6.size := by rw [W6.size]; exact Z_5
    have N_6 := Fr.snoc X6 N_5 ge_b1
    refine Good.aload X6 hx (pc' := 156) rfl (hb hby at_154) rfl rfl ?_
    refine Good.iconst X6 hx (pc' := 157) (w := (5 : Int32)) rfl (hb hby at_156) rfl ?_
    refine Good.iload X6 hx (pc' := 159) rfl (hb hby at_157) rfl ?_
    refine Good.iconst X6 hx (pc' := 160) (w := (5 : Int32)) rfl (hb hby at_159) rfl ?_
    refine Good.icmpYes X6 hx (pc' := 169) (by decide) (hb hby at_160) rfl ?_
    refine Good.dload X6 hx (pc' := 171) rfl (hb hby at_169) rfl ?_
    refine Good.dastoreF X6 hx hZ e6 V6 (5) rfl (by decide) (pc' := 172) rfl (hb hby at_171) fun T7 h7 X7 e7 W7 V7 => ?_
    have Z_7 : n0 ≤ h7.size := by rw [W7.size]; exact Z_6
    have N_7 := Fr.snoc X7 N_6 ge_b1
    refine Good.iloadN X7 hx (pc' := 173) rfl (hb hby at_172) rfl ?_
    refine Good.i2d X7 hx (pc' := 174) rfl (hb hby at_173) ?_
    refine Good.iloadN X7 hx (pc' := 175) rfl (hb hby at_174) rfl ?_
    refine Good.sipush X7 hx (pc' := 178) (w := (160 : Int32)) rfl (hb hby at_175) rfl ?_
    refine Good.irem X7 hx (pc' := 179) rfl (hb hby at_178) (by decide) ?_
    refine Good.i2d X7 hx (pc' := 180) rfl (hb hby at_179) ?_
    refine Good.ldc2D X7 hx hZ hown (hw _ (List.mem_of_getElem? (i := 2) rfl)) (pc' := 183) rfl (hb hby at_180) ?_
    refine Good.dmul X7 hx (pc' := 184) rfl (hb hby at_183) (own_n1 _) ?_
    refine Good.dadd X7 hx (pc' := 185) rfl (hb hby at_184) (own_n2 a _) ?_
    rw [← eoff]
    refine Good.dstore X7 hx (pc' := 187) (Ls' := #[.val (.int a), .val (.int b), .val (.int c'), .val (.int o), .val (.int e'), .val (.int (3 : Int32)), .val (.long s0), .second, .val (.long s1), .second, .val (.long s2), .second, .val (.long s3), .second, .val (.long s4), .second, .val (.long s5), .second, .val (.double (FP.i2d e')), .second, .val (.ref b1), .val (.double off), .second, .unset, .unset]) rfl (hb hby at_185) rfl ?_
    refine Good.iload X7 hx (pc' := 189) rfl (hb hby at_187) rfl ?_
    refine Good.iconst X7 hx (pc' := 190) (w := (1 : Int32)) rfl (hb hby at_189) rfl ?_
    refine Good.isub X7 hx (pc' := 191) rfl (hb hby at_190) ?_
    show Good p.tables e below s G (T7.setTop (mkF m 191 #[.val (.int a), .val (.int b), .val (.int c'), .val (.int o), .val (.int e'), .val (.int (3 : Int32)), .val (.long s0), .second, .val (.long s1), .second, .val (.long s2), .second, .val (.long s3), .second, .val (.long s4), .second, .val (.long s5), .second, .val (.double (FP.i2d e')), .second, .val (.ref b1), .val (.double off), .second, .unset, .unset] [(.int (2 : Int32))]))
    refine Good.istore X7 hx (pc' := 193) (Ls' := #[.val (.int a), .val (.int b), .val (.int c'), .val (.int o), .val (.int e'), .val (.int (3 : Int32)), .val (.long s0), .second, .val (.long s1), .second, .val (.long s2), .second, .val (.long s3), .second, .val (.long s4), .second, .val (.long s5), .second, .val (.double (FP.i2d e')), .second, .val (.ref b1), .val (.double off), .second, .val (.int (2 : Int32)), .unset]) rfl (hb hby at_191) rfl ?_
    refine Good.iload X7 hx (pc' := 195) rfl (hb hby at_193) rfl ?_
    refine Good.iconst X7 hx (pc' := 196) (w := (2 : Int32)) rfl (hb hby at_195) rfl ?_
    refine Good.isub X7 hx (pc' := 197) rfl (hb hby at_196) ?_
    refine Good.iconst X7 hx (pc' := 198) (w := (3 : Int32)) rfl (hb hby at_197) rfl ?_
    obtain ⟨ltf, eltf⟩ : ∃ z : Nat → Bool, z = fun k => decide (FP.dcmp ((updD (updD (updD (updD (updD (updD (fun _ => 0) (0) (FP.l2d s0)) (1) (FP.l2d s1)) (2) (FP.l2d s2)) (3) (FP.l2d s3)) (4) (FP.i2d e')) (5) (FP.i2d e')) k) off = some .lt) := ⟨_, rfl⟩
    have q1 : ifCond.holds .lt (cmpValue (FP.dcmp (FP.l2d s1) off) .l) = ltf 1 := by rw [own_cmpL (own_no d1) noff, eltf]; rfl
    have q2 : ifCond.holds .lt (cmpValue (FP.dcmp (FP.l2d s2) off) .l) = ltf 2 := by rw [own_cmpL (own_no d2) noff, eltf]; rfl
    have hlt : ∀ k, 1 ≤ k → k < 3 → ifCond.holds .ge (cmpValue (FP.dcmp ((updD (updD (updD (updD (updD (updD (fun _ => 0) (0) (FP.l2d s0)) (1) (FP.l2d s1)) (2) (FP.l2d s2)) (3) (FP.l2d s3)) (4) (FP.i2d e')) (5) (FP.i2d e')) k) off) .g) = !ltf k := by
      intro k hk1 hk2
      rw [eltf]
      match k, hk1, hk2 with
      | 1, _, _ => exact own_cmpG (own_no d1) noff
      | 2, _, _ => exact own_cmpG (own_no d2) noff
    have hmo : ∀ i j, 1 ≤ i → i ≤ j → j < 3 → ltf j = true → ltf i = true := by
      intro i j h1 h2 h3 h4
      rw [eltf] at h4 ⊢
      have h4' := of_decide_eq_true h4
      obtain rfl | rfl : j = 1 ∨ j = 2 := by omega
      · obtain rfl : i = 1 := by omega
        exact decide_eq_true (own_mono d1 d1 noff (by omega) h4')
      · obtain rfl | rfl : i = 1 ∨ i = 2 := by omega
        · exact decide_eq_true (own_mono d1 d2 noff (by omega) h4')
        · exact decide_eq_true (own_mono d2 d2 noff (by omega) h4')
    have hfin : ∀ r : Int32, r = Int32.ofNat (first ltf 2 0) → Good p.tables e below s G (T7.setTop (mkF m 276 #[.val (.int a), .val (.int b), .val (.int c'), .val (.int o), .val (.int e'), .val (.int (3 : Int32)), .val (.long s0), .second, .val (.long s1), .second, .val (.long s2), .second, .val (.long s3), .second, .val (.long s4), .second, .val (.long s5), .second, .val (.double (FP.i2d e')), .second, .val (.ref b1), .val (.double off), .second, .val (.int r), .unset] [])) := by
      intro r hr
      refine Good.aload X7 hx (pc' := 278) rfl (hb hby at_276) rfl rfl ?_
      refine Good.iload X7 hx (pc' := 280) rfl (hb hby at_278) rfl ?_
      refine Good.dload X7 hx (pc' := 282) rfl (hb hby at_280) rfl ?_
      refine Good.callS X7 hx hZ (y := ⟨"com/example/roadbound/roadbound/network/Pieces", "at", "([DID)I"⟩) hown (hw _ (List.mem_of_getElem? (i := 3) rfl)) (hw _ (List.mem_of_getElem? (i := 4) rfl)) (hw _ (List.mem_of_getElem? (i := 5) rfl)) (hw _ (List.mem_of_getElem? (i := 6) rfl)) (by decide) e7 (argsL := [(.ref b1), (.int (3 : Int32)), (.double off)]) (rest := []) (c_at l Z a0 hw b1 3 6 (updD (updD (updD (updD (updD (updD (fun _ => 0) (0) (FP.l2d s0)) (1) (FP.l2d s1)) (2) (FP.l2d s2)) (3) (FP.l2d s3)) (4) (FP.i2d e')) (5) (FP.i2d e')) off ltf h7 V7 (by decide) (by decide) (by decide) hlt hmo) (hdesc := pd_0) rfl (pc' := 285) rfl (by rw [hml]; rfl) rfl (hb hby at_282) (W := 0) (Nat.le_of_eq rfl) (by decide) (by decide) (by decide) (by decide) fun v8 T8 L8 X8 Q8 => ?_
      obtain ⟨rfl, hh, rfl⟩ := Q8
      refine Good.istore X8 hx (pc' := 287) (Ls' := #[.val (.int a), .val (.int b), .val (.int c'), .val (.int o), .val (.int e'), .val (.int (3 : Int32)), .val (.long s0), .second, .val (.long s1), .second, .val (.long s2), .second, .val (.long s3), .second, .val (.long s4), .second, .val (.long s5), .second, .val (.double (FP.i2d e')), .second, .val (.ref b1), .val (.double off), .second, .val (.int r), .val (.int (Int32.ofNat (first ltf (3 - 1) 0)))]) rfl (hb hby at_285) rfl ?_
      refine Good.iload X8 hx (pc' := 289) rfl (hb hby at_287) rfl ?_
      refine Good.iload X8 hx (pc' := 291) rfl (hb hby at_289) rfl ?_
      rw [hr]
      refine Good.icmpNo X8 hx (pc' := 294) rfl (hb hby at_291) (by simp [if_icmp.holds]) ?_
      refine Good.iconst X8 hx (pc' := 295) (w := (1 : Int32)) rfl (hb hby at_294) rfl ?_
      refine Good.goto X8 hx (pc' := 299) (by decide) (hb hby at_295) ?_
      exact Good.retZ X8 hx hlk hret (hb hby at_299) (Or.inr rfl) (hG _ _ _ _ _ (⟨rfl, Fr.app N_7 (Fr.nil n0)⟩) (by decide) (by decide))
    refine Good.icmpYes X7 hx (pc' := 214) (by decide) (hb hby at_198) rfl ?_
    refine Good.iload X7 hx (pc' := 216) rfl (hb hby at_214) rfl ?_
    refine Good.iconst X7 hx (pc' := 217) (w := (2 : Int32)) rfl (hb hby at_216) rfl ?_
    refine Good.isub X7 hx (pc' := 218) rfl (hb hby at_217) ?_
    refine Good.iconst X7 hx (pc' := 219) (w := (2 : Int32)) rfl (hb hby at_218) rfl ?_
    refine Good.icmpYes X7 hx (pc' := 235) (by decide) (hb hby at_219) rfl ?_
    refine Good.iload X7 hx (pc' := 237) rfl (hb hby at_235) rfl ?_
    refine Good.iconst X7 hx (pc' := 238) (w := (2 : Int32)) rfl (hb hby at_237) rfl ?_
    refine Good.isub X7 hx (pc' := 239) rfl (hb hby at_238) ?_
    refine Good.iconst X7 hx (pc' := 240) (w := (1 : Int32)) rfl (hb hby at_239) rfl ?_
    refine Good.icmpNo X7 hx (pc' := 243) rfl (hb hby at_240) rfl ?_
    refine Good.aload X7 hx (pc' := 245) rfl (hb hby at_243) rfl rfl ?_
    refine Good.iconst X7 hx (pc' := 246) (w := (2 : Int32)) rfl (hb hby at_245) rfl ?_
    refine Good.daloadF X7 hx hZ e7 V7 (2) rfl (by decide) (w := (FP.l2d s2)) rfl (pc' := 247) rfl (hb hby at_246) ?_
    refine Good.dload X7 hx (pc' := 249) rfl (hb hby at_247) rfl ?_
    refine Good.dcmp X7 hx (pc' := 250) rfl (hb hby at_249) ?_
    have J1 : ∀ r1 : Int32, r1 = Int32.ofNat (first ltf 1 1) → Good p.tables e below s G (T7.setTop (mkF m 256 #[.val (.int a), .val (.int b), .val (.int c'), .val (.int o), .val (.int e'), .val (.int (3 : Int32)), .val (.long s0), .second, .val (.long s1), .second, .val (.long s2), .second, .val (.long s3), .second, .val (.long s4), .second, .val (.long s5), .second, .val (.double (FP.i2d e')), .second, .val (.ref b1), .val (.double off), .second, .val (.int r1), .unset] [])) := by
      intro r1 hr1
      refine Good.iload X7 hx (pc' := 258) rfl (hb hby at_256) rfl ?_
      refine Good.iconst X7 hx (pc' := 259) (w := (2 : Int32)) rfl (hb hby at_258) rfl ?_
      refine Good.isub X7 hx (pc' := 260) rfl (hb hby at_259) ?_
      refine Good.ifNo X7 hx (pc' := 263) rfl (hb hby at_260) rfl ?_
      refine Good.aload X7 hx (pc' := 265) rfl (hb hby at_263) rfl rfl ?_
      refine Good.iconst X7 hx (pc' := 266) (w := (1 : Int32)) rfl (hb hby at_265) rfl ?_
      refine Good.daloadF X7 hx hZ e7 V7 (1) rfl (by decide) (w := (FP.l2d s1)) rfl (pc' := 267) rfl (hb hby at_266) ?_
      refine Good.dload X7 hx (pc' := 269) rfl (hb hby at_267) rfl ?_
      refine Good.dcmp X7 hx (pc' := 270) rfl (hb hby at_269) ?_
      have J0 : ∀ r0 : Int32, r0 = Int32.ofNat (first ltf 2 0) → Good p.tables e below s G (T7.setTop (mkF m 276 #[.val (.int a), .val (.int b), .val (.int c'), .val (.int o), .val (.int e'), .val (.int (3 : Int32)), .val (.long s0), .second, .val (.long s1), .second, .val (.long s2), .second, .val (.long s3), .second, .val (.long s4), .second, .val (.long s5), .second, .val (.double (FP.i2d e')), .second, .val (.ref b1), .val (.double off), .second, .val (.int r0), .unset] [])) := by
        intro r0 hr0
        exact hfin _ hr0
      refine Good.ifFork X7 hx (pc1 := 276) (pc2 := 273) (hb hby at_270) (by decide) rfl (fun hf0 => ?_) (fun hf0 => ?_)
      · rw [q1] at hf0
        exact J0 _ (by rw [first_t hf0]; exact hr1)
      · rw [q1] at hf0
        refine Good.iconst X7 hx (pc' := 274) (w := (0 : Int32)) rfl (hb hby at_273) rfl ?_
        refine Good.istore X7 hx (pc' := 276) (Ls' := #[.val (.int a), .val (.int b), .val (.int c'), .val (.int o), .val (.int e'), .val (.int (3 : Int32)), .val (.long s0), .second, .val (.long s1), .second, .val (.long s2), .second, .val (.long s3), .second, .val (.long s4), .second, .val (.long s5), .second, .val (.double (FP.i2d e')), .second, .val (.ref b1), .val (.double off), .second, .val (.int (0 : Int32)), .unset]) rfl (hb hby at_274) rfl ?_
        exact J0 _ (by rw [first_f hf0]; rfl)
    refine Good.ifFork X7 hx (pc1 := 256) (pc2 := 253) (hb hby at_250) (by decide) rfl (fun hf1 => ?_) (fun hf1 => ?_)
    · rw [q2] at hf1
      exact J1 _ (by rw [first_t hf1]; exact rfl)
    · rw [q2] at hf1
      refine Good.iconst X7 hx (pc' := 254) (w := (1 : Int32)) rfl (hb hby at_253) rfl ?_
      refine Good.istore X7 hx (pc' := 256) (Ls' := #[.val (.int a), .val (.int b), .val (.int c'), .val (.int o), .val (.int e'), .val (.int (3 : Int32)), .val (.long s0), .second, .val (.long s1), .second, .val (.long s2), .second, .val (.long s3), .second, .val (.long s4), .second, .val (.long s5), .second, .val (.double (FP.i2d e')), .second, .val (.ref b1), .val (.double off), .second, .val (.int (1 : Int32)), .unset]) rfl (hb hby at_254) rfl ?_
      exact J1 _ (by rw [first_f hf1]; rfl)
  · show Good p.tables e below s G (T3.setTop (mkF m 106 #[.val (.int a), .val (.int b), .val (.int c'), .val (.int o), .val (.int e'), .val (.int (4 : Int32)), .val (.long s0), .second, .val (.long s1), .second, .val (.long s2), .second, .val (.long s3), .second, .val (.long s4), .second, .val (.long s5), .second, .val (.double (FP.i2d e')), .second, .val (.ref b1), .unset, .unset, .unset, .unset] [(.int (2 : Int32)), (.int (4 : Int32)), (.int (2 : Int32)), (.ref b1)]))
    refine Good.icmpNo X3 hx (pc' := 109) rfl (hb hby at_106) rfl ?_
    refine Good.lload X3 hx (pc' := 111) rfl (hb hby at_109) rfl ?_
    refine Good.l2d X3 hx (pc' := 112) rfl (hb hby at_111) ?_
    refine Good.goto X3 hx (pc' := 117) (by decide) (hb hby at_112) ?_
    refine Good.dastoreF X3 hx hZ e3 V3 (2) rfl (by decide) (pc' := 118) rfl (hb hby at_117) fun T4 h4 X4 e4 W4 V4 => ?_
    have Z_4 : n0 ≤ h4.size := by rw [W4.size]; exact Z_3
    have N_4 := Fr.snoc X4 N_3 ge_b1
    refine Good.aload X4 hx (pc' := 120) rfl (hb hby at_118) rfl rfl ?_
    refine Good.iconst X4 hx (pc' := 121) (w := (3 : Int32)) rfl (hb hby at_120) rfl ?_
    refine Good.iload X4 hx (pc' := 123) rfl (hb hby at_121) rfl ?_
    refine Good.iconst X4 hx (pc' := 124) (w := (3 : Int32)) rfl (hb hby at_123) rfl ?_
    refine Good.icmpNo X4 hx (pc' := 127) rfl (hb hby at_124) rfl ?_
    refine Good.lload X4 hx (pc' := 129) rfl (hb hby at_127) rfl ?_
    refine Good.l2d X4 hx (pc' := 130) rfl (hb hby at_129) ?_
    refine Good.goto X4 hx (pc' := 135) (by decide) (hb hby at_130) ?_
    refine Good.dastoreF X4 hx hZ e4 V4 (3) rfl (by decide) (pc' := 136) rfl (hb hby at_135) fun T5 h5 X5 e5 W5 V5 => ?_
    have Z_5 : n0 ≤ h5.size := by rw [W5.size]; exact Z_4
    have N_5 := Fr.snoc X5 N_4 ge_b1
    refine Good.aload X5 hx (pc' := 138) rfl (hb hby at_136) rfl rfl ?_
    refine Good.iconst X5 hx (pc' := 139) (w := (4 : Int32)) rfl (hb hby at_138) rfl ?_
    refine Good.iload X5 hx (pc' := 141) rfl (hb hby at_139) rfl ?_
    refine Good.iconst X5 hx (pc' := 142) (w := (4 : Int32)) rfl (hb hby at_141) rfl ?_
    refine Good.icmpNo X5 hx (pc' := 145) rfl (hb hby at_142) rfl ?_
    refine Good.lload X5 hx (pc' := 147) rfl (hb hby at_145) rfl ?_
    refine Good.l2d X5 hx (pc' := 148) rfl (hb hby at_147) ?_
    refine Good.goto X5 hx (pc' := 153) (by decide) (hb hby at_148) ?_
    refine Good.dastoreF X5 hx hZ e5 V5 (4) rfl (by decide) (pc' := 154) rfl (hb hby at_153) fun T6 h6 X6 e6 W6 V6 => ?_
    have Z_6 : n0 ≤ h6.size := by rw [W6.size]; exact Z_5
    have N_6 := Fr.snoc X6 N_5 ge_b1
    refine Good.aload X6 hx (pc' := 156) rfl (hb hby at_154) rfl rfl ?_
    refine Good.iconst X6 hx (pc' := 157) (w := (5 : Int32)) rfl (hb hby at_156) rfl ?_
    refine Good.iload X6 hx (pc' := 159) rfl (hb hby at_157) rfl ?_
    refine Good.iconst X6 hx (pc' := 160) (w := (5 : Int32)) rfl (hb hby at_159) rfl ?_
    refine Good.icmpYes X6 hx (pc' := 169) (by decide) (hb hby at_160) rfl ?_
    refine Good.dload X6 hx (pc' := 171) rfl (hb hby at_169) rfl ?_
    refine Good.dastoreF X6 hx hZ e6 V6 (5) rfl (by decide) (pc' := 172) rfl (hb hby at_171) fun T7 h7 X7 e7 W7 V7 => ?_
    have Z_7 : n0 ≤ h7.size := by rw [W7.size]; exact Z_6
    have N_7 := Fr.snoc X7 N_6 ge_b1
    refine Good.iloadN X7 hx (pc' := 173) rfl (hb hby at_172) rfl ?_
    refine Good.i2d X7 hx (pc' := 174) rfl (hb hby at_173) ?_
    refine Good.iloadN X7 hx (pc' := 175) rfl (hb hby at_174) rfl ?_
    refine Good.sipush X7 hx (pc' := 178) (w := (160 : Int32)) rfl (hb hby at_175) rfl ?_
    refine Good.irem X7 hx (pc' := 179) rfl (hb hby at_178) (by decide) ?_
    refine Good.i2d X7 hx (pc' := 180) rfl (hb hby at_179) ?_
    refine Good.ldc2D X7 hx hZ hown (hw _ (List.mem_of_getElem? (i := 2) rfl)) (pc' := 183) rfl (hb hby at_180) ?_
    refine Good.dmul X7 hx (pc' := 184) rfl (hb hby at_183) (own_n1 _) ?_
    refine Good.dadd X7 hx (pc' := 185) rfl (hb hby at_184) (own_n2 a _) ?_
    rw [← eoff]
    refine Good.dstore X7 hx (pc' := 187) (Ls' := #[.val (.int a), .val (.int b), .val (.int c'), .val (.int o), .val (.int e'), .val (.int (4 : Int32)), .val (.long s0), .second, .val (.long s1), .second, .val (.long s2), .second, .val (.long s3), .second, .val (.long s4), .second, .val (.long s5), .second, .val (.double (FP.i2d e')), .second, .val (.ref b1), .val (.double off), .second, .unset, .unset]) rfl (hb hby at_185) rfl ?_
    refine Good.iload X7 hx (pc' := 189) rfl (hb hby at_187) rfl ?_
    refine Good.iconst X7 hx (pc' := 190) (w := (1 : Int32)) rfl (hb hby at_189) rfl ?_
    refine Good.isub X7 hx (pc' := 191) rfl (hb hby at_190) ?_
    show Good p.tables e below s G (T7.setTop (mkF m 191 #[.val (.int a), .val (.int b), .val (.int c'), .val (.int o), .val (.int e'), .val (.int (4 : Int32)), .val (.long s0), .second, .val (.long s1), .second, .val (.long s2), .second, .val (.long s3), .second, .val (.long s4), .second, .val (.long s5), .second, .val (.double (FP.i2d e')), .second, .val (.ref b1), .val (.double off), .second, .unset, .unset] [(.int (3 : Int32))]))
    refine Good.istore X7 hx (pc' := 193) (Ls' := #[.val (.int a), .val (.int b), .val (.int c'), .val (.int o), .val (.int e'), .val (.int (4 : Int32)), .val (.long s0), .second, .val (.long s1), .second, .val (.long s2), .second, .val (.long s3), .second, .val (.long s4), .second, .val (.long s5), .second, .val (.double (FP.i2d e')), .second, .val (.ref b1), .val (.double off), .second, .val (.int (3 : Int32)), .unset]) rfl (hb hby at_191) rfl ?_
    refine Good.iload X7 hx (pc' := 195) rfl (hb hby at_193) rfl ?_
    refine Good.iconst X7 hx (pc' := 196) (w := (2 : Int32)) rfl (hb hby at_195) rfl ?_
    refine Good.isub X7 hx (pc' := 197) rfl (hb hby at_196) ?_
    refine Good.iconst X7 hx (pc' := 198) (w := (3 : Int32)) rfl (hb hby at_197) rfl ?_
    obtain ⟨ltf, eltf⟩ : ∃ z : Nat → Bool, z = fun k => decide (FP.dcmp ((updD (updD (updD (updD (updD (updD (fun _ => 0) (0) (FP.l2d s0)) (1) (FP.l2d s1)) (2) (FP.l2d s2)) (3) (FP.l2d s3)) (4) (FP.l2d s4)) (5) (FP.i2d e')) k) off = some .lt) := ⟨_, rfl⟩
    have q1 : ifCond.holds .lt (cmpValue (FP.dcmp (FP.l2d s1) off) .l) = ltf 1 := by rw [own_cmpL (own_no d1) noff, eltf]; rfl
    have q2 : ifCond.holds .lt (cmpValue (FP.dcmp (FP.l2d s2) off) .l) = ltf 2 := by rw [own_cmpL (own_no d2) noff, eltf]; rfl
    have q3 : ifCond.holds .lt (cmpValue (FP.dcmp (FP.l2d s3) off) .l) = ltf 3 := by rw [own_cmpL (own_no d3) noff, eltf]; rfl
    have hlt : ∀ k, 1 ≤ k → k < 4 → ifCond.holds .ge (cmpValue (FP.dcmp ((updD (updD (updD (updD (updD (updD (fun _ => 0) (0) (FP.l2d s0)) (1) (FP.l2d s1)) (2) (FP.l2d s2)) (3) (FP.l2d s3)) (4) (FP.l2d s4)) (5) (FP.i2d e')) k) off) .g) = !ltf k := by
      intro k hk1 hk2
      rw [eltf]
      match k, hk1, hk2 with
      | 1, _, _ => exact own_cmpG (own_no d1) noff
      | 2, _, _ => exact own_cmpG (own_no d2) noff
      | 3, _, _ => exact own_cmpG (own_no d3) noff
    have hmo : ∀ i j, 1 ≤ i → i ≤ j → j < 4 → ltf j = true → ltf i = true := by
      intro i j h1 h2 h3 h4
      rw [eltf] at h4 ⊢
      have h4' := of_decide_eq_true h4
      obtain rfl | rfl | rfl : j = 1 ∨ j = 2 ∨ j = 3 := by omega
      · obtain rfl : i = 1 := by omega
        exact decide_eq_true (own_mono d1 d1 noff (by omega) h4')
      · obtain rfl | rfl : i = 1 ∨ i = 2 := by omega
        · exact decide_eq_true (own_mono d1 d2 noff (by omega) h4')
        · exact decide_eq_true (own_mono d2 d2 noff (by omega) h4')
      · obtain rfl | rfl | rfl : i = 1 ∨ i = 2 ∨ i = 3 := by omega
        · exact decide_eq_true (own_mono d1 d3 noff (by omega) h4')
        · exact decide_eq_true (own_mono d2 d3 noff (by omega) h4')
        · exact decide_eq_true (own_mono d3 d3 noff (by omega) h4')
    have hfin : ∀ r : Int32, r = Int32.ofNat (first ltf 3 0) → Good p.tables e below s G (T7.setTop (mkF m 276 #[.val (.int a), .val (.int b), .val (.int c'), .val (.int o), .val (.int e'), .val (.int (4 : Int32)), .val (.long s0), .second, .val (.long s1), .second, .val (.long s2), .second, .val (.long s3), .second, .val (.long s4), .second, .val (.long s5), .second, .val (.double (FP.i2d e')), .second, .val (.ref b1), .val (.double off), .second, .val (.int r), .unset] [])) := by
      intro r hr
      refine Good.aload X7 hx (pc' := 278) rfl (hb hby at_276) rfl rfl ?_
      refine Good.iload X7 hx (pc' := 280) rfl (hb hby at_278) rfl ?_
      refine Good.dload X7 hx (pc' := 282) rfl (hb hby at_280) rfl ?_
      refine Good.callS X7 hx hZ (y := ⟨"com/example/roadbound/roadbound/network/Pieces", "at", "([DID)I"⟩) hown (hw _ (List.mem_of_getElem? (i := 3) rfl)) (hw _ (List.mem_of_getElem? (i := 4) rfl)) (hw _ (List.mem_of_getElem? (i := 5) rfl)) (hw _ (List.mem_of_getElem? (i := 6) rfl)) (by decide) e7 (argsL := [(.ref b1), (.int (4 : Int32)), (.double off)]) (rest := []) (c_at l Z a0 hw b1 4 6 (updD (updD (updD (updD (updD (updD (fun _ => 0) (0) (FP.l2d s0)) (1) (FP.l2d s1)) (2) (FP.l2d s2)) (3) (FP.l2d s3)) (4) (FP.l2d s4)) (5) (FP.i2d e')) off ltf h7 V7 (by decide) (by decide) (by decide) hlt hmo) (hdesc := pd_0) rfl (pc' := 285) rfl (by rw [hml]; rfl) rfl (hb hby at_282) (W := 0) (Nat.le_of_eq rfl) (by decide) (by decide) (by decide) (by decide) fun v8 T8 L8 X8 Q8 => ?_
      obtain ⟨rfl, hh, rfl⟩ := Q8
      refine Good.istore X8 hx (pc' := 287) (Ls' := #[.val (.int a), .val (.int b), .val (.int c'), .val (.int o), .val (.int e'), .val (.int (4 : Int32)), .val (.long s0), .second, .val (.long s1), .second, .val (.long s2), .second, .val (.long s3), .second, .val (.long s4), .second, .val (.long s5), .second, .val (.double (FP.i2d e')), .second, .val (.ref b1), .val (.double off), .second, .val (.int r), .val (.int (Int32.ofNat (first ltf (4 - 1) 0)))]) rfl (hb hby at_285) rfl ?_
      refine Good.iload X8 hx (pc' := 289) rfl (hb hby at_287) rfl ?_
      refine Good.iload X8 hx (pc' := 291) rfl (hb hby at_289) rfl ?_
      rw [hr]
      refine Good.icmpNo X8 hx (pc' := 294) rfl (hb hby at_291) (by simp [if_icmp.holds]) ?_
      refine Good.iconst X8 hx (pc' := 295) (w := (1 : Int32)) rfl (hb hby at_294) rfl ?_
      refine Good.goto X8 hx (pc' := 299) (by decide) (hb hby at_295) ?_
      exact Good.retZ X8 hx hlk hret (hb hby at_299) (Or.inr rfl) (hG _ _ _ _ _ (⟨rfl, Fr.app N_7 (Fr.nil n0)⟩) (by decide) (by decide))
    refine Good.icmpYes X7 hx (pc' := 214) (by decide) (hb hby at_198) rfl ?_
    refine Good.iload X7 hx (pc' := 216) rfl (hb hby at_214) rfl ?_
    refine Good.iconst X7 hx (pc' := 217) (w := (2 : Int32)) rfl (hb hby at_216) rfl ?_
    refine Good.isub X7 hx (pc' := 218) rfl (hb hby at_217) ?_
    refine Good.iconst X7 hx (pc' := 219) (w := (2 : Int32)) rfl (hb hby at_218) rfl ?_
    refine Good.icmpNo X7 hx (pc' := 222) rfl (hb hby at_219) rfl ?_
    refine Good.aload X7 hx (pc' := 224) rfl (hb hby at_222) rfl rfl ?_
    refine Good.iconst X7 hx (pc' := 225) (w := (3 : Int32)) rfl (hb hby at_224) rfl ?_
    refine Good.daloadF X7 hx hZ e7 V7 (3) rfl (by decide) (w := (FP.l2d s3)) rfl (pc' := 226) rfl (hb hby at_225) ?_
    refine Good.dload X7 hx (pc' := 228) rfl (hb hby at_226) rfl ?_
    refine Good.dcmp X7 hx (pc' := 229) rfl (hb hby at_228) ?_
    have J2 : ∀ r2 : Int32, r2 = Int32.ofNat (first ltf 1 2) → Good p.tables e below s G (T7.setTop (mkF m 235 #[.val (.int a), .val (.int b), .val (.int c'), .val (.int o), .val (.int e'), .val (.int (4 : Int32)), .val (.long s0), .second, .val (.long s1), .second, .val (.long s2), .second, .val (.long s3), .second, .val (.long s4), .second, .val (.long s5), .second, .val (.double (FP.i2d e')), .second, .val (.ref b1), .val (.double off), .second, .val (.int r2), .unset] [])) := by
      intro r2 hr2
      refine Good.iload X7 hx (pc' := 237) rfl (hb hby at_235) rfl ?_
      refine Good.iconst X7 hx (pc' := 238) (w := (2 : Int32)) rfl (hb hby at_237) rfl ?_
      refine Good.isub X7 hx (pc' := 239) rfl (hb hby at_238) ?_
      refine Good.iconst X7 hx (pc' := 240) (w := (1 : Int32)) rfl (hb hby at_239) rfl ?_
      refine Good.icmpNo X7 hx (pc' := 243) rfl (hb hby at_240) rfl ?_
      refine Good.aload X7 hx (pc' := 245) rfl (hb hby at_243) rfl rfl ?_
      refine Good.iconst X7 hx (pc' := 246) (w := (2 : Int32)) rfl (hb hby at_245) rfl ?_
      refine Good.daloadF X7 hx hZ e7 V7 (2) rfl (by decide) (w := (FP.l2d s2)) rfl (pc' := 247) rfl (hb hby at_246) ?_
      refine Good.dload X7 hx (pc' := 249) rfl (hb hby at_247) rfl ?_
      refine Good.dcmp X7 hx (pc' := 250) rfl (hb hby at_249) ?_
      have J1 : ∀ r1 : Int32, r1 = Int32.ofNat (first ltf 2 1) → Good p.tables e below s G (T7.setTop (mkF m 256 #[.val (.int a), .val (.int b), .val (.int c'), .val (.int o), .val (.int e'), .val (.int (4 : Int32)), .val (.long s0), .second, .val (.long s1), .second, .val (.long s2), .second, .val (.long s3), .second, .val (.long s4), .second, .val (.long s5), .second, .val (.double (FP.i2d e')), .second, .val (.ref b1), .val (.double off), .second, .val (.int r1), .unset] [])) := by
        intro r1 hr1
        refine Good.iload X7 hx (pc' := 258) rfl (hb hby at_256) rfl ?_
        refine Good.iconst X7 hx (pc' := 259) (w := (2 : Int32)) rfl (hb hby at_258) rfl ?_
        refine Good.isub X7 hx (pc' := 260) rfl (hb hby at_259) ?_
        refine Good.ifNo X7 hx (pc' := 263) rfl (hb hby at_260) rfl ?_
        refine Good.aload X7 hx (pc' := 265) rfl (hb hby at_263) rfl rfl ?_
        refine Good.iconst X7 hx (pc' := 266) (w := (1 : Int32)) rfl (hb hby at_265) rfl ?_
        refine Good.daloadF X7 hx hZ e7 V7 (1) rfl (by decide) (w := (FP.l2d s1)) rfl (pc' := 267) rfl (hb hby at_266) ?_
        refine Good.dload X7 hx (pc' := 269) rfl (hb hby at_267) rfl ?_
        refine Good.dcmp X7 hx (pc' := 270) rfl (hb hby at_269) ?_
        have J0 : ∀ r0 : Int32, r0 = Int32.ofNat (first ltf 3 0) → Good p.tables e below s G (T7.setTop (mkF m 276 #[.val (.int a), .val (.int b), .val (.int c'), .val (.int o), .val (.int e'), .val (.int (4 : Int32)), .val (.long s0), .second, .val (.long s1), .second, .val (.long s2), .second, .val (.long s3), .second, .val (.long s4), .second, .val (.long s5), .second, .val (.double (FP.i2d e')), .second, .val (.ref b1), .val (.double off), .second, .val (.int r0), .unset] [])) := by
          intro r0 hr0
          exact hfin _ hr0
        refine Good.ifFork X7 hx (pc1 := 276) (pc2 := 273) (hb hby at_270) (by decide) rfl (fun hf0 => ?_) (fun hf0 => ?_)
        · rw [q1] at hf0
          exact J0 _ (by rw [first_t hf0]; exact hr1)
        · rw [q1] at hf0
          refine Good.iconst X7 hx (pc' := 274) (w := (0 : Int32)) rfl (hb hby at_273) rfl ?_
          refine Good.istore X7 hx (pc' := 276) (Ls' := #[.val (.int a), .val (.int b), .val (.int c'), .val (.int o), .val (.int e'), .val (.int (4 : Int32)), .val (.long s0), .second, .val (.long s1), .second, .val (.long s2), .second, .val (.long s3), .second, .val (.long s4), .second, .val (.long s5), .second, .val (.double (FP.i2d e')), .second, .val (.ref b1), .val (.double off), .second, .val (.int (0 : Int32)), .unset]) rfl (hb hby at_274) rfl ?_
          exact J0 _ (by rw [first_f hf0]; rfl)
      refine Good.ifFork X7 hx (pc1 := 256) (pc2 := 253) (hb hby at_250) (by decide) rfl (fun hf1 => ?_) (fun hf1 => ?_)
      · rw [q2] at hf1
        exact J1 _ (by rw [first_t hf1]; exact hr2)
      · rw [q2] at hf1
        refine Good.iconst X7 hx (pc' := 254) (w := (1 : Int32)) rfl (hb hby at_253) rfl ?_
        refine Good.istore X7 hx (pc' := 256) (Ls' := #[.val (.int a), .val (.int b), .val (.int c'), .val (.int o), .val (.int e'), .val (.int (4 : Int32)), .val (.long s0), .second, .val (.long s1), .second, .val (.long s2), .second, .val (.long s3), .second, .val (.long s4), .second, .val (.long s5), .second, .val (.double (FP.i2d e')), .second, .val (.ref b1), .val (.double off), .second, .val (.int (1 : Int32)), .unset]) rfl (hb hby at_254) rfl ?_
        exact J1 _ (by rw [first_f hf1]; rfl)
    refine Good.ifFork X7 hx (pc1 := 235) (pc2 := 232) (hb hby at_229) (by decide) rfl (fun hf2 => ?_) (fun hf2 => ?_)
    · rw [q3] at hf2
      exact J2 _ (by rw [first_t hf2]; exact rfl)
    · rw [q3] at hf2
      refine Good.iconst X7 hx (pc' := 233) (w := (2 : Int32)) rfl (hb hby at_232) rfl ?_
      refine Good.istore X7 hx (pc' := 235) (Ls' := #[.val (.int a), .val (.int b), .val (.int c'), .val (.int o), .val (.int e'), .val (.int (4 : Int32)), .val (.long s0), .second, .val (.long s1), .second, .val (.long s2), .second, .val (.long s3), .second, .val (.long s4), .second, .val (.long s5), .second, .val (.double (FP.i2d e')), .second, .val (.ref b1), .val (.double off), .second, .val (.int (2 : Int32)), .unset]) rfl (hb hby at_233) rfl ?_
      exact J2 _ (by rw [first_f hf2]; rfl)
  · show Good p.tables e below s G (T3.setTop (mkF m 106 #[.val (.int a), .val (.int b), .val (.int c'), .val (.int o), .val (.int e'), .val (.int (5 : Int32)), .val (.long s0), .second, .val (.long s1), .second, .val (.long s2), .second, .val (.long s3), .second, .val (.long s4), .second, .val (.long s5), .second, .val (.double (FP.i2d e')), .second, .val (.ref b1), .unset, .unset, .unset, .unset] [(.int (2 : Int32)), (.int (5 : Int32)), (.int (2 : Int32)), (.ref b1)]))
    refine Good.icmpNo X3 hx (pc' := 109) rfl (hb hby at_106) rfl ?_
    refine Good.lload X3 hx (pc' := 111) rfl (hb hby at_109) rfl ?_
    refine Good.l2d X3 hx (pc' := 112) rfl (hb hby at_111) ?_
    refine Good.goto X3 hx (pc' := 117) (by decide) (hb hby at_112) ?_
    refine Good.dastoreF X3 hx hZ e3 V3 (2) rfl (by decide) (pc' := 118) rfl (hb hby at_117) fun T4 h4 X4 e4 W4 V4 => ?_
    have Z_4 : n0 ≤ h4.size := by rw [W4.size]; exact Z_3
    have N_4 := Fr.snoc X4 N_3 ge_b1
    refine Good.aload X4 hx (pc' := 120) rfl (hb hby at_118) rfl rfl ?_
    refine Good.iconst X4 hx (pc' := 121) (w := (3 : Int32)) rfl (hb hby at_120) rfl ?_
    refine Good.iload X4 hx (pc' := 123) rfl (hb hby at_121) rfl ?_
    refine Good.iconst X4 hx (pc' := 124) (w := (3 : Int32)) rfl (hb hby at_123) rfl ?_
    refine Good.icmpNo X4 hx (pc' := 127) rfl (hb hby at_124) rfl ?_
    refine Good.lload X4 hx (pc' := 129) rfl (hb hby at_127) rfl ?_
    refine Good.l2d X4 hx (pc' := 130) rfl (hb hby at_129) ?_
    refine Good.goto X4 hx (pc' := 135) (by decide) (hb hby at_130) ?_
    refine Good.dastoreF X4 hx hZ e4 V4 (3) rfl (by decide) (pc' := 136) rfl (hb hby at_135) fun T5 h5 X5 e5 W5 V5 => ?_
    have Z_5 : n0 ≤ h5.size := by rw [W5.size]; exact Z_4
    have N_5 := Fr.snoc X5 N_4 ge_b1
    refine Good.aload X5 hx (pc' := 138) rfl (hb hby at_136) rfl rfl ?_
    refine Good.iconst X5 hx (pc' := 139) (w := (4 : Int32)) rfl (hb hby at_138) rfl ?_
    refine Good.iload X5 hx (pc' := 141) rfl (hb hby at_139) rfl ?_
    refine Good.iconst X5 hx (pc' := 142) (w := (4 : Int32)) rfl (hb hby at_141) rfl ?_
    refine Good.icmpNo X5 hx (pc' := 145) rfl (hb hby at_142) rfl ?_
    refine Good.lload X5 hx (pc' := 147) rfl (hb hby at_145) rfl ?_
    refine Good.l2d X5 hx (pc' := 148) rfl (hb hby at_147) ?_
    refine Good.goto X5 hx (pc' := 153) (by decide) (hb hby at_148) ?_
    refine Good.dastoreF X5 hx hZ e5 V5 (4) rfl (by decide) (pc' := 154) rfl (hb hby at_153) fun T6 h6 X6 e6 W6 V6 => ?_
    have Z_6 : n0 ≤ h6.size := by rw [W6.size]; exact Z_5
    have N_6 := Fr.snoc X6 N_5 ge_b1
    refine Good.aload X6 hx (pc' := 156) rfl (hb hby at_154) rfl rfl ?_
    refine Good.iconst X6 hx (pc' := 157) (w := (5 : Int32)) rfl (hb hby at_156) rfl ?_
    refine Good.iload X6 hx (pc' := 159) rfl (hb hby at_157) rfl ?_
    refine Good.iconst X6 hx (pc' := 160) (w := (5 : Int32)) rfl (hb hby at_159) rfl ?_
    refine Good.icmpNo X6 hx (pc' := 163) rfl (hb hby at_160) rfl ?_
    refine Good.lload X6 hx (pc' := 165) rfl (hb hby at_163) rfl ?_
    refine Good.l2d X6 hx (pc' := 166) rfl (hb hby at_165) ?_
    refine Good.goto X6 hx (pc' := 171) (by decide) (hb hby at_166) ?_
    refine Good.dastoreF X6 hx hZ e6 V6 (5) rfl (by decide) (pc' := 172) rfl (hb hby at_171) fun T7 h7 X7 e7 W7 V7 => ?_
    have Z_7 : n0 ≤ h7.size := by rw [W7.size]; exact Z_6
    have N_7 := Fr.snoc X7 N_6 ge_b1
    refine Good.iloadN X7 hx (pc' := 173) rfl (hb hby at_172) rfl ?_
    refine Good.i2d X7 hx (pc' := 174) rfl (hb hby at_173) ?_
    refine Good.iloadN X7 hx (pc' := 175) rfl (hb hby at_174) rfl ?_
    refine Good.sipush X7 hx (pc' := 178) (w := (160 : Int32)) rfl (hb hby at_175) rfl ?_
    refine Good.irem X7 hx (pc' := 179) rfl (hb hby at_178) (by decide) ?_
    refine Good.i2d X7 hx (pc' := 180) rfl (hb hby at_179) ?_
    refine Good.ldc2D X7 hx hZ hown (hw _ (List.mem_of_getElem? (i := 2) rfl)) (pc' := 183) rfl (hb hby at_180) ?_
    refine Good.dmul X7 hx (pc' := 184) rfl (hb hby at_183) (own_n1 _) ?_
    refine Good.dadd X7 hx (pc' := 185) rfl (hb hby at_184) (own_n2 a _) ?_
    rw [← eoff]
    refine Good.dstore X7 hx (pc' := 187) (Ls' := #[.val (.int a), .val (.int b), .val (.int c'), .val (.int o), .val (.int e'), .val (.int (5 : Int32)), .val (.long s0), .second, .val (.long s1), .second, .val (.long s2), .second, .val (.long s3), .second, .val (.long s4), .second, .val (.long s5), .second, .val (.double (FP.i2d e')), .second, .val (.ref b1), .val (.double off), .second, .unset, .unset]) rfl (hb hby at_185) rfl ?_
    refine Good.iload X7 hx (pc' := 189) rfl (hb hby at_187) rfl ?_
    refine Good.iconst X7 hx (pc' := 190) (w := (1 : Int32)) rfl (hb hby at_189) rfl ?_
    refine Good.isub X7 hx (pc' := 191) rfl (hb hby at_190) ?_
    show Good p.tables e below s G (T7.setTop (mkF m 191 #[.val (.int a), .val (.int b), .val (.int c'), .val (.int o), .val (.int e'), .val (.int (5 : Int32)), .val (.long s0), .second, .val (.long s1), .second, .val (.long s2), .second, .val (.long s3), .second, .val (.long s4), .second, .val (.long s5), .second, .val (.double (FP.i2d e')), .second, .val (.ref b1), .val (.double off), .second, .unset, .unset] [(.int (4 : Int32))]))
    refine Good.istore X7 hx (pc' := 193) (Ls' := #[.val (.int a), .val (.int b), .val (.int c'), .val (.int o), .val (.int e'), .val (.int (5 : Int32)), .val (.long s0), .second, .val (.long s1), .second, .val (.long s2), .second, .val (.long s3), .second, .val (.long s4), .second, .val (.long s5), .second, .val (.double (FP.i2d e')), .second, .val (.ref b1), .val (.double off), .second, .val (.int (4 : Int32)), .unset]) rfl (hb hby at_191) rfl ?_
    refine Good.iload X7 hx (pc' := 195) rfl (hb hby at_193) rfl ?_
    refine Good.iconst X7 hx (pc' := 196) (w := (2 : Int32)) rfl (hb hby at_195) rfl ?_
    refine Good.isub X7 hx (pc' := 197) rfl (hb hby at_196) ?_
    refine Good.iconst X7 hx (pc' := 198) (w := (3 : Int32)) rfl (hb hby at_197) rfl ?_
    obtain ⟨ltf, eltf⟩ : ∃ z : Nat → Bool, z = fun k => decide (FP.dcmp ((updD (updD (updD (updD (updD (updD (fun _ => 0) (0) (FP.l2d s0)) (1) (FP.l2d s1)) (2) (FP.l2d s2)) (3) (FP.l2d s3)) (4) (FP.l2d s4)) (5) (FP.l2d s5)) k) off = some .lt) := ⟨_, rfl⟩
    have q1 : ifCond.holds .lt (cmpValue (FP.dcmp (FP.l2d s1) off) .l) = ltf 1 := by rw [own_cmpL (own_no d1) noff, eltf]; rfl
    have q2 : ifCond.holds .lt (cmpValue (FP.dcmp (FP.l2d s2) off) .l) = ltf 2 := by rw [own_cmpL (own_no d2) noff, eltf]; rfl
    have q3 : ifCond.holds .lt (cmpValue (FP.dcmp (FP.l2d s3) off) .l) = ltf 3 := by rw [own_cmpL (own_no d3) noff, eltf]; rfl
    have q4 : ifCond.holds .lt (cmpValue (FP.dcmp (FP.l2d s4) off) .l) = ltf 4 := by rw [own_cmpL (own_no d4) noff, eltf]; rfl
    have hlt : ∀ k, 1 ≤ k → k < 5 → ifCond.holds .ge (cmpValue (FP.dcmp ((updD (updD (updD (updD (updD (updD (fun _ => 0) (0) (FP.l2d s0)) (1) (FP.l2d s1)) (2) (FP.l2d s2)) (3) (FP.l2d s3)) (4) (FP.l2d s4)) (5) (FP.l2d s5)) k) off) .g) = !ltf k := by
      intro k hk1 hk2
      rw [eltf]
      match k, hk1, hk2 with
      | 1, _, _ => exact own_cmpG (own_no d1) noff
      | 2, _, _ => exact own_cmpG (own_no d2) noff
      | 3, _, _ => exact own_cmpG (own_no d3) noff
      | 4, _, _ => exact own_cmpG (own_no d4) noff
    have hmo : ∀ i j, 1 ≤ i → i ≤ j → j < 5 → ltf j = true → ltf i = true := by
      intro i j h1 h2 h3 h4
      rw [eltf] at h4 ⊢
      have h4' := of_decide_eq_true h4
      obtain rfl | rfl | rfl | rfl : j = 1 ∨ j = 2 ∨ j = 3 ∨ j = 4 := by omega
      · obtain rfl : i = 1 := by omega
        exact decide_eq_true (own_mono d1 d1 noff (by omega) h4')
      · obtain rfl | rfl : i = 1 ∨ i = 2 := by omega
        · exact decide_eq_true (own_mono d1 d2 noff (by omega) h4')
        · exact decide_eq_true (own_mono d2 d2 noff (by omega) h4')
      · obtain rfl | rfl | rfl : i = 1 ∨ i = 2 ∨ i = 3 := by omega
        · exact decide_eq_true (own_mono d1 d3 noff (by omega) h4')
        · exact decide_eq_true (own_mono d2 d3 noff (by omega) h4')
        · exact decide_eq_true (own_mono d3 d3 noff (by omega) h4')
      · obtain rfl | rfl | rfl | rfl : i = 1 ∨ i = 2 ∨ i = 3 ∨ i = 4 := by omega
        · exact decide_eq_true (own_mono d1 d4 noff (by omega) h4')
        · exact decide_eq_true (own_mono d2 d4 noff (by omega) h4')
        · exact decide_eq_true (own_mono d3 d4 noff (by omega) h4')
        · exact decide_eq_true (own_mono d4 d4 noff (by omega) h4')
    have hfin : ∀ r : Int32, r = Int32.ofNat (first ltf 4 0) → Good p.tables e below s G (T7.setTop (mkF m 276 #[.val (.int a), .val (.int b), .val (.int c'), .val (.int o), .val (.int e'), .val (.int (5 : Int32)), .val (.long s0), .second, .val (.long s1), .second, .val (.long s2), .second, .val (.long s3), .second, .val (.long s4), .second, .val (.long s5), .second, .val (.double (FP.i2d e')), .second, .val (.ref b1), .val (.double off), .second, .val (.int r), .unset] [])) := by
      intro r hr
      refine Good.aload X7 hx (pc' := 278) rfl (hb hby at_276) rfl rfl ?_
      refine Good.iload X7 hx (pc' := 280) rfl (hb hby at_278) rfl ?_
      refine Good.dload X7 hx (pc' := 282) rfl (hb hby at_280) rfl ?_
      refine Good.callS X7 hx hZ (y := ⟨"com/example/roadbound/roadbound/network/Pieces", "at", "([DID)I"⟩) hown (hw _ (List.mem_of_getElem? (i := 3) rfl)) (hw _ (List.mem_of_getElem? (i := 4) rfl)) (hw _ (List.mem_of_getElem? (i := 5) rfl)) (hw _ (List.mem_of_getElem? (i := 6) rfl)) (by decide) e7 (argsL := [(.ref b1), (.int (5 : Int32)), (.double off)]) (rest := []) (c_at l Z a0 hw b1 5 6 (updD (updD (updD (updD (updD (updD (fun _ => 0) (0) (FP.l2d s0)) (1) (FP.l2d s1)) (2) (FP.l2d s2)) (3) (FP.l2d s3)) (4) (FP.l2d s4)) (5) (FP.l2d s5)) off ltf h7 V7 (by decide) (by decide) (by decide) hlt hmo) (hdesc := pd_0) rfl (pc' := 285) rfl (by rw [hml]; rfl) rfl (hb hby at_282) (W := 0) (Nat.le_of_eq rfl) (by decide) (by decide) (by decide) (by decide) fun v8 T8 L8 X8 Q8 => ?_
      obtain ⟨rfl, hh, rfl⟩ := Q8
      refine Good.istore X8 hx (pc' := 287) (Ls' := #[.val (.int a), .val (.int b), .val (.int c'), .val (.int o), .val (.int e'), .val (.int (5 : Int32)), .val (.long s0), .second, .val (.long s1), .second, .val (.long s2), .second, .val (.long s3), .second, .val (.long s4), .second, .val (.long s5), .second, .val (.double (FP.i2d e')), .second, .val (.ref b1), .val (.double off), .second, .val (.int r), .val (.int (Int32.ofNat (first ltf (5 - 1) 0)))]) rfl (hb hby at_285) rfl ?_
      refine Good.iload X8 hx (pc' := 289) rfl (hb hby at_287) rfl ?_
      refine Good.iload X8 hx (pc' := 291) rfl (hb hby at_289) rfl ?_
      rw [hr]
      refine Good.icmpNo X8 hx (pc' := 294) rfl (hb hby at_291) (by simp [if_icmp.holds]) ?_
      refine Good.iconst X8 hx (pc' := 295) (w := (1 : Int32)) rfl (hb hby at_294) rfl ?_
      refine Good.goto X8 hx (pc' := 299) (by decide) (hb hby at_295) ?_
      exact Good.retZ X8 hx hlk hret (hb hby at_299) (Or.inr rfl) (hG _ _ _ _ _ (⟨rfl, Fr.app N_7 (Fr.nil n0)⟩) (by decide) (by decide))
    refine Good.icmpNo X7 hx (pc' := 201) rfl (hb hby at_198) rfl ?_
    refine Good.aload X7 hx (pc' := 203) rfl (hb hby at_201) rfl rfl ?_
    refine Good.iconst X7 hx (pc' := 204) (w := (4 : Int32)) rfl (hb hby at_203) rfl ?_
    refine Good.daloadF X7 hx hZ e7 V7 (4) rfl (by decide) (w := (FP.l2d s4)) rfl (pc' := 205) rfl (hb hby at_204) ?_
    refine Good.dload X7 hx (pc' := 207) rfl (hb hby at_205) rfl ?_
    refine Good.dcmp X7 hx (pc' := 208) rfl (hb hby at_207) ?_
    have J3 : ∀ r3 : Int32, r3 = Int32.ofNat (first ltf 1 3) → Good p.tables e below s G (T7.setTop (mkF m 214 #[.val (.int a), .val (.int b), .val (.int c'), .val (.int o), .val (.int e'), .val (.int (5 : Int32)), .val (.long s0), .second, .val (.long s1), .second, .val (.long s2), .second, .val (.long s3), .second, .val (.long s4), .second, .val (.long s5), .second, .val (.double (FP.i2d e')), .second, .val (.ref b1), .val (.double off), .second, .val (.int r3), .unset] [])) := by
      intro r3 hr3
      refine Good.iload X7 hx (pc' := 216) rfl (hb hby at_214) rfl ?_
      refine Good.iconst X7 hx (pc' := 217) (w := (2 : Int32)) rfl (hb hby at_216) rfl ?_
      refine Good.isub X7 hx (pc' := 218) rfl (hb hby at_217) ?_
      refine Good.iconst X7 hx (pc' := 219) (w := (2 : Int32)) rfl (hb hby at_218) rfl ?_
      refine Good.icmpNo X7 hx (pc' := 222) rfl (hb hby at_219) rfl ?_
      refine Good.aload X7 hx (pc' := 224) rfl (hb hby at_222) rfl rfl ?_
      refine Good.iconst X7 hx (pc' := 225) (w := (3 : Int32)) rfl (hb hby at_224) rfl ?_
      refine Good.daloadF X7 hx hZ e7 V7 (3) rfl (by decide) (w := (FP.l2d s3)) rfl (pc' := 226) rfl (hb hby at_225) ?_
      refine Good.dload X7 hx (pc' := 228) rfl (hb hby at_226) rfl ?_
      refine Good.dcmp X7 hx (pc' := 229) rfl (hb hby at_228) ?_
      have J2 : ∀ r2 : Int32, r2 = Int32.ofNat (first ltf 2 2) → Good p.tables e below s G (T7.setTop (mkF m 235 #[.val (.int a), .val (.int b), .val (.int c'), .val (.int o), .val (.int e'), .val (.int (5 : Int32)), .val (.long s0), .second, .val (.long s1), .second, .val (.long s2), .second, .val (.long s3), .second, .val (.long s4), .second, .val (.long s5), .second, .val (.double (FP.i2d e')), .second, .val (.ref b1), .val (.double off), .second, .val (.int r2), .unset] [])) := by
        intro r2 hr2
        refine Good.iload X7 hx (pc' := 237) rfl (hb hby at_235) rfl ?_
        refine Good.iconst X7 hx (pc' := 238) (w := (2 : Int32)) rfl (hb hby at_237) rfl ?_
        refine Good.isub X7 hx (pc' := 239) rfl (hb hby at_238) ?_
        refine Good.iconst X7 hx (pc' := 240) (w := (1 : Int32)) rfl (hb hby at_239) rfl ?_
        refine Good.icmpNo X7 hx (pc' := 243) rfl (hb hby at_240) rfl ?_
        refine Good.aload X7 hx (pc' := 245) rfl (hb hby at_243) rfl rfl ?_
        refine Good.iconst X7 hx (pc' := 246) (w := (2 : Int32)) rfl (hb hby at_245) rfl ?_
        refine Good.daloadF X7 hx hZ e7 V7 (2) rfl (by decide) (w := (FP.l2d s2)) rfl (pc' := 247) rfl (hb hby at_246) ?_
        refine Good.dload X7 hx (pc' := 249) rfl (hb hby at_247) rfl ?_
        refine Good.dcmp X7 hx (pc' := 250) rfl (hb hby at_249) ?_
        have J1 : ∀ r1 : Int32, r1 = Int32.ofNat (first ltf 3 1) → Good p.tables e below s G (T7.setTop (mkF m 256 #[.val (.int a), .val (.int b), .val (.int c'), .val (.int o), .val (.int e'), .val (.int (5 : Int32)), .val (.long s0), .second, .val (.long s1), .second, .val (.long s2), .second, .val (.long s3), .second, .val (.long s4), .second, .val (.long s5), .second, .val (.double (FP.i2d e')), .second, .val (.ref b1), .val (.double off), .second, .val (.int r1), .unset] [])) := by
          intro r1 hr1
          refine Good.iload X7 hx (pc' := 258) rfl (hb hby at_256) rfl ?_
          refine Good.iconst X7 hx (pc' := 259) (w := (2 : Int32)) rfl (hb hby at_258) rfl ?_
          refine Good.isub X7 hx (pc' := 260) rfl (hb hby at_259) ?_
          refine Good.ifNo X7 hx (pc' := 263) rfl (hb hby at_260) rfl ?_
          refine Good.aload X7 hx (pc' := 265) rfl (hb hby at_263) rfl rfl ?_
          refine Good.iconst X7 hx (pc' := 266) (w := (1 : Int32)) rfl (hb hby at_265) rfl ?_
          refine Good.daloadF X7 hx hZ e7 V7 (1) rfl (by decide) (w := (FP.l2d s1)) rfl (pc' := 267) rfl (hb hby at_266) ?_
          refine Good.dload X7 hx (pc' := 269) rfl (hb hby at_267) rfl ?_
          refine Good.dcmp X7 hx (pc' := 270) rfl (hb hby at_269) ?_
          have J0 : ∀ r0 : Int32, r0 = Int32.ofNat (first ltf 4 0) → Good p.tables e below s G (T7.setTop (mkF m 276 #[.val (.int a), .val (.int b), .val (.int c'), .val (.int o), .val (.int e'), .val (.int (5 : Int32)), .val (.long s0), .second, .val (.long s1), .second, .val (.long s2), .second, .val (.long s3), .second, .val (.long s4), .second, .val (.long s5), .second, .val (.double (FP.i2d e')), .second, .val (.ref b1), .val (.double off), .second, .val (.int r0), .unset] [])) := by
            intro r0 hr0
            exact hfin _ hr0
          refine Good.ifFork X7 hx (pc1 := 276) (pc2 := 273) (hb hby at_270) (by decide) rfl (fun hf0 => ?_) (fun hf0 => ?_)
          · rw [q1] at hf0
            exact J0 _ (by rw [first_t hf0]; exact hr1)
          · rw [q1] at hf0
            refine Good.iconst X7 hx (pc' := 274) (w := (0 : Int32)) rfl (hb hby at_273) rfl ?_
            refine Good.istore X7 hx (pc' := 276) (Ls' := #[.val (.int a), .val (.int b), .val (.int c'), .val (.int o), .val (.int e'), .val (.int (5 : Int32)), .val (.long s0), .second, .val (.long s1), .second, .val (.long s2), .second, .val (.long s3), .second, .val (.long s4), .second, .val (.long s5), .second, .val (.double (FP.i2d e')), .second, .val (.ref b1), .val (.double off), .second, .val (.int (0 : Int32)), .unset]) rfl (hb hby at_274) rfl ?_
            exact J0 _ (by rw [first_f hf0]; rfl)
        refine Good.ifFork X7 hx (pc1 := 256) (pc2 := 253) (hb hby at_250) (by decide) rfl (fun hf1 => ?_) (fun hf1 => ?_)
        · rw [q2] at hf1
          exact J1 _ (by rw [first_t hf1]; exact hr2)
        · rw [q2] at hf1
          refine Good.iconst X7 hx (pc' := 254) (w := (1 : Int32)) rfl (hb hby at_253) rfl ?_
          refine Good.istore X7 hx (pc' := 256) (Ls' := #[.val (.int a), .val (.int b), .val (.int c'), .val (.int o), .val (.int e'), .val (.int (5 : Int32)), .val (.long s0), .second, .val (.long s1), .second, .val (.long s2), .second, .val (.long s3), .second, .val (.long s4), .second, .val (.long s5), .second, .val (.double (FP.i2d e')), .second, .val (.ref b1), .val (.double off), .second, .val (.int (1 : Int32)), .unset]) rfl (hb hby at_254) rfl ?_
          exact J1 _ (by rw [first_f hf1]; rfl)
      refine Good.ifFork X7 hx (pc1 := 235) (pc2 := 232) (hb hby at_229) (by decide) rfl (fun hf2 => ?_) (fun hf2 => ?_)
      · rw [q3] at hf2
        exact J2 _ (by rw [first_t hf2]; exact hr3)
      · rw [q3] at hf2
        refine Good.iconst X7 hx (pc' := 233) (w := (2 : Int32)) rfl (hb hby at_232) rfl ?_
        refine Good.istore X7 hx (pc' := 235) (Ls' := #[.val (.int a), .val (.int b), .val (.int c'), .val (.int o), .val (.int e'), .val (.int (5 : Int32)), .val (.long s0), .second, .val (.long s1), .second, .val (.long s2), .second, .val (.long s3), .second, .val (.long s4), .second, .val (.long s5), .second, .val (.double (FP.i2d e')), .second, .val (.ref b1), .val (.double off), .second, .val (.int (2 : Int32)), .unset]) rfl (hb hby at_233) rfl ?_
        exact J2 _ (by rw [first_f hf2]; rfl)
    refine Good.ifFork X7 hx (pc1 := 214) (pc2 := 211) (hb hby at_208) (by decide) rfl (fun hf3 => ?_) (fun hf3 => ?_)
    · rw [q4] at hf3
      exact J3 _ (by rw [first_t hf3]; exact rfl)
    · rw [q4] at hf3
      refine Good.iconst X7 hx (pc' := 212) (w := (3 : Int32)) rfl (hb hby at_211) rfl ?_
      refine Good.istore X7 hx (pc' := 214) (Ls' := #[.val (.int a), .val (.int b), .val (.int c'), .val (.int o), .val (.int e'), .val (.int (5 : Int32)), .val (.long s0), .second, .val (.long s1), .second, .val (.long s2), .second, .val (.long s3), .second, .val (.long s4), .second, .val (.long s5), .second, .val (.double (FP.i2d e')), .second, .val (.ref b1), .val (.double off), .second, .val (.int (3 : Int32)), .unset]) rfl (hb hby at_212) rfl ?_
      exact J3 _ (by rw [first_f hf3]; rfl)
set_option maxRecDepth 65536 in
set_option maxHeartbeats 40000000 in
theorem comes_1 {Post : Tables → Env → Array Value → State → Outcome → State → Prop} (hpost : ∀ tb e args s v u, (limb_1_1.after args s (.returned v) u = true ∧ limb_1_2.after args s (.returned v) u = true ∧ True) → FrameEnd s (.returned v) u (Jvm.fieldLocs frame_1_writes args s ++ Jvm.arrayLocs frame_1_arrays args s ++ Jvm.staticLocs frame_1_statics s) 16 128 → Post tb e args s (.returned v) u) :
    ArmFor flags0 classFile x code maxLocals ret World_1 tables_1 room_1 Calls_1 rest_1 Pre_1 Post := by
  intro l hfl _ _ p e ha hc hk s m args below hf hA hF happ hP
  obtain ⟨hcalls, hrest, hpre⟩ := hP
  obtain ⟨-, -, -, hnamed, -, -, -, hat⟩ := (Spec.applies_iff hf).mp happ
  obtain ⟨hg, hn⟩ := and_e (Cond.before_iff.mp (show (Jvm.Cond.and given_1 narrow_1).before args s = true from hpre))
  obtain ⟨w0, w1, w2, w3, w4, rfl⟩ : ∃ w0 w1 w2 w3 w4 : Value, args = #[w0, w1, w2, w3, w4] := by
    have hs : args.size = 5 := by
      obtain ⟨q, -⟩ := and_e hg
      simpa [Cond.value, given_1] using q
    obtain ⟨L⟩ := args
    match L, hs with
    | [w0, w1, w2, w3, w4], _ => exact ⟨w0, w1, w2, w3, w4, rfl⟩
  have hw := fun d (hd : d ∈ tables_1) => atoms_spec (ws := Jvm.Cond.code x code maxLocals ret :: tables_1) hat d (List.mem_cons_of_mem _ hd)
  obtain ⟨-, hg0⟩ := and_e hg
  obtain ⟨gi0, hg1⟩ := and_e hg0
  obtain ⟨i0, ei0⟩ := is_v gi0
  obtain rfl : w0 = (.int i0) := Option.some.inj ei0
  obtain ⟨gi1, hg2⟩ := and_e hg1
  obtain ⟨i1, ei1⟩ := is_v gi1
  obtain rfl : w1 = (.int i1) := Option.some.inj ei1
  obtain ⟨gi2, hg3⟩ := and_e hg2
  obtain ⟨i2, ei2⟩ := is_v gi2
  obtain rfl : w2 = (.int i2) := Option.some.inj ei2
  obtain ⟨gi3, hg4⟩ := and_e hg3
  obtain ⟨i3, ei3⟩ := is_v gi3
  obtain rfl : w3 = (.int i3) := Option.some.inj ei3
  obtain ⟨i4, ei4⟩ := is_v hg4
  obtain rfl : w4 = (.int i4) := Option.some.inj ei4
  have K := c_law l s _ hw i0 i1 i2 i3 i4 s.heap s.heap.size (Nat.le_refl _)
  obtain ⟨n, o, h1, h2, h3, _, L, rfl, ⟨rfl, N⟩, hq⟩ := K tables_1 p e ha hc hk s m _ below hf ((Spec.applies_iff_loose hf).mp happ).1 ⟨rfl, State.Warmed39.refl s, rfl⟩ trivial
  refine ⟨n, _, h1, h2, h3, hpost _ _ _ _ _ _ ⟨Cond.after_iff.mpr rfl, Cond.after_iff.mpr (eq_i res_at (Term.int_eval (1)) rfl), trivial⟩ ⟨hq.1, hq.2.1, (hq.2.2.sift fun y hy => Or.inr (N y hy)).mono (by decide) (by decide)⟩⟩
theorem main_1_1 : Claimed_1_1 := comes_1 fun _ _ _ _ _ _ h hF => ⟨h.1, hF⟩
theorem main_1_2 : Claimed_1_2 := comes_1 fun _ _ _ _ _ _ h hF => ⟨h.2.1, hF⟩
end Jvm.Pilot.@@N@@
namespace Jvm.Pilot.@@N@@
open Jvm Jvm.ClassFile Sem Op Lib Jvm.Free Jvm.Stand Jvm.Pilot.@@N@@.Jvm.D
/-! MADE BY PROGRAM (witnessworld.py) out of the Statement's table words and the real class files: 11 classes; the members and pool entries that the words name. The judged class is class 1, her method 1. -/
namespace start1
open Jvm.ClassFile
def u (s : String) : CpInfo := .utf8 (stringToUtf16 s)
/-- a pool by its gaps: so many unusable entries, then the entry; so many at the end -/
def gap : Nat → List CpInfo → List CpInfo
  | 0, r => r
  | n + 1, r => .unusable :: gap n r
def poolList (es : List (Nat × CpInfo)) (last : Nat) : List CpInfo := es.foldr (fun e r => gap e.1 (e.2 :: r)) (gap last [])
def pool (es : List (Nat × CpInfo)) (last : Nat) : Array CpInfo := ⟨poolList es last⟩
def fileOf (pool : Array CpInfo) (this : Nat) (attrs : Array Attribute := #[]) (ms : Array MethodInfo := #[]) (fl : Nat := 33) (sup : Nat := 0) (ifs : Array Nat := #[]) (fds : Array FieldInfo := #[]) : ClassFile where
  minorVersion := 0
  majorVersion := 65
  constantPool := pool
  accessFlags := fl
  thisClass := this
  superClass := sup
  interfaces := ifs
  fields := fds
  methods := ms
  attributes := attrs
def plain (name : String) (sup : Option ClassId) : Class where
  name := name
  kind := .ordinary
  loader := none
  accessFlags := 33
  super := sup
  interfaces := #[]
  cf := none
  fields := #[]
  methods := #[]
  instanceTypes := #[]
  staticTypes := #[]
  resolved := #[]
  callSites := []
  init := .initialized
  statics := none
  mirror := none

def pool0 : Array CpInfo := pool [(5, u "<init>"), (0, u "()V"), (1, .class_ 10), (1, u "java/lang/Object")] 113

def k0m0 : Method := { name := "<init>", desc := "()V", sig := { parameters := [], returnType := none }, accessFlags := 1, code := none }
/-- java/lang/Object -/
def k0 : Class := { plain "java/lang/Object" none with
  accessFlags := 33
  interfaces := #[]
  cf := some (fileOf pool0 8 #[] #[{ accessFlags := 1, nameIndex := 5, descriptorIndex := 6, attributes := #[] }] 33 0 #[] #[])
  fields := #[]
  methods := #[k0m0]
  instanceTypes := #[]
  staticTypes := #[]
  resolved := Array.replicate 124 none
  statics := none }

def pool1 : Array CpInfo := pool [(2, .class_ 4), (1, u "java/lang/Object"), (0, u "<init>"), (0, u "()V"), (0, .integer 2147483647), (0, .double 4602678819172646912), (1, .methodref 11 12), (0, .class_ 13), (0, .nameAndType 14 15), (0, u "com/example/roadbound/roadbound/network/Pieces"), (0, u "at"), (0, u "([DID)I"), (0, .class_ 17), (0, u "com/example/roadbound/roadbound/network/PiecesAtPinLaw"), (2, u "law"), (0, u "(IIIII)Z")] 5

def k1m0 : Method := { name := "<init>", desc := "()V", sig := { parameters := [], returnType := none }, accessFlags := 2, code := none }
def k1c1 : Code := { maxStack := 6, maxLocals := 25, code := code, exceptionTable := #[], attributes := #[] }
def k1m1 : Method := { name := "law", desc := "(IIIII)Z", sig := { parameters := [.int, .int, .int, .int, .int], returnType := some .boolean }, accessFlags := 9, code := some k1c1 }
/-- com/example/roadbound/roadbound/network/PiecesAtPinLaw -/
def k1 : Class := { plain "com/example/roadbound/roadbound/network/PiecesAtPinLaw" (some 0) with
  accessFlags := 49
  interfaces := #[]
  cf := some (fileOf pool1 16 #[] #[{ accessFlags := 2, nameIndex := 5, descriptorIndex := 6, attributes := #[] }, { accessFlags := 9, nameIndex := 20, descriptorIndex := 21, attributes := #[] }] 49 2 #[] #[])
  fields := #[]
  methods := #[k1m0, k1m1]
  instanceTypes := #[]
  staticTypes := #[]
  resolved := Array.replicate 27 none
  statics := none }

def pool2 : Array CpInfo := pool [(2, .class_ 4), (1, u "java/lang/Object"), (0, u "<init>"), (0, u "()V"), (0, .class_ 8), (0, u "com/example/roadbound/roadbound/network/Pieces"), (2, u "at"), (0, u "([DID)I")] 5

def k2m0 : Method := { name := "<init>", desc := "()V", sig := { parameters := [], returnType := none }, accessFlags := 2, code := none }
def k2c1 : Code := { maxStack := 4, maxLocals := 7, code := prog_115_method_2_code, exceptionTable := #[], attributes := #[] }
def k2m1 : Method := { name := "at", desc := "([DID)I", sig := { parameters := [(.array .double), .int, .double], returnType := some .int }, accessFlags := 9, code := some k2c1 }
/-- com/example/roadbound/roadbound/network/Pieces -/
def k2 : Class := { plain "com/example/roadbound/roadbound/network/Pieces" (some 0) with
  accessFlags := 49
  interfaces := #[]
  cf := some (fileOf pool2 7 #[] #[{ accessFlags := 2, nameIndex := 5, descriptorIndex := 6, attributes := #[] }, { accessFlags := 9, nameIndex := 11, descriptorIndex := 12, attributes := #[] }] 49 2 #[] #[])
  fields := #[]
  methods := #[k2m0, k2m1]
  instanceTypes := #[]
  staticTypes := #[]
  resolved := Array.replicate 18 none
  statics := none }

def pool3 : Array CpInfo := pool [(1, u "java/lang/Cloneable"), (0, .class_ 1), (0, u "java/lang/Object"), (0, .class_ 3)] 3

/-- java/lang/Cloneable -/
def k3 : Class := { plain "java/lang/Cloneable" (some 0) with
  accessFlags := 1537
  interfaces := #[]
  cf := some (fileOf pool3 2 #[] #[] 1537 4 #[] #[])
  fields := #[]
  methods := #[]
  instanceTypes := #[]
  staticTypes := #[]
  resolved := Array.replicate 8 none
  statics := none }

def pool4 : Array CpInfo := pool [(1, u "java/io/Serializable"), (0, .class_ 1), (0, u "java/lang/Object"), (0, .class_ 3)] 3

/-- java/io/Serializable -/
def k4 : Class := { plain "java/io/Serializable" (some 0) with
  accessFlags := 1537
  interfaces := #[]
  cf := some (fileOf pool4 2 #[] #[] 1537 4 #[] #[])
  fields := #[]
  methods := #[]
  instanceTypes := #[]
  staticTypes := #[]
  resolved := Array.replicate 8 none
  statics := none }

/-- the primitive byte -/
def k5 : Class := { plain "byte" none with kind := .primitive 'B', accessFlags := 0x411 }
/-- [B -/
def k6 : Class := { plain "[B" (some 0) with kind := .array 5 .byte, interfaces := #[3, 4], accessFlags := 1041 }

/-- the primitive double -/
def k7 : Class := { plain "double" none with kind := .primitive 'D', accessFlags := 0x411 }
/-- [D -/
def k8 : Class := { plain "[D" (some 0) with kind := .array 7 .double, interfaces := #[3, 4], accessFlags := 1041 }

/-- the primitive int -/
def k9 : Class := { plain "int" none with kind := .primitive 'I', accessFlags := 0x411 }
/-- [I -/
def k10 : Class := { plain "[I" (some 0) with kind := .array 9 .int, interfaces := #[3, 4], accessFlags := 1041 }

def heap : Heap := #[]
def classes : Array Class := #[k0, k1, k2, k3, k4, k5, k6, k7, k8, k9, k10]
def interned : List (Array UInt16 × Addr) := []
def slotsUsed : Nat := 0
def theMethod : MethodId := ⟨1, 1⟩
def args0 : Array Value := #[.int 3, .int 5, .int 7, .int 9, .int 4]
def aboutOver (below : List Frame) : State where
  vm := { classes := classes, interned := interned.toArray }
  heap := heap
  slotsUsed := slotsUsed
  threads := #[{ frames := .invoking theMethod args0 :: below }]
def below0 : List Frame := [.native { method := ⟨0, 0⟩, args := #[] }]
def about1 : State := aboutOver below0
def p0 : Program := .bare "" "" ""
def e0 : Env := launch0.env 0 0 0
theorem w_frames : about1.frames = Frame.invoking theMethod args0 :: below0 := rfl
set_option maxRecDepth 65536 in
theorem w_args : argsFit about1.vm theMethod args0 = true := by decide +kernel
set_option maxRecDepth 65536 in
theorem w_heap : heapFits about1 = true := by decide +kernel
set_option maxRecDepth 65536 in
theorem w_runnable : about1.curStatus? = some .runnable := by decide +kernel
set_option maxRecDepth 65536 in
theorem w_alone : about1.alone = true := by decide +kernel
set_option maxRecDepth 65536 in
theorem w_named : about1.methodNamed? x = some theMethod := by decide +kernel
set_option maxRecDepth 65536 in
theorem w_hears : about1.hears theMethod below0 = true := by decide +kernel
set_option maxRecDepth 65536 in
theorem w_ripe : about1.ripe theMethod args0 below0 = true := by decide +kernel
theorem w_running : about1.status = .running := rfl
set_option maxRecDepth 65536 in
theorem w_room : about1.hasRoom e0.platform room_1 = true :=
  launch0.hasRoom_least _ room_1 (by decide +kernel) (by decide +kernel) (by decide +kernel) (by decide +kernel) (by decide +kernel) (by decide +kernel)
theorem allAtoms_all (ts : List Jvm.Cond) (a : Array Jvm.Value) (st : Jvm.State) : (allAtoms ts).before a st = ts.all (fun c => c.before a st) := by
  induction ts with
  | nil => rfl
  | cons c t ih =>
    show (Jvm.Cond.and c (allAtoms t)).before a st = _
    rw [Jvm.Cond.before_and, ih, List.all_cons]
def words1 : List Jvm.Cond := Jvm.Cond.code x code maxLocals ret :: tables_1
/-- a 'code' word, met by the world's own term for the bytes: nothing is compared byte by byte -/
theorem code_word {y : MethodName} {bytes : ByteArray} {mx : Nat} {rt : Option FieldType} {a : Array Value} {s : State} {m : MethodId} {meth : Method} {c : Code} (h1 : s.methodNamed? y = some m) (h2 : s.vm.method? m = some meth) (h3 : meth.code = some c) (h4 : c.code = bytes)
    (h5 : (c.maxLocals == mx && c.exceptionTable.isEmpty && decide (c.maxStack ≤ mostOperands) && decide (meth.sig.returnType = rt) && !meth.locks && decide (parseMethodDescriptor y.desc = some meth.sig)) = true) : (Jvm.Cond.code y bytes mx rt).before a s = true := by
  simp only [Bool.and_eq_true, beq_iff_eq, Bool.not_eq_true', decide_eq_true_eq] at h5
  obtain ⟨⟨⟨⟨⟨g1, g2⟩, g3⟩, g4⟩, g5⟩, g6⟩ := h5
  simp [Cond.before, Cond.holds, Cond.value, h1, h2, h3, h4, g1, g2, g3, g4, g5, g6]
def isCode : Jvm.Cond → Bool
  | .code _ _ _ _ => true
  | _ => false
theorem all_split {L : List Jvm.Cond} {P : Jvm.Cond → Bool} (h1 : L.all (fun c => isCode c || P c) = true) (h2 : ∀ c ∈ L.filter isCode, P c = true) : L.all P = true := by
  refine List.all_eq_true.mpr fun c hc => ?_
  have h := List.all_eq_true.mp h1 c hc
  rcases Bool.eq_false_or_eq_true (isCode c) with hi | hi
  · exact h2 c (List.mem_filter.mpr ⟨hc, hi⟩)
  · simpa [hi] using h
set_option maxRecDepth 65536 in
theorem w_c0 : (Jvm.Cond.code x code maxLocals ret).before args0 about1 = true := code_word (m := ⟨1, 1⟩) (meth := k1m1) (c := k1c1) (by decide +kernel) rfl rfl rfl (by decide +kernel)
set_option maxRecDepth 65536 in
theorem w_c1 : (Jvm.Cond.code ({ cls := "com/example/roadbound/roadbound/network/Pieces", name := "at", desc := "([DID)I" } : Jvm.MethodName) prog_115_method_2_code (7 : Nat) (Option.some Jvm.ClassFile.FieldType.int)).before args0 about1 = true := code_word (m := ⟨2, 1⟩) (meth := k2m1) (c := k2c1) (by decide +kernel) rfl rfl rfl (by decide +kernel)
def codes1 : List Jvm.Cond := [Jvm.Cond.code x code maxLocals ret, Jvm.Cond.code ({ cls := "com/example/roadbound/roadbound/network/Pieces", name := "at", desc := "([DID)I" } : Jvm.MethodName) prog_115_method_2_code (7 : Nat) (Option.some Jvm.ClassFile.FieldType.int)]
set_option maxRecDepth 65536 in
theorem codes_eq : words1.filter isCode = codes1 := rfl
theorem w_codes : ∀ c ∈ words1.filter isCode, c.before args0 about1 = true := by
  rw [codes_eq]
  intro c hc
  simp only [codes1, List.mem_cons, List.not_mem_nil, or_false] at hc
  rcases hc with rfl | rfl
  · exact w_c0
  · exact w_c1
set_option maxRecDepth 65536 in
theorem w_t1 : words1.all (fun c => isCode c || c.before args0 about1) = true := by decide +kernel
theorem w_tables : (allAtoms (Jvm.Cond.code x code maxLocals ret :: tables_1)).before args0 about1 = true := by
  rw [allAtoms_all]
  show words1.all (fun c => c.before args0 about1) = true
  refine all_split ?_ w_codes
  rw [w_t1]
set_option maxRecDepth 65536 in
theorem w_case : (Jvm.Cond.and given_1 narrow_1).before args0 about1 = true := by decide +kernel
theorem w_applies : (headSpec (Jvm.Cond.code x code maxLocals ret :: tables_1) room_1).applies x e0.platform about1 = true :=
  (Spec.applies_iff w_frames).mpr ⟨w_running, w_runnable, w_alone, w_named, w_hears, w_ripe, w_room, w_tables⟩
theorem atStart : AtStart classFile x code maxLocals ret World_1 tables_1 room_1 Calls_1 rest_1 Pre_1 launch0 p0 e0 about1 theMethod args0 below0 :=
  ⟨lists_1, trivial, launch0.admits_env _ _ _, launch0.least_env, fairChoices_fair.cas, fairChoices_fair.clock, w_frames, w_args, w_heap, w_applies, trivial, trivial, w_case⟩
end start1
theorem witness_1 : WitnessClaimed_1 := ⟨start1.p0, start1.e0, start1.about1, start1.theMethod, start1.args0, start1.below0, start1.atStart⟩
end Jvm.Pilot.@@N@@
