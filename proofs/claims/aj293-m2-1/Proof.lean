import JvmDerived
import JvmDerived.Pilot.@@N@@Statement
import JvmDerived.Pilot.@@N@@Code
set_option linter.unusedVariables false
set_option linter.unusedSimpArgs false
namespace Jvm.OwnKit
open Sem ClassFile Op Lib Jvm.Stand Jvm.Free Jvm.LawKit Jvm.RoadKit Jvm.Free.Fl
/-- from U the run comes to a return whose value, heap, written places, new cells and slots meet G -/
def Good (tb : Tables) (e : Env) (below : List Frame) (s : State) (G : Option Value → Heap → List Loc → Nat → Nat → Prop) (U : State) : Prop :=
  ∃ (T : State) (fs : List Frame) (v : Option Value) (locs : List Loc) (cells slots : Nat), Steps tb e below U (T.setFrames fs) ∧ (T.setFrames fs).status = .running ∧ Ended (T.setFrames fs) below (.returned v) ∧ s.WarmedH (T.setFrames fs).vm ∧ s.sameButNew ({ T.setFrames fs with vm := s.vm } : State) locs cells slots ∧ G v T.heap locs cells slots
theorem Good.go {tb : Tables} {e : Env} {below : List Frame} {s : State} {G : Option Value → Heap → List Loc → Nat → Nat → Prop} {U U' : State} (st : ∀ target, Steps tb e below U' target → Steps tb e below U target) (k : Good tb e below s G U') : Good tb e below s G U := by
  obtain ⟨T, fs, v, L, a, b, q, r⟩ := k
  exact ⟨T, fs, v, L, a, b, st _ q, r⟩
section Kit
variable {p : Program} {l : Launch} {e : Env} {R : Room} {s : State} {m : MethodId} {args : Array Value} {below : List Frame} {meth : Method} {c : Code} {T : State} {locs : List Loc} {cells slots : Nat} {G : Option Value → Heap → List Loc → Nat → Nat → Prop}
theorem Good.ret (X : Stand p l e R s m args below meth c T locs cells slots) (hx : p.tables.exec = Jvm.exec) (hlk : meth.locks = false) {pc : Nat} {Ls : Array Slot} {w : Value} {t : FieldType} {i : Instr} {rest : List Value} (hret : meth.sig.returnType = some t) (hn : narrow t w = w)
    (hi : (i = .ireturn ∧ (t = .int ∨ t = .boolean ∨ t = .byte ∨ t = .char ∨ t = .short) ∧ ∃ z, w = .int z) ∨ (i = .lreturn ∧ t = .long ∧ ∃ z, w = .long z) ∨ (i = .dreturn ∧ t = .double ∧ ∃ z, w = .double z) ∨ (i = .freturn ∧ t = .float ∧ ∃ z, w = .float z) ∨ (i = .areturn ∧ t.isReference = true ∧ w.isRef = true))
    (hd : decode c.code pc = .ok (i, 1)) (hG : G (some w) T.heap locs cells slots) : Good p.tables e below s G (T.setTop (mkF m pc Ls (w :: rest))) := by
  obtain ⟨fs, hr, h1, h2, h3, h4⟩ := X.leave (v := some w) (fun q => by rw [hret] at q; cases q) hlk
  exact ⟨T, fs, some w, locs, cells, slots, retOut X hx hret hn hi hd hr, h1, h2, h3, h4, hG⟩
theorem Good.retD (X : Stand p l e R s m args below meth c T locs cells slots) (hx : p.tables.exec = Jvm.exec) (hlk : meth.locks = false) {pc : Nat} {Ls : Array Slot} {w : UInt64} {rest : List Value} (hret : meth.sig.returnType = some .double) (hd : decode c.code pc = .ok (.dreturn, 1)) (hG : G (some (.double w)) T.heap locs cells slots) : Good p.tables e below s G (T.setTop (mkF m pc Ls (.double w :: rest))) :=
  Good.ret X hx hlk hret rfl (Or.inr (Or.inr (Or.inl ⟨rfl, rfl, _, rfl⟩))) hd hG
theorem Good.retA (X : Stand p l e R s m args below meth c T locs cells slots) (hx : p.tables.exec = Jvm.exec) (hlk : meth.locks = false) {pc : Nat} {Ls : Array Slot} {w : Value} {t : FieldType} {rest : List Value} (hret : meth.sig.returnType = some t) (ht : t.isReference = true) (hw : w.isRef = true) (hd : decode c.code pc = .ok (.areturn, 1)) (hG : G (some w) T.heap locs cells slots) : Good p.tables e below s G (T.setTop (mkF m pc Ls (w :: rest))) :=
  Good.ret X hx hlk hret (by cases t <;> first | (exact Bool.noConfusion ht) | (cases w <;> first | rfl | exact Bool.noConfusion hw)) (Or.inr (Or.inr (Or.inr (Or.inr ⟨rfl, ht, hw⟩)))) hd hG
theorem Good.retI (X : Stand p l e R s m args below meth c T locs cells slots) (hx : p.tables.exec = Jvm.exec) (hlk : meth.locks = false) {pc : Nat} {Ls : Array Slot} {w : Int32} {rest : List Value} (hret : meth.sig.returnType = some .int) (hd : decode c.code pc = .ok (.ireturn, 1)) (hG : G (some (.int w)) T.heap locs cells slots) : Good p.tables e below s G (T.setTop (mkF m pc Ls (.int w :: rest))) :=
  Good.ret X hx hlk hret rfl (Or.inl ⟨rfl, Or.inl rfl, _, rfl⟩) hd hG
theorem Good.retZ (X : Stand p l e R s m args below meth c T locs cells slots) (hx : p.tables.exec = Jvm.exec) (hlk : meth.locks = false) {pc : Nat} {Ls : Array Slot} {w : Int32} {rest : List Value} (hret : meth.sig.returnType = some .boolean) (hd : decode c.code pc = .ok (.ireturn, 1)) (hw : w = 0 ∨ w = 1) (hG : G (some (.int w)) T.heap locs cells slots) : Good p.tables e below s G (T.setTop (mkF m pc Ls (.int w :: rest))) :=
  Good.ret X hx hlk hret (by rcases hw with rfl | rfl <;> rfl) (Or.inl ⟨rfl, Or.inr (Or.inl rfl), _, rfl⟩) hd hG
theorem Good.ret0 (X : Stand p l e R s m args below meth c T locs cells slots) (hx : p.tables.exec = Jvm.exec) (hlk : meth.locks = false) {pc : Nat} {Ls : Array Slot} (hret : meth.sig.returnType = none) (hd : decode c.code pc = .ok (.return_, 1)) (hG : G none T.heap locs cells slots) : Good p.tables e below s G (T.setTop (mkF m pc Ls [])) := by
  obtain ⟨fs, hr, h1, h2, h3, h4⟩ := X.leave (v := none) (fun _ => rfl) hlk
  exact ⟨T, fs, none, locs, cells, slots, X.returnOut hx hret hd hr, h1, h2, h3, h4, hG⟩

theorem Good.aloadN (X : Stand p l e R s m args below meth c T locs cells slots) (hx : p.tables.exec = Jvm.exec) {pc pc' : Nat} {Ls : Array Slot} {k : Fin 4} {v : Value} {st : List Value} (hp : pc + 1 = pc') (hd : decode c.code pc = .ok (.aload_n k, 1)) (hl : Ls[k.val]? = some (.val v)) (hv : v.isRef = true) (k : Good p.tables e below s G (T.setTop (mkF m pc' Ls (v :: st)))) : Good p.tables e below s G (T.setTop (mkF m pc Ls st)) := by
  subst hp
  exact Good.go (fun _ q => XS.aloadN X.here hx rfl hd hl hv q) k
theorem Good.aload (X : Stand p l e R s m args below meth c T locs cells slots) (hx : p.tables.exec = Jvm.exec) {pc pc' : Nat} {Ls : Array Slot} {k : Nat} {v : Value} {st : List Value} (hp : pc + 2 = pc') (hd : decode c.code pc = .ok (.aload k, 2)) (hl : Ls[k]? = some (.val v)) (hv : v.isRef = true) (k : Good p.tables e below s G (T.setTop (mkF m pc' Ls (v :: st)))) : Good p.tables e below s G (T.setTop (mkF m pc Ls st)) := by
  subst hp
  exact Good.go (fun _ q => XS.aload X.here hx rfl hd hl hv q) k
theorem Good.iloadN (X : Stand p l e R s m args below meth c T locs cells slots) (hx : p.tables.exec = Jvm.exec) {pc pc' : Nat} {Ls : Array Slot} {k : Fin 4} {v : Int32} {st : List Value} (hp : pc + 1 = pc') (hd : decode c.code pc = .ok (.iload_n k, 1)) (hl : Ls[k.val]? = some (.val (.int v))) (k : Good p.tables e below s G (T.setTop (mkF m pc' Ls (.int v :: st)))) : Good p.tables e below s G (T.setTop (mkF m pc Ls st)) := by
  subst hp
  exact Good.go (fun _ q => XS.iloadN X.here hx rfl hd hl q) k
theorem Good.iload (X : Stand p l e R s m args below meth c T locs cells slots) (hx : p.tables.exec = Jvm.exec) {pc pc' : Nat} {Ls : Array Slot} {k : Nat} {v : Int32} {st : List Value} (hp : pc + 2 = pc') (hd : decode c.code pc = .ok (.iload k, 2)) (hl : Ls[k]? = some (.val (.int v))) (k : Good p.tables e below s G (T.setTop (mkF m pc' Ls (.int v :: st)))) : Good p.tables e below s G (T.setTop (mkF m pc Ls st)) := by
  subst hp
  exact Good.go (fun _ q => XS.iload X.here hx rfl hd hl q) k
theorem Good.lloadN (X : Stand p l e R s m args below meth c T locs cells slots) (hx : p.tables.exec = Jvm.exec) {pc pc' : Nat} {Ls : Array Slot} {k : Fin 4} {v : Int64} {st : List Value} (hp : pc + 1 = pc') (hd : decode c.code pc = .ok (.lload_n k, 1)) (hl : Ls[k.val]? = some (.val (.long v))) (k : Good p.tables e below s G (T.setTop (mkF m pc' Ls (.long v :: st)))) : Good p.tables e below s G (T.setTop (mkF m pc Ls st)) := by
  subst hp
  exact Good.go (fun _ q => XT.lloadN X.here hx rfl hd hl q) k
theorem Good.lload (X : Stand p l e R s m args below meth c T locs cells slots) (hx : p.tables.exec = Jvm.exec) {pc pc' : Nat} {Ls : Array Slot} {k : Nat} {v : Int64} {st : List Value} (hp : pc + 2 = pc') (hd : decode c.code pc = .ok (.lload k, 2)) (hl : Ls[k]? = some (.val (.long v))) (k : Good p.tables e below s G (T.setTop (mkF m pc' Ls (.long v :: st)))) : Good p.tables e below s G (T.setTop (mkF m pc Ls st)) := by
  subst hp
  exact Good.go (fun _ q => XT.lload X.here hx rfl hd hl q) k
theorem Good.dloadN (X : Stand p l e R s m args below meth c T locs cells slots) (hx : p.tables.exec = Jvm.exec) {pc pc' : Nat} {Ls : Array Slot} {k : Fin 4} {v : UInt64} {st : List Value} (hp : pc + 1 = pc') (hd : decode c.code pc = .ok (.dload_n k, 1)) (hl : Ls[k.val]? = some (.val (.double v))) (k : Good p.tables e below s G (T.setTop (mkF m pc' Ls (.double v :: st)))) : Good p.tables e below s G (T.setTop (mkF m pc Ls st)) := by
  subst hp
  refine Good.go (fun _ q => ?_) k
  show Steps p.tables e below (T.setTop { method := m, pc := pc, locals := Ls, stack := st, locked := none }) _
  jvm_step X.here [X.here.top, hx, hd, hl]
  exact q
theorem Good.dload (X : Stand p l e R s m args below meth c T locs cells slots) (hx : p.tables.exec = Jvm.exec) {pc pc' : Nat} {Ls : Array Slot} {k : Nat} {v : UInt64} {st : List Value} (hp : pc + 2 = pc') (hd : decode c.code pc = .ok (.dload k, 2)) (hl : Ls[k]? = some (.val (.double v))) (k : Good p.tables e below s G (T.setTop (mkF m pc' Ls (.double v :: st)))) : Good p.tables e below s G (T.setTop (mkF m pc Ls st)) := by
  subst hp
  refine Good.go (fun _ q => ?_) k
  show Steps p.tables e below (T.setTop { method := m, pc := pc, locals := Ls, stack := st, locked := none }) _
  jvm_step X.here [X.here.top, hx, hd, hl]
  exact q
theorem Good.iconst (X : Stand p l e R s m args below meth c T locs cells slots) (hx : p.tables.exec = Jvm.exec) {pc pc' : Nat} {Ls : Array Slot} {i : Int} {w : Int32} {st : List Value} (hp : pc + 1 = pc') (hd : decode c.code pc = .ok (.iconst i, 1)) (hv : Int32.ofInt i = w) (k : Good p.tables e below s G (T.setTop (mkF m pc' Ls (.int w :: st)))) : Good p.tables e below s G (T.setTop (mkF m pc Ls st)) := by
  subst hp; subst hv
  exact Good.go (fun _ q => XS.iconst X.here hx rfl hd q) k
theorem Good.bipush (X : Stand p l e R s m args below meth c T locs cells slots) (hx : p.tables.exec = Jvm.exec) {pc pc' : Nat} {Ls : Array Slot} {i : Int} {w : Int32} {st : List Value} (hp : pc + 2 = pc') (hd : decode c.code pc = .ok (.bipush i, 2)) (hv : (Int8.ofInt i).toInt32 = w) (k : Good p.tables e below s G (T.setTop (mkF m pc' Ls (.int w :: st)))) : Good p.tables e below s G (T.setTop (mkF m pc Ls st)) := by
  subst hp; subst hv
  exact Good.go (fun _ q => XS.bipush X.here hx rfl hd q) k
theorem Good.sipush (X : Stand p l e R s m args below meth c T locs cells slots) (hx : p.tables.exec = Jvm.exec) {pc pc' : Nat} {Ls : Array Slot} {i : Int} {w : Int32} {st : List Value} (hp : pc + 3 = pc') (hd : decode c.code pc = .ok (.sipush i, 3)) (hv : (Int16.ofInt i).toInt32 = w) (k : Good p.tables e below s G (T.setTop (mkF m pc' Ls (.int w :: st)))) : Good p.tables e below s G (T.setTop (mkF m pc Ls st)) := by
  subst hp; subst hv
  exact Good.go (fun _ q => XS.sipush X.here hx rfl hd q) k
theorem Good.dconst0 (X : Stand p l e R s m args below meth c T locs cells slots) (hx : p.tables.exec = Jvm.exec) {pc pc' : Nat} {Ls : Array Slot} {st : List Value} (hp : pc + 1 = pc') (hd : decode c.code pc = .ok (.dconst 0, 1))  (k : Good p.tables e below s G (T.setTop (mkF m pc' Ls (.double FP.dconst0 :: st)))) : Good p.tables e below s G (T.setTop (mkF m pc Ls st)) := by
  subst hp
  refine Good.go (fun _ q => ?_) k
  show Steps p.tables e below (T.setTop { method := m, pc := pc, locals := Ls, stack := st, locked := none }) _
  jvm_step X.here [X.here.top, hx, hd, dconst.sem]
  exact q
theorem Good.dconst1 (X : Stand p l e R s m args below meth c T locs cells slots) (hx : p.tables.exec = Jvm.exec) {pc pc' : Nat} {Ls : Array Slot} {st : List Value} (hp : pc + 1 = pc') (hd : decode c.code pc = .ok (.dconst 1, 1))  (k : Good p.tables e below s G (T.setTop (mkF m pc' Ls (.double FP.dconst1 :: st)))) : Good p.tables e below s G (T.setTop (mkF m pc Ls st)) := by
  subst hp
  refine Good.go (fun _ q => ?_) k
  show Steps p.tables e below (T.setTop { method := m, pc := pc, locals := Ls, stack := st, locked := none }) _
  jvm_step X.here [X.here.top, hx, hd, dconst.sem]
  exact q
theorem Good.aconstNull (X : Stand p l e R s m args below meth c T locs cells slots) (hx : p.tables.exec = Jvm.exec) {pc pc' : Nat} {Ls : Array Slot} {st : List Value} (hp : pc + 1 = pc') (hd : decode c.code pc = .ok (.aconst_null, 1))  (k : Good p.tables e below s G (T.setTop (mkF m pc' Ls (.null :: st)))) : Good p.tables e below s G (T.setTop (mkF m pc Ls st)) := by
  subst hp
  exact Good.go (fun _ q => XS.aconstNull X.here hx rfl hd q) k
theorem Good.iadd (X : Stand p l e R s m args below meth c T locs cells slots) (hx : p.tables.exec = Jvm.exec) {pc pc' : Nat} {Ls : Array Slot} {x y : Int32} {st : List Value} (hp : pc + 1 = pc') (hd : decode c.code pc = .ok (.iadd, 1))  (k : Good p.tables e below s G (T.setTop (mkF m pc' Ls (.int (x + y) :: st)))) : Good p.tables e below s G (T.setTop (mkF m pc Ls (.int y :: .int x :: st))) := by
  subst hp
  exact Good.go (fun _ q => XS.iadd X.here hx rfl hd rfl q) k
theorem Good.isub (X : Stand p l e R s m args below meth c T locs cells slots) (hx : p.tables.exec = Jvm.exec) {pc pc' : Nat} {Ls : Array Slot} {x y : Int32} {st : List Value} (hp : pc + 1 = pc') (hd : decode c.code pc = .ok (.isub, 1))  (k : Good p.tables e below s G (T.setTop (mkF m pc' Ls (.int (x - y) :: st)))) : Good p.tables e below s G (T.setTop (mkF m pc Ls (.int y :: .int x :: st))) := by
  subst hp
  exact Good.go (fun _ q => XS.isub X.here hx rfl hd rfl q) k
theorem Good.iand (X : Stand p l e R s m args below meth c T locs cells slots) (hx : p.tables.exec = Jvm.exec) {pc pc' : Nat} {Ls : Array Slot} {x y : Int32} {st : List Value} (hp : pc + 1 = pc') (hd : decode c.code pc = .ok (.iand, 1))  (k : Good p.tables e below s G (T.setTop (mkF m pc' Ls (.int (x &&& y) :: st)))) : Good p.tables e below s G (T.setTop (mkF m pc Ls (.int y :: .int x :: st))) := by
  subst hp
  exact Good.go (fun _ q => XS.iand X.here hx rfl hd rfl q) k
theorem Good.imul (X : Stand p l e R s m args below meth c T locs cells slots) (hx : p.tables.exec = Jvm.exec) {pc pc' : Nat} {Ls : Array Slot} {x y : Int32} {st : List Value} (hp : pc + 1 = pc') (hd : decode c.code pc = .ok (.imul, 1))  (k : Good p.tables e below s G (T.setTop (mkF m pc' Ls (.int (x * y) :: st)))) : Good p.tables e below s G (T.setTop (mkF m pc Ls (.int y :: .int x :: st))) := by
  subst hp
  exact Good.go (fun _ q => XS.imul X.here hx rfl hd rfl q) k
theorem Good.ixor (X : Stand p l e R s m args below meth c T locs cells slots) (hx : p.tables.exec = Jvm.exec) {pc pc' : Nat} {Ls : Array Slot} {x y : Int32} {st : List Value} (hp : pc + 1 = pc') (hd : decode c.code pc = .ok (.ixor, 1))  (k : Good p.tables e below s G (T.setTop (mkF m pc' Ls (.int (x ^^^ y) :: st)))) : Good p.tables e below s G (T.setTop (mkF m pc Ls (.int y :: .int x :: st))) := by
  subst hp
  exact Good.go (fun _ q => XT.ixor X.here hx rfl hd rfl q) k
theorem Good.iushr (X : Stand p l e R s m args below meth c T locs cells slots) (hx : p.tables.exec = Jvm.exec) {pc pc' : Nat} {Ls : Array Slot} {x y : Int32} {st : List Value} (hp : pc + 1 = pc') (hd : decode c.code pc = .ok (.iushr, 1))  (k : Good p.tables e below s G (T.setTop (mkF m pc' Ls (.int (XT.ushr x y) :: st)))) : Good p.tables e below s G (T.setTop (mkF m pc Ls (.int y :: .int x :: st))) := by
  subst hp
  exact Good.go (fun _ q => XT.iushr X.here hx rfl hd rfl q) k
theorem Good.ishr (X : Stand p l e R s m args below meth c T locs cells slots) (hx : p.tables.exec = Jvm.exec) {pc pc' : Nat} {Ls : Array Slot} {x y : Int32} {st : List Value} (hp : pc + 1 = pc') (hd : decode c.code pc = .ok (.ishr, 1))  (k : Good p.tables e below s G (T.setTop (mkF m pc' Ls (.int (x >>> (y &&& 31)) :: st)))) : Good p.tables e below s G (T.setTop (mkF m pc Ls (.int y :: .int x :: st))) := by
  subst hp
  exact Good.go (fun _ q => XT.ishr X.here hx rfl hd rfl q) k
theorem Good.irem (X : Stand p l e R s m args below meth c T locs cells slots) (hx : p.tables.exec = Jvm.exec) {pc pc' : Nat} {Ls : Array Slot} {x y : Int32} {st : List Value} (hp : pc + 1 = pc') (hd : decode c.code pc = .ok (.irem, 1)) (hy : y ≠ 0) (k : Good p.tables e below s G (T.setTop (mkF m pc' Ls (.int (x % y) :: st)))) : Good p.tables e below s G (T.setTop (mkF m pc Ls (.int y :: .int x :: st))) := by
  subst hp
  exact Good.go (fun _ q => iremM X hx rfl hd rfl hy q) k
theorem Good.ladd (X : Stand p l e R s m args below meth c T locs cells slots) (hx : p.tables.exec = Jvm.exec) {pc pc' : Nat} {Ls : Array Slot} {x y : Int64} {st : List Value} (hp : pc + 1 = pc') (hd : decode c.code pc = .ok (.ladd, 1))  (k : Good p.tables e below s G (T.setTop (mkF m pc' Ls (.long (x + y) :: st)))) : Good p.tables e below s G (T.setTop (mkF m pc Ls (.long y :: .long x :: st))) := by
  subst hp
  exact Good.go (fun _ q => XT.ladd X.here hx rfl hd rfl q) k
theorem Good.lsub (X : Stand p l e R s m args below meth c T locs cells slots) (hx : p.tables.exec = Jvm.exec) {pc pc' : Nat} {Ls : Array Slot} {x y : Int64} {st : List Value} (hp : pc + 1 = pc') (hd : decode c.code pc = .ok (.lsub, 1))  (k : Good p.tables e below s G (T.setTop (mkF m pc' Ls (.long (x - y) :: st)))) : Good p.tables e below s G (T.setTop (mkF m pc Ls (.long y :: .long x :: st))) := by
  subst hp
  exact Good.go (fun _ q => XT.lsub X.here hx rfl hd rfl q) k
theorem Good.lrem (X : Stand p l e R s m args below meth c T locs cells slots) (hx : p.tables.exec = Jvm.exec) {pc pc' : Nat} {Ls : Array Slot} {x y : Int64} {st : List Value} (hp : pc + 1 = pc') (hd : decode c.code pc = .ok (.lrem, 1)) (hy : y ≠ 0) (k : Good p.tables e below s G (T.setTop (mkF m pc' Ls (.long (x - (x / y) * y) :: st)))) : Good p.tables e below s G (T.setTop (mkF m pc Ls (.long y :: .long x :: st))) := by
  subst hp
  exact Good.go (fun _ q => XT.lrem X.here hx rfl hd rfl hy q) k
theorem Good.i2l (X : Stand p l e R s m args below meth c T locs cells slots) (hx : p.tables.exec = Jvm.exec) {pc pc' : Nat} {Ls : Array Slot} {x : Int32} {st : List Value} (hp : pc + 1 = pc') (hd : decode c.code pc = .ok (.i2l, 1))  (k : Good p.tables e below s G (T.setTop (mkF m pc' Ls (.long x.toInt64 :: st)))) : Good p.tables e below s G (T.setTop (mkF m pc Ls (.int x :: st))) := by
  subst hp
  exact Good.go (fun _ q => XT.i2l X.here hx rfl hd rfl q) k
theorem Good.i2b (X : Stand p l e R s m args below meth c T locs cells slots) (hx : p.tables.exec = Jvm.exec) {pc pc' : Nat} {Ls : Array Slot} {x : Int32} {st : List Value} (hp : pc + 1 = pc') (hd : decode c.code pc = .ok (.i2b, 1))  (k : Good p.tables e below s G (T.setTop (mkF m pc' Ls (.int x.toInt8.toInt32 :: st)))) : Good p.tables e below s G (T.setTop (mkF m pc Ls (.int x :: st))) := by
  subst hp
  exact Good.go (fun _ q => XT.i2b X.here hx rfl hd rfl q) k
theorem Good.i2c (X : Stand p l e R s m args below meth c T locs cells slots) (hx : p.tables.exec = Jvm.exec) {pc pc' : Nat} {Ls : Array Slot} {x : Int32} {st : List Value} (hp : pc + 1 = pc') (hd : decode c.code pc = .ok (.i2c, 1))  (k : Good p.tables e below s G (T.setTop (mkF m pc' Ls (.int x.toUInt32.toUInt16.toUInt32.toInt32 :: st)))) : Good p.tables e below s G (T.setTop (mkF m pc Ls (.int x :: st))) := by
  subst hp
  exact Good.go (fun _ q => XT.i2c X.here hx rfl hd rfl q) k
theorem Good.l2i (X : Stand p l e R s m args below meth c T locs cells slots) (hx : p.tables.exec = Jvm.exec) {pc pc' : Nat} {Ls : Array Slot} {x : Int64} {st : List Value} (hp : pc + 1 = pc') (hd : decode c.code pc = .ok (.l2i, 1))  (k : Good p.tables e below s G (T.setTop (mkF m pc' Ls (.int x.toInt32 :: st)))) : Good p.tables e below s G (T.setTop (mkF m pc Ls (.long x :: st))) := by
  subst hp
  exact Good.go (fun _ q => XT.l2i X.here hx rfl hd rfl q) k
theorem Good.lshr (X : Stand p l e R s m args below meth c T locs cells slots) (hx : p.tables.exec = Jvm.exec) {pc pc' : Nat} {Ls : Array Slot} {x : Int64} {y : Int32} {st : List Value} (hp : pc + 1 = pc') (hd : decode c.code pc = .ok (.lshr, 1))  (k : Good p.tables e below s G (T.setTop (mkF m pc' Ls (.long (x >>> (y.toInt64 &&& 63)) :: st)))) : Good p.tables e below s G (T.setTop (mkF m pc Ls (.int y :: .long x :: st))) := by
  subst hp
  exact Good.go (fun _ q => XT.lshr X.here hx rfl hd rfl q) k
theorem Good.i2d (X : Stand p l e R s m args below meth c T locs cells slots) (hx : p.tables.exec = Jvm.exec) {pc pc' : Nat} {Ls : Array Slot} {x : Int32} {st : List Value} (hp : pc + 1 = pc') (hd : decode c.code pc = .ok (.i2d, 1))  (k : Good p.tables e below s G (T.setTop (mkF m pc' Ls (.double (FP.i2d x) :: st)))) : Good p.tables e below s G (T.setTop (mkF m pc Ls (.int x :: st))) := by
  subst hp
  refine Good.go (fun _ q => ?_) k
  show Steps p.tables e below (T.setTop { method := m, pc := pc, locals := Ls, stack := (.int x :: st), locked := none }) _
  jvm_step X.here [X.here.top, hx, hd]
  exact q
theorem Good.l2d (X : Stand p l e R s m args below meth c T locs cells slots) (hx : p.tables.exec = Jvm.exec) {pc pc' : Nat} {Ls : Array Slot} {x : Int64} {st : List Value} (hp : pc + 1 = pc') (hd : decode c.code pc = .ok (.l2d, 1))  (k : Good p.tables e below s G (T.setTop (mkF m pc' Ls (.double (FP.l2d x) :: st)))) : Good p.tables e below s G (T.setTop (mkF m pc Ls (.long x :: st))) := by
  subst hp
  refine Good.go (fun _ q => ?_) k
  show Steps p.tables e below (T.setTop { method := m, pc := pc, locals := Ls, stack := (.long x :: st), locked := none }) _
  jvm_step X.here [X.here.top, hx, hd]
  exact q
theorem Good.d2l (X : Stand p l e R s m args below meth c T locs cells slots) (hx : p.tables.exec = Jvm.exec) {pc pc' : Nat} {Ls : Array Slot} {x : UInt64} {st : List Value} (hp : pc + 1 = pc') (hd : decode c.code pc = .ok (.d2l, 1))  (k : Good p.tables e below s G (T.setTop (mkF m pc' Ls (.long (FP.d2l x) :: st)))) : Good p.tables e below s G (T.setTop (mkF m pc Ls (.double x :: st))) := by
  subst hp
  refine Good.go (fun _ q => ?_) k
  show Steps p.tables e below (T.setTop { method := m, pc := pc, locals := Ls, stack := (.double x :: st), locked := none }) _
  jvm_step X.here [X.here.top, hx, hd]
  exact q
theorem Good.dadd (X : Stand p l e R s m args below meth c T locs cells slots) (hx : p.tables.exec = Jvm.exec) {pc pc' : Nat} {Ls : Array Slot} {x y : UInt64} {st : List Value} (hp : pc + 1 = pc') (hd : decode c.code pc = .ok (.dadd, 1)) (hn : NoNaN64 (FP.dadd x y)) (k : Good p.tables e below s G (T.setTop (mkF m pc' Ls (.double (FP.dadd x y) :: st)))) : Good p.tables e below s G (T.setTop (mkF m pc Ls (.double y :: .double x :: st))) := by
  subst hp
  refine Good.go (fun _ q => ?_) k
  show Steps p.tables e below (T.setTop { method := m, pc := pc, locals := Ls, stack := (.double y :: .double x :: st), locked := none }) _
  jvm_step X.here [X.here.top, hx, hd, Op.dadd.at_number X.here.top hn]
  exact q
theorem Good.dsub (X : Stand p l e R s m args below meth c T locs cells slots) (hx : p.tables.exec = Jvm.exec) {pc pc' : Nat} {Ls : Array Slot} {x y : UInt64} {st : List Value} (hp : pc + 1 = pc') (hd : decode c.code pc = .ok (.dsub, 1)) (hn : NoNaN64 (FP.dsub x y)) (k : Good p.tables e below s G (T.setTop (mkF m pc' Ls (.double (FP.dsub x y) :: st)))) : Good p.tables e below s G (T.setTop (mkF m pc Ls (.double y :: .double x :: st))) := by
  subst hp
  refine Good.go (fun _ q => ?_) k
  show Steps p.tables e below (T.setTop { method := m, pc := pc, locals := Ls, stack := (.double y :: .double x :: st), locked := none }) _
  jvm_step X.here [X.here.top, hx, hd, Op.dsub.at_number X.here.top hn]
  exact q
theorem Good.dmul (X : Stand p l e R s m args below meth c T locs cells slots) (hx : p.tables.exec = Jvm.exec) {pc pc' : Nat} {Ls : Array Slot} {x y : UInt64} {st : List Value} (hp : pc + 1 = pc') (hd : decode c.code pc = .ok (.dmul, 1)) (hn : NoNaN64 (FP.dmul x y)) (k : Good p.tables e below s G (T.setTop (mkF m pc' Ls (.double (FP.dmul x y) :: st)))) : Good p.tables e below s G (T.setTop (mkF m pc Ls (.double y :: .double x :: st))) := by
  subst hp
  refine Good.go (fun _ q => ?_) k
  show Steps p.tables e below (T.setTop { method := m, pc := pc, locals := Ls, stack := (.double y :: .double x :: st), locked := none }) _
  jvm_step X.here [X.here.top, hx, hd, Op.dmul.at_number X.here.top hn]
  exact q
theorem Good.ddiv (X : Stand p l e R s m args below meth c T locs cells slots) (hx : p.tables.exec = Jvm.exec) {pc pc' : Nat} {Ls : Array Slot} {x y : UInt64} {st : List Value} (hp : pc + 1 = pc') (hd : decode c.code pc = .ok (.ddiv, 1)) (hn : NoNaN64 (FP.ddiv x y)) (k : Good p.tables e below s G (T.setTop (mkF m pc' Ls (.double (FP.ddiv x y) :: st)))) : Good p.tables e below s G (T.setTop (mkF m pc Ls (.double y :: .double x :: st))) := by
  subst hp
  refine Good.go (fun _ q => ?_) k
  show Steps p.tables e below (T.setTop { method := m, pc := pc, locals := Ls, stack := (.double y :: .double x :: st), locked := none }) _
  jvm_step X.here [X.here.top, hx, hd, Op.ddiv.at_number X.here.top hn]
  exact q
theorem Good.dcmp (X : Stand p l e R s m args below meth c T locs cells slots) (hx : p.tables.exec = Jvm.exec) {pc pc' : Nat} {Ls : Array Slot} {x y : UInt64} {op : CmpOp} {st : List Value} (hp : pc + 1 = pc') (hd : decode c.code pc = .ok (.dcmp op, 1))  (k : Good p.tables e below s G (T.setTop (mkF m pc' Ls (.int (cmpValue (FP.dcmp x y) op) :: st)))) : Good p.tables e below s G (T.setTop (mkF m pc Ls (.double y :: .double x :: st))) := by
  subst hp
  refine Good.go (fun _ q => ?_) k
  show Steps p.tables e below (T.setTop { method := m, pc := pc, locals := Ls, stack := (.double y :: .double x :: st), locked := none }) _
  jvm_step X.here [X.here.top, hx, hd]
  exact q
theorem Good.dup (X : Stand p l e R s m args below meth c T locs cells slots) (hx : p.tables.exec = Jvm.exec) {pc pc' : Nat} {Ls : Array Slot} {x : Value} {st : List Value} (hp : pc + 1 = pc') (hd : decode c.code pc = .ok (.dup, 1)) (hc : x.category = 1) (k : Good p.tables e below s G (T.setTop (mkF m pc' Ls (x :: x :: st)))) : Good p.tables e below s G (T.setTop (mkF m pc Ls (x :: st))) := by
  subst hp
  exact Good.go (fun _ q => XS.dup X.here hx rfl hd rfl hc q) k
theorem Good.istoreN (X : Stand p l e R s m args below meth c T locs cells slots) (hx : p.tables.exec = Jvm.exec) {pc pc' : Nat} {Ls : Array Slot} {k : Fin 4} {x : Int32} {Ls' : Array Slot} {st : List Value} (hp : pc + 1 = pc') (hd : decode c.code pc = .ok (.istore_n k, 1)) (hl : storeLocals Ls k.val (.int x) = some Ls') (k : Good p.tables e below s G (T.setTop (mkF m pc' Ls' st))) : Good p.tables e below s G (T.setTop (mkF m pc Ls (.int x :: st))) := by
  subst hp
  exact Good.go (fun _ q => XS.istoreN X.here hx rfl hd rfl hl q) k
theorem Good.istore (X : Stand p l e R s m args below meth c T locs cells slots) (hx : p.tables.exec = Jvm.exec) {pc pc' : Nat} {Ls : Array Slot} {k : Nat} {x : Int32} {Ls' : Array Slot} {st : List Value} (hp : pc + 2 = pc') (hd : decode c.code pc = .ok (.istore k, 2)) (hl : storeLocals Ls k (.int x) = some Ls') (k : Good p.tables e below s G (T.setTop (mkF m pc' Ls' st))) : Good p.tables e below s G (T.setTop (mkF m pc Ls (.int x :: st))) := by
  subst hp
  exact Good.go (fun _ q => XS.istore X.here hx rfl hd rfl hl q) k
theorem Good.astoreN (X : Stand p l e R s m args below meth c T locs cells slots) (hx : p.tables.exec = Jvm.exec) {pc pc' : Nat} {Ls : Array Slot} {k : Fin 4} {x : Value} {Ls' : Array Slot} {st : List Value} (hp : pc + 1 = pc') (hd : decode c.code pc = .ok (.astore_n k, 1)) (hv : x.isRef = true) (hl : storeLocals Ls k.val x = some Ls') (k : Good p.tables e below s G (T.setTop (mkF m pc' Ls' st))) : Good p.tables e below s G (T.setTop (mkF m pc Ls (x :: st))) := by
  subst hp
  exact Good.go (fun _ q => XS.astoreN X.here hx rfl hd rfl hv hl q) k
theorem Good.astore (X : Stand p l e R s m args below meth c T locs cells slots) (hx : p.tables.exec = Jvm.exec) {pc pc' : Nat} {Ls : Array Slot} {k : Nat} {x : Value} {Ls' : Array Slot} {st : List Value} (hp : pc + 2 = pc') (hd : decode c.code pc = .ok (.astore k, 2)) (hv : x.isRef = true) (hl : storeLocals Ls k x = some Ls') (k : Good p.tables e below s G (T.setTop (mkF m pc' Ls' st))) : Good p.tables e below s G (T.setTop (mkF m pc Ls (x :: st))) := by
  subst hp
  exact Good.go (fun _ q => XS.astore X.here hx rfl hd rfl hv hl q) k
theorem Good.lstoreN (X : Stand p l e R s m args below meth c T locs cells slots) (hx : p.tables.exec = Jvm.exec) {pc pc' : Nat} {Ls : Array Slot} {k : Fin 4} {x : Int64} {Ls' : Array Slot} {st : List Value} (hp : pc + 1 = pc') (hd : decode c.code pc = .ok (.lstore_n k, 1)) (hl : storeLocals Ls k.val (.long x) = some Ls') (k : Good p.tables e below s G (T.setTop (mkF m pc' Ls' st))) : Good p.tables e below s G (T.setTop (mkF m pc Ls (.long x :: st))) := by
  subst hp
  exact Good.go (fun _ q => XT.lstoreN X.here hx rfl hd rfl hl q) k
theorem Good.lstore (X : Stand p l e R s m args below meth c T locs cells slots) (hx : p.tables.exec = Jvm.exec) {pc pc' : Nat} {Ls : Array Slot} {k : Nat} {x : Int64} {Ls' : Array Slot} {st : List Value} (hp : pc + 2 = pc') (hd : decode c.code pc = .ok (.lstore k, 2)) (hl : storeLocals Ls k (.long x) = some Ls') (k : Good p.tables e below s G (T.setTop (mkF m pc' Ls' st))) : Good p.tables e below s G (T.setTop (mkF m pc Ls (.long x :: st))) := by
  subst hp
  exact Good.go (fun _ q => XT.lstore X.here hx rfl hd rfl hl q) k
theorem Good.dstoreN (X : Stand p l e R s m args below meth c T locs cells slots) (hx : p.tables.exec = Jvm.exec) {pc pc' : Nat} {Ls : Array Slot} {k : Fin 4} {x : UInt64} {Ls' : Array Slot} {st : List Value} (hp : pc + 1 = pc') (hd : decode c.code pc = .ok (.dstore_n k, 1)) (hl : storeLocals Ls k.val (.double x) = some Ls') (k : Good p.tables e below s G (T.setTop (mkF m pc' Ls' st))) : Good p.tables e below s G (T.setTop (mkF m pc Ls (.double x :: st))) := by
  subst hp
  refine Good.go (fun _ q => ?_) k
  show Steps p.tables e below (T.setTop { method := m, pc := pc, locals := Ls, stack := (.double x :: st), locked := none }) _
  jvm_step X.here [X.here.top, hx, hd, hl]
  exact q
theorem Good.dstore (X : Stand p l e R s m args below meth c T locs cells slots) (hx : p.tables.exec = Jvm.exec) {pc pc' : Nat} {Ls : Array Slot} {k : Nat} {x : UInt64} {Ls' : Array Slot} {st : List Value} (hp : pc + 2 = pc') (hd : decode c.code pc = .ok (.dstore k, 2)) (hl : storeLocals Ls k (.double x) = some Ls') (k : Good p.tables e below s G (T.setTop (mkF m pc' Ls' st))) : Good p.tables e below s G (T.setTop (mkF m pc Ls (.double x :: st))) := by
  subst hp
  refine Good.go (fun _ q => ?_) k
  show Steps p.tables e below (T.setTop { method := m, pc := pc, locals := Ls, stack := (.double x :: st), locked := none }) _
  jvm_step X.here [X.here.top, hx, hd, hl]
  exact q
theorem Good.iinc (X : Stand p l e R s m args below meth c T locs cells slots) (hx : p.tables.exec = Jvm.exec) {pc pc' : Nat} {Ls : Array Slot} {k : Nat} {cst : Int} {x : Int32} {w : Int32} {Ls' : Array Slot} {st : List Value} (hp : pc + 3 = pc') (hd : decode c.code pc = .ok (.iinc k cst, 3)) (hl : Ls[k]? = some (.val (.int x))) (hv : Int32.ofInt cst = w) (hl' : storeLocals Ls k (.int (x + w)) = some Ls') (k : Good p.tables e below s G (T.setTop (mkF m pc' Ls' st))) : Good p.tables e below s G (T.setTop (mkF m pc Ls st)) := by
  subst hp; subst hv
  exact Good.go (fun _ q => XS.iinc X.here hx rfl hd hl hl' q) k
theorem Good.goto (X : Stand p l e R s m args below meth c T locs cells slots) (hx : p.tables.exec = Jvm.exec) {pc pc' : Nat} {Ls : Array Slot} {st : List Value} {o : Int} (hp : (pc : Int) + o = (pc' : Int)) (hd : decode c.code pc = .ok (.goto o, 3))  (k : Good p.tables e below s G (T.setTop (mkF m pc' Ls st))) : Good p.tables e below s G (T.setTop (mkF m pc Ls st)) :=
  Good.go (fun _ q => XS.goto X.here hx rfl (pc0 := pc) (pc' := pc') rfl hd (by omega) (by omega) q) k
theorem Good.ifYes (X : Stand p l e R s m args below meth c T locs cells slots) (hx : p.tables.exec = Jvm.exec) {pc pc' : Nat} {Ls : Array Slot} {cd : ClassFile.Cond} {x : Int32} {st : List Value} {o : Int} (hp : (pc : Int) + o = (pc' : Int)) (hd : decode c.code pc = .ok (.ifCond cd o, 3)) (hc : ifCond.holds cd x = true) (k : Good p.tables e below s G (T.setTop (mkF m pc' Ls st))) : Good p.tables e below s G (T.setTop (mkF m pc Ls (.int x :: st))) :=
  Good.go (fun _ q => XS.ifYes X.here hx rfl (pc0 := pc) (pc' := pc') rfl hd rfl hc (by omega) (by omega) q) k
theorem Good.ifNo (X : Stand p l e R s m args below meth c T locs cells slots) (hx : p.tables.exec = Jvm.exec) {pc pc' : Nat} {Ls : Array Slot} {cd : ClassFile.Cond} {o : Int} {x : Int32} {st : List Value} (hp : pc + 3 = pc') (hd : decode c.code pc = .ok (.ifCond cd o, 3)) (hc : ifCond.holds cd x = false) (k : Good p.tables e below s G (T.setTop (mkF m pc' Ls st))) : Good p.tables e below s G (T.setTop (mkF m pc Ls (.int x :: st))) := by
  subst hp
  exact Good.go (fun _ q => XS.ifNo X.here hx rfl hd rfl hc q) k
theorem Good.icmpYes (X : Stand p l e R s m args below meth c T locs cells slots) (hx : p.tables.exec = Jvm.exec) {pc pc' : Nat} {Ls : Array Slot} {cd : ClassFile.Cond} {x y : Int32} {st : List Value} {o : Int} (hp : (pc : Int) + o = (pc' : Int)) (hd : decode c.code pc = .ok (.if_icmp cd o, 3)) (hc : if_icmp.holds cd x y = true) (k : Good p.tables e below s G (T.setTop (mkF m pc' Ls st))) : Good p.tables e below s G (T.setTop (mkF m pc Ls (.int y :: .int x :: st))) :=
  Good.go (fun _ q => XS.icmpYes X.here hx rfl (pc0 := pc) (pc' := pc') rfl hd rfl hc (by omega) (by omega) q) k
theorem Good.icmpNo (X : Stand p l e R s m args below meth c T locs cells slots) (hx : p.tables.exec = Jvm.exec) {pc pc' : Nat} {Ls : Array Slot} {cd : ClassFile.Cond} {o : Int} {x y : Int32} {st : List Value} (hp : pc + 3 = pc') (hd : decode c.code pc = .ok (.if_icmp cd o, 3)) (hc : if_icmp.holds cd x y = false) (k : Good p.tables e below s G (T.setTop (mkF m pc' Ls st))) : Good p.tables e below s G (T.setTop (mkF m pc Ls (.int y :: .int x :: st))) := by
  subst hp
  exact Good.go (fun _ q => XS.icmpNo X.here hx rfl hd rfl hc q) k
theorem Good.ifnullYes (X : Stand p l e R s m args below meth c T locs cells slots) (hx : p.tables.exec = Jvm.exec) {pc pc' : Nat} {Ls : Array Slot} {st : List Value} {o : Int} (hp : (pc : Int) + o = (pc' : Int)) (hd : decode c.code pc = .ok (.ifnull o, 3))  (k : Good p.tables e below s G (T.setTop (mkF m pc' Ls st))) : Good p.tables e below s G (T.setTop (mkF m pc Ls (.null :: st))) :=
  Good.go (fun _ q => XS.ifnullYes X.here hx rfl (pc0 := pc) (pc' := pc') rfl hd rfl (by omega) (by omega) q) k
theorem Good.ifnullNo (X : Stand p l e R s m args below meth c T locs cells slots) (hx : p.tables.exec = Jvm.exec) {pc pc' : Nat} {Ls : Array Slot} {o : Int} {b : Addr} {st : List Value} (hp : pc + 3 = pc') (hd : decode c.code pc = .ok (.ifnull o, 3))  (k : Good p.tables e below s G (T.setTop (mkF m pc' Ls st))) : Good p.tables e below s G (T.setTop (mkF m pc Ls (.ref b :: st))) := by
  subst hp
  exact Good.go (fun _ q => XS.ifnullNo X.here hx rfl hd rfl q) k
theorem Good.acmpYes (X : Stand p l e R s m args below meth c T locs cells slots) (hx : p.tables.exec = Jvm.exec) {pc pc' : Nat} {Ls : Array Slot} {cd : ClassFile.ACond} {x y : Value} {st : List Value} {o : Int} (hp : (pc : Int) + o = (pc' : Int)) (hd : decode c.code pc = .ok (.if_acmp cd o, 3)) (h1 : x.isRef = true) (h2 : y.isRef = true) (hc : XT.acmp cd x y = true) (k : Good p.tables e below s G (T.setTop (mkF m pc' Ls st))) : Good p.tables e below s G (T.setTop (mkF m pc Ls (y :: x :: st))) :=
  Good.go (fun _ q => XT.acmpYes X.here hx rfl (pc0 := pc) (pc' := pc') rfl hd rfl h1 h2 hc (by omega) (by omega) q) k
theorem Good.acmpNo (X : Stand p l e R s m args below meth c T locs cells slots) (hx : p.tables.exec = Jvm.exec) {pc pc' : Nat} {Ls : Array Slot} {cd : ClassFile.ACond} {o : Int} {x y : Value} {st : List Value} (hp : pc + 3 = pc') (hd : decode c.code pc = .ok (.if_acmp cd o, 3)) (h1 : x.isRef = true) (h2 : y.isRef = true) (hc : XT.acmp cd x y = false) (k : Good p.tables e below s G (T.setTop (mkF m pc' Ls st))) : Good p.tables e below s G (T.setTop (mkF m pc Ls (y :: x :: st))) := by
  subst hp
  exact Good.go (fun _ q => XT.acmpNo X.here hx rfl hd rfl h1 h2 hc q) k
theorem Good.ifFork (X : Stand p l e R s m args below meth c T locs cells slots) (hx : p.tables.exec = Jvm.exec) {pc pc1 pc2 : Nat} {Ls : Array Slot} {cd : ClassFile.Cond} {o : Int} {x : Int32} {st : List Value} (hd : decode c.code pc = .ok (.ifCond cd o, 3)) (hp1 : (pc : Int) + o = (pc1 : Int)) (hp2 : pc + 3 = pc2) (k1 : ifCond.holds cd x = true → Good p.tables e below s G (T.setTop (mkF m pc1 Ls st))) (k2 : ifCond.holds cd x = false → Good p.tables e below s G (T.setTop (mkF m pc2 Ls st))) : Good p.tables e below s G (T.setTop (mkF m pc Ls (.int x :: st))) := by
  cases hc : ifCond.holds cd x
  · exact Good.ifNo X hx hp2 hd hc (k2 hc)
  · exact Good.ifYes X hx hp1 hd hc (k1 hc)
theorem Good.icmpFork (X : Stand p l e R s m args below meth c T locs cells slots) (hx : p.tables.exec = Jvm.exec) {pc pc1 pc2 : Nat} {Ls : Array Slot} {cd : ClassFile.Cond} {o : Int} {x y : Int32} {st : List Value} (hd : decode c.code pc = .ok (.if_icmp cd o, 3)) (hp1 : (pc : Int) + o = (pc1 : Int)) (hp2 : pc + 3 = pc2) (k1 : if_icmp.holds cd x y = true → Good p.tables e below s G (T.setTop (mkF m pc1 Ls st))) (k2 : if_icmp.holds cd x y = false → Good p.tables e below s G (T.setTop (mkF m pc2 Ls st))) : Good p.tables e below s G (T.setTop (mkF m pc Ls (.int y :: .int x :: st))) := by
  cases hc : if_icmp.holds cd x y
  · exact Good.icmpNo X hx hp2 hd hc (k2 hc)
  · exact Good.icmpYes X hx hp1 hd hc (k1 hc)
variable {Z : State} {a0 : Array Value} {h : Heap}
theorem Good.ldcI (X : Stand p l e R s m args below meth c T locs cells slots) (hx : p.tables.exec = Jvm.exec) (hZ : Z.Warmed39 s.vm) {own : String} {index : Nat} {v : Int32} (hown : s.vm.findClass own = some m.cls) (w : (Cond.constant own index v).before a0 Z = true) {pc pc' : Nat} {Ls : Array Slot} {st : List Value} (hp : pc + 2 = pc') (hd : decode c.code pc = .ok (.ldc index, 2)) (k : Good p.tables e below s G (T.setTop (mkF m pc' Ls (.int v :: st)))) : Good p.tables e below s G (T.setTop (mkF m pc Ls st)) := by
  subst hp
  exact Good.go (fun _ q => X.ldcInt hx hown (mvT hZ w) (g := mkF m pc Ls st) rfl hd _ q) k
theorem Good.ldc2J (X : Stand p l e R s m args below meth c T locs cells slots) (hx : p.tables.exec = Jvm.exec) (hZ : Z.Warmed39 s.vm) {own : String} {index : Nat} {v : Int64} (hown : s.vm.findClass own = some m.cls) (w : (Cond.constantLong own index v).before a0 Z = true) {pc pc' : Nat} {Ls : Array Slot} {st : List Value} (hp : pc + 3 = pc') (hd : decode c.code pc = .ok (.ldc2_w index, 3)) (k : Good p.tables e below s G (T.setTop (mkF m pc' Ls (.long v :: st)))) : Good p.tables e below s G (T.setTop (mkF m pc Ls st)) := by
  subst hp
  exact Good.go (fun _ q => X.ldc2Long hx hown (mvT hZ w) (g := mkF m pc Ls st) rfl hd _ q) k
theorem Good.ldc2D (X : Stand p l e R s m args below meth c T locs cells slots) (hx : p.tables.exec = Jvm.exec) (hZ : Z.Warmed39 s.vm) {own : String} {index : Nat} {v : UInt64} (hown : s.vm.findClass own = some m.cls) (w : (Cond.constantDouble own index v).before a0 Z = true) {pc pc' : Nat} {Ls : Array Slot} {st : List Value} (hp : pc + 3 = pc') (hd : decode c.code pc = .ok (.ldc2_w index, 3)) (k : Good p.tables e below s G (T.setTop (mkF m pc' Ls (.double v :: st)))) : Good p.tables e below s G (T.setTop (mkF m pc Ls st)) := by
  subst hp
  exact Good.go (fun _ q => X.ldc2DoubleC hx hown (mvT hZ w) (g := mkF m pc Ls st) rfl hd _ q) k
theorem Good.daload (X : Stand p l e R s m args below meth c T locs cells slots) (hx : p.tables.exec = Jvm.exec) (hZ : Z.Warmed39 s.vm) (eT : T.heap = h) {a : Addr} {cl : Cell} {j : Int32} {v : UInt64} (A : Arr Z h a cl .double) (hin : ¬ (j < 0 ∨ cl.slots.size ≤ j.toNatClampNeg)) (hv : cl.slots[j.toNatClampNeg]? = some (.double v)) {pc pc' : Nat} {Ls : Array Slot} {st : List Value} (hp : pc + 1 = pc') (hd : decode c.code pc = .ok (.daload, 1)) (k : Good p.tables e below s G (T.setTop (mkF m pc' Ls (.double v :: st)))) : Good p.tables e below s G (T.setTop (mkF m pc Ls (.int j :: .ref a :: st))) := by
  subst hp
  exact Good.go (fun _ q => X.daload hx (by rw [eT]; exact A.1) (State.isArrayOf_alike hZ.alike A.2.1) A.2.2 hin hv (g := mkF m pc Ls (.int j :: .ref a :: st)) rfl rfl hd _ q) k
theorem stD (X : Stand p l e R s m args below meth c T locs cells slots) (hx : p.tables.exec = Jvm.exec) (hZ : Z.Warmed39 s.vm) (eT : T.heap = h) {a : Addr} {cl : Cell} (A : Arr Z h a cl .double) {j : Int32} {x : UInt64} (hj : ¬ (j < 0 ∨ cl.slots.size ≤ j.toNatClampNeg)) {g : JFrame} (hg : g.method = m) {rest : List Value} (hs : g.stack = .double x :: .int j :: .ref a :: rest) (hd : decode c.code g.pc = .ok (.dastore, 1)) :
    ∃ T' h', Stand p l e R s m args below meth c T' (locs ++ [⟨a, j.toNatClampNeg⟩]) cells slots ∧ T'.heap = h' ∧ Wr h h' a j.toNatClampNeg (.double x) ∧ ∀ target, Steps p.tables e below (T'.setTop { g with pc := g.pc + 1, stack := rest }) target → Steps p.tables e below (T.setTop g) target := by
  obtain ⟨X', st⟩ := X.dastore hx (by rw [eT]; exact A.1) (State.isArrayOf_alike hZ.alike A.2.1) A.2.2 hj hg hs hd
  exact ⟨_, _, X', rfl, ⟨cl, A.1, A.plain, Nat.lt_of_not_le fun q => hj (Or.inr q), by rw [← eT]; rfl⟩, st⟩
theorem Good.dastore (X : Stand p l e R s m args below meth c T locs cells slots) (hx : p.tables.exec = Jvm.exec) (hZ : Z.Warmed39 s.vm) (eT : T.heap = h) {a : Addr} {cl : Cell} {j : Int32} {x : UInt64} (A : Arr Z h a cl .double) (hin : ¬ (j < 0 ∨ cl.slots.size ≤ j.toNatClampNeg)) {pc pc' : Nat} {Ls : Array Slot} {st : List Value} (hp : pc + 1 = pc') (hd : decode c.code pc = .ok (.dastore, 1))
    (k : ∀ T' h', Stand p l e R s m args below meth c T' (locs ++ [⟨a, j.toNatClampNeg⟩]) cells slots → T'.heap = h' → Wr h h' a j.toNatClampNeg (.double x) → Good p.tables e below s G (T'.setTop (mkF m pc' Ls st))) : Good p.tables e below s G (T.setTop (mkF m pc Ls (.double x :: .int j :: .ref a :: st))) := by
  subst hp
  obtain ⟨T', h', X', e', W', st'⟩ := stD X hx hZ eT A hin (g := mkF m pc Ls (.double x :: .int j :: .ref a :: st)) rfl rfl hd
  exact Good.go st' (k T' h' X' e' W')
theorem Good.iastore (X : Stand p l e R s m args below meth c T locs cells slots) (hx : p.tables.exec = Jvm.exec) (hZ : Z.Warmed39 s.vm) (eT : T.heap = h) {a : Addr} {cl : Cell} {j : Int32} {x : Int32} (A : Arr Z h a cl .int) (hin : ¬ (j < 0 ∨ cl.slots.size ≤ j.toNatClampNeg)) {pc pc' : Nat} {Ls : Array Slot} {st : List Value} (hp : pc + 1 = pc') (hd : decode c.code pc = .ok (.iastore, 1))
    (k : ∀ T' h', Stand p l e R s m args below meth c T' (locs ++ [⟨a, j.toNatClampNeg⟩]) cells slots → T'.heap = h' → Wr h h' a j.toNatClampNeg (.int x) → Good p.tables e below s G (T'.setTop (mkF m pc' Ls st))) : Good p.tables e below s G (T.setTop (mkF m pc Ls (.int x :: .int j :: .ref a :: st))) := by
  subst hp
  obtain ⟨T', h', X', e', W', st'⟩ := stI X hx hZ eT A hin (g := mkF m pc Ls (.int x :: .int j :: .ref a :: st)) rfl rfl hd
  exact Good.go st' (k T' h' X' e' W')
theorem Good.arraylength (X : Stand p l e R s m args below meth c T locs cells slots) (hx : p.tables.exec = Jvm.exec) (hZ : Z.Warmed39 s.vm) (eT : T.heap = h) {a : Addr} {cl : Cell} {ty : FieldType} (A : Arr Z h a cl ty) {n : Int32} (hn : cl.slots.size = n.toNatClampNeg) (hn0 : ¬ n < 0) {pc pc' : Nat} {Ls : Array Slot} {st : List Value} (hp : pc + 1 = pc') (hd : decode c.code pc = .ok (.arraylength, 1)) (k : Good p.tables e below s G (T.setTop (mkF m pc' Ls (.int n :: st)))) : Good p.tables e below s G (T.setTop (mkF m pc Ls (.ref a :: st))) := by
  subst hp
  refine Good.go (fun t q => X.arraylength hx (by rw [eT]; exact A.1) (State.isArrayOf_alike hZ.alike A.2.1) (g := mkF m pc Ls (.ref a :: st)) rfl rfl hd t ?_) k
  rw [len_of hn hn0]; exact q
theorem Good.getfield (X : Stand p l e R s m args below meth c T locs cells slots) (hx : p.tables.exec = Jvm.exec) (hZ : Z.Warmed39 s.vm) {own R0 O n d : String} {index : Nat} (hown : s.vm.findClass own = some m.cls) (w : (Cond.fieldLink own index R0 n d).before a0 Z = true) (via : Via Z R0 O n d) (eT : T.heap = h) {a : Addr} {v : Value} (F : Fld Z h a O n d v) {pc pc' : Nat} {Ls : Array Slot} {st : List Value} (hp : pc + 3 = pc') (hd : decode c.code pc = .ok (.getfield index, 3))
    (k : ∀ T', Stand p l e R s m args below meth c T' locs cells slots → T'.heap = h → Good p.tables e below s G (T'.setTop (mkF m pc' Ls (v :: st)))) : Good p.tables e below s G (T.setTop (mkF m pc Ls (.ref a :: st))) := by
  subst hp
  obtain ⟨T', X', e', st'⟩ := getF X hx hZ hown (host := "") (Or.inl w) via eT F (g := mkF m pc Ls (.ref a :: st)) rfl rfl hd
  exact Good.go st' (k T' X' e')
theorem Good.getstatic (X : Stand p l e R s m args below meth c T locs cells slots) (hx : p.tables.exec = Jvm.exec) (hZ : Z.Warmed39 s.vm) {own R0 O n d : String} {index : Nat} (hown : s.vm.findClass own = some m.cls) (w : (Cond.fieldLink own index R0 n d).before a0 Z = true) (via : Via Z R0 O n d) (eT : T.heap = h) {v : Value} (F : Sta Z h O n d v) {pc pc' : Nat} {Ls : Array Slot} {st : List Value} (hp : pc + 3 = pc') (hd : decode c.code pc = .ok (.getstatic index, 3))
    (k : ∀ T', Stand p l e R s m args below meth c T' locs cells slots → T'.heap = h → Good p.tables e below s G (T'.setTop (mkF m pc' Ls (v :: st)))) : Good p.tables e below s G (T.setTop (mkF m pc Ls st)) := by
  subst hp
  obtain ⟨T', X', e', st'⟩ := getS2 X hx hZ hown (host := "") (Or.inl w) via eT F (g := mkF m pc Ls st) rfl hd
  exact Good.go st' (k T' X' e')
theorem Good.putfield (X : Stand p l e R s m args below meth c T locs cells slots) (hx : p.tables.exec = Jvm.exec) (hZ : Z.Warmed39 s.vm) {own R0 O n d C : String} {index kk : Nat} {ty : FieldType} (hown : s.vm.findClass own = some m.cls) (w : (Cond.fieldLink own index R0 n d).before a0 Z = true) (via : Via Z R0 O n d) (eT : T.heap = h) {a : Addr} {v old : Value} (F : Fld Z h a O n d old) (E : Exa Z h a C) (L : (Cond.lays C O n d).before a0 Z = true ∨ ((Cond.laysFinal C O n d).before a0 Z = true ∧ own = O ∧ meth.name = "<init>")) (wi : (Cond.instantiable C kk).before a0 Z = true) (hty : parseFieldDescriptor d = some ty) (hn : narrow ty v = v) (hf : fits ty v = true) {pc pc' : Nat} {Ls : Array Slot} {st : List Value} (hp : pc + 3 = pc') (hd : decode c.code pc = .ok (.putfield index, 3))
    (k : ∀ T' h', Stand p l e R s m args below meth c T' (locs ++ [⟨a, RoadKit.slotOf Z O n d⟩]) cells slots → T'.heap = h' → Wr h h' a (RoadKit.slotOf Z O n d) v → Good p.tables e below s G (T'.setTop (mkF m pc' Ls st))) : Good p.tables e below s G (T.setTop (mkF m pc Ls (v :: .ref a :: st))) := by
  subst hp
  obtain ⟨T', h', X', e', W', st'⟩ := putF X hx hZ hown (host := "") (Or.inl w) via eT F E L wi hty hn hf (g := mkF m pc Ls (v :: .ref a :: st)) rfl rfl hd
  exact Good.go st' (k T' h' X' e' W')
theorem Good.new (X : Stand p l e R s m args below meth c T locs cells slots) (hx : p.tables.exec = Jvm.exec) (hZ : Z.Warmed39 s.vm) {own C : String} {index n : Nat} (hown : s.vm.findClass own = some m.cls) (w : (Cond.classLink own index C).before a0 Z = true) (wi : (Cond.instantiable C n).before a0 Z = true) (wz : (Cond.initialized C).before a0 Z = true) (eT : T.heap = h) {pc pc' : Nat} {Ls : Array Slot} {st : List Value} (hp : pc + 3 = pc') (hd : decode c.code pc = .ok (.new index, 3)) (hc : cells + 1 ≤ R.cells) (hl : slots + n ≤ R.slots)
    (k : ∀ T' h' b, b = h.size → Stand p l e R s m args below meth c T' locs (cells + 1) (slots + n) → T'.heap = h' → Ext h h' → Exa Z h' b C → (∀ {O nm d : String} {ty : FieldType}, Laid Z a0 C O nm d → parseFieldDescriptor d = some ty → Fld Z h' b O nm d (defaultValue ty)) → Good p.tables e below s G (T'.setTop (mkF m pc' Ls (.ref b :: st)))) : Good p.tables e below s G (T.setTop (mkF m pc Ls st)) := by
  subst hp
  obtain ⟨T', h', X', e', E', A', D', -, st'⟩ := newO X hx hZ hown w wi wz eT (g := mkF m pc Ls st) rfl hd hc hl
  exact Good.go st' (k T' h' _ rfl X' e' E' A' D')
theorem Good.newarray (X : Stand p l e R s m args below meth c T locs cells slots) (hx : p.tables.exec = Jvm.exec) (hZ : Z.Warmed39 s.vm) {aty : ArrayType} (w : (Cond.arrayClass (newarray.typeOf aty)).before a0 Z = true) (eT : T.heap = h) {n : Int32} {pc pc' : Nat} {Ls : Array Slot} {st : List Value} (hp : pc + 2 = pc') (hd : decode c.code pc = .ok (.newarray aty, 2)) (hn : ¬ n < 0) {cap : Nat} (hcap : n.toNatClampNeg ≤ cap) (hb : cap * 8 ≤ 536870912) (hc : cells + 1 ≤ R.cells) (hl : slots + cap ≤ R.slots)
    (k : ∀ T' h' cA b, b = h.size → Stand p l e R s m args below meth c T' locs (cells + 1) (slots + cap) → T'.heap = h' → Ext h h' → Arr Z h' b (newA cA (newarray.typeOf aty) n) (newarray.typeOf aty) → Good p.tables e below s G (T'.setTop (mkF m pc' Ls (.ref b :: st)))) : Good p.tables e below s G (T.setTop (mkF m pc Ls (.int n :: st))) := by
  subst hp
  obtain ⟨T', h', cA, X', e', E', A', st'⟩ := newP X hx hZ w eT (g := mkF m pc Ls (.int n :: st)) rfl hd rfl hn hcap hb hc hl
  exact Good.go st' (k T' h' cA _ rfl X' e' E' A')
theorem Good.initO (X : Stand p l e R s m args below meth c T locs cells slots) (hx : p.tables.exec = Jvm.exec) (hZ : Z.Warmed39 s.vm) {own : String} {idx : Nat} (hown : s.vm.findClass own = some m.cls) (w1 : (Cond.methodLink own idx Lib.objectInit).before a0 Z = true) (w2 : (Cond.instanceMethod Lib.objectInit).before a0 Z = true) (w3 : (Cond.code Lib.objectInit ⟨#[0xb1]⟩ 1 none).before a0 Z = true) (eT : T.heap = h) {a : Addr} {pc pc' : Nat} {Ls : Array Slot} {rest : List Value} (hp : pc + 3 = pc') (hsz : Ls.size = c.maxLocals) (hd : decode c.code pc = .ok (.invokespecial idx, 3)) (hf : 1 ≤ R.frames) {W : Nat} (hW : (rest.map fun v => v.category).sum ≤ W) (hlo : W + 12 ≤ R.locals)
    (k : ∀ T', Stand p l e R s m args below meth c T' locs cells slots → T'.heap = h → Good p.tables e below s G (T'.setTop (mkF m pc' Ls rest))) : Good p.tables e below s G (T.setTop (mkF m pc Ls (.ref a :: rest))) := by
  subst hp
  obtain ⟨T', X', e', st'⟩ := Jvm.RoadKit.initO X hx hZ hown w1 w2 w3 eT (g := mkF m pc Ls (.ref a :: rest)) rfl hsz rfl hd hf (W := W) (by simpa using hW) hlo
  exact Good.go st' (k T' X' e')
/-- the contract of a body: called with these arguments on this heap it returns, and Q holds -/
def Con (l : Launch) (Z : State) (y : MethodName) (bytes : ByteArray) (maxL : Nat) (ret : Option FieldType) (rm : Room) (as' : Array Value) (h : Heap) (Q : Option Value → Heap → List Loc → Prop) : Prop :=
  ∀ ws : List Cond, MetFree l y (head1 (Cond.code y bytes maxL ret :: ws) rm) (fun a U => a = as' ∧ Z.Warmed39 U.vm ∧ U.heap = h) (fun _ _ _ _ _ => True) (fun _ U o U' => ∃ v L, o = .returned v ∧ Q v U'.heap L ∧ FrameEnd U o U' L rm.cells rm.slots)
theorem Con.body {y : MethodName} {bytes : ByteArray} {maxL : Nat} {ret : Option FieldType} {rm : Room} {as' : Array Value} {Q : Option Value → Heap → List Loc → Prop} (hpl : plainFor y = true)
    (B : ∀ G : Option Value → Heap → List Loc → Nat → Nat → Prop, (∀ v h' L k n, Q v h' L → k ≤ rm.cells → n ≤ rm.slots → G v h' L k n) → ∀ (p : Program) (e : Env) (s : State) (m : MethodId) (below : List Frame) (meth : Method) (c : Code) (T : State), Stand p l e rm s m as' below meth c T [] 0 0 → p.tables.exec = Jvm.exec → c.code = bytes → c.maxLocals = maxL → s.vm.findClass y.cls = some m.cls → meth.name = y.name → meth.sig.returnType = ret → meth.locks = false → Z.Warmed39 s.vm → T.heap = h →
      Good p.tables e below s G (T.setTop (entryFrame m as' maxL))) : Con l Z y bytes maxL ret rm as' h Q := by
  intro ws
  refine MetFree.of_bodySF hpl hisR ?_
  intro p e s m args below meth c s₁ Bd hml hP hK
  obtain ⟨rfl, hZ, hh⟩ := hP
  obtain ⟨T, fs, v, L, k, n, q, h1, h2, h3, h4, hQ, hk, hn⟩ := B (fun v h' L k n => Q v h' L ∧ k ≤ rm.cells ∧ n ≤ rm.slots) (fun _ _ _ _ _ a b c => ⟨a, b, c⟩) p e s m below meth c s₁ (Stand.of_body Bd) Bd.exec Bd.bytes hml (findClass_of_methodNamed Bd.named) (name_of_methodNamed Bd.named Bd.method).1 Bd.returns Bd.notSynchronized hZ (by rw [← hh, Bd.state]; rfl)
  exact ⟨_, _, q, h1, h2, v, L, rfl, hQ, ⟨_, rfl⟩, h3, h4.mono hk hn⟩
theorem Good.callS (X : Stand p l e R s m args below meth c T locs cells slots) (hx : p.tables.exec = Jvm.exec) (hZ : Z.Warmed39 s.vm) {own : String} {index : Nat} {y : MethodName} {bytes : ByteArray} {maxL : Nat} {ret : Option FieldType} {rm : Room} {Q : Option Value → Heap → List Loc → Prop} (hown : s.vm.findClass own = some m.cls) (w1 : (Cond.methodLink own index y).before a0 Z = true) (w2 : (Cond.static y).before a0 Z = true) (w3 : (Cond.initialized y.cls).before a0 Z = true) (w4 : (Cond.code y bytes maxL ret).before a0 Z = true) (hy : y.cls ≠ "java/lang/invoke/MethodHandle" ∧ y.cls ≠ "java/lang/invoke/VarHandle") (eT : T.heap = h) {argsL rest : List Value} (K : Con l Z y bytes maxL ret rm argsL.toArray h Q) {ps : List FieldType} {r : Option FieldType} (hdesc : parseMethodDescriptor y.desc = some ⟨ps, r⟩) (hlen : argsL.length = ps.length) {pc pc' : Nat} {Ls : Array Slot} {st : List Value} (hp : pc + 3 = pc') (hsz : Ls.size = c.maxLocals) (hs : st = argsL.reverse ++ rest) (hd : decode c.code pc = .ok (.invokestatic index, 3)) {W : Nat} (hW : (rest.map fun v => v.category).sum ≤ W) (hf : rm.frames + 1 ≤ R.frames) (hlo : W + (maxL + 11) + rm.locals ≤ R.locals) (hce : cells + rm.cells ≤ R.cells) (hsl : slots + rm.slots ≤ R.slots)
    (k : ∀ v T' L, Stand p l e R s m args below meth c T' (locs ++ L) (cells + rm.cells) (slots + rm.slots) → Q v T'.heap L → Good p.tables e below s G (T'.setTop (mkF m pc' Ls (v.toList ++ rest)))) : Good p.tables e below s G (T.setTop (mkF m pc Ls st)) := by
  subst hp hs
  obtain ⟨v, vm₁, ⟨T', L', k', n'⟩, -, X', ⟨L, hQ, l1, l2, l3⟩, st⟩ := Jvm.LawKit.callS X hx (y := y) hown (mvT hZ w1) (mvT hZ w2) (mvT hZ w3) (mvT hZ w4) hy (backOf (W := W) (K []) hZ w4 w3 hf hlo) (g := mkF m pc Ls (argsL.reverse ++ rest)) rfl hsz (argsL := argsL) (rest := rest) (lenOf hdesc hlen) rfl (by simpa using hW) hd (fun _ _ => ⟨rfl, eT, hce, hsl⟩)
  dsimp only [Pt.U, Pt.locs, Pt.cells, Pt.slots] at X' l1 l2 l3 st hQ
  subst l1 l2 l3
  exact Good.go st (k v T' L X' hQ)
theorem Good.callN (X : Stand p l e R s m args below meth c T locs cells slots) (hx : p.tables.exec = Jvm.exec) (hZ : Z.Warmed39 s.vm) {own : String} {index : Nat} {y : MethodName} {bytes : ByteArray} {maxL : Nat} {rm : Room} {Q : Option Value → Heap → List Loc → Prop} (hyn : y.name = "<init>") (hown : s.vm.findClass own = some m.cls) (w1 : (Cond.methodLink own index y).before a0 Z = true) (w2 : (Cond.instanceMethod y).before a0 Z = true) (w3 : (Cond.initialized y.cls).before a0 Z = true) (w4 : (Cond.code y bytes maxL none).before a0 Z = true) (hy : y.cls ≠ "java/lang/invoke/MethodHandle" ∧ y.cls ≠ "java/lang/invoke/VarHandle") (eT : T.heap = h) {a : Addr} {argsL rest : List Value} (K : Con l Z y bytes maxL none rm (.ref a :: argsL).toArray h Q) {ps : List FieldType} {r : Option FieldType} (hdesc : parseMethodDescriptor y.desc = some ⟨ps, r⟩) (hlen : argsL.length = ps.length) {pc pc' : Nat} {Ls : Array Slot} {st : List Value} (hp : pc + 3 = pc') (hsz : Ls.size = c.maxLocals) (hs : st = argsL.reverse ++ .ref a :: rest) (hd : decode c.code pc = .ok (.invokespecial index, 3)) {W : Nat} (hW : (rest.map fun v => v.category).sum ≤ W) (hf : rm.frames + 1 ≤ R.frames) (hlo : W + (maxL + 11) + rm.locals ≤ R.locals) (hce : cells + rm.cells ≤ R.cells) (hsl : slots + rm.slots ≤ R.slots)
    (k : ∀ v T' L, Stand p l e R s m args below meth c T' (locs ++ L) (cells + rm.cells) (slots + rm.slots) → Q v T'.heap L → Good p.tables e below s G (T'.setTop (mkF m pc' Ls (v.toList ++ rest)))) : Good p.tables e below s G (T.setTop (mkF m pc Ls st)) := by
  subst hp hs
  obtain ⟨v, vm₁, ⟨T', L', k', n'⟩, -, X', ⟨L, hQ, l1, l2, l3⟩, st⟩ := X.specialBack hx (y := y) hyn hown (mvT hZ w1) (mvT hZ w2) (mvT hZ w4) hy (backOf (W := W) (K []) hZ w4 w3 hf hlo) (g := mkF m pc Ls (argsL.reverse ++ .ref a :: rest)) rfl hsz (Steps.refl _) (a := a) (argsL := argsL) (rest := rest) (lenOf hdesc hlen) rfl (by simpa using hW) hd (fun _ _ => ⟨rfl, eT, hce, hsl⟩)
  dsimp only [Pt.U, Pt.locs, Pt.cells, Pt.slots] at X' l1 l2 l3 st hQ
  subst l1 l2 l3
  exact Good.go (fun _ q => st.trans q) (k v T' L X' hQ)
theorem Good.callV (X : Stand p l e R s m args below meth c T locs cells slots) (hx : p.tables.exec = Jvm.exec) (hZ : Z.Warmed39 s.vm) {own C : String} {index : Nat} {y : MethodName} {bytes : ByteArray} {maxL : Nat} {ret : Option FieldType} {rm : Room} {Q : Option Value → Heap → List Loc → Prop} (hown : s.vm.findClass own = some m.cls) (w1 : (Cond.methodLink own index y).before a0 Z = true) (wd : (Cond.declares y).before a0 Z = true) (ws : (Cond.selects C y y).before a0 Z = true) (w2 : (Cond.instanceMethod y).before a0 Z = true) (w3 : (Cond.initialized y.cls).before a0 Z = true) (w4 : (Cond.code y bytes maxL ret).before a0 Z = true) (hy : y.cls ≠ "java/lang/invoke/MethodHandle" ∧ y.cls ≠ "java/lang/invoke/VarHandle") (eT : T.heap = h) {a : Addr} (E : Exa Z h a C) {argsL rest : List Value} (K : Con l Z y bytes maxL ret rm (.ref a :: argsL).toArray h Q) {ps : List FieldType} {r : Option FieldType} (hdesc : parseMethodDescriptor y.desc = some ⟨ps, r⟩) (hlen : argsL.length = ps.length) {pc pc' : Nat} {Ls : Array Slot} {st : List Value} (hp : pc + 3 = pc') (hsz : Ls.size = c.maxLocals) (hs : st = argsL.reverse ++ .ref a :: rest) (hd : decode c.code pc = .ok (.invokevirtual index, 3)) {W : Nat} (hW : (rest.map fun v => v.category).sum ≤ W) (hf : rm.frames + 1 ≤ R.frames) (hlo : W + (maxL + 11) + rm.locals ≤ R.locals) (hce : cells + rm.cells ≤ R.cells) (hsl : slots + rm.slots ≤ R.slots)
    (k : ∀ v T' L, Stand p l e R s m args below meth c T' (locs ++ L) (cells + rm.cells) (slots + rm.slots) → Q v T'.heap L → Good p.tables e below s G (T'.setTop (mkF m pc' Ls (v.toList ++ rest)))) : Good p.tables e below s G (T.setTop (mkF m pc Ls st)) := by
  subst hp hs
  obtain ⟨cq, kq, q1, q2, q3⟩ := isOf hZ eT E
  obtain ⟨v, vm₁, ⟨T', L', k', n'⟩, -, X', ⟨L, hQ, l1, l2, l3⟩, st⟩ := X.virtualBack hx (y := y) (z := y) hown (mvT hZ w1) (mvT hZ wd) (notFace_of_selects (args := #[]) (mvT hZ ws)) (mvT hZ ws) (mvT hZ w2) hy (backOf (W := W) (K []) hZ w4 w3 hf hlo) q1 q3 (g := mkF m pc Ls (argsL.reverse ++ .ref a :: rest)) rfl hsz (Steps.refl _) (argsL := argsL) (rest := rest) (lenOf hdesc hlen) rfl (by simpa using hW) hd (fun _ _ => ⟨rfl, eT, hce, hsl⟩)
  dsimp only [Pt.U, Pt.locs, Pt.cells, Pt.slots] at X' l1 l2 l3 st hQ
  subst l1 l2 l3
  exact Good.go (fun _ q => st.trans q) (k v T' L X' hQ)

theorem Good.iaddN (X : Stand p l e R s m args below meth c T locs cells slots) (hx : p.tables.exec = Jvm.exec) {pc pc' : Nat} {Ls : Array Slot} {x y : Nat} {st : List Value} (hp : pc + 1 = pc') (hd : decode c.code pc = .ok (.iadd, 1)) (k : Good p.tables e below s G (T.setTop (mkF m pc' Ls (.int (Int32.ofNat (x + y)) :: st)))) : Good p.tables e below s G (T.setTop (mkF m pc Ls (.int (Int32.ofNat y) :: .int (Int32.ofNat x) :: st))) :=
  Good.iadd X hx hp hd (by rw [← Int32.ofNat_add]; exact k)
theorem Good.imulN (X : Stand p l e R s m args below meth c T locs cells slots) (hx : p.tables.exec = Jvm.exec) {pc pc' : Nat} {Ls : Array Slot} {x y : Nat} {st : List Value} (hp : pc + 1 = pc') (hd : decode c.code pc = .ok (.imul, 1)) (k : Good p.tables e below s G (T.setTop (mkF m pc' Ls (.int (Int32.ofNat (x * y)) :: st)))) : Good p.tables e below s G (T.setTop (mkF m pc Ls (.int (Int32.ofNat y) :: .int (Int32.ofNat x) :: st))) :=
  Good.imul X hx hp hd (by rw [← Int32.ofNat_mul]; exact k)
theorem Good.iincN (X : Stand p l e R s m args below meth c T locs cells slots) (hx : p.tables.exec = Jvm.exec) {pc pc' : Nat} {Ls : Array Slot} {i x w : Nat} {cst : Int} {Ls' : Array Slot} {st : List Value} (hp : pc + 3 = pc') (hd : decode c.code pc = .ok (.iinc i cst, 3)) (hl : Ls[i]? = some (.val (.int (Int32.ofNat x)))) (hv : Int32.ofInt cst = Int32.ofNat w) (hl' : storeLocals Ls i (.int (Int32.ofNat (x + w))) = some Ls') (k : Good p.tables e below s G (T.setTop (mkF m pc' Ls' st))) : Good p.tables e below s G (T.setTop (mkF m pc Ls st)) :=
  Good.iinc X hx hp hd hl hv (by rw [← Int32.ofNat_add]; exact hl') k
/-- a slot that a one-word value may be laid over -/
def One1 (o : Slot) : Prop := o = .unset ∨ ∃ w, o = .val w ∧ w.category = 1
/-- two slots that a double may be laid over -/
def Two (o o' : Slot) : Prop := (o = .unset ∧ o' = .unset) ∨ ∃ d, o = .val (.double d) ∧ o' = .second
theorem One1.u : One1 .unset := Or.inl rfl
theorem One1.i (x : Int32) : One1 (.val (.int x)) := Or.inr ⟨_, rfl, rfl⟩
theorem Two.u : Two .unset .unset := Or.inl ⟨rfl, rfl⟩
theorem Two.d (x : UInt64) : Two (.val (.double x)) .second := Or.inr ⟨_, rfl, rfl⟩
theorem store2 {l : Array Slot} {i : Nat} {x : UInt64} {o o' : Slot} (h1 : l[i]? = some o) (h2 : l[i + 1]? = some o') (ho : Two o o') : storeLocals l i (.double x) = some ((l.setIfInBounds i (.val (.double x))).setIfInBounds (i + 1) .second) := by
  obtain ⟨hi, g1⟩ := Array.getElem?_eq_some_iff.mp h1
  obtain ⟨hj, g2⟩ := Array.getElem?_eq_some_iff.mp h2
  rcases ho with ⟨rfl, rfl⟩ | ⟨d, rfl, rfl⟩
  · simp [storeLocals, storeSelf, setAt, Value.category, hi, hj, g1, g2]
  · simp [storeLocals, storeSelf, setAt, Value.category, hi, hj, g1, g2]
    apply Array.ext_getElem?
    intro j
    simp only [Array.getElem?_setIfInBounds, Array.size_setIfInBounds]
    by_cases q1 : i + 1 = j
    · simp [q1]
    · by_cases q2 : i = j <;> simp [q1, q2]
end Kit
section Arrays
variable {Z : State} {h h' : Heap} {a b : Addr} {n : Nat} {f : Nat → UInt64} {sl : Nat} {v : Value} {ws : List Addr} {ty : FieldType}
/-- a double[] of n places, place i holds f i -/
def DA (Z : State) (h : Heap) (a : Addr) (n : Nat) (f : Nat → UInt64) : Prop := ∃ cl : Cell, Arr Z h a cl .double ∧ cl.slots.size = n ∧ ∀ i, i < n → cl.slots[i]? = some (.double (f i))
def updD (f : Nat → UInt64) (j : Nat) (x : UInt64) : Nat → UInt64 := fun i => if i = j then x else f i
/-- an array of n places -/
def AR (Z : State) (h : Heap) (a : Addr) (n : Nat) (ty : FieldType) : Prop := ∃ cl : Cell, Arr Z h a cl ty ∧ cl.slots.size = n
theorem DA.lt (F : DA Z h a n f) : a < h.size := by obtain ⟨c, A, -⟩ := F; exact A.lt
theorem DA.ext (F : DA Z h a n f) (E : Ext h h') : DA Z h' a n f := by obtain ⟨c, A, r⟩ := F; exact ⟨c, A.ext E, r⟩
theorem DA.other (F : DA Z h b n f) (W : Wr h h' a sl v) (q : b ≠ a) : DA Z h' b n f := by obtain ⟨c, A, r⟩ := F; exact ⟨c, A.other W q, r⟩
theorem DA.keep (F : DA Z h a n f) (K : Keep h h' ws) (q : a ∉ ws) : DA Z h' a n f := by obtain ⟨c, A, r⟩ := F; exact ⟨c, ⟨K.2.1 a c A.1 q, A.2⟩, r⟩
theorem AR.lt (F : AR Z h a n ty) : a < h.size := by obtain ⟨c, A, -⟩ := F; exact A.lt
theorem AR.ext (F : AR Z h a n ty) (E : Ext h h') : AR Z h' a n ty := by obtain ⟨c, A, r⟩ := F; exact ⟨c, A.ext E, r⟩
theorem AR.other (F : AR Z h b n ty) (W : Wr h h' a sl v) (q : b ≠ a) : AR Z h' b n ty := by obtain ⟨c, A, r⟩ := F; exact ⟨c, A.other W q, r⟩
theorem AR.keep (F : AR Z h a n ty) (K : Keep h h' ws) (q : a ∉ ws) : AR Z h' a n ty := by obtain ⟨c, A, r⟩ := F; exact ⟨c, ⟨K.2.1 a c A.1 q, A.2⟩, r⟩
theorem clampOf {j : Int32} {i : Nat} (hj : j.toInt = (i : Int)) : j.toNatClampNeg = i := by
  show j.toInt.toNat = i
  rw [hj]; rfl
theorem inOf {j : Int32} {i m : Nat} (hj : j.toInt = (i : Int)) (hi : i < m) : ¬ (j < 0 ∨ m ≤ j.toNatClampNeg) := by
  rw [clampOf hj, Int32.lt_iff_toInt_lt, hj]
  have e0 : (0 : Int32).toInt = 0 := rfl
  omega
theorem DA.new {k : ClassId} {z : Int32} (A : Arr Z h a (newA k (newarray.typeOf .double) z) (newarray.typeOf .double)) (hz : z.toInt = (n : Int)) : DA Z h a n (fun _ => 0) :=
  ⟨_, A, by rw [sz_new, clampOf hz], fun i hi => by
    show (Array.replicate z.toNatClampNeg (defaultValue .double))[i]? = _
    rw [clampOf hz, Array.getElem?_replicate, if_pos hi]; rfl⟩
theorem AR.new {k : ClassId} {z : Int32} (A : Arr Z h a (newA k ty z) ty) (hz : z.toInt = (n : Int)) : AR Z h a n ty := ⟨_, A, by rw [sz_new, clampOf hz]⟩
theorem DA.set (F : DA Z h a n f) {j : Nat} {x : UInt64} (W : Wr h h' a j (.double x)) : DA Z h' a n (updD f j x) := by
  obtain ⟨cl, A, S, H⟩ := F
  refine ⟨_, A.same W, by rw [sz_set]; exact S, fun i hi => ?_⟩
  show (cl.slots.setIfInBounds j (.double x))[i]? = some (.double (if i = j then x else f i))
  by_cases q : i = j
  · subst q
    rw [if_pos rfl, Array.getElem?_setIfInBounds_self_of_lt (by omega)]
  · rw [if_neg q, Array.getElem?_setIfInBounds_ne (fun z => q z.symm)]; exact H i hi
theorem AR.set (F : AR Z h a n ty) (W : Wr h h' a sl v) : AR Z h' a n ty := by
  obtain ⟨cl, A, S⟩ := F
  exact ⟨_, A.same W, by rw [sz_set]; exact S⟩
theorem DA.eq (F : DA Z h a n f) {g : Nat → UInt64} (q : ∀ i, i < n → f i = g i) : DA Z h a n g := by
  obtain ⟨cl, A, S, H⟩ := F
  exact ⟨cl, A, S, fun i hi => by rw [← q i hi]; exact H i hi⟩
theorem DA.ar (F : DA Z h a n f) : AR Z h a n .double := by obtain ⟨cl, A, S, -⟩ := F; exact ⟨cl, A, S⟩
variable {p : Program} {l : Launch} {e : Env} {R : Room} {s : State} {m : MethodId} {args : Array Value} {below : List Frame} {meth : Method} {c : Code} {T : State} {locs : List Loc} {cells slots : Nat} {G : Option Value → Heap → List Loc → Nat → Nat → Prop}
theorem Good.daloadF (X : Stand p l e R s m args below meth c T locs cells slots) (hx : p.tables.exec = Jvm.exec) (hZ : Z.Warmed39 s.vm) (eT : T.heap = h) (A : DA Z h a n f) {j : Int32} (i : Nat) (hj : j.toInt = (i : Int)) (hi : i < n) {w : UInt64} (hw : f i = w) {pc pc' : Nat} {Ls : Array Slot} {st : List Value} (hp : pc + 1 = pc') (hd : decode c.code pc = .ok (.daload, 1)) (k : Good p.tables e below s G (T.setTop (mkF m pc' Ls (.double w :: st)))) : Good p.tables e below s G (T.setTop (mkF m pc Ls (.int j :: .ref a :: st))) := by
  obtain ⟨cl, A, S, H⟩ := A
  exact Good.daload X hx hZ eT A (by rw [S]; exact inOf hj hi) (by rw [clampOf hj, H i hi, hw]) hp hd k
theorem Good.dastoreF (X : Stand p l e R s m args below meth c T locs cells slots) (hx : p.tables.exec = Jvm.exec) (hZ : Z.Warmed39 s.vm) (eT : T.heap = h) (A : DA Z h a n f) {j : Int32} (i : Nat) (hj : j.toInt = (i : Int)) (hi : i < n) {x : UInt64} {pc pc' : Nat} {Ls : Array Slot} {st : List Value} (hp : pc + 1 = pc') (hd : decode c.code pc = .ok (.dastore, 1))
    (k : ∀ T' h', Stand p l e R s m args below meth c T' (locs ++ [⟨a, i⟩]) cells slots → T'.heap = h' → Wr h h' a i (.double x) → DA Z h' a n (updD f i x) → Good p.tables e below s G (T'.setTop (mkF m pc' Ls st))) : Good p.tables e below s G (T.setTop (mkF m pc Ls (.double x :: .int j :: .ref a :: st))) := by
  have A0 := A
  obtain ⟨cl, A, S, H⟩ := A
  refine Good.dastore X hx hZ eT A (by rw [S]; exact inOf hj hi) hp hd fun T' h' X' e' W' => ?_
  rw [clampOf hj] at X' W'
  exact k T' h' X' e' W' (A0.set W')
theorem Good.iastoreF (X : Stand p l e R s m args below meth c T locs cells slots) (hx : p.tables.exec = Jvm.exec) (hZ : Z.Warmed39 s.vm) (eT : T.heap = h) (A : AR Z h a n .int) {j : Int32} (i : Nat) (hj : j.toInt = (i : Int)) (hi : i < n) {x : Int32} {pc pc' : Nat} {Ls : Array Slot} {st : List Value} (hp : pc + 1 = pc') (hd : decode c.code pc = .ok (.iastore, 1))
    (k : ∀ T' h', Stand p l e R s m args below meth c T' (locs ++ [⟨a, i⟩]) cells slots → T'.heap = h' → Wr h h' a i (.int x) → AR Z h' a n .int → Good p.tables e below s G (T'.setTop (mkF m pc' Ls st))) : Good p.tables e below s G (T.setTop (mkF m pc Ls (.int x :: .int j :: .ref a :: st))) := by
  have A0 := A
  obtain ⟨cl, A, S⟩ := A
  refine Good.iastore X hx hZ eT A (by rw [S]; exact inOf hj hi) hp hd fun T' h' X' e' W' => ?_
  rw [clampOf hj] at X' W'
  exact k T' h' X' e' W' (A0.set W')
theorem Good.alenF (X : Stand p l e R s m args below meth c T locs cells slots) (hx : p.tables.exec = Jvm.exec) (hZ : Z.Warmed39 s.vm) (eT : T.heap = h) (A : DA Z h a n f) {z : Int32} (hz : z.toInt = (n : Int)) {pc pc' : Nat} {Ls : Array Slot} {st : List Value} (hp : pc + 1 = pc') (hd : decode c.code pc = .ok (.arraylength, 1)) (k : Good p.tables e below s G (T.setTop (mkF m pc' Ls (.int z :: st)))) : Good p.tables e below s G (T.setTop (mkF m pc Ls (.ref a :: st))) := by
  obtain ⟨cl, A, S, H⟩ := A
  refine Good.arraylength X hx hZ eT A (n := z) (by rw [S, clampOf hz]) ?_ hp hd k
  rw [Int32.lt_iff_toInt_lt, hz]
  have e0 : (0 : Int32).toInt = 0 := rfl
  omega
end Arrays
section Chars
variable {p : Program} {l : Launch} {e : Env} {R : Room} {s : State} {m : MethodId} {args : Array Value} {below : List Frame} {meth : Method} {c : Code} {T : State} {locs : List Loc} {cells slots : Nat} {G : Option Value → Heap → List Loc → Nat → Nat → Prop} {Z : State} {a0 : Array Value} {h : Heap}
/-- a char laid into an array of two, whose values are known -/
theorem Good.castoreV (X : Stand p l e R s m args below meth c T locs cells slots) (hx : p.tables.exec = Jvm.exec) (hZ : Z.Warmed39 s.vm) (eT : T.heap = h) {a : Addr} {kC : ClassId} {z j x : Int32} {vs : List Value} {dv : Value} (A : Arv Z h a kC .char z vs dv) (i : Nat) (hj : j.toInt = (i : Int)) (hi : (i : Int) < z.toInt) (hl : i < vs.length) {pc pc' : Nat} {Ls : Array Slot} {st : List Value} (hp : pc + 1 = pc') (hd : decode c.code pc = .ok (.castore, 1))
    (k : ∀ T' h', Stand p l e R s m args below meth c T' (locs ++ [⟨a, i⟩]) cells slots → T'.heap = h' → Wr h h' a i (.int (nar .char x)) → Arv Z h' a kC .char z (vs.set i (.int (nar .char x))) dv → Good p.tables e below s G (T'.setTop (mkF m pc' Ls st))) : Good p.tables e below s G (T.setTop (mkF m pc Ls (.int x :: .int j :: .ref a :: st))) := by
  subst hp
  obtain ⟨cl, A, q1, S, q3, H, U⟩ := A
  have hin : ¬ (j < 0 ∨ cl.slots.size ≤ j.toNatClampNeg) := by
    rw [S]
    refine inOf hj ?_
    show i < z.toInt.toNat
    omega
  obtain ⟨T', h', X', e', W', st'⟩ := stC X hx hZ eT A hin (g := mkF m pc Ls (.int x :: .int j :: .ref a :: st)) rfl rfl hd
  have V := Arv.set A q1 S q3 H U (fits_nar_char x) W' i (clampOf hj) hl
  rw [clampOf hj] at X' W'
  exact Good.go st' (k T' h' X' e' W' V)
/-- a constructor paid by a Back -/
theorem Good.callNB (X : Stand p l e R s m args below meth c T locs cells slots) (hx : p.tables.exec = Jvm.exec) (hZ : Z.Warmed39 s.vm) {own : String} {index : Nat} {y : MethodName} {bytes : ByteArray} {maxL kc ks : Nat} {Q : Option Value → Heap → List Loc → Prop} (hyn : y.name = "<init>") (hown : s.vm.findClass own = some m.cls) (w1 : (Cond.methodLink own index y).before a0 Z = true) (w2 : (Cond.instanceMethod y).before a0 Z = true) (w4 : (Cond.code y bytes maxL none).before a0 Z = true) (hy : y.cls ≠ "java/lang/invoke/MethodHandle" ∧ y.cls ≠ "java/lang/invoke/VarHandle") (eT : T.heap = h) {a : Addr} {argsL rest : List Value} {W : Nat}
    (K : Back l R p e below s args y 3 W (fun P a' => a' = (.ref a :: argsL).toArray ∧ P.U.heap = h ∧ P.cells + kc ≤ R.cells ∧ P.slots + ks ≤ R.slots) (fun P _ v B => ∃ L, Q v B.U.heap L ∧ B.locs = P.locs ++ L ∧ B.cells = P.cells + kc ∧ B.slots = P.slots + ks)) {ps : List FieldType} {r : Option FieldType} (hdesc : parseMethodDescriptor y.desc = some ⟨ps, r⟩) (hlen : argsL.length = ps.length) {pc pc' : Nat} {Ls : Array Slot} {st : List Value} (hp : pc + 3 = pc') (hsz : Ls.size = c.maxLocals) (hs : st = argsL.reverse ++ .ref a :: rest) (hd : decode c.code pc = .ok (.invokespecial index, 3)) (hW : (rest.map fun v => v.category).sum ≤ W) (hce : cells + kc ≤ R.cells) (hsl : slots + ks ≤ R.slots)
    (k : ∀ v T' L, Stand p l e R s m args below meth c T' (locs ++ L) (cells + kc) (slots + ks) → Q v T'.heap L → Good p.tables e below s G (T'.setTop (mkF m pc' Ls (v.toList ++ rest)))) : Good p.tables e below s G (T.setTop (mkF m pc Ls st)) := by
  subst hp hs
  obtain ⟨v, vm₁, ⟨T', L', k', n'⟩, -, X', ⟨L, hQ, l1, l2, l3⟩, st⟩ := X.specialBack hx (y := y) hyn hown (mvT hZ w1) (mvT hZ w2) (mvT hZ w4) hy K (g := mkF m pc Ls (argsL.reverse ++ .ref a :: rest)) rfl hsz (Steps.refl _) (a := a) (argsL := argsL) (rest := rest) (lenOf hdesc hlen) rfl (by simpa using hW) hd (fun _ _ => ⟨rfl, eT, hce, hsl⟩)
  dsimp only [Pt.U, Pt.locs, Pt.cells, Pt.slots] at X' l1 l2 l3 st hQ
  subst l1 l2 l3
  exact Good.go (fun _ q => st.trans q) (k v T' L X' hQ)
end Chars
end Jvm.OwnKit
namespace Jvm.Pilot.@@N@@
open Jvm Jvm.ClassFile Sem Op Lib Jvm.Free Jvm.Stand Jvm.LawKit Jvm.RoadKit Jvm.OwnKit Jvm.Free.Fl Bundle Jvm.Pilot.@@N@@.Jvm.D
theorem own_n32 {i : Nat} (h : i < 1000) : (Int32.ofNat i).toInt = (i : Int) := Int32.toInt_ofNat_of_lt (by omega)
theorem own_cmp {i n : Nat} (hi : i < 1000) (hn : n < 1000) : (Int32.ofNat i < Int32.ofNat n) ↔ i < n := by
  rw [Int32.lt_iff_toInt_lt, own_n32 hi, own_n32 hn]; omega
theorem own_lt {i n : Nat} (h : i < n) (hn : n < 1000) : if_icmp.holds .ge (Int32.ofNat i) (Int32.ofNat n) = false := (tlt ((own_cmp (by omega) hn).mpr h)).2.1
theorem own_ge {i n : Nat} (h : ¬ i < n) (hi : i < 1000) (hn : n < 1000) : if_icmp.holds .ge (Int32.ofNat i) (Int32.ofNat n) = true := (flt fun q => h ((own_cmp hi hn).mp q)).2.1
theorem own_ltY {i n : Nat} (h : i < n) (hn : n < 1000) : if_icmp.holds .lt (Int32.ofNat i) (Int32.ofNat n) = true := (tlt ((own_cmp (by omega) hn).mpr h)).1
theorem own_ltN {i n : Nat} (h : ¬ i < n) (hi : i < 1000) (hn : n < 1000) : if_icmp.holds .lt (Int32.ofNat i) (Int32.ofNat n) = false := (flt fun q => h ((own_cmp hi hn).mp q)).1
theorem own_gtY {i n : Nat} (h : n < i) (hi : i < 1000) : if_icmp.holds .gt (Int32.ofNat i) (Int32.ofNat n) = true := (tlt ((own_cmp (by omega) hi).mpr h)).2.2.1
theorem own_gtN {i n : Nat} (h : ¬ n < i) (hi : i < 1000) (hn : n < 1000) : if_icmp.holds .gt (Int32.ofNat i) (Int32.ofNat n) = false := (flt fun q => h ((own_cmp hn hi).mp q)).2.2.1
theorem own_and (x : Int32) (m : Nat) : ∃ k : Nat, k ≤ m % 2 ^ 32 ∧ x &&& Int32.ofNat m = Int32.ofNat k := by
  refine ⟨(x &&& Int32.ofNat m).toBitVec.toNat, ?_, ?_⟩
  · simp only [Int32.toBitVec_and, BitVec.toNat_and]
    exact Nat.le_trans Nat.and_le_right (Nat.le_of_eq (BitVec.toNat_ofNat m 32))
  · apply Int32.toBitVec_inj.mp
    show _ = BitVec.ofNat 32 _
    rw [BitVec.ofNat_toNat]; simp
/-- the running sum of squares, as the code reckons it -/
def dist (fa fb : Nat → UInt64) (as' bs : Nat) : Nat → UInt64
  | 0 => FP.dconst0
  | k + 1 => FP.dadd (dist fa fb as' bs k) (FP.dmul (FP.dsub (fa (as' + k)) (fb (bs + k))) (FP.dsub (fa (as' + k)) (fb (bs + k))))
theorem dist_s (fa fb : Nat → UInt64) (as' bs k : Nat) : dist fa fb as' bs (k + 1) = FP.dadd (dist fa fb as' bs k) (FP.dmul (FP.dsub (fa (as' + k)) (fb (bs + k))) (FP.dsub (fa (as' + k)) (fb (bs + k)))) := rfl
/-- below 2^32 or so -/
def Mg (x : UInt64) : Prop := x.toNat % 2 ^ 63 < 1056 * 2 ^ 52
def AllM (n : Nat) (f : Nat → UInt64) : Prop := ∀ i, i < n → Mg (f i)
theorem AllM.z (n : Nat) : AllM n (fun _ => 0) := fun i _ => by show (0 : UInt64).toNat % 2 ^ 63 < 1056 * 2 ^ 52; decide
theorem AllM.u {n j : Nat} {f : Nat → UInt64} {v : Int32} (h : AllM n f) : AllM n (updD f j (FP.i2d v)) := fun i hi => by
  unfold updD
  split
  · exact Jvm.FP.Core.i2d_mag v
  · exact h i hi
theorem no_of {a : UInt64} {K : Nat} (h : a.toNat % 2 ^ 63 < K * 2 ^ 52) (hK : K ≤ 2047) : NoNaN64 a := val64_no.mpr (Jvm.FP.Core.fin_of_lt h hK).ne_nan
theorem m_sub {x y : UInt64} (hx : Mg x) (hy : Mg y) : (FP.dsub x y).toNat % 2 ^ 63 < 1058 * 2 ^ 52 := Jvm.FP.Core.dsub_mag hx hy (by decide)
theorem m_mul {x y : UInt64} (hx : Mg x) (hy : Mg y) : (FP.dmul (FP.dsub x y) (FP.dsub x y)).toNat % 2 ^ 63 < 1094 * 2 ^ 52 := by
  have h := Jvm.FP.Core.dmul_mag (m_sub hx hy) (m_sub hx hy) (by decide) (by decide)
  omega
theorem m_dist {fa fb : Nat → UInt64} {as' bs na nb : Nat} (ha : AllM na fa) (hb : AllM nb fb) : ∀ k, k ≤ 3 → as' + k ≤ na → bs + k ≤ nb → (dist fa fb as' bs k).toNat % 2 ^ 63 < (1094 + 2 * k) * 2 ^ 52
  | 0, _, _, _ => by show FP.dconst0.toNat % 2 ^ 63 < _; decide
  | k + 1, h1, h2, h3 => by
    have q := m_dist (as' := as') (bs := bs) ha hb k (by omega) (by omega) (by omega)
    have r := m_mul (ha (as' + k) (by omega)) (hb (bs + k) (by omega))
    have z := Jvm.FP.Core.dadd_mag (K := 1094 + 2 * k) q (Nat.lt_of_lt_of_le r (Nat.mul_le_mul_right _ (by omega))) (by omega)
    rw [dist_s]
    exact Nat.lt_of_lt_of_eq z (congrArg (· * 2 ^ 52) (by omega))
theorem n_sub {x y : UInt64} (hx : Mg x) (hy : Mg y) : NoNaN64 (FP.dsub x y) := no_of (m_sub hx hy) (by decide)
theorem n_mul {x y : UInt64} (hx : Mg x) (hy : Mg y) : NoNaN64 (FP.dmul (FP.dsub x y) (FP.dsub x y)) := no_of (m_mul hx hy) (by decide)
theorem n_dist {fa fb : Nat → UInt64} {as' bs na nb : Nat} (ha : AllM na fa) (hb : AllM nb fb) (k : Nat) (h1 : k ≤ 3) (h2 : as' + k ≤ na) (h3 : bs + k ≤ nb) : NoNaN64 (dist fa fb as' bs k) := no_of (m_dist ha hb k h1 h2 h3) (by omega)
theorem n_add {fa fb : Nat → UInt64} {as' bs na nb : Nat} (ha : AllM na fa) (hb : AllM nb fb) (k : Nat) (h1 : k < 3) (h2 : as' + k < na) (h3 : bs + k < nb) : NoNaN64 (FP.dadd (dist fa fb as' bs k) (FP.dmul (FP.dsub (fa (as' + k)) (fb (bs + k))) (FP.dsub (fa (as' + k)) (fb (bs + k))))) := n_dist ha hb (k + 1) (by omega) (by omega) (by omega)
theorem d_min_0 : decode jdk_29_method_69_code 0 = .ok (.iload_n 0, 1) := by decide +kernel
theorem d_min_1 : decode jdk_29_method_69_code 1 = .ok (.iload_n 1, 1) := by decide +kernel
theorem d_min_2 : decode jdk_29_method_69_code 2 = .ok (.if_icmp .gt 7, 3) := by decide +kernel
theorem d_min_5 : decode jdk_29_method_69_code 5 = .ok (.iload_n 0, 1) := by decide +kernel
theorem d_min_6 : decode jdk_29_method_69_code 6 = .ok (.goto 4, 3) := by decide +kernel
theorem d_min_9 : decode jdk_29_method_69_code 9 = .ok (.iload_n 1, 1) := by decide +kernel
theorem d_min_10 : decode jdk_29_method_69_code 10 = .ok (.ireturn, 1) := by decide +kernel
theorem d_fill_0 : decode method_5_code 0 = .ok (.aload_n 0, 1) := by decide +kernel
theorem d_fill_1 : decode method_5_code 1 = .ok (.iload_n 1, 1) := by decide +kernel
theorem d_fill_2 : decode method_5_code 2 = .ok (.lload_n 2, 1) := by decide +kernel
theorem d_fill_3 : decode method_5_code 3 = .ok (.l2i, 1) := by decide +kernel
theorem d_fill_4 : decode method_5_code 4 = .ok (.i2b, 1) := by decide +kernel
theorem d_fill_5 : decode method_5_code 5 = .ok (.i2d, 1) := by decide +kernel
theorem d_fill_6 : decode method_5_code 6 = .ok (.dastore, 1) := by decide +kernel
theorem d_fill_7 : decode method_5_code 7 = .ok (.aload_n 0, 1) := by decide +kernel
theorem d_fill_8 : decode method_5_code 8 = .ok (.iload_n 1, 1) := by decide +kernel
theorem d_fill_9 : decode method_5_code 9 = .ok (.iconst 1, 1) := by decide +kernel
theorem d_fill_10 : decode method_5_code 10 = .ok (.iadd, 1) := by decide +kernel
theorem d_fill_11 : decode method_5_code 11 = .ok (.lload_n 2, 1) := by decide +kernel
theorem d_fill_12 : decode method_5_code 12 = .ok (.bipush 8, 2) := by decide +kernel
theorem d_fill_14 : decode method_5_code 14 = .ok (.lshr, 1) := by decide +kernel
theorem d_fill_15 : decode method_5_code 15 = .ok (.l2i, 1) := by decide +kernel
theorem d_fill_16 : decode method_5_code 16 = .ok (.i2b, 1) := by decide +kernel
theorem d_fill_17 : decode method_5_code 17 = .ok (.i2d, 1) := by decide +kernel
theorem d_fill_18 : decode method_5_code 18 = .ok (.dastore, 1) := by decide +kernel
theorem d_fill_19 : decode method_5_code 19 = .ok (.aload_n 0, 1) := by decide +kernel
theorem d_fill_20 : decode method_5_code 20 = .ok (.iload_n 1, 1) := by decide +kernel
theorem d_fill_21 : decode method_5_code 21 = .ok (.iconst 2, 1) := by decide +kernel
theorem d_fill_22 : decode method_5_code 22 = .ok (.iadd, 1) := by decide +kernel
theorem d_fill_23 : decode method_5_code 23 = .ok (.lload_n 2, 1) := by decide +kernel
theorem d_fill_24 : decode method_5_code 24 = .ok (.bipush 16, 2) := by decide +kernel
theorem d_fill_26 : decode method_5_code 26 = .ok (.lshr, 1) := by decide +kernel
theorem d_fill_27 : decode method_5_code 27 = .ok (.l2i, 1) := by decide +kernel
theorem d_fill_28 : decode method_5_code 28 = .ok (.i2b, 1) := by decide +kernel
theorem d_fill_29 : decode method_5_code 29 = .ok (.i2d, 1) := by decide +kernel
theorem d_fill_30 : decode method_5_code 30 = .ok (.dastore, 1) := by decide +kernel
theorem d_fill_31 : decode method_5_code 31 = .ok (.aload_n 0, 1) := by decide +kernel
theorem d_fill_32 : decode method_5_code 32 = .ok (.iload_n 1, 1) := by decide +kernel
theorem d_fill_33 : decode method_5_code 33 = .ok (.iconst 3, 1) := by decide +kernel
theorem d_fill_34 : decode method_5_code 34 = .ok (.iadd, 1) := by decide +kernel
theorem d_fill_35 : decode method_5_code 35 = .ok (.lload_n 2, 1) := by decide +kernel
theorem d_fill_36 : decode method_5_code 36 = .ok (.bipush 24, 2) := by decide +kernel
theorem d_fill_38 : decode method_5_code 38 = .ok (.lshr, 1) := by decide +kernel
theorem d_fill_39 : decode method_5_code 39 = .ok (.l2i, 1) := by decide +kernel
theorem d_fill_40 : decode method_5_code 40 = .ok (.i2b, 1) := by decide +kernel
theorem d_fill_41 : decode method_5_code 41 = .ok (.i2d, 1) := by decide +kernel
theorem d_fill_42 : decode method_5_code 42 = .ok (.dastore, 1) := by decide +kernel
theorem d_fill_43 : decode method_5_code 43 = .ok (.aload_n 0, 1) := by decide +kernel
theorem d_fill_44 : decode method_5_code 44 = .ok (.iload_n 1, 1) := by decide +kernel
theorem d_fill_45 : decode method_5_code 45 = .ok (.iconst 4, 1) := by decide +kernel
theorem d_fill_46 : decode method_5_code 46 = .ok (.iadd, 1) := by decide +kernel
theorem d_fill_47 : decode method_5_code 47 = .ok (.lload_n 2, 1) := by decide +kernel
theorem d_fill_48 : decode method_5_code 48 = .ok (.bipush 32, 2) := by decide +kernel
theorem d_fill_50 : decode method_5_code 50 = .ok (.lshr, 1) := by decide +kernel
theorem d_fill_51 : decode method_5_code 51 = .ok (.l2i, 1) := by decide +kernel
theorem d_fill_52 : decode method_5_code 52 = .ok (.i2b, 1) := by decide +kernel
theorem d_fill_53 : decode method_5_code 53 = .ok (.i2d, 1) := by decide +kernel
theorem d_fill_54 : decode method_5_code 54 = .ok (.dastore, 1) := by decide +kernel
theorem d_fill_55 : decode method_5_code 55 = .ok (.aload_n 0, 1) := by decide +kernel
theorem d_fill_56 : decode method_5_code 56 = .ok (.iload_n 1, 1) := by decide +kernel
theorem d_fill_57 : decode method_5_code 57 = .ok (.iconst 5, 1) := by decide +kernel
theorem d_fill_58 : decode method_5_code 58 = .ok (.iadd, 1) := by decide +kernel
theorem d_fill_59 : decode method_5_code 59 = .ok (.lload_n 2, 1) := by decide +kernel
theorem d_fill_60 : decode method_5_code 60 = .ok (.bipush 40, 2) := by decide +kernel
theorem d_fill_62 : decode method_5_code 62 = .ok (.lshr, 1) := by decide +kernel
theorem d_fill_63 : decode method_5_code 63 = .ok (.l2i, 1) := by decide +kernel
theorem d_fill_64 : decode method_5_code 64 = .ok (.i2b, 1) := by decide +kernel
theorem d_fill_65 : decode method_5_code 65 = .ok (.i2d, 1) := by decide +kernel
theorem d_fill_66 : decode method_5_code 66 = .ok (.dastore, 1) := by decide +kernel
theorem d_fill_67 : decode method_5_code 67 = .ok (.aload_n 0, 1) := by decide +kernel
theorem d_fill_68 : decode method_5_code 68 = .ok (.iload_n 1, 1) := by decide +kernel
theorem d_fill_69 : decode method_5_code 69 = .ok (.bipush 6, 2) := by decide +kernel
theorem d_fill_71 : decode method_5_code 71 = .ok (.iadd, 1) := by decide +kernel
theorem d_fill_72 : decode method_5_code 72 = .ok (.lload_n 2, 1) := by decide +kernel
theorem d_fill_73 : decode method_5_code 73 = .ok (.bipush 48, 2) := by decide +kernel
theorem d_fill_75 : decode method_5_code 75 = .ok (.lshr, 1) := by decide +kernel
theorem d_fill_76 : decode method_5_code 76 = .ok (.l2i, 1) := by decide +kernel
theorem d_fill_77 : decode method_5_code 77 = .ok (.i2b, 1) := by decide +kernel
theorem d_fill_78 : decode method_5_code 78 = .ok (.i2d, 1) := by decide +kernel
theorem d_fill_79 : decode method_5_code 79 = .ok (.dastore, 1) := by decide +kernel
theorem d_fill_80 : decode method_5_code 80 = .ok (.aload_n 0, 1) := by decide +kernel
theorem d_fill_81 : decode method_5_code 81 = .ok (.iload_n 1, 1) := by decide +kernel
theorem d_fill_82 : decode method_5_code 82 = .ok (.bipush 7, 2) := by decide +kernel
theorem d_fill_84 : decode method_5_code 84 = .ok (.iadd, 1) := by decide +kernel
theorem d_fill_85 : decode method_5_code 85 = .ok (.lload_n 2, 1) := by decide +kernel
theorem d_fill_86 : decode method_5_code 86 = .ok (.bipush 56, 2) := by decide +kernel
theorem d_fill_88 : decode method_5_code 88 = .ok (.lshr, 1) := by decide +kernel
theorem d_fill_89 : decode method_5_code 89 = .ok (.l2i, 1) := by decide +kernel
theorem d_fill_90 : decode method_5_code 90 = .ok (.i2b, 1) := by decide +kernel
theorem d_fill_91 : decode method_5_code 91 = .ok (.i2d, 1) := by decide +kernel
theorem d_fill_92 : decode method_5_code 92 = .ok (.dastore, 1) := by decide +kernel
theorem d_fill_93 : decode method_5_code 93 = .ok (.return_, 1) := by decide +kernel
theorem d_sums_0 : decode prog_20_method_5_code 0 = .ok (.iconst 0, 1) := by decide +kernel
theorem d_sums_1 : decode prog_20_method_5_code 1 = .ok (.istore 7, 2) := by decide +kernel
theorem d_sums_3 : decode prog_20_method_5_code 3 = .ok (.iload 7, 2) := by decide +kernel
theorem d_sums_5 : decode prog_20_method_5_code 5 = .ok (.iconst 4, 1) := by decide +kernel
theorem d_sums_6 : decode prog_20_method_5_code 6 = .ok (.iadd, 1) := by decide +kernel
theorem d_sums_7 : decode prog_20_method_5_code 7 = .ok (.iload 4, 2) := by decide +kernel
theorem d_sums_9 : decode prog_20_method_5_code 9 = .ok (.if_icmp .gt 189, 3) := by decide +kernel
theorem d_sums_12 : decode prog_20_method_5_code 12 = .ok (.iload_n 3, 1) := by decide +kernel
theorem d_sums_13 : decode prog_20_method_5_code 13 = .ok (.iload 7, 2) := by decide +kernel
theorem d_sums_15 : decode prog_20_method_5_code 15 = .ok (.iload 5, 2) := by decide +kernel
theorem d_sums_17 : decode prog_20_method_5_code 17 = .ok (.imul, 1) := by decide +kernel
theorem d_sums_18 : decode prog_20_method_5_code 18 = .ok (.iadd, 1) := by decide +kernel
theorem d_sums_19 : decode prog_20_method_5_code 19 = .ok (.istore 8, 2) := by decide +kernel
theorem d_sums_21 : decode prog_20_method_5_code 21 = .ok (.dconst 0, 1) := by decide +kernel
theorem d_sums_22 : decode prog_20_method_5_code 22 = .ok (.dstore 9, 2) := by decide +kernel
theorem d_sums_24 : decode prog_20_method_5_code 24 = .ok (.dconst 0, 1) := by decide +kernel
theorem d_sums_25 : decode prog_20_method_5_code 25 = .ok (.dstore 11, 2) := by decide +kernel
theorem d_sums_27 : decode prog_20_method_5_code 27 = .ok (.dconst 0, 1) := by decide +kernel
theorem d_sums_28 : decode prog_20_method_5_code 28 = .ok (.dstore 13, 2) := by decide +kernel
theorem d_sums_30 : decode prog_20_method_5_code 30 = .ok (.dconst 0, 1) := by decide +kernel
theorem d_sums_31 : decode prog_20_method_5_code 31 = .ok (.dstore 15, 2) := by decide +kernel
theorem d_sums_33 : decode prog_20_method_5_code 33 = .ok (.iconst 0, 1) := by decide +kernel
theorem d_sums_34 : decode prog_20_method_5_code 34 = .ok (.istore 17, 2) := by decide +kernel
theorem d_sums_36 : decode prog_20_method_5_code 36 = .ok (.iload 17, 2) := by decide +kernel
theorem d_sums_38 : decode prog_20_method_5_code 38 = .ok (.iload 5, 2) := by decide +kernel
theorem d_sums_40 : decode prog_20_method_5_code 40 = .ok (.if_icmp .ge 118, 3) := by decide +kernel
theorem d_sums_43 : decode prog_20_method_5_code 43 = .ok (.aload_n 0, 1) := by decide +kernel
theorem d_sums_44 : decode prog_20_method_5_code 44 = .ok (.iload_n 1, 1) := by decide +kernel
theorem d_sums_45 : decode prog_20_method_5_code 45 = .ok (.iload 17, 2) := by decide +kernel
theorem d_sums_47 : decode prog_20_method_5_code 47 = .ok (.iadd, 1) := by decide +kernel
theorem d_sums_48 : decode prog_20_method_5_code 48 = .ok (.daload, 1) := by decide +kernel
theorem d_sums_49 : decode prog_20_method_5_code 49 = .ok (.dstore 18, 2) := by decide +kernel
theorem d_sums_51 : decode prog_20_method_5_code 51 = .ok (.dload 18, 2) := by decide +kernel
theorem d_sums_53 : decode prog_20_method_5_code 53 = .ok (.aload_n 2, 1) := by decide +kernel
theorem d_sums_54 : decode prog_20_method_5_code 54 = .ok (.iload 8, 2) := by decide +kernel
theorem d_sums_56 : decode prog_20_method_5_code 56 = .ok (.iload 17, 2) := by decide +kernel
theorem d_sums_58 : decode prog_20_method_5_code 58 = .ok (.iadd, 1) := by decide +kernel
theorem d_sums_59 : decode prog_20_method_5_code 59 = .ok (.daload, 1) := by decide +kernel
theorem d_sums_60 : decode prog_20_method_5_code 60 = .ok (.dsub, 1) := by decide +kernel
theorem d_sums_61 : decode prog_20_method_5_code 61 = .ok (.dstore 20, 2) := by decide +kernel
theorem d_sums_63 : decode prog_20_method_5_code 63 = .ok (.dload 18, 2) := by decide +kernel
theorem d_sums_65 : decode prog_20_method_5_code 65 = .ok (.aload_n 2, 1) := by decide +kernel
theorem d_sums_66 : decode prog_20_method_5_code 66 = .ok (.iload 8, 2) := by decide +kernel
theorem d_sums_68 : decode prog_20_method_5_code 68 = .ok (.iload 5, 2) := by decide +kernel
theorem d_sums_70 : decode prog_20_method_5_code 70 = .ok (.iadd, 1) := by decide +kernel
theorem d_sums_71 : decode prog_20_method_5_code 71 = .ok (.iload 17, 2) := by decide +kernel
theorem d_sums_73 : decode prog_20_method_5_code 73 = .ok (.iadd, 1) := by decide +kernel
theorem d_sums_74 : decode prog_20_method_5_code 74 = .ok (.daload, 1) := by decide +kernel
theorem d_sums_75 : decode prog_20_method_5_code 75 = .ok (.dsub, 1) := by decide +kernel
theorem d_sums_76 : decode prog_20_method_5_code 76 = .ok (.dstore 22, 2) := by decide +kernel
theorem d_sums_78 : decode prog_20_method_5_code 78 = .ok (.dload 18, 2) := by decide +kernel
theorem d_sums_80 : decode prog_20_method_5_code 80 = .ok (.aload_n 2, 1) := by decide +kernel
theorem d_sums_81 : decode prog_20_method_5_code 81 = .ok (.iload 8, 2) := by decide +kernel
theorem d_sums_83 : decode prog_20_method_5_code 83 = .ok (.iconst 2, 1) := by decide +kernel
theorem d_sums_84 : decode prog_20_method_5_code 84 = .ok (.iload 5, 2) := by decide +kernel
theorem d_sums_86 : decode prog_20_method_5_code 86 = .ok (.imul, 1) := by decide +kernel
theorem d_sums_87 : decode prog_20_method_5_code 87 = .ok (.iadd, 1) := by decide +kernel
theorem d_sums_88 : decode prog_20_method_5_code 88 = .ok (.iload 17, 2) := by decide +kernel
theorem d_sums_90 : decode prog_20_method_5_code 90 = .ok (.iadd, 1) := by decide +kernel
theorem d_sums_91 : decode prog_20_method_5_code 91 = .ok (.daload, 1) := by decide +kernel
theorem d_sums_92 : decode prog_20_method_5_code 92 = .ok (.dsub, 1) := by decide +kernel
theorem d_sums_93 : decode prog_20_method_5_code 93 = .ok (.dstore 24, 2) := by decide +kernel
theorem d_sums_95 : decode prog_20_method_5_code 95 = .ok (.dload 18, 2) := by decide +kernel
theorem d_sums_97 : decode prog_20_method_5_code 97 = .ok (.aload_n 2, 1) := by decide +kernel
theorem d_sums_98 : decode prog_20_method_5_code 98 = .ok (.iload 8, 2) := by decide +kernel
theorem d_sums_100 : decode prog_20_method_5_code 100 = .ok (.iconst 3, 1) := by decide +kernel
theorem d_sums_101 : decode prog_20_method_5_code 101 = .ok (.iload 5, 2) := by decide +kernel
theorem d_sums_103 : decode prog_20_method_5_code 103 = .ok (.imul, 1) := by decide +kernel
theorem d_sums_104 : decode prog_20_method_5_code 104 = .ok (.iadd, 1) := by decide +kernel
theorem d_sums_105 : decode prog_20_method_5_code 105 = .ok (.iload 17, 2) := by decide +kernel
theorem d_sums_107 : decode prog_20_method_5_code 107 = .ok (.iadd, 1) := by decide +kernel
theorem d_sums_108 : decode prog_20_method_5_code 108 = .ok (.daload, 1) := by decide +kernel
theorem d_sums_109 : decode prog_20_method_5_code 109 = .ok (.dsub, 1) := by decide +kernel
theorem d_sums_110 : decode prog_20_method_5_code 110 = .ok (.dstore 26, 2) := by decide +kernel
theorem d_sums_112 : decode prog_20_method_5_code 112 = .ok (.dload 9, 2) := by decide +kernel
theorem d_sums_114 : decode prog_20_method_5_code 114 = .ok (.dload 20, 2) := by decide +kernel
theorem d_sums_116 : decode prog_20_method_5_code 116 = .ok (.dload 20, 2) := by decide +kernel
theorem d_sums_118 : decode prog_20_method_5_code 118 = .ok (.dmul, 1) := by decide +kernel
theorem d_sums_119 : decode prog_20_method_5_code 119 = .ok (.dadd, 1) := by decide +kernel
theorem d_sums_120 : decode prog_20_method_5_code 120 = .ok (.dstore 9, 2) := by decide +kernel
theorem d_sums_122 : decode prog_20_method_5_code 122 = .ok (.dload 11, 2) := by decide +kernel
theorem d_sums_124 : decode prog_20_method_5_code 124 = .ok (.dload 22, 2) := by decide +kernel
theorem d_sums_126 : decode prog_20_method_5_code 126 = .ok (.dload 22, 2) := by decide +kernel
theorem d_sums_128 : decode prog_20_method_5_code 128 = .ok (.dmul, 1) := by decide +kernel
theorem d_sums_129 : decode prog_20_method_5_code 129 = .ok (.dadd, 1) := by decide +kernel
theorem d_sums_130 : decode prog_20_method_5_code 130 = .ok (.dstore 11, 2) := by decide +kernel
theorem d_sums_132 : decode prog_20_method_5_code 132 = .ok (.dload 13, 2) := by decide +kernel
theorem d_sums_134 : decode prog_20_method_5_code 134 = .ok (.dload 24, 2) := by decide +kernel
theorem d_sums_136 : decode prog_20_method_5_code 136 = .ok (.dload 24, 2) := by decide +kernel
theorem d_sums_138 : decode prog_20_method_5_code 138 = .ok (.dmul, 1) := by decide +kernel
theorem d_sums_139 : decode prog_20_method_5_code 139 = .ok (.dadd, 1) := by decide +kernel
theorem d_sums_140 : decode prog_20_method_5_code 140 = .ok (.dstore 13, 2) := by decide +kernel
theorem d_sums_142 : decode prog_20_method_5_code 142 = .ok (.dload 15, 2) := by decide +kernel
theorem d_sums_144 : decode prog_20_method_5_code 144 = .ok (.dload 26, 2) := by decide +kernel
theorem d_sums_146 : decode prog_20_method_5_code 146 = .ok (.dload 26, 2) := by decide +kernel
theorem d_sums_148 : decode prog_20_method_5_code 148 = .ok (.dmul, 1) := by decide +kernel
theorem d_sums_149 : decode prog_20_method_5_code 149 = .ok (.dadd, 1) := by decide +kernel
theorem d_sums_150 : decode prog_20_method_5_code 150 = .ok (.dstore 15, 2) := by decide +kernel
theorem d_sums_152 : decode prog_20_method_5_code 152 = .ok (.iinc 17 1, 3) := by decide +kernel
theorem d_sums_155 : decode prog_20_method_5_code 155 = .ok (.goto (-119), 3) := by decide +kernel
theorem d_sums_158 : decode prog_20_method_5_code 158 = .ok (.aload 6, 2) := by decide +kernel
theorem d_sums_160 : decode prog_20_method_5_code 160 = .ok (.iload 7, 2) := by decide +kernel
theorem d_sums_162 : decode prog_20_method_5_code 162 = .ok (.dload 9, 2) := by decide +kernel
theorem d_sums_164 : decode prog_20_method_5_code 164 = .ok (.dastore, 1) := by decide +kernel
theorem d_sums_165 : decode prog_20_method_5_code 165 = .ok (.aload 6, 2) := by decide +kernel
theorem d_sums_167 : decode prog_20_method_5_code 167 = .ok (.iload 7, 2) := by decide +kernel
theorem d_sums_169 : decode prog_20_method_5_code 169 = .ok (.iconst 1, 1) := by decide +kernel
theorem d_sums_170 : decode prog_20_method_5_code 170 = .ok (.iadd, 1) := by decide +kernel
theorem d_sums_171 : decode prog_20_method_5_code 171 = .ok (.dload 11, 2) := by decide +kernel
theorem d_sums_173 : decode prog_20_method_5_code 173 = .ok (.dastore, 1) := by decide +kernel
theorem d_sums_174 : decode prog_20_method_5_code 174 = .ok (.aload 6, 2) := by decide +kernel
theorem d_sums_176 : decode prog_20_method_5_code 176 = .ok (.iload 7, 2) := by decide +kernel
theorem d_sums_178 : decode prog_20_method_5_code 178 = .ok (.iconst 2, 1) := by decide +kernel
theorem d_sums_179 : decode prog_20_method_5_code 179 = .ok (.iadd, 1) := by decide +kernel
theorem d_sums_180 : decode prog_20_method_5_code 180 = .ok (.dload 13, 2) := by decide +kernel
theorem d_sums_182 : decode prog_20_method_5_code 182 = .ok (.dastore, 1) := by decide +kernel
theorem d_sums_183 : decode prog_20_method_5_code 183 = .ok (.aload 6, 2) := by decide +kernel
theorem d_sums_185 : decode prog_20_method_5_code 185 = .ok (.iload 7, 2) := by decide +kernel
theorem d_sums_187 : decode prog_20_method_5_code 187 = .ok (.iconst 3, 1) := by decide +kernel
theorem d_sums_188 : decode prog_20_method_5_code 188 = .ok (.iadd, 1) := by decide +kernel
theorem d_sums_189 : decode prog_20_method_5_code 189 = .ok (.dload 15, 2) := by decide +kernel
theorem d_sums_191 : decode prog_20_method_5_code 191 = .ok (.dastore, 1) := by decide +kernel
theorem d_sums_192 : decode prog_20_method_5_code 192 = .ok (.iinc 7 4, 3) := by decide +kernel
theorem d_sums_195 : decode prog_20_method_5_code 195 = .ok (.goto (-192), 3) := by decide +kernel
theorem d_sums_198 : decode prog_20_method_5_code 198 = .ok (.iload 7, 2) := by decide +kernel
theorem d_sums_200 : decode prog_20_method_5_code 200 = .ok (.iload 4, 2) := by decide +kernel
theorem d_sums_202 : decode prog_20_method_5_code 202 = .ok (.if_icmp .ge 29, 3) := by decide +kernel
theorem d_sums_205 : decode prog_20_method_5_code 205 = .ok (.aload 6, 2) := by decide +kernel
theorem d_sums_207 : decode prog_20_method_5_code 207 = .ok (.iload 7, 2) := by decide +kernel
theorem d_sums_209 : decode prog_20_method_5_code 209 = .ok (.aload_n 0, 1) := by decide +kernel
theorem d_sums_210 : decode prog_20_method_5_code 210 = .ok (.iload_n 1, 1) := by decide +kernel
theorem d_sums_211 : decode prog_20_method_5_code 211 = .ok (.aload_n 2, 1) := by decide +kernel
theorem d_sums_212 : decode prog_20_method_5_code 212 = .ok (.iload_n 3, 1) := by decide +kernel
theorem d_sums_213 : decode prog_20_method_5_code 213 = .ok (.iload 7, 2) := by decide +kernel
theorem d_sums_215 : decode prog_20_method_5_code 215 = .ok (.iload 5, 2) := by decide +kernel
theorem d_sums_217 : decode prog_20_method_5_code 217 = .ok (.imul, 1) := by decide +kernel
theorem d_sums_218 : decode prog_20_method_5_code 218 = .ok (.iadd, 1) := by decide +kernel
theorem d_sums_219 : decode prog_20_method_5_code 219 = .ok (.iload 5, 2) := by decide +kernel
theorem d_sums_221 : decode prog_20_method_5_code 221 = .ok (.invokestatic 7, 3) := by decide +kernel
theorem d_sums_224 : decode prog_20_method_5_code 224 = .ok (.dastore, 1) := by decide +kernel
theorem d_sums_225 : decode prog_20_method_5_code 225 = .ok (.iinc 7 1, 3) := by decide +kernel
theorem d_sums_228 : decode prog_20_method_5_code 228 = .ok (.goto (-30), 3) := by decide +kernel
theorem d_sums_231 : decode prog_20_method_5_code 231 = .ok (.return_, 1) := by decide +kernel
theorem d_slot_0 : decode method_3_code 0 = .ok (.iload_n 0, 1) := by decide +kernel
theorem d_slot_1 : decode method_3_code 1 = .ok (.iload 6, 2) := by decide +kernel
theorem d_slot_3 : decode method_3_code 3 = .ok (.if_icmp .lt 19, 3) := by decide +kernel
theorem d_slot_6 : decode method_3_code 6 = .ok (.aload_n 1, 1) := by decide +kernel
theorem d_slot_7 : decode method_3_code 7 = .ok (.iload_n 0, 1) := by decide +kernel
theorem d_slot_8 : decode method_3_code 8 = .ok (.daload, 1) := by decide +kernel
theorem d_slot_9 : decode method_3_code 9 = .ok (.ldc2_w 20, 3) := by decide +kernel
theorem d_slot_12 : decode method_3_code 12 = .ok (.dcmp .l, 1) := by decide +kernel
theorem d_slot_13 : decode method_3_code 13 = .ok (.ifCond .ne 7, 3) := by decide +kernel
theorem d_slot_16 : decode method_3_code 16 = .ok (.iconst 1, 1) := by decide +kernel
theorem d_slot_17 : decode method_3_code 17 = .ok (.goto 4, 3) := by decide +kernel
theorem d_slot_20 : decode method_3_code 20 = .ok (.iconst 0, 1) := by decide +kernel
theorem d_slot_21 : decode method_3_code 21 = .ok (.ireturn, 1) := by decide +kernel
theorem d_slot_22 : decode method_3_code 22 = .ok (.aload_n 1, 1) := by decide +kernel
theorem d_slot_23 : decode method_3_code 23 = .ok (.iload_n 0, 1) := by decide +kernel
theorem d_slot_24 : decode method_3_code 24 = .ok (.daload, 1) := by decide +kernel
theorem d_slot_25 : decode method_3_code 25 = .ok (.aload_n 2, 1) := by decide +kernel
theorem d_slot_26 : decode method_3_code 26 = .ok (.iload_n 3, 1) := by decide +kernel
theorem d_slot_27 : decode method_3_code 27 = .ok (.aload 4, 2) := by decide +kernel
theorem d_slot_29 : decode method_3_code 29 = .ok (.iload 5, 2) := by decide +kernel
theorem d_slot_31 : decode method_3_code 31 = .ok (.iload_n 0, 1) := by decide +kernel
theorem d_slot_32 : decode method_3_code 32 = .ok (.iload 7, 2) := by decide +kernel
theorem d_slot_34 : decode method_3_code 34 = .ok (.imul, 1) := by decide +kernel
theorem d_slot_35 : decode method_3_code 35 = .ok (.iadd, 1) := by decide +kernel
theorem d_slot_36 : decode method_3_code 36 = .ok (.iload 7, 2) := by decide +kernel
theorem d_slot_38 : decode method_3_code 38 = .ok (.invokestatic 32, 3) := by decide +kernel
theorem d_slot_41 : decode method_3_code 41 = .ok (.dcmp .l, 1) := by decide +kernel
theorem d_slot_42 : decode method_3_code 42 = .ok (.ifCond .ne 7, 3) := by decide +kernel
theorem d_slot_45 : decode method_3_code 45 = .ok (.iconst 1, 1) := by decide +kernel
theorem d_slot_46 : decode method_3_code 46 = .ok (.goto 4, 3) := by decide +kernel
theorem d_slot_49 : decode method_3_code 49 = .ok (.iconst 0, 1) := by decide +kernel
theorem d_slot_50 : decode method_3_code 50 = .ok (.ireturn, 1) := by decide +kernel
theorem d_ref_0 : decode method_4_code 0 = .ok (.dconst 0, 1) := by decide +kernel
theorem d_ref_1 : decode method_4_code 1 = .ok (.dstore 5, 2) := by decide +kernel
theorem d_ref_3 : decode method_4_code 3 = .ok (.iload 4, 2) := by decide +kernel
theorem d_ref_5 : decode method_4_code 5 = .ok (.iconst 1, 1) := by decide +kernel
theorem d_ref_6 : decode method_4_code 6 = .ok (.if_icmp .lt 22, 3) := by decide +kernel
theorem d_ref_9 : decode method_4_code 9 = .ok (.aload_n 0, 1) := by decide +kernel
theorem d_ref_10 : decode method_4_code 10 = .ok (.iload_n 1, 1) := by decide +kernel
theorem d_ref_11 : decode method_4_code 11 = .ok (.daload, 1) := by decide +kernel
theorem d_ref_12 : decode method_4_code 12 = .ok (.aload_n 2, 1) := by decide +kernel
theorem d_ref_13 : decode method_4_code 13 = .ok (.iload_n 3, 1) := by decide +kernel
theorem d_ref_14 : decode method_4_code 14 = .ok (.daload, 1) := by decide +kernel
theorem d_ref_15 : decode method_4_code 15 = .ok (.dsub, 1) := by decide +kernel
theorem d_ref_16 : decode method_4_code 16 = .ok (.dstore 7, 2) := by decide +kernel
theorem d_ref_18 : decode method_4_code 18 = .ok (.dload 5, 2) := by decide +kernel
theorem d_ref_20 : decode method_4_code 20 = .ok (.dload 7, 2) := by decide +kernel
theorem d_ref_22 : decode method_4_code 22 = .ok (.dload 7, 2) := by decide +kernel
theorem d_ref_24 : decode method_4_code 24 = .ok (.dmul, 1) := by decide +kernel
theorem d_ref_25 : decode method_4_code 25 = .ok (.dadd, 1) := by decide +kernel
theorem d_ref_26 : decode method_4_code 26 = .ok (.dstore 5, 2) := by decide +kernel
theorem d_ref_28 : decode method_4_code 28 = .ok (.iload 4, 2) := by decide +kernel
theorem d_ref_30 : decode method_4_code 30 = .ok (.iconst 2, 1) := by decide +kernel
theorem d_ref_31 : decode method_4_code 31 = .ok (.if_icmp .lt 26, 3) := by decide +kernel
theorem d_ref_34 : decode method_4_code 34 = .ok (.aload_n 0, 1) := by decide +kernel
theorem d_ref_35 : decode method_4_code 35 = .ok (.iload_n 1, 1) := by decide +kernel
theorem d_ref_36 : decode method_4_code 36 = .ok (.iconst 1, 1) := by decide +kernel
theorem d_ref_37 : decode method_4_code 37 = .ok (.iadd, 1) := by decide +kernel
theorem d_ref_38 : decode method_4_code 38 = .ok (.daload, 1) := by decide +kernel
theorem d_ref_39 : decode method_4_code 39 = .ok (.aload_n 2, 1) := by decide +kernel
theorem d_ref_40 : decode method_4_code 40 = .ok (.iload_n 3, 1) := by decide +kernel
theorem d_ref_41 : decode method_4_code 41 = .ok (.iconst 1, 1) := by decide +kernel
theorem d_ref_42 : decode method_4_code 42 = .ok (.iadd, 1) := by decide +kernel
theorem d_ref_43 : decode method_4_code 43 = .ok (.daload, 1) := by decide +kernel
theorem d_ref_44 : decode method_4_code 44 = .ok (.dsub, 1) := by decide +kernel
theorem d_ref_45 : decode method_4_code 45 = .ok (.dstore 7, 2) := by decide +kernel
theorem d_ref_47 : decode method_4_code 47 = .ok (.dload 5, 2) := by decide +kernel
theorem d_ref_49 : decode method_4_code 49 = .ok (.dload 7, 2) := by decide +kernel
theorem d_ref_51 : decode method_4_code 51 = .ok (.dload 7, 2) := by decide +kernel
theorem d_ref_53 : decode method_4_code 53 = .ok (.dmul, 1) := by decide +kernel
theorem d_ref_54 : decode method_4_code 54 = .ok (.dadd, 1) := by decide +kernel
theorem d_ref_55 : decode method_4_code 55 = .ok (.dstore 5, 2) := by decide +kernel
theorem d_ref_57 : decode method_4_code 57 = .ok (.iload 4, 2) := by decide +kernel
theorem d_ref_59 : decode method_4_code 59 = .ok (.iconst 3, 1) := by decide +kernel
theorem d_ref_60 : decode method_4_code 60 = .ok (.if_icmp .lt 26, 3) := by decide +kernel
theorem d_ref_63 : decode method_4_code 63 = .ok (.aload_n 0, 1) := by decide +kernel
theorem d_ref_64 : decode method_4_code 64 = .ok (.iload_n 1, 1) := by decide +kernel
theorem d_ref_65 : decode method_4_code 65 = .ok (.iconst 2, 1) := by decide +kernel
theorem d_ref_66 : decode method_4_code 66 = .ok (.iadd, 1) := by decide +kernel
theorem d_ref_67 : decode method_4_code 67 = .ok (.daload, 1) := by decide +kernel
theorem d_ref_68 : decode method_4_code 68 = .ok (.aload_n 2, 1) := by decide +kernel
theorem d_ref_69 : decode method_4_code 69 = .ok (.iload_n 3, 1) := by decide +kernel
theorem d_ref_70 : decode method_4_code 70 = .ok (.iconst 2, 1) := by decide +kernel
theorem d_ref_71 : decode method_4_code 71 = .ok (.iadd, 1) := by decide +kernel
theorem d_ref_72 : decode method_4_code 72 = .ok (.daload, 1) := by decide +kernel
theorem d_ref_73 : decode method_4_code 73 = .ok (.dsub, 1) := by decide +kernel
theorem d_ref_74 : decode method_4_code 74 = .ok (.dstore 7, 2) := by decide +kernel
theorem d_ref_76 : decode method_4_code 76 = .ok (.dload 5, 2) := by decide +kernel
theorem d_ref_78 : decode method_4_code 78 = .ok (.dload 7, 2) := by decide +kernel
theorem d_ref_80 : decode method_4_code 80 = .ok (.dload 7, 2) := by decide +kernel
theorem d_ref_82 : decode method_4_code 82 = .ok (.dmul, 1) := by decide +kernel
theorem d_ref_83 : decode method_4_code 83 = .ok (.dadd, 1) := by decide +kernel
theorem d_ref_84 : decode method_4_code 84 = .ok (.dstore 5, 2) := by decide +kernel
theorem d_ref_86 : decode method_4_code 86 = .ok (.dload 5, 2) := by decide +kernel
theorem d_ref_88 : decode method_4_code 88 = .ok (.dreturn, 1) := by decide +kernel
theorem d_sq_0 : decode prog_20_method_6_code 0 = .ok (.dconst 0, 1) := by decide +kernel
theorem d_sq_1 : decode prog_20_method_6_code 1 = .ok (.dstore 5, 2) := by decide +kernel
theorem d_sq_3 : decode prog_20_method_6_code 3 = .ok (.iconst 0, 1) := by decide +kernel
theorem d_sq_4 : decode prog_20_method_6_code 4 = .ok (.istore 7, 2) := by decide +kernel
theorem d_sq_6 : decode prog_20_method_6_code 6 = .ok (.iload 7, 2) := by decide +kernel
theorem d_sq_8 : decode prog_20_method_6_code 8 = .ok (.iload 4, 2) := by decide +kernel
theorem d_sq_10 : decode prog_20_method_6_code 10 = .ok (.if_icmp .ge 34, 3) := by decide +kernel
theorem d_sq_13 : decode prog_20_method_6_code 13 = .ok (.aload_n 0, 1) := by decide +kernel
theorem d_sq_14 : decode prog_20_method_6_code 14 = .ok (.iload_n 1, 1) := by decide +kernel
theorem d_sq_15 : decode prog_20_method_6_code 15 = .ok (.iload 7, 2) := by decide +kernel
theorem d_sq_17 : decode prog_20_method_6_code 17 = .ok (.iadd, 1) := by decide +kernel
theorem d_sq_18 : decode prog_20_method_6_code 18 = .ok (.daload, 1) := by decide +kernel
theorem d_sq_19 : decode prog_20_method_6_code 19 = .ok (.aload_n 2, 1) := by decide +kernel
theorem d_sq_20 : decode prog_20_method_6_code 20 = .ok (.iload_n 3, 1) := by decide +kernel
theorem d_sq_21 : decode prog_20_method_6_code 21 = .ok (.iload 7, 2) := by decide +kernel
theorem d_sq_23 : decode prog_20_method_6_code 23 = .ok (.iadd, 1) := by decide +kernel
theorem d_sq_24 : decode prog_20_method_6_code 24 = .ok (.daload, 1) := by decide +kernel
theorem d_sq_25 : decode prog_20_method_6_code 25 = .ok (.dsub, 1) := by decide +kernel
theorem d_sq_26 : decode prog_20_method_6_code 26 = .ok (.dstore 8, 2) := by decide +kernel
theorem d_sq_28 : decode prog_20_method_6_code 28 = .ok (.dload 5, 2) := by decide +kernel
theorem d_sq_30 : decode prog_20_method_6_code 30 = .ok (.dload 8, 2) := by decide +kernel
theorem d_sq_32 : decode prog_20_method_6_code 32 = .ok (.dload 8, 2) := by decide +kernel
theorem d_sq_34 : decode prog_20_method_6_code 34 = .ok (.dmul, 1) := by decide +kernel
theorem d_sq_35 : decode prog_20_method_6_code 35 = .ok (.dadd, 1) := by decide +kernel
theorem d_sq_36 : decode prog_20_method_6_code 36 = .ok (.dstore 5, 2) := by decide +kernel
theorem d_sq_38 : decode prog_20_method_6_code 38 = .ok (.iinc 7 1, 3) := by decide +kernel
theorem d_sq_41 : decode prog_20_method_6_code 41 = .ok (.goto (-35), 3) := by decide +kernel
theorem d_sq_44 : decode prog_20_method_6_code 44 = .ok (.dload 5, 2) := by decide +kernel
theorem d_sq_46 : decode prog_20_method_6_code 46 = .ok (.dreturn, 1) := by decide +kernel
theorem pn_d : plainName "com/example/streamcover/streamcover/Distance" = true := by first | (simp [plainName, overriddenIn]; done) | decide +kernel
theorem pn_0 : plainName "com/example/streamcover/streamcover/DistanceSumsOfSquaresPinLaw" = true := by first | (simp [plainName, overriddenIn]; done) | decide +kernel
theorem pd_0 : parseMethodDescriptor "([DI[DII)D" = some ⟨[(.array .double), .int, (.array .double), .int, .int], some .double⟩ := by decide +kernel
theorem pd_1 : parseMethodDescriptor "(II)I" = some ⟨[.int, .int], some .int⟩ := by decide +kernel
theorem pd_2 : parseMethodDescriptor "([DIJ)V" = some ⟨[(.array .double), .int, .long], none⟩ := by decide +kernel
theorem pd_3 : parseMethodDescriptor "([DI[DIII[D)V" = some ⟨[(.array .double), .int, (.array .double), .int, .int, .int, (.array .double)], none⟩ := by decide +kernel
theorem pd_4 : parseMethodDescriptor "(I[D[DI[DIII)Z" = some ⟨[.int, (.array .double), (.array .double), .int, (.array .double), .int, .int, .int], some .boolean⟩ := by decide +kernel
set_option maxRecDepth 65536 in
set_option maxHeartbeats 40000000 in
theorem c_min (l : Launch) (Z : State) (a0 : Array Value) (hw : ∀ d ∈ tables_1, d.before a0 Z = true) (x : Nat) (hx15 : x ≤ 15) (h0 : Heap) :
    Con l Z (⟨"java/lang/Math", "min", "(II)I"⟩ : MethodName) jdk_29_method_69_code 2 (some .int) ({ frames := 0, cells := 0, slots := 0, locals := 0 } : Room) #[.int (Int32.ofNat x), .int (Int32.ofNat 8)] h0 (fun v h L => v = some (.int (Int32.ofNat (min x 8))) ∧ h = h0 ∧ L = []) := by
  refine Con.body (Jvm.Free.JP.mathPlain rfl (by decide +kernel)) ?_
  intro G hG p e s m below meth c T X hx hby hml hown hnm hret hlk hZ e0
  rw [show entryFrame m #[.int (Int32.ofNat x), .int (Int32.ofNat 8)] 2 = mkF m 0 #[.val (.int (Int32.ofNat x)), .val (.int (Int32.ofNat 8))] [] from by first | (simp [entryFrame, mkF, argsToLocals, Value.category, maxLocals]; done) | rfl]
  refine Good.iloadN X hx (pc' := 1) rfl (hb hby d_min_0) rfl ?_
  refine Good.iloadN X hx (pc' := 2) rfl (hb hby d_min_1) rfl ?_
  by_cases hq : 8 < x
  · refine Good.icmpYes X hx (pc' := 9) (by decide) (hb hby d_min_2) (own_gtY hq (by omega)) ?_
    refine Good.iloadN X hx (pc' := 10) rfl (hb hby d_min_9) rfl ?_
    exact Good.retI X hx hlk hret (hb hby d_min_10) (hG _ _ _ _ _ (⟨by rw [Nat.min_eq_right (by omega)], e0, rfl⟩) (by decide) (by decide))
  · refine Good.icmpNo X hx (pc' := 5) rfl (hb hby d_min_2) (own_gtN hq (by omega) (by omega)) ?_
    refine Good.iloadN X hx (pc' := 6) rfl (hb hby d_min_5) rfl ?_
    refine Good.goto X hx (pc' := 10) (by decide) (hb hby d_min_6) ?_
    exact Good.retI X hx hlk hret (hb hby d_min_10) (hG _ _ _ _ _ (⟨by rw [Nat.min_eq_left (by omega)], e0, rfl⟩) (by decide) (by decide))
set_option maxRecDepth 65536 in
set_option maxHeartbeats 40000000 in
theorem c_fill (l : Launch) (Z : State) (a0 : Array Value) (hw : ∀ d ∈ tables_1, d.before a0 Z = true) (b : Addr) (o : Nat) (ho : o ≤ 24) (q : Int64) (f : Nat → UInt64) (h0 : Heap) (n0 : Nat) (Z0 : n0 ≤ h0.size) (Db : DA Z h0 b 32 f) (hm : AllM 32 f) (gb : n0 ≤ b) :
    Con l Z (⟨"com/example/streamcover/streamcover/DistanceSumsOfSquaresPinLaw", "fill", "([DIJ)V"⟩ : MethodName) method_5_code 4 none ({ frames := 0, cells := 0, slots := 0, locals := 0 } : Room) #[.ref b, .int (Int32.ofNat o), .long q] h0 (fun v h L => v = none ∧ Fr n0 L ∧ Keep h0 h [b] ∧ ∃ g, DA Z h b 32 g ∧ AllM 32 g) := by
  refine Con.body (plainFor_of_name pn_0) ?_
  intro G hG p e s m below meth c T X hx hby hml hown hnm hret hlk hZ e0
  rw [show entryFrame m #[.ref b, .int (Int32.ofNat o), .long q] 4 = mkF m 0 #[.val (.ref b), .val (.int (Int32.ofNat o)), .val (.long q), .second] [] from by first | (simp [entryFrame, mkF, argsToLocals, Value.category, maxLocals]; done) | rfl]
  have N0 := Fr.nil n0
  refine Good.aloadN X hx (pc' := 1) rfl (hb hby d_fill_0) rfl rfl ?_
  refine Good.iloadN X hx (pc' := 2) rfl (hb hby d_fill_1) rfl ?_
  refine Good.lloadN X hx (pc' := 3) rfl (hb hby d_fill_2) rfl ?_
  refine Good.l2i X hx (pc' := 4) rfl (hb hby d_fill_3) ?_
  refine Good.i2b X hx (pc' := 5) rfl (hb hby d_fill_4) ?_
  refine Good.i2d X hx (pc' := 6) rfl (hb hby d_fill_5) ?_
  refine Good.dastoreF X hx hZ e0 Db (o) (own_n32 (by omega)) (by omega) (pc' := 7) rfl (hb hby d_fill_6) fun T1 h1 X1 e1 W1 V1 => ?_
  have Z_1 : n0 ≤ h1.size := by rw [W1.size]; exact Z0
  have N_1 := Fr.snoc X1 N0 gb
  refine Good.aloadN X1 hx (pc' := 8) rfl (hb hby d_fill_7) rfl rfl ?_
  refine Good.iloadN X1 hx (pc' := 9) rfl (hb hby d_fill_8) rfl ?_
  refine Good.iconst X1 hx (pc' := 10) (w := Int32.ofNat 1) rfl (hb hby d_fill_9) rfl ?_
  refine Good.iaddN X1 hx (pc' := 11) rfl (hb hby d_fill_10) ?_
  refine Good.lloadN X1 hx (pc' := 12) rfl (hb hby d_fill_11) rfl ?_
  refine Good.bipush X1 hx (pc' := 14) (w := Int32.ofNat 8) rfl (hb hby d_fill_12) rfl ?_
  refine Good.lshr X1 hx (pc' := 15) rfl (hb hby d_fill_14) ?_
  refine Good.l2i X1 hx (pc' := 16) rfl (hb hby d_fill_15) ?_
  refine Good.i2b X1 hx (pc' := 17) rfl (hb hby d_fill_16) ?_
  refine Good.i2d X1 hx (pc' := 18) rfl (hb hby d_fill_17) ?_
  refine Good.dastoreF X1 hx hZ e1 V1 (o + 1) (own_n32 (by omega)) (by omega) (pc' := 19) rfl (hb hby d_fill_18) fun T2 h2 X2 e2 W2 V2 => ?_
  have Z_2 : n0 ≤ h2.size := by rw [W2.size]; exact Z_1
  have N_2 := Fr.snoc X2 N_1 gb
  refine Good.aloadN X2 hx (pc' := 20) rfl (hb hby d_fill_19) rfl rfl ?_
  refine Good.iloadN X2 hx (pc' := 21) rfl (hb hby d_fill_20) rfl ?_
  refine Good.iconst X2 hx (pc' := 22) (w := Int32.ofNat 2) rfl (hb hby d_fill_21) rfl ?_
  refine Good.iaddN X2 hx (pc' := 23) rfl (hb hby d_fill_22) ?_
  refine Good.lloadN X2 hx (pc' := 24) rfl (hb hby d_fill_23) rfl ?_
  refine Good.bipush X2 hx (pc' := 26) (w := Int32.ofNat 16) rfl (hb hby d_fill_24) rfl ?_
  refine Good.lshr X2 hx (pc' := 27) rfl (hb hby d_fill_26) ?_
  refine Good.l2i X2 hx (pc' := 28) rfl (hb hby d_fill_27) ?_
  refine Good.i2b X2 hx (pc' := 29) rfl (hb hby d_fill_28) ?_
  refine Good.i2d X2 hx (pc' := 30) rfl (hb hby d_fill_29) ?_
  refine Good.dastoreF X2 hx hZ e2 V2 (o + 2) (own_n32 (by omega)) (by omega) (pc' := 31) rfl (hb hby d_fill_30) fun T3 h3 X3 e3 W3 V3 => ?_
  have Z_3 : n0 ≤ h3.size := by rw [W3.size]; exact Z_2
  have N_3 := Fr.snoc X3 N_2 gb
  refine Good.aloadN X3 hx (pc' := 32) rfl (hb hby d_fill_31) rfl rfl ?_
  refine Good.iloadN X3 hx (pc' := 33) rfl (hb hby d_fill_32) rfl ?_
  refine Good.iconst X3 hx (pc' := 34) (w := Int32.ofNat 3) rfl (hb hby d_fill_33) rfl ?_
  refine Good.iaddN X3 hx (pc' := 35) rfl (hb hby d_fill_34) ?_
  refine Good.lloadN X3 hx (pc' := 36) rfl (hb hby d_fill_35) rfl ?_
  refine Good.bipush X3 hx (pc' := 38) (w := Int32.ofNat 24) rfl (hb hby d_fill_36) rfl ?_
  refine Good.lshr X3 hx (pc' := 39) rfl (hb hby d_fill_38) ?_
  refine Good.l2i X3 hx (pc' := 40) rfl (hb hby d_fill_39) ?_
  refine Good.i2b X3 hx (pc' := 41) rfl (hb hby d_fill_40) ?_
  refine Good.i2d X3 hx (pc' := 42) rfl (hb hby d_fill_41) ?_
  refine Good.dastoreF X3 hx hZ e3 V3 (o + 3) (own_n32 (by omega)) (by omega) (pc' := 43) rfl (hb hby d_fill_42) fun T4 h4 X4 e4 W4 V4 => ?_
  have Z_4 : n0 ≤ h4.size := by rw [W4.size]; exact Z_3
  have N_4 := Fr.snoc X4 N_3 gb
  refine Good.aloadN X4 hx (pc' := 44) rfl (hb hby d_fill_43) rfl rfl ?_
  refine Good.iloadN X4 hx (pc' := 45) rfl (hb hby d_fill_44) rfl ?_
  refine Good.iconst X4 hx (pc' := 46) (w := Int32.ofNat 4) rfl (hb hby d_fill_45) rfl ?_
  refine Good.iaddN X4 hx (pc' := 47) rfl (hb hby d_fill_46) ?_
  refine Good.lloadN X4 hx (pc' := 48) rfl (hb hby d_fill_47) rfl ?_
  refine Good.bipush X4 hx (pc' := 50) (w := Int32.ofNat 32) rfl (hb hby d_fill_48) rfl ?_
  refine Good.lshr X4 hx (pc' := 51) rfl (hb hby d_fill_50) ?_
  refine Good.l2i X4 hx (pc' := 52) rfl (hb hby d_fill_51) ?_
  refine Good.i2b X4 hx (pc' := 53) rfl (hb hby d_fill_52) ?_
  refine Good.i2d X4 hx (pc' := 54) rfl (hb hby d_fill_53) ?_
  refine Good.dastoreF X4 hx hZ e4 V4 (o + 4) (own_n32 (by omega)) (by omega) (pc' := 55) rfl (hb hby d_fill_54) fun T5 h5 X5 e5 W5 V5 => ?_
  have Z_5 : n0 ≤ h5.size := by rw [W5.size]; exact Z_4
  have N_5 := Fr.snoc X5 N_4 gb
  refine Good.aloadN X5 hx (pc' := 56) rfl (hb hby d_fill_55) rfl rfl ?_
  refine Good.iloadN X5 hx (pc' := 57) rfl (hb hby d_fill_56) rfl ?_
  refine Good.iconst X5 hx (pc' := 58) (w := Int32.ofNat 5) rfl (hb hby d_fill_57) rfl ?_
  refine Good.iaddN X5 hx (pc' := 59) rfl (hb hby d_fill_58) ?_
  refine Good.lloadN X5 hx (pc' := 60) rfl (hb hby d_fill_59) rfl ?_
  refine Good.bipush X5 hx (pc' := 62) (w := Int32.ofNat 40) rfl (hb hby d_fill_60) rfl ?_
  refine Good.lshr X5 hx (pc' := 63) rfl (hb hby d_fill_62) ?_
  refine Good.l2i X5 hx (pc' := 64) rfl (hb hby d_fill_63) ?_
  refine Good.i2b X5 hx (pc' := 65) rfl (hb hby d_fill_64) ?_
  refine Good.i2d X5 hx (pc' := 66) rfl (hb hby d_fill_65) ?_
  refine Good.dastoreF X5 hx hZ e5 V5 (o + 5) (own_n32 (by omega)) (by omega) (pc' := 67) rfl (hb hby d_fill_66) fun T6 h6 X6 e6 W6 V6 => ?_
  have Z_6 : n0 ≤ h6.size := by rw [W6.size]; exact Z_5
  have N_6 := Fr.snoc X6 N_5 gb
  refine Good.aloadN X6 hx (pc' := 68) rfl (hb hby d_fill_67) rfl rfl ?_
  refine Good.iloadN X6 hx (pc' := 69) rfl (hb hby d_fill_68) rfl ?_
  refine Good.bipush X6 hx (pc' := 71) (w := Int32.ofNat 6) rfl (hb hby d_fill_69) rfl ?_
  refine Good.iaddN X6 hx (pc' := 72) rfl (hb hby d_fill_71) ?_
  refine Good.lloadN X6 hx (pc' := 73) rfl (hb hby d_fill_72) rfl ?_
  refine Good.bipush X6 hx (pc' := 75) (w := Int32.ofNat 48) rfl (hb hby d_fill_73) rfl ?_
  refine Good.lshr X6 hx (pc' := 76) rfl (hb hby d_fill_75) ?_
  refine Good.l2i X6 hx (pc' := 77) rfl (hb hby d_fill_76) ?_
  refine Good.i2b X6 hx (pc' := 78) rfl (hb hby d_fill_77) ?_
  refine Good.i2d X6 hx (pc' := 79) rfl (hb hby d_fill_78) ?_
  refine Good.dastoreF X6 hx hZ e6 V6 (o + 6) (own_n32 (by omega)) (by omega) (pc' := 80) rfl (hb hby d_fill_79) fun T7 h7 X7 e7 W7 V7 => ?_
  have Z_7 : n0 ≤ h7.size := by rw [W7.size]; exact Z_6
  have N_7 := Fr.snoc X7 N_6 gb
  refine Good.aloadN X7 hx (pc' := 81) rfl (hb hby d_fill_80) rfl rfl ?_
  refine Good.iloadN X7 hx (pc' := 82) rfl (hb hby d_fill_81) rfl ?_
  refine Good.bipush X7 hx (pc' := 84) (w := Int32.ofNat 7) rfl (hb hby d_fill_82) rfl ?_
  refine Good.iaddN X7 hx (pc' := 85) rfl (hb hby d_fill_84) ?_
  refine Good.lloadN X7 hx (pc' := 86) rfl (hb hby d_fill_85) rfl ?_
  refine Good.bipush X7 hx (pc' := 88) (w := Int32.ofNat 56) rfl (hb hby d_fill_86) rfl ?_
  refine Good.lshr X7 hx (pc' := 89) rfl (hb hby d_fill_88) ?_
  refine Good.l2i X7 hx (pc' := 90) rfl (hb hby d_fill_89) ?_
  refine Good.i2b X7 hx (pc' := 91) rfl (hb hby d_fill_90) ?_
  refine Good.i2d X7 hx (pc' := 92) rfl (hb hby d_fill_91) ?_
  refine Good.dastoreF X7 hx hZ e7 V7 (o + 7) (own_n32 (by omega)) (by omega) (pc' := 93) rfl (hb hby d_fill_92) fun T8 h8 X8 e8 W8 V8 => ?_
  have Z_8 : n0 ≤ h8.size := by rw [W8.size]; exact Z_7
  have N_8 := Fr.snoc X8 N_7 gb
  exact Good.ret0 X8 hx hlk hret (hb hby d_fill_93) (hG _ _ _ _ _ (by rw [e8]; exact ⟨rfl, N_8, (((((((((Keep.refl h0 [b]).wr W1 (Or.inl (by simp))).wr W2 (Or.inl (by simp))).wr W3 (Or.inl (by simp))).wr W4 (Or.inl (by simp))).wr W5 (Or.inl (by simp))).wr W6 (Or.inl (by simp))).wr W7 (Or.inl (by simp))).wr W8 (Or.inl (by simp))), _, V8, ((((((((hm).u).u).u).u).u).u).u).u⟩) (by decide) (by decide))
set_option maxRecDepth 65536 in
set_option maxHeartbeats 40000000 in
theorem loop_sq {p : Program} {l : Launch} {e : Env} {R : Room} {s : State} {m : MethodId} {args : Array Value} {below : List Frame} {meth : Method} {c : Code} {Z : State} {G : Option Value → Heap → List Loc → Nat → Nat → Prop} {T : State} {h0 : Heap} {a b : Addr} {as' bs dim : Nat} {fa fb : Nat → UInt64} (X : Stand p l e R s m args below meth c T [] 0 0) (hx : p.tables.exec = Jvm.exec) (hby : c.code = prog_20_method_6_code) (hret : meth.sig.returnType = some .double) (hlk : meth.locks = false) (hZ : Z.Warmed39 s.vm) (e0 : T.heap = h0) (Da : DA Z h0 a 4 fa) (Db : DA Z h0 b 32 fb) (ha : AllM 4 fa) (hb' : AllM 32 fb) (h3 : dim ≤ 3) (h4 : as' + dim ≤ 4) (h5 : bs + dim ≤ 32) (hv : G (some (.double (dist fa fb as' bs dim))) T.heap [] 0 0) :
    ∀ (k j : Nat) (s8 s9 : Slot), j + k = dim → Two s8 s9 → Good p.tables e below s G (T.setTop (mkF m 6 #[.val (.ref a), .val (.int (Int32.ofNat as')), .val (.ref b), .val (.int (Int32.ofNat bs)), .val (.int (Int32.ofNat dim)), .val (.double (dist fa fb as' bs j)), .second, .val (.int (Int32.ofNat j)), s8, s9] [])) := by
  intro k
  induction k with
  | zero =>
    intro j s8 s9 hj t8
    refine Good.iload X hx (pc' := 8) rfl (hb hby d_sq_6) rfl ?_
    refine Good.iload X hx (pc' := 10) rfl (hb hby d_sq_8) rfl ?_
    refine Good.icmpYes X hx (pc' := 44) (by decide) (hb hby d_sq_10) (own_ge (by omega) (by omega) (by omega)) ?_
    refine Good.dload X hx (pc' := 46) rfl (hb hby d_sq_44) rfl ?_
    rw [show j = dim by omega]
    exact Good.retD X hx hlk hret (hb hby d_sq_46) hv
  | succ k ih =>
    intro j s8 s9 hj t8
    refine Good.iload X hx (pc' := 8) rfl (hb hby d_sq_6) rfl ?_
    refine Good.iload X hx (pc' := 10) rfl (hb hby d_sq_8) rfl ?_
    refine Good.icmpNo X hx (pc' := 13) rfl (hb hby d_sq_10) (own_lt (by omega) (by omega)) ?_
    refine Good.aloadN X hx (pc' := 14) rfl (hb hby d_sq_13) rfl rfl ?_
    refine Good.iloadN X hx (pc' := 15) rfl (hb hby d_sq_14) rfl ?_
    refine Good.iload X hx (pc' := 17) rfl (hb hby d_sq_15) rfl ?_
    refine Good.iaddN X hx (pc' := 18) rfl (hb hby d_sq_17) ?_
    refine Good.daloadF X hx hZ e0 Da (as' + j) (own_n32 (by omega)) (by omega) (w := (fa (as' + j))) rfl (pc' := 19) rfl (hb hby d_sq_18) ?_
    refine Good.aloadN X hx (pc' := 20) rfl (hb hby d_sq_19) rfl rfl ?_
    refine Good.iloadN X hx (pc' := 21) rfl (hb hby d_sq_20) rfl ?_
    refine Good.iload X hx (pc' := 23) rfl (hb hby d_sq_21) rfl ?_
    refine Good.iaddN X hx (pc' := 24) rfl (hb hby d_sq_23) ?_
    refine Good.daloadF X hx hZ e0 Db (bs + j) (own_n32 (by omega)) (by omega) (w := (fb (bs + j))) rfl (pc' := 25) rfl (hb hby d_sq_24) ?_
    refine Good.dsub X hx (pc' := 26) rfl (hb hby d_sq_25) (n_sub (ha _ (by omega)) (hb' _ (by omega))) ?_
    refine Good.dstore X hx (pc' := 28) (Ls' := #[.val (.ref a), .val (.int (Int32.ofNat as')), .val (.ref b), .val (.int (Int32.ofNat bs)), .val (.int (Int32.ofNat dim)), .val (.double (dist fa fb as' bs j)), .second, .val (.int (Int32.ofNat j)), .val (.double (FP.dsub (fa (as' + j)) (fb (bs + j)))), .second]) rfl (hb hby d_sq_26) (store2 rfl rfl t8) ?_
    refine Good.dload X hx (pc' := 30) rfl (hb hby d_sq_28) rfl ?_
    refine Good.dload X hx (pc' := 32) rfl (hb hby d_sq_30) rfl ?_
    refine Good.dload X hx (pc' := 34) rfl (hb hby d_sq_32) rfl ?_
    refine Good.dmul X hx (pc' := 35) rfl (hb hby d_sq_34) (n_mul (ha _ (by omega)) (hb' _ (by omega))) ?_
    refine Good.dadd X hx (pc' := 36) rfl (hb hby d_sq_35) (n_add ha hb' j (by omega) (by omega) (by omega)) ?_
    rw [← dist_s fa fb as' bs j]
    refine Good.dstore X hx (pc' := 38) (Ls' := #[.val (.ref a), .val (.int (Int32.ofNat as')), .val (.ref b), .val (.int (Int32.ofNat bs)), .val (.int (Int32.ofNat dim)), .val (.double (dist fa fb as' bs (j + 1))), .second, .val (.int (Int32.ofNat j)), .val (.double (FP.dsub (fa (as' + j)) (fb (bs + j)))), .second]) rfl (hb hby d_sq_36) rfl ?_
    refine Good.iincN X hx (pc' := 41) (w := 1) (Ls' := #[.val (.ref a), .val (.int (Int32.ofNat as')), .val (.ref b), .val (.int (Int32.ofNat bs)), .val (.int (Int32.ofNat dim)), .val (.double (dist fa fb as' bs (j + 1))), .second, .val (.int (Int32.ofNat (j + 1))), .val (.double (FP.dsub (fa (as' + j)) (fb (bs + j)))), .second]) rfl (hb hby d_sq_38) rfl rfl rfl ?_
    refine Good.goto X hx (pc' := 6) (by decide) (hb hby d_sq_41) ?_
    exact ih (j + 1) _ _ (by omega) (Two.d _)
set_option maxRecDepth 65536 in
set_option maxHeartbeats 40000000 in
theorem c_sq (l : Launch) (Z : State) (a0 : Array Value) (hw : ∀ d ∈ tables_1, d.before a0 Z = true) (a b : Addr) (as' bs dim : Nat) (fa fb : Nat → UInt64) (h0 : Heap) (Da : DA Z h0 a 4 fa) (Db : DA Z h0 b 32 fb) (ha : AllM 4 fa) (hb' : AllM 32 fb) (h3 : dim ≤ 3) (h4 : as' + dim ≤ 4) (h5 : bs + dim ≤ 32) :
    Con l Z (⟨"com/example/streamcover/streamcover/Distance", "sumOfSquares", "([DI[DII)D"⟩ : MethodName) prog_20_method_6_code 10 (some .double) ({ frames := 0, cells := 0, slots := 0, locals := 0 } : Room) #[.ref a, .int (Int32.ofNat as'), .ref b, .int (Int32.ofNat bs), .int (Int32.ofNat dim)] h0 (fun v h L => v = some (.double (dist fa fb as' bs dim)) ∧ h = h0 ∧ L = []) := by
  refine Con.body (plainFor_of_name pn_d) ?_
  intro G hG p e s m below meth c T X hx hby hml hown hnm hret hlk hZ e0
  rw [show entryFrame m #[.ref a, .int (Int32.ofNat as'), .ref b, .int (Int32.ofNat bs), .int (Int32.ofNat dim)] 10 = mkF m 0 #[.val (.ref a), .val (.int (Int32.ofNat as')), .val (.ref b), .val (.int (Int32.ofNat bs)), .val (.int (Int32.ofNat dim)), .unset, .unset, .unset, .unset, .unset] [] from by first | (simp [entryFrame, mkF, argsToLocals, Value.category, maxLocals]; done) | rfl]
  refine Good.dconst0 X hx (pc' := 1) rfl (hb hby d_sq_0) ?_
  refine Good.dstore X hx (pc' := 3) (Ls' := #[.val (.ref a), .val (.int (Int32.ofNat as')), .val (.ref b), .val (.int (Int32.ofNat bs)), .val (.int (Int32.ofNat dim)), .val (.double FP.dconst0), .second, .unset, .unset, .unset]) rfl (hb hby d_sq_1) rfl ?_
  refine Good.iconst X hx (pc' := 4) (w := Int32.ofNat 0) rfl (hb hby d_sq_3) rfl ?_
  refine Good.istore X hx (pc' := 6) (Ls' := #[.val (.ref a), .val (.int (Int32.ofNat as')), .val (.ref b), .val (.int (Int32.ofNat bs)), .val (.int (Int32.ofNat dim)), .val (.double FP.dconst0), .second, .val (.int (Int32.ofNat 0)), .unset, .unset]) rfl (hb hby d_sq_4) rfl ?_
  exact loop_sq (fa := fa) (fb := fb) X hx hby hret hlk hZ e0 Da Db ha hb' h3 h4 h5 (hG _ _ _ _ _ ⟨rfl, e0, rfl⟩ (by decide) (by decide)) dim 0 .unset .unset (by omega) Two.u
set_option maxRecDepth 65536 in
set_option maxHeartbeats 40000000 in
theorem c_ref (l : Launch) (Z : State) (a0 : Array Value) (hw : ∀ d ∈ tables_1, d.before a0 Z = true) (a b : Addr) (as' bs dim : Nat) (fa fb : Nat → UInt64) (h0 : Heap) (Da : DA Z h0 a 4 fa) (Db : DA Z h0 b 32 fb) (ha : AllM 4 fa) (hb' : AllM 32 fb) (h3 : dim ≤ 3) (h4 : as' + dim ≤ 4) (h5 : bs + dim ≤ 32) :
    Con l Z (⟨"com/example/streamcover/streamcover/DistanceSumsOfSquaresPinLaw", "reference", "([DI[DII)D"⟩ : MethodName) method_4_code 9 (some .double) ({ frames := 0, cells := 0, slots := 0, locals := 0 } : Room) #[.ref a, .int (Int32.ofNat as'), .ref b, .int (Int32.ofNat bs), .int (Int32.ofNat dim)] h0 (fun v h L => v = some (.double (dist fa fb as' bs dim)) ∧ h = h0 ∧ L = []) := by
  refine Con.body (plainFor_of_name pn_0) ?_
  intro G hG p e s m below meth c T X hx hby hml hown hnm hret hlk hZ e0
  rw [show entryFrame m #[.ref a, .int (Int32.ofNat as'), .ref b, .int (Int32.ofNat bs), .int (Int32.ofNat dim)] 9 = mkF m 0 #[.val (.ref a), .val (.int (Int32.ofNat as')), .val (.ref b), .val (.int (Int32.ofNat bs)), .val (.int (Int32.ofNat dim)), .unset, .unset, .unset, .unset] [] from by first | (simp [entryFrame, mkF, argsToLocals, Value.category, maxLocals]; done) | rfl]
  obtain rfl | rfl | rfl | rfl : dim = 0 ∨ dim = 1 ∨ dim = 2 ∨ dim = 3 := by omega
  · refine Good.dconst0 X hx (pc' := 1) rfl (hb hby d_ref_0) ?_
    refine Good.dstore X hx (pc' := 3) (Ls' := #[.val (.ref a), .val (.int (Int32.ofNat as')), .val (.ref b), .val (.int (Int32.ofNat bs)), .val (.int (Int32.ofNat 0)), .val (.double FP.dconst0), .second, .unset, .unset]) rfl (hb hby d_ref_1) rfl ?_
    refine Good.iload X hx (pc' := 5) rfl (hb hby d_ref_3) rfl ?_
    refine Good.iconst X hx (pc' := 6) (w := Int32.ofNat 1) rfl (hb hby d_ref_5) rfl ?_
    refine Good.icmpYes X hx (pc' := 28) (by decide) (hb hby d_ref_6) (own_ltY (by decide) (by decide)) ?_
    refine Good.iload X hx (pc' := 30) rfl (hb hby d_ref_28) rfl ?_
    refine Good.iconst X hx (pc' := 31) (w := Int32.ofNat 2) rfl (hb hby d_ref_30) rfl ?_
    refine Good.icmpYes X hx (pc' := 57) (by decide) (hb hby d_ref_31) (own_ltY (by decide) (by decide)) ?_
    refine Good.iload X hx (pc' := 59) rfl (hb hby d_ref_57) rfl ?_
    refine Good.iconst X hx (pc' := 60) (w := Int32.ofNat 3) rfl (hb hby d_ref_59) rfl ?_
    refine Good.icmpYes X hx (pc' := 86) (by decide) (hb hby d_ref_60) (own_ltY (by decide) (by decide)) ?_
    refine Good.dload X hx (pc' := 88) rfl (hb hby d_ref_86) rfl ?_
    exact Good.retD X hx hlk hret (hb hby d_ref_88) (hG _ _ _ _ _ (⟨rfl, e0, rfl⟩) (by decide) (by decide))
  · refine Good.dconst0 X hx (pc' := 1) rfl (hb hby d_ref_0) ?_
    refine Good.dstore X hx (pc' := 3) (Ls' := #[.val (.ref a), .val (.int (Int32.ofNat as')), .val (.ref b), .val (.int (Int32.ofNat bs)), .val (.int (Int32.ofNat 1)), .val (.double FP.dconst0), .second, .unset, .unset]) rfl (hb hby d_ref_1) rfl ?_
    refine Good.iload X hx (pc' := 5) rfl (hb hby d_ref_3) rfl ?_
    refine Good.iconst X hx (pc' := 6) (w := Int32.ofNat 1) rfl (hb hby d_ref_5) rfl ?_
    refine Good.icmpNo X hx (pc' := 9) rfl (hb hby d_ref_6) (own_ltN (by decide) (by decide) (by decide)) ?_
    refine Good.aloadN X hx (pc' := 10) rfl (hb hby d_ref_9) rfl rfl ?_
    refine Good.iloadN X hx (pc' := 11) rfl (hb hby d_ref_10) rfl ?_
    refine Good.daloadF X hx hZ e0 Da (as') (own_n32 (by omega)) (by omega) (w := (fa (as' + 0))) rfl (pc' := 12) rfl (hb hby d_ref_11) ?_
    refine Good.aloadN X hx (pc' := 13) rfl (hb hby d_ref_12) rfl rfl ?_
    refine Good.iloadN X hx (pc' := 14) rfl (hb hby d_ref_13) rfl ?_
    refine Good.daloadF X hx hZ e0 Db (bs) (own_n32 (by omega)) (by omega) (w := (fb (bs + 0))) rfl (pc' := 15) rfl (hb hby d_ref_14) ?_
    refine Good.dsub X hx (pc' := 16) rfl (hb hby d_ref_15) (n_sub (ha _ (by omega)) (hb' _ (by omega))) ?_
    refine Good.dstore X hx (pc' := 18) (Ls' := #[.val (.ref a), .val (.int (Int32.ofNat as')), .val (.ref b), .val (.int (Int32.ofNat bs)), .val (.int (Int32.ofNat 1)), .val (.double FP.dconst0), .second, .val (.double (FP.dsub (fa (as' + 0)) (fb (bs + 0)))), .second]) rfl (hb hby d_ref_16) rfl ?_
    refine Good.dload X hx (pc' := 20) rfl (hb hby d_ref_18) rfl ?_
    refine Good.dload X hx (pc' := 22) rfl (hb hby d_ref_20) rfl ?_
    refine Good.dload X hx (pc' := 24) rfl (hb hby d_ref_22) rfl ?_
    refine Good.dmul X hx (pc' := 25) rfl (hb hby d_ref_24) (n_mul (ha _ (by omega)) (hb' _ (by omega))) ?_
    show Good p.tables e below s G (T.setTop (mkF m 25 #[.val (.ref a), .val (.int (Int32.ofNat as')), .val (.ref b), .val (.int (Int32.ofNat bs)), .val (.int (Int32.ofNat 1)), .val (.double FP.dconst0), .second, .val (.double (FP.dsub (fa (as' + 0)) (fb (bs + 0)))), .second] [(.double (FP.dmul (FP.dsub (fa (as' + 0)) (fb (bs + 0))) (FP.dsub (fa (as' + 0)) (fb (bs + 0))))), (.double (dist fa fb as' bs 0))]))
    refine Good.dadd X hx (pc' := 26) rfl (hb hby d_ref_25) (n_add ha hb' 0 (by omega) (by omega) (by omega)) ?_
    show Good p.tables e below s G (T.setTop (mkF m 26 #[.val (.ref a), .val (.int (Int32.ofNat as')), .val (.ref b), .val (.int (Int32.ofNat bs)), .val (.int (Int32.ofNat 1)), .val (.double FP.dconst0), .second, .val (.double (FP.dsub (fa (as' + 0)) (fb (bs + 0)))), .second] [(.double (dist fa fb as' bs 1))]))
    refine Good.dstore X hx (pc' := 28) (Ls' := #[.val (.ref a), .val (.int (Int32.ofNat as')), .val (.ref b), .val (.int (Int32.ofNat bs)), .val (.int (Int32.ofNat 1)), .val (.double (dist fa fb as' bs 1)), .second, .val (.double (FP.dsub (fa (as' + 0)) (fb (bs + 0)))), .second]) rfl (hb hby d_ref_26) rfl ?_
    refine Good.iload X hx (pc' := 30) rfl (hb hby d_ref_28) rfl ?_
    refine Good.iconst X hx (pc' := 31) (w := Int32.ofNat 2) rfl (hb hby d_ref_30) rfl ?_
    refine Good.icmpYes X hx (pc' := 57) (by decide) (hb hby d_ref_31) (own_ltY (by decide) (by decide)) ?_
    refine Good.iload X hx (pc' := 59) rfl (hb hby d_ref_57) rfl ?_
    refine Good.iconst X hx (pc' := 60) (w := Int32.ofNat 3) rfl (hb hby d_ref_59) rfl ?_
    refine Good.icmpYes X hx (pc' := 86) (by decide) (hb hby d_ref_60) (own_ltY (by decide) (by decide)) ?_
    refine Good.dload X hx (pc' := 88) rfl (hb hby d_ref_86) rfl ?_
    exact Good.retD X hx hlk hret (hb hby d_ref_88) (hG _ _ _ _ _ (⟨rfl, e0, rfl⟩) (by decide) (by decide))
  · refine Good.dconst0 X hx (pc' := 1) rfl (hb hby d_ref_0) ?_
    refine Good.dstore X hx (pc' := 3) (Ls' := #[.val (.ref a), .val (.int (Int32.ofNat as')), .val (.ref b), .val (.int (Int32.ofNat bs)), .val (.int (Int32.ofNat 2)), .val (.double FP.dconst0), .second, .unset, .unset]) rfl (hb hby d_ref_1) rfl ?_
    refine Good.iload X hx (pc' := 5) rfl (hb hby d_ref_3) rfl ?_
    refine Good.iconst X hx (pc' := 6) (w := Int32.ofNat 1) rfl (hb hby d_ref_5) rfl ?_
    refine Good.icmpNo X hx (pc' := 9) rfl (hb hby d_ref_6) (own_ltN (by decide) (by decide) (by decide)) ?_
    refine Good.aloadN X hx (pc' := 10) rfl (hb hby d_ref_9) rfl rfl ?_
    refine Good.iloadN X hx (pc' := 11) rfl (hb hby d_ref_10) rfl ?_
    refine Good.daloadF X hx hZ e0 Da (as') (own_n32 (by omega)) (by omega) (w := (fa (as' + 0))) rfl (pc' := 12) rfl (hb hby d_ref_11) ?_
    refine Good.aloadN X hx (pc' := 13) rfl (hb hby d_ref_12) rfl rfl ?_
    refine Good.iloadN X hx (pc' := 14) rfl (hb hby d_ref_13) rfl ?_
    refine Good.daloadF X hx hZ e0 Db (bs) (own_n32 (by omega)) (by omega) (w := (fb (bs + 0))) rfl (pc' := 15) rfl (hb hby d_ref_14) ?_
    refine Good.dsub X hx (pc' := 16) rfl (hb hby d_ref_15) (n_sub (ha _ (by omega)) (hb' _ (by omega))) ?_
    refine Good.dstore X hx (pc' := 18) (Ls' := #[.val (.ref a), .val (.int (Int32.ofNat as')), .val (.ref b), .val (.int (Int32.ofNat bs)), .val (.int (Int32.ofNat 2)), .val (.double FP.dconst0), .second, .val (.double (FP.dsub (fa (as' + 0)) (fb (bs + 0)))), .second]) rfl (hb hby d_ref_16) rfl ?_
    refine Good.dload X hx (pc' := 20) rfl (hb hby d_ref_18) rfl ?_
    refine Good.dload X hx (pc' := 22) rfl (hb hby d_ref_20) rfl ?_
    refine Good.dload X hx (pc' := 24) rfl (hb hby d_ref_22) rfl ?_
    refine Good.dmul X hx (pc' := 25) rfl (hb hby d_ref_24) (n_mul (ha _ (by omega)) (hb' _ (by omega))) ?_
    show Good p.tables e below s G (T.setTop (mkF m 25 #[.val (.ref a), .val (.int (Int32.ofNat as')), .val (.ref b), .val (.int (Int32.ofNat bs)), .val (.int (Int32.ofNat 2)), .val (.double FP.dconst0), .second, .val (.double (FP.dsub (fa (as' + 0)) (fb (bs + 0)))), .second] [(.double (FP.dmul (FP.dsub (fa (as' + 0)) (fb (bs + 0))) (FP.dsub (fa (as' + 0)) (fb (bs + 0))))), (.double (dist fa fb as' bs 0))]))
    refine Good.dadd X hx (pc' := 26) rfl (hb hby d_ref_25) (n_add ha hb' 0 (by omega) (by omega) (by omega)) ?_
    show Good p.tables e below s G (T.setTop (mkF m 26 #[.val (.ref a), .val (.int (Int32.ofNat as')), .val (.ref b), .val (.int (Int32.ofNat bs)), .val (.int (Int32.ofNat 2)), .val (.double FP.dconst0), .second, .val (.double (FP.dsub (fa (as' + 0)) (fb (bs + 0)))), .second] [(.double (dist fa fb as' bs 1))]))
    refine Good.dstore X hx (pc' := 28) (Ls' := #[.val (.ref a), .val (.int (Int32.ofNat as')), .val (.ref b), .val (.int (Int32.ofNat bs)), .val (.int (Int32.ofNat 2)), .val (.double (dist fa fb as' bs 1)), .second, .val (.double (FP.dsub (fa (as' + 0)) (fb (bs + 0)))), .second]) rfl (hb hby d_ref_26) rfl ?_
    refine Good.iload X hx (pc' := 30) rfl (hb hby d_ref_28) rfl ?_
    refine Good.iconst X hx (pc' := 31) (w := Int32.ofNat 2) rfl (hb hby d_ref_30) rfl ?_
    refine Good.icmpNo X hx (pc' := 34) rfl (hb hby d_ref_31) (own_ltN (by decide) (by decide) (by decide)) ?_
    refine Good.aloadN X hx (pc' := 35) rfl (hb hby d_ref_34) rfl rfl ?_
    refine Good.iloadN X hx (pc' := 36) rfl (hb hby d_ref_35) rfl ?_
    refine Good.iconst X hx (pc' := 37) (w := Int32.ofNat 1) rfl (hb hby d_ref_36) rfl ?_
    refine Good.iaddN X hx (pc' := 38) rfl (hb hby d_ref_37) ?_
    refine Good.daloadF X hx hZ e0 Da (as' + 1) (own_n32 (by omega)) (by omega) (w := (fa (as' + 1))) rfl (pc' := 39) rfl (hb hby d_ref_38) ?_
    refine Good.aloadN X hx (pc' := 40) rfl (hb hby d_ref_39) rfl rfl ?_
    refine Good.iloadN X hx (pc' := 41) rfl (hb hby d_ref_40) rfl ?_
    refine Good.iconst X hx (pc' := 42) (w := Int32.ofNat 1) rfl (hb hby d_ref_41) rfl ?_
    refine Good.iaddN X hx (pc' := 43) rfl (hb hby d_ref_42) ?_
    refine Good.daloadF X hx hZ e0 Db (bs + 1) (own_n32 (by omega)) (by omega) (w := (fb (bs + 1))) rfl (pc' := 44) rfl (hb hby d_ref_43) ?_
    refine Good.dsub X hx (pc' := 45) rfl (hb hby d_ref_44) (n_sub (ha _ (by omega)) (hb' _ (by omega))) ?_
    refine Good.dstore X hx (pc' := 47) (Ls' := #[.val (.ref a), .val (.int (Int32.ofNat as')), .val (.ref b), .val (.int (Int32.ofNat bs)), .val (.int (Int32.ofNat 2)), .val (.double (dist fa fb as' bs 1)), .second, .val (.double (FP.dsub (fa (as' + 1)) (fb (bs + 1)))), .second]) rfl (hb hby d_ref_45) rfl ?_
    refine Good.dload X hx (pc' := 49) rfl (hb hby d_ref_47) rfl ?_
    refine Good.dload X hx (pc' := 51) rfl (hb hby d_ref_49) rfl ?_
    refine Good.dload X hx (pc' := 53) rfl (hb hby d_ref_51) rfl ?_
    refine Good.dmul X hx (pc' := 54) rfl (hb hby d_ref_53) (n_mul (ha _ (by omega)) (hb' _ (by omega))) ?_
    show Good p.tables e below s G (T.setTop (mkF m 54 #[.val (.ref a), .val (.int (Int32.ofNat as')), .val (.ref b), .val (.int (Int32.ofNat bs)), .val (.int (Int32.ofNat 2)), .val (.double (dist fa fb as' bs 1)), .second, .val (.double (FP.dsub (fa (as' + 1)) (fb (bs + 1)))), .second] [(.double (FP.dmul (FP.dsub (fa (as' + 1)) (fb (bs + 1))) (FP.dsub (fa (as' + 1)) (fb (bs + 1))))), (.double (dist fa fb as' bs 1))]))
    refine Good.dadd X hx (pc' := 55) rfl (hb hby d_ref_54) (n_add ha hb' 1 (by omega) (by omega) (by omega)) ?_
    show Good p.tables e below s G (T.setTop (mkF m 55 #[.val (.ref a), .val (.int (Int32.ofNat as')), .val (.ref b), .val (.int (Int32.ofNat bs)), .val (.int (Int32.ofNat 2)), .val (.double (dist fa fb as' bs 1)), .second, .val (.double (FP.dsub (fa (as' + 1)) (fb (bs + 1)))), .second] [(.double (dist fa fb as' bs 2))]))
    refine Good.dstore X hx (pc' := 57) (Ls' := #[.val (.ref a), .val (.int (Int32.ofNat as')), .val (.ref b), .val (.int (Int32.ofNat bs)), .val (.int (Int32.ofNat 2)), .val (.double (dist fa fb as' bs 2)), .second, .val (.double (FP.dsub (fa (as' + 1)) (fb (bs + 1)))), .second]) rfl (hb hby d_ref_55) rfl ?_
    refine Good.iload X hx (pc' := 59) rfl (hb hby d_ref_57) rfl ?_
    refine Good.iconst X hx (pc' := 60) (w := Int32.ofNat 3) rfl (hb hby d_ref_59) rfl ?_
    refine Good.icmpYes X hx (pc' := 86) (by decide) (hb hby d_ref_60) (own_ltY (by decide) (by decide)) ?_
    refine Good.dload X hx (pc' := 88) rfl (hb hby d_ref_86) rfl ?_
    exact Good.retD X hx hlk hret (hb hby d_ref_88) (hG _ _ _ _ _ (⟨rfl, e0, rfl⟩) (by decide) (by decide))
  · refine Good.dconst0 X hx (pc' := 1) rfl (hb hby d_ref_0) ?_
    refine Good.dstore X hx (pc' := 3) (Ls' := #[.val (.ref a), .val (.int (Int32.ofNat as')), .val (.ref b), .val (.int (Int32.ofNat bs)), .val (.int (Int32.ofNat 3)), .val (.double FP.dconst0), .second, .unset, .unset]) rfl (hb hby d_ref_1) rfl ?_
    refine Good.iload X hx (pc' := 5) rfl (hb hby d_ref_3) rfl ?_
    refine Good.iconst X hx (pc' := 6) (w := Int32.ofNat 1) rfl (hb hby d_ref_5) rfl ?_
    refine Good.icmpNo X hx (pc' := 9) rfl (hb hby d_ref_6) (own_ltN (by decide) (by decide) (by decide)) ?_
    refine Good.aloadN X hx (pc' := 10) rfl (hb hby d_ref_9) rfl rfl ?_
    refine Good.iloadN X hx (pc' := 11) rfl (hb hby d_ref_10) rfl ?_
    refine Good.daloadF X hx hZ e0 Da (as') (own_n32 (by omega)) (by omega) (w := (fa (as' + 0))) rfl (pc' := 12) rfl (hb hby d_ref_11) ?_
    refine Good.aloadN X hx (pc' := 13) rfl (hb hby d_ref_12) rfl rfl ?_
    refine Good.iloadN X hx (pc' := 14) rfl (hb hby d_ref_13) rfl ?_
    refine Good.daloadF X hx hZ e0 Db (bs) (own_n32 (by omega)) (by omega) (w := (fb (bs + 0))) rfl (pc' := 15) rfl (hb hby d_ref_14) ?_
    refine Good.dsub X hx (pc' := 16) rfl (hb hby d_ref_15) (n_sub (ha _ (by omega)) (hb' _ (by omega))) ?_
    refine Good.dstore X hx (pc' := 18) (Ls' := #[.val (.ref a), .val (.int (Int32.ofNat as')), .val (.ref b), .val (.int (Int32.ofNat bs)), .val (.int (Int32.ofNat 3)), .val (.double FP.dconst0), .second, .val (.double (FP.dsub (fa (as' + 0)) (fb (bs + 0)))), .second]) rfl (hb hby d_ref_16) rfl ?_
    refine Good.dload X hx (pc' := 20) rfl (hb hby d_ref_18) rfl ?_
    refine Good.dload X hx (pc' := 22) rfl (hb hby d_ref_20) rfl ?_
    refine Good.dload X hx (pc' := 24) rfl (hb hby d_ref_22) rfl ?_
    refine Good.dmul X hx (pc' := 25) rfl (hb hby d_ref_24) (n_mul (ha _ (by omega)) (hb' _ (by omega))) ?_
    show Good p.tables e below s G (T.setTop (mkF m 25 #[.val (.ref a), .val (.int (Int32.ofNat as')), .val (.ref b), .val (.int (Int32.ofNat bs)), .val (.int (Int32.ofNat 3)), .val (.double FP.dconst0), .second, .val (.double (FP.dsub (fa (as' + 0)) (fb (bs + 0)))), .second] [(.double (FP.dmul (FP.dsub (fa (as' + 0)) (fb (bs + 0))) (FP.dsub (fa (as' + 0)) (fb (bs + 0))))), (.double (dist fa fb as' bs 0))]))
    refine Good.dadd X hx (pc' := 26) rfl (hb hby d_ref_25) (n_add ha hb' 0 (by omega) (by omega) (by omega)) ?_
    show Good p.tables e below s G (T.setTop (mkF m 26 #[.val (.ref a), .val (.int (Int32.ofNat as')), .val (.ref b), .val (.int (Int32.ofNat bs)), .val (.int (Int32.ofNat 3)), .val (.double FP.dconst0), .second, .val (.double (FP.dsub (fa (as' + 0)) (fb (bs + 0)))), .second] [(.double (dist fa fb as' bs 1))]))
    refine Good.dstore X hx (pc' := 28) (Ls' := #[.val (.ref a), .val (.int (Int32.ofNat as')), .val (.ref b), .val (.int (Int32.ofNat bs)), .val (.int (Int32.ofNat 3)), .val (.double (dist fa fb as' bs 1)), .second, .val (.double (FP.dsub (fa (as' + 0)) (fb (bs + 0)))), .second]) rfl (hb hby d_ref_26) rfl ?_
    refine Good.iload X hx (pc' := 30) rfl (hb hby d_ref_28) rfl ?_
    refine Good.iconst X hx (pc' := 31) (w := Int32.ofNat 2) rfl (hb hby d_ref_30) rfl ?_
    refine Good.icmpNo X hx (pc' := 34) rfl (hb hby d_ref_31) (own_ltN (by decide) (by decide) (by decide)) ?_
    refine Good.aloadN X hx (pc' := 35) rfl (hb hby d_ref_34) rfl rfl ?_
    refine Good.iloadN X hx (pc' := 36) rfl (hb hby d_ref_35) rfl ?_
    refine Good.iconst X hx (pc' := 37) (w := Int32.ofNat 1) rfl (hb hby d_ref_36) rfl ?_
    refine Good.iaddN X hx (pc' := 38) rfl (hb hby d_ref_37) ?_
    refine Good.daloadF X hx hZ e0 Da (as' + 1) (own_n32 (by omega)) (by omega) (w := (fa (as' + 1))) rfl (pc' := 39) rfl (hb hby d_ref_38) ?_
    refine Good.aloadN X hx (pc' := 40) rfl (hb hby d_ref_39) rfl rfl ?_
    refine Good.iloadN X hx (pc' := 41) rfl (hb hby d_ref_40) rfl ?_
    refine Good.iconst X hx (pc' := 42) (w := Int32.ofNat 1) rfl (hb hby d_ref_41) rfl ?_
    refine Good.iaddN X hx (pc' := 43) rfl (hb hby d_ref_42) ?_
    refine Good.daloadF X hx hZ e0 Db (bs + 1) (own_n32 (by omega)) (by omega) (w := (fb (bs + 1))) rfl (pc' := 44) rfl (hb hby d_ref_43) ?_
    refine Good.dsub X hx (pc' := 45) rfl (hb hby d_ref_44) (n_sub (ha _ (by omega)) (hb' _ (by omega))) ?_
    refine Good.dstore X hx (pc' := 47) (Ls' := #[.val (.ref a), .val (.int (Int32.ofNat as')), .val (.ref b), .val (.int (Int32.ofNat bs)), .val (.int (Int32.ofNat 3)), .val (.double (dist fa fb as' bs 1)), .second, .val (.double (FP.dsub (fa (as' + 1)) (fb (bs + 1)))), .second]) rfl (hb hby d_ref_45) rfl ?_
    refine Good.dload X hx (pc' := 49) rfl (hb hby d_ref_47) rfl ?_
    refine Good.dload X hx (pc' := 51) rfl (hb hby d_ref_49) rfl ?_
    refine Good.dload X hx (pc' := 53) rfl (hb hby d_ref_51) rfl ?_
    refine Good.dmul X hx (pc' := 54) rfl (hb hby d_ref_53) (n_mul (ha _ (by omega)) (hb' _ (by omega))) ?_
    show Good p.tables e below s G (T.setTop (mkF m 54 #[.val (.ref a), .val (.int (Int32.ofNat as')), .val (.ref b), .val (.int (Int32.ofNat bs)), .val (.int (Int32.ofNat 3)), .val (.double (dist fa fb as' bs 1)), .second, .val (.double (FP.dsub (fa (as' + 1)) (fb (bs + 1)))), .second] [(.double (FP.dmul (FP.dsub (fa (as' + 1)) (fb (bs + 1))) (FP.dsub (fa (as' + 1)) (fb (bs + 1))))), (.double (dist fa fb as' bs 1))]))
    refine Good.dadd X hx (pc' := 55) rfl (hb hby d_ref_54) (n_add ha hb' 1 (by omega) (by omega) (by omega)) ?_
    show Good p.tables e below s G (T.setTop (mkF m 55 #[.val (.ref a), .val (.int (Int32.ofNat as')), .val (.ref b), .val (.int (Int32.ofNat bs)), .val (.int (Int32.ofNat 3)), .val (.double (dist fa fb as' bs 1)), .second, .val (.double (FP.dsub (fa (as' + 1)) (fb (bs + 1)))), .second] [(.double (dist fa fb as' bs 2))]))
    refine Good.dstore X hx (pc' := 57) (Ls' := #[.val (.ref a), .val (.int (Int32.ofNat as')), .val (.ref b), .val (.int (Int32.ofNat bs)), .val (.int (Int32.ofNat 3)), .val (.double (dist fa fb as' bs 2)), .second, .val (.double (FP.dsub (fa (as' + 1)) (fb (bs + 1)))), .second]) rfl (hb hby d_ref_55) rfl ?_
    refine Good.iload X hx (pc' := 59) rfl (hb hby d_ref_57) rfl ?_
    refine Good.iconst X hx (pc' := 60) (w := Int32.ofNat 3) rfl (hb hby d_ref_59) rfl ?_
    refine Good.icmpNo X hx (pc' := 63) rfl (hb hby d_ref_60) (own_ltN (by decide) (by decide) (by decide)) ?_
    refine Good.aloadN X hx (pc' := 64) rfl (hb hby d_ref_63) rfl rfl ?_
    refine Good.iloadN X hx (pc' := 65) rfl (hb hby d_ref_64) rfl ?_
    refine Good.iconst X hx (pc' := 66) (w := Int32.ofNat 2) rfl (hb hby d_ref_65) rfl ?_
    refine Good.iaddN X hx (pc' := 67) rfl (hb hby d_ref_66) ?_
    refine Good.daloadF X hx hZ e0 Da (as' + 2) (own_n32 (by omega)) (by omega) (w := (fa (as' + 2))) rfl (pc' := 68) rfl (hb hby d_ref_67) ?_
    refine Good.aloadN X hx (pc' := 69) rfl (hb hby d_ref_68) rfl rfl ?_
    refine Good.iloadN X hx (pc' := 70) rfl (hb hby d_ref_69) rfl ?_
    refine Good.iconst X hx (pc' := 71) (w := Int32.ofNat 2) rfl (hb hby d_ref_70) rfl ?_
    refine Good.iaddN X hx (pc' := 72) rfl (hb hby d_ref_71) ?_
    refine Good.daloadF X hx hZ e0 Db (bs + 2) (own_n32 (by omega)) (by omega) (w := (fb (bs + 2))) rfl (pc' := 73) rfl (hb hby d_ref_72) ?_
    refine Good.dsub X hx (pc' := 74) rfl (hb hby d_ref_73) (n_sub (ha _ (by omega)) (hb' _ (by omega))) ?_
    refine Good.dstore X hx (pc' := 76) (Ls' := #[.val (.ref a), .val (.int (Int32.ofNat as')), .val (.ref b), .val (.int (Int32.ofNat bs)), .val (.int (Int32.ofNat 3)), .val (.double (dist fa fb as' bs 2)), .second, .val (.double (FP.dsub (fa (as' + 2)) (fb (bs + 2)))), .second]) rfl (hb hby d_ref_74) rfl ?_
    refine Good.dload X hx (pc' := 78) rfl (hb hby d_ref_76) rfl ?_
    refine Good.dload X hx (pc' := 80) rfl (hb hby d_ref_78) rfl ?_
    refine Good.dload X hx (pc' := 82) rfl (hb hby d_ref_80) rfl ?_
    refine Good.dmul X hx (pc' := 83) rfl (hb hby d_ref_82) (n_mul (ha _ (by omega)) (hb' _ (by omega))) ?_
    show Good p.tables e below s G (T.setTop (mkF m 83 #[.val (.ref a), .val (.int (Int32.ofNat as')), .val (.ref b), .val (.int (Int32.ofNat bs)), .val (.int (Int32.ofNat 3)), .val (.double (dist fa fb as' bs 2)), .second, .val (.double (FP.dsub (fa (as' + 2)) (fb (bs + 2)))), .second] [(.double (FP.dmul (FP.dsub (fa (as' + 2)) (fb (bs + 2))) (FP.dsub (fa (as' + 2)) (fb (bs + 2))))), (.double (dist fa fb as' bs 2))]))
    refine Good.dadd X hx (pc' := 84) rfl (hb hby d_ref_83) (n_add ha hb' 2 (by omega) (by omega) (by omega)) ?_
    show Good p.tables e below s G (T.setTop (mkF m 84 #[.val (.ref a), .val (.int (Int32.ofNat as')), .val (.ref b), .val (.int (Int32.ofNat bs)), .val (.int (Int32.ofNat 3)), .val (.double (dist fa fb as' bs 2)), .second, .val (.double (FP.dsub (fa (as' + 2)) (fb (bs + 2)))), .second] [(.double (dist fa fb as' bs 3))]))
    refine Good.dstore X hx (pc' := 86) (Ls' := #[.val (.ref a), .val (.int (Int32.ofNat as')), .val (.ref b), .val (.int (Int32.ofNat bs)), .val (.int (Int32.ofNat 3)), .val (.double (dist fa fb as' bs 3)), .second, .val (.double (FP.dsub (fa (as' + 2)) (fb (bs + 2)))), .second]) rfl (hb hby d_ref_84) rfl ?_
    refine Good.dload X hx (pc' := 88) rfl (hb hby d_ref_86) rfl ?_
    exact Good.retD X hx hlk hret (hb hby d_ref_88) (hG _ _ _ _ _ (⟨rfl, e0, rfl⟩) (by decide) (by decide))
set_option maxRecDepth 65536 in
set_option maxHeartbeats 40000000 in
theorem c_slot (l : Launch) (Z : State) (a0 : Array Value) (hw : ∀ d ∈ tables_1, d.before a0 Z = true) (k : Nat) (hk9 : k < 9) (t a b : Addr) (as' bs cnt dim : Nat) (fa fb g : Nat → UInt64) (h0 : Heap) (Da : DA Z h0 a 4 fa) (Db : DA Z h0 b 32 fb) (ha : AllM 4 fa) (hb' : AllM 32 fb) (Dt : DA Z h0 t 9 g) (h3 : dim ≤ 3) (h4 : as' + dim ≤ 4) (hc8 : cnt ≤ 8) (hb7 : bs ≤ 7) (h5 : k < cnt → bs + k * dim + dim ≤ 32) (hg1 : k < cnt → g k = dist fa fb as' (bs + k * dim) dim) (hg2 : ¬ k < cnt → g k = (13830554455654793216 : UInt64)) :
    Con l Z (⟨"com/example/streamcover/streamcover/DistanceSumsOfSquaresPinLaw", "slot", "(I[D[DI[DIII)Z"⟩ : MethodName) method_3_code 8 (some .boolean) ({ frames := 1, cells := 0, slots := 0, locals := 40 } : Room) #[.int (Int32.ofNat k), .ref t, .ref a, .int (Int32.ofNat as'), .ref b, .int (Int32.ofNat bs), .int (Int32.ofNat cnt), .int (Int32.ofNat dim)] h0 (fun v h L => v = some (.int 1) ∧ h = h0 ∧ L = []) := by
  refine Con.body (plainFor_of_name pn_0) ?_
  intro G hG p e s m below meth c T X hx hby hml hown hnm hret hlk hZ e0
  rw [show entryFrame m #[.int (Int32.ofNat k), .ref t, .ref a, .int (Int32.ofNat as'), .ref b, .int (Int32.ofNat bs), .int (Int32.ofNat cnt), .int (Int32.ofNat dim)] 8 = mkF m 0 #[.val (.int (Int32.ofNat k)), .val (.ref t), .val (.ref a), .val (.int (Int32.ofNat as')), .val (.ref b), .val (.int (Int32.ofNat bs)), .val (.int (Int32.ofNat cnt)), .val (.int (Int32.ofNat dim))] [] from by first | (simp [entryFrame, mkF, argsToLocals, Value.category, maxLocals]; done) | rfl]
  refine Good.iloadN X hx (pc' := 1) rfl (hb hby d_slot_0) rfl ?_
  refine Good.iload X hx (pc' := 3) rfl (hb hby d_slot_1) rfl ?_
  by_cases hq : k < cnt
  · refine Good.icmpYes X hx (pc' := 22) (by decide) (hb hby d_slot_3) (own_ltY hq (by omega)) ?_
    refine Good.aloadN X hx (pc' := 23) rfl (hb hby d_slot_22) rfl rfl ?_
    refine Good.iloadN X hx (pc' := 24) rfl (hb hby d_slot_23) rfl ?_
    refine Good.daloadF X hx hZ e0 Dt (k) (own_n32 (by omega)) hk9 (w := (dist fa fb as' (bs + k * dim) dim)) (hg1 hq) (pc' := 25) rfl (hb hby d_slot_24) ?_
    refine Good.aloadN X hx (pc' := 26) rfl (hb hby d_slot_25) rfl rfl ?_
    refine Good.iloadN X hx (pc' := 27) rfl (hb hby d_slot_26) rfl ?_
    refine Good.aload X hx (pc' := 29) rfl (hb hby d_slot_27) rfl rfl ?_
    refine Good.iload X hx (pc' := 31) rfl (hb hby d_slot_29) rfl ?_
    refine Good.iloadN X hx (pc' := 32) rfl (hb hby d_slot_31) rfl ?_
    refine Good.iload X hx (pc' := 34) rfl (hb hby d_slot_32) rfl ?_
    refine Good.imulN X hx (pc' := 35) rfl (hb hby d_slot_34) ?_
    refine Good.iaddN X hx (pc' := 36) rfl (hb hby d_slot_35) ?_
    refine Good.iload X hx (pc' := 38) rfl (hb hby d_slot_36) rfl ?_
    refine Good.callS X hx hZ (y := ⟨"com/example/streamcover/streamcover/DistanceSumsOfSquaresPinLaw", "reference", "([DI[DII)D"⟩) hown (hw _ (List.mem_of_getElem? (i := 18) rfl)) (hw _ (List.mem_of_getElem? (i := 19) rfl)) (hw _ (List.mem_of_getElem? (i := 8) rfl)) (hw _ (List.mem_of_getElem? (i := 20) rfl)) (by decide) e0 (argsL := [(.ref a), (.int (Int32.ofNat as')), (.ref b), (.int (Int32.ofNat (bs + (k * dim)))), (.int (Int32.ofNat dim))]) (rest := [(.double (dist fa fb as' (bs + k * dim) dim))]) (c_ref l Z a0 hw a b as' (bs + k * dim) dim fa fb h0 Da Db ha hb' h3 h4 (h5 hq)) (hdesc := pd_0) rfl (pc' := 41) rfl (by rw [hml]; rfl) rfl (hb hby d_slot_38) (W := 2) (Nat.le_of_eq rfl) (by decide) (by decide) (by decide) (by decide) fun v1 T1 L1 X1 Q1 => ?_
    obtain ⟨rfl, hh, rfl⟩ := Q1
    refine Good.dcmp X1 hx (pc' := 42) rfl (hb hby d_slot_41) ?_
    have hc : cmpValue (FP.dcmp (dist fa fb as' (bs + k * dim) dim) (dist fa fb as' (bs + k * dim) dim)) .l = 0 := by rw [show FP.dcmp _ _ = _ from Jvm.FP.Core.dcmp_self (val64_no.mp (n_dist ha hb' dim h3 h4 (h5 hq)))]; rfl
    refine Good.ifNo X1 hx (pc' := 45) rfl (hb hby d_slot_42) (by rw [hc]; rfl) ?_
    refine Good.iconst X1 hx (pc' := 46) (w := Int32.ofNat 1) rfl (hb hby d_slot_45) rfl ?_
    refine Good.goto X1 hx (pc' := 50) (by decide) (hb hby d_slot_46) ?_
    exact Good.retZ X1 hx hlk hret (hb hby d_slot_50) (Or.inr rfl) (hG _ _ _ _ _ (⟨rfl, hh, rfl⟩) (by decide) (by decide))
  · refine Good.icmpNo X hx (pc' := 6) rfl (hb hby d_slot_3) (own_ltN hq (by omega) (by omega)) ?_
    refine Good.aloadN X hx (pc' := 7) rfl (hb hby d_slot_6) rfl rfl ?_
    refine Good.iloadN X hx (pc' := 8) rfl (hb hby d_slot_7) rfl ?_
    refine Good.daloadF X hx hZ e0 Dt (k) (own_n32 (by omega)) hk9 (w := (13830554455654793216 : UInt64)) (hg2 hq) (pc' := 9) rfl (hb hby d_slot_8) ?_
    refine Good.ldc2D X hx hZ hown (hw _ (List.mem_of_getElem? (i := 10) rfl)) (pc' := 12) rfl (hb hby d_slot_9) ?_
    refine Good.dcmp X hx (pc' := 13) rfl (hb hby d_slot_12) ?_
    refine Good.ifNo X hx (pc' := 16) rfl (hb hby d_slot_13) (by decide +kernel) ?_
    refine Good.iconst X hx (pc' := 17) (w := Int32.ofNat 1) rfl (hb hby d_slot_16) rfl ?_
    refine Good.goto X hx (pc' := 21) (by decide) (hb hby d_slot_17) ?_
    exact Good.retZ X hx hlk hret (hb hby d_slot_21) (Or.inr rfl) (hG _ _ _ _ _ (⟨rfl, e0, rfl⟩) (by decide) (by decide))
set_option maxRecDepth 65536 in
set_option maxHeartbeats 40000000 in
theorem loop_in {p : Program} {l : Launch} {e : Env} {R : Room} {s : State} {m : MethodId} {args : Array Value} {below : List Frame} {meth : Method} {c : Code} {Z : State} {G : Option Value → Heap → List Loc → Nat → Nat → Prop} {T : State} {h0 : Heap} {locs : List Loc} {a b t : Addr} {as' bs cnt dim i : Nat} {fa fb : Nat → UInt64} (X : Stand p l e R s m args below meth c T locs 0 0) (hx : p.tables.exec = Jvm.exec) (hby : c.code = prog_20_method_5_code) (hZ : Z.Warmed39 s.vm) (e0 : T.heap = h0) (Da : DA Z h0 a 4 fa) (Db : DA Z h0 b 32 fb) (ha : AllM 4 fa) (hb' : AllM 32 fb) (h3 : dim ≤ 3) (h4 : as' + dim ≤ 4) (h5 : bs + i * dim + 3 * dim + dim ≤ 32)
    (hK : ∀ s18 s19 s20 s21 s22 s23 s24 s25 s26 s27 : Slot, Two s18 s19 → Two s20 s21 → Two s22 s23 → Two s24 s25 → Two s26 s27 → Good p.tables e below s G (T.setTop (mkF m 158 #[.val (.ref a), .val (.int (Int32.ofNat as')), .val (.ref b), .val (.int (Int32.ofNat bs)), .val (.int (Int32.ofNat cnt)), .val (.int (Int32.ofNat dim)), .val (.ref t), .val (.int (Int32.ofNat i)), .val (.int (Int32.ofNat (bs + i * dim))), .val (.double (dist fa fb as' (bs + i * dim) dim)), .second, .val (.double (dist fa fb as' (bs + i * dim + dim) dim)), .second, .val (.double (dist fa fb as' (bs + i * dim + 2 * dim) dim)), .second, .val (.double (dist fa fb as' (bs + i * dim + 3 * dim) dim)), .second, .val (.int (Int32.ofNat dim)), s18, s19, s20, s21, s22, s23, s24, s25, s26, s27] []))) :
    ∀ (k j : Nat) (s18 s19 s20 s21 s22 s23 s24 s25 s26 s27 : Slot), j + k = dim → Two s18 s19 → Two s20 s21 → Two s22 s23 → Two s24 s25 → Two s26 s27 → Good p.tables e below s G (T.setTop (mkF m 36 #[.val (.ref a), .val (.int (Int32.ofNat as')), .val (.ref b), .val (.int (Int32.ofNat bs)), .val (.int (Int32.ofNat cnt)), .val (.int (Int32.ofNat dim)), .val (.ref t), .val (.int (Int32.ofNat i)), .val (.int (Int32.ofNat (bs + i * dim))), .val (.double (dist fa fb as' (bs + i * dim) j)), .second, .val (.double (dist fa fb as' (bs + i * dim + dim) j)), .second, .val (.double (dist fa fb as' (bs + i * dim + 2 * dim) j)), .second, .val (.double (dist fa fb as' (bs + i * dim + 3 * dim) j)), .second, .val (.int (Int32.ofNat j)), s18, s19, s20, s21, s22, s23, s24, s25, s26, s27] [])) := by
  intro k
  induction k with
  | zero =>
    intro j s18 s19 s20 s21 s22 s23 s24 s25 s26 s27 hj t18 t20 t22 t24 t26
    refine Good.iload X hx (pc' := 38) rfl (hb hby d_sums_36) rfl ?_
    refine Good.iload X hx (pc' := 40) rfl (hb hby d_sums_38) rfl ?_
    refine Good.icmpYes X hx (pc' := 158) (by decide) (hb hby d_sums_40) (own_ge (by omega) (by omega) (by omega)) ?_
    obtain rfl : j = dim := by omega
    exact hK s18 s19 s20 s21 s22 s23 s24 s25 s26 s27 t18 t20 t22 t24 t26
  | succ k ih =>
    intro j s18 s19 s20 s21 s22 s23 s24 s25 s26 s27 hj t18 t20 t22 t24 t26
    refine Good.iload X hx (pc' := 38) rfl (hb hby d_sums_36) rfl ?_
    refine Good.iload X hx (pc' := 40) rfl (hb hby d_sums_38) rfl ?_
    refine Good.icmpNo X hx (pc' := 43) rfl (hb hby d_sums_40) (own_lt (by omega) (by omega)) ?_
    refine Good.aloadN X hx (pc' := 44) rfl (hb hby d_sums_43) rfl rfl ?_
    refine Good.iloadN X hx (pc' := 45) rfl (hb hby d_sums_44) rfl ?_
    refine Good.iload X hx (pc' := 47) rfl (hb hby d_sums_45) rfl ?_
    refine Good.iaddN X hx (pc' := 48) rfl (hb hby d_sums_47) ?_
    refine Good.daloadF X hx hZ e0 Da (as' + j) (own_n32 (by omega)) (by omega) (w := (fa (as' + j))) rfl (pc' := 49) rfl (hb hby d_sums_48) ?_
    refine Good.dstore X hx (pc' := 51) (Ls' := #[.val (.ref a), .val (.int (Int32.ofNat as')), .val (.ref b), .val (.int (Int32.ofNat bs)), .val (.int (Int32.ofNat cnt)), .val (.int (Int32.ofNat dim)), .val (.ref t), .val (.int (Int32.ofNat i)), .val (.int (Int32.ofNat (bs + i * dim))), .val (.double (dist fa fb as' (bs + i * dim) j)), .second, .val (.double (dist fa fb as' (bs + i * dim + dim) j)), .second, .val (.double (dist fa fb as' (bs + i * dim + 2 * dim) j)), .second, .val (.double (dist fa fb as' (bs + i * dim + 3 * dim) j)), .second, .val (.int (Int32.ofNat j)), .val (.double (fa (as' + j))), .second, s20, s21, s22, s23, s24, s25, s26, s27]) rfl (hb hby d_sums_49) (store2 rfl rfl t18) ?_
    refine Good.dload X hx (pc' := 53) rfl (hb hby d_sums_51) rfl ?_
    refine Good.aloadN X hx (pc' := 54) rfl (hb hby d_sums_53) rfl rfl ?_
    refine Good.iload X hx (pc' := 56) rfl (hb hby d_sums_54) rfl ?_
    refine Good.iload X hx (pc' := 58) rfl (hb hby d_sums_56) rfl ?_
    refine Good.iaddN X hx (pc' := 59) rfl (hb hby d_sums_58) ?_
    refine Good.daloadF X hx hZ e0 Db (bs + i * dim + j) (own_n32 (by omega)) (by omega) (w := (fb ((bs + i * dim) + j))) rfl (pc' := 60) rfl (hb hby d_sums_59) ?_
    refine Good.dsub X hx (pc' := 61) rfl (hb hby d_sums_60) (n_sub (ha _ (by omega)) (hb' _ (by omega))) ?_
    refine Good.dstore X hx (pc' := 63) (Ls' := #[.val (.ref a), .val (.int (Int32.ofNat as')), .val (.ref b), .val (.int (Int32.ofNat bs)), .val (.int (Int32.ofNat cnt)), .val (.int (Int32.ofNat dim)), .val (.ref t), .val (.int (Int32.ofNat i)), .val (.int (Int32.ofNat (bs + i * dim))), .val (.double (dist fa fb as' (bs + i * dim) j)), .second, .val (.double (dist fa fb as' (bs + i * dim + dim) j)), .second, .val (.double (dist fa fb as' (bs + i * dim + 2 * dim) j)), .second, .val (.double (dist fa fb as' (bs + i * dim + 3 * dim) j)), .second, .val (.int (Int32.ofNat j)), .val (.double (fa (as' + j))), .second, .val (.double (FP.dsub (fa (as' + j)) (fb ((bs + i * dim) + j)))), .second, s22, s23, s24, s25, s26, s27]) rfl (hb hby d_sums_61) (store2 rfl rfl t20) ?_
    refine Good.dload X hx (pc' := 65) rfl (hb hby d_sums_63) rfl ?_
    refine Good.aloadN X hx (pc' := 66) rfl (hb hby d_sums_65) rfl rfl ?_
    refine Good.iload X hx (pc' := 68) rfl (hb hby d_sums_66) rfl ?_
    refine Good.iload X hx (pc' := 70) rfl (hb hby d_sums_68) rfl ?_
    refine Good.iaddN X hx (pc' := 71) rfl (hb hby d_sums_70) ?_
    refine Good.iload X hx (pc' := 73) rfl (hb hby d_sums_71) rfl ?_
    refine Good.iaddN X hx (pc' := 74) rfl (hb hby d_sums_73) ?_
    refine Good.daloadF X hx hZ e0 Db (bs + i * dim + dim + j) (own_n32 (by omega)) (by omega) (w := (fb ((bs + i * dim + dim) + j))) rfl (pc' := 75) rfl (hb hby d_sums_74) ?_
    refine Good.dsub X hx (pc' := 76) rfl (hb hby d_sums_75) (n_sub (ha _ (by omega)) (hb' _ (by omega))) ?_
    refine Good.dstore X hx (pc' := 78) (Ls' := #[.val (.ref a), .val (.int (Int32.ofNat as')), .val (.ref b), .val (.int (Int32.ofNat bs)), .val (.int (Int32.ofNat cnt)), .val (.int (Int32.ofNat dim)), .val (.ref t), .val (.int (Int32.ofNat i)), .val (.int (Int32.ofNat (bs + i * dim))), .val (.double (dist fa fb as' (bs + i * dim) j)), .second, .val (.double (dist fa fb as' (bs + i * dim + dim) j)), .second, .val (.double (dist fa fb as' (bs + i * dim + 2 * dim) j)), .second, .val (.double (dist fa fb as' (bs + i * dim + 3 * dim) j)), .second, .val (.int (Int32.ofNat j)), .val (.double (fa (as' + j))), .second, .val (.double (FP.dsub (fa (as' + j)) (fb ((bs + i * dim) + j)))), .second, .val (.double (FP.dsub (fa (as' + j)) (fb ((bs + i * dim + dim) + j)))), .second, s24, s25, s26, s27]) rfl (hb hby d_sums_76) (store2 rfl rfl t22) ?_
    refine Good.dload X hx (pc' := 80) rfl (hb hby d_sums_78) rfl ?_
    refine Good.aloadN X hx (pc' := 81) rfl (hb hby d_sums_80) rfl rfl ?_
    refine Good.iload X hx (pc' := 83) rfl (hb hby d_sums_81) rfl ?_
    refine Good.iconst X hx (pc' := 84) (w := Int32.ofNat 2) rfl (hb hby d_sums_83) rfl ?_
    refine Good.iload X hx (pc' := 86) rfl (hb hby d_sums_84) rfl ?_
    refine Good.imulN X hx (pc' := 87) rfl (hb hby d_sums_86) ?_
    refine Good.iaddN X hx (pc' := 88) rfl (hb hby d_sums_87) ?_
    refine Good.iload X hx (pc' := 90) rfl (hb hby d_sums_88) rfl ?_
    refine Good.iaddN X hx (pc' := 91) rfl (hb hby d_sums_90) ?_
    refine Good.daloadF X hx hZ e0 Db (bs + i * dim + 2 * dim + j) (own_n32 (by omega)) (by omega) (w := (fb ((bs + i * dim + 2 * dim) + j))) rfl (pc' := 92) rfl (hb hby d_sums_91) ?_
    refine Good.dsub X hx (pc' := 93) rfl (hb hby d_sums_92) (n_sub (ha _ (by omega)) (hb' _ (by omega))) ?_
    refine Good.dstore X hx (pc' := 95) (Ls' := #[.val (.ref a), .val (.int (Int32.ofNat as')), .val (.ref b), .val (.int (Int32.ofNat bs)), .val (.int (Int32.ofNat cnt)), .val (.int (Int32.ofNat dim)), .val (.ref t), .val (.int (Int32.ofNat i)), .val (.int (Int32.ofNat (bs + i * dim))), .val (.double (dist fa fb as' (bs + i * dim) j)), .second, .val (.double (dist fa fb as' (bs + i * dim + dim) j)), .second, .val (.double (dist fa fb as' (bs + i * dim + 2 * dim) j)), .second, .val (.double (dist fa fb as' (bs + i * dim + 3 * dim) j)), .second, .val (.int (Int32.ofNat j)), .val (.double (fa (as' + j))), .second, .val (.double (FP.dsub (fa (as' + j)) (fb ((bs + i * dim) + j)))), .second, .val (.double (FP.dsub (fa (as' + j)) (fb ((bs + i * dim + dim) + j)))), .second, .val (.double (FP.dsub (fa (as' + j)) (fb ((bs + i * dim + 2 * dim) + j)))), .second, s26, s27]) rfl (hb hby d_sums_93) (store2 rfl rfl t24) ?_
    refine Good.dload X hx (pc' := 97) rfl (hb hby d_sums_95) rfl ?_
    refine Good.aloadN X hx (pc' := 98) rfl (hb hby d_sums_97) rfl rfl ?_
    refine Good.iload X hx (pc' := 100) rfl (hb hby d_sums_98) rfl ?_
    refine Good.iconst X hx (pc' := 101) (w := Int32.ofNat 3) rfl (hb hby d_sums_100) rfl ?_
    refine Good.iload X hx (pc' := 103) rfl (hb hby d_sums_101) rfl ?_
    refine Good.imulN X hx (pc' := 104) rfl (hb hby d_sums_103) ?_
    refine Good.iaddN X hx (pc' := 105) rfl (hb hby d_sums_104) ?_
    refine Good.iload X hx (pc' := 107) rfl (hb hby d_sums_105) rfl ?_
    refine Good.iaddN X hx (pc' := 108) rfl (hb hby d_sums_107) ?_
    refine Good.daloadF X hx hZ e0 Db (bs + i * dim + 3 * dim + j) (own_n32 (by omega)) (by omega) (w := (fb ((bs + i * dim + 3 * dim) + j))) rfl (pc' := 109) rfl (hb hby d_sums_108) ?_
    refine Good.dsub X hx (pc' := 110) rfl (hb hby d_sums_109) (n_sub (ha _ (by omega)) (hb' _ (by omega))) ?_
    refine Good.dstore X hx (pc' := 112) (Ls' := #[.val (.ref a), .val (.int (Int32.ofNat as')), .val (.ref b), .val (.int (Int32.ofNat bs)), .val (.int (Int32.ofNat cnt)), .val (.int (Int32.ofNat dim)), .val (.ref t), .val (.int (Int32.ofNat i)), .val (.int (Int32.ofNat (bs + i * dim))), .val (.double (dist fa fb as' (bs + i * dim) j)), .second, .val (.double (dist fa fb as' (bs + i * dim + dim) j)), .second, .val (.double (dist fa fb as' (bs + i * dim + 2 * dim) j)), .second, .val (.double (dist fa fb as' (bs + i * dim + 3 * dim) j)), .second, .val (.int (Int32.ofNat j)), .val (.double (fa (as' + j))), .second, .val (.double (FP.dsub (fa (as' + j)) (fb ((bs + i * dim) + j)))), .second, .val (.double (FP.dsub (fa (as' + j)) (fb ((bs + i * dim + dim) + j)))), .second, .val (.double (FP.dsub (fa (as' + j)) (fb ((bs + i * dim + 2 * dim) + j)))), .second, .val (.double (FP.dsub (fa (as' + j)) (fb ((bs + i * dim + 3 * dim) + j)))), .second]) rfl (hb hby d_sums_110) (store2 rfl rfl t26) ?_
    refine Good.dload X hx (pc' := 114) rfl (hb hby d_sums_112) rfl ?_
    refine Good.dload X hx (pc' := 116) rfl (hb hby d_sums_114) rfl ?_
    refine Good.dload X hx (pc' := 118) rfl (hb hby d_sums_116) rfl ?_
    refine Good.dmul X hx (pc' := 119) rfl (hb hby d_sums_118) (n_mul (ha _ (by omega)) (hb' _ (by omega))) ?_
    refine Good.dadd X hx (pc' := 120) rfl (hb hby d_sums_119) (n_add ha hb' j (by omega) (by omega) (by omega)) ?_
    rw [← dist_s fa fb as' (bs + i * dim) j]
    refine Good.dstore X hx (pc' := 122) (Ls' := #[.val (.ref a), .val (.int (Int32.ofNat as')), .val (.ref b), .val (.int (Int32.ofNat bs)), .val (.int (Int32.ofNat cnt)), .val (.int (Int32.ofNat dim)), .val (.ref t), .val (.int (Int32.ofNat i)), .val (.int (Int32.ofNat (bs + i * dim))), .val (.double (dist fa fb as' (bs + i * dim) (j + 1))), .second, .val (.double (dist fa fb as' (bs + i * dim + dim) j)), .second, .val (.double (dist fa fb as' (bs + i * dim + 2 * dim) j)), .second, .val (.double (dist fa fb as' (bs + i * dim + 3 * dim) j)), .second, .val (.int (Int32.ofNat j)), .val (.double (fa (as' + j))), .second, .val (.double (FP.dsub (fa (as' + j)) (fb ((bs + i * dim) + j)))), .second, .val (.double (FP.dsub (fa (as' + j)) (fb ((bs + i * dim + dim) + j)))), .second, .val (.double (FP.dsub (fa (as' + j)) (fb ((bs + i * dim + 2 * dim) + j)))), .second, .val (.double (FP.dsub (fa (as' + j)) (fb ((bs + i * dim + 3 * dim) + j)))), .second]) rfl (hb hby d_sums_120) rfl ?_
    refine Good.dload X hx (pc' := 124) rfl (hb hby d_sums_122) rfl ?_
    refine Good.dload X hx (pc' := 126) rfl (hb hby d_sums_124) rfl ?_
    refine Good.dload X hx (pc' := 128) rfl (hb hby d_sums_126) rfl ?_
    refine Good.dmul X hx (pc' := 129) rfl (hb hby d_sums_128) (n_mul (ha _ (by omega)) (hb' _ (by omega))) ?_
    refine Good.dadd X hx (pc' := 130) rfl (hb hby d_sums_129) (n_add ha hb' j (by omega) (by omega) (by omega)) ?_
    rw [← dist_s fa fb as' (bs + i * dim + dim) j]
    refine Good.dstore X hx (pc' := 132) (Ls' := #[.val (.ref a), .val (.int (Int32.ofNat as')), .val (.ref b), .val (.int (Int32.ofNat bs)), .val (.int (Int32.ofNat cnt)), .val (.int (Int32.ofNat dim)), .val (.ref t), .val (.int (Int32.ofNat i)), .val (.int (Int32.ofNat (bs + i * dim))), .val (.double (dist fa fb as' (bs + i * dim) (j + 1))), .second, .val (.double (dist fa fb as' (bs + i * dim + dim) (j + 1))), .second, .val (.double (dist fa fb as' (bs + i * dim + 2 * dim) j)), .second, .val (.double (dist fa fb as' (bs + i * dim + 3 * dim) j)), .second, .val (.int (Int32.ofNat j)), .val (.double (fa (as' + j))), .second, .val (.double (FP.dsub (fa (as' + j)) (fb ((bs + i * dim) + j)))), .second, .val (.double (FP.dsub (fa (as' + j)) (fb ((bs + i * dim + dim) + j)))), .second, .val (.double (FP.dsub (fa (as' + j)) (fb ((bs + i * dim + 2 * dim) + j)))), .second, .val (.double (FP.dsub (fa (as' + j)) (fb ((bs + i * dim + 3 * dim) + j)))), .second]) rfl (hb hby d_sums_130) rfl ?_
    refine Good.dload X hx (pc' := 134) rfl (hb hby d_sums_132) rfl ?_
    refine Good.dload X hx (pc' := 136) rfl (hb hby d_sums_134) rfl ?_
    refine Good.dload X hx (pc' := 138) rfl (hb hby d_sums_136) rfl ?_
    refine Good.dmul X hx (pc' := 139) rfl (hb hby d_sums_138) (n_mul (ha _ (by omega)) (hb' _ (by omega))) ?_
    refine Good.dadd X hx (pc' := 140) rfl (hb hby d_sums_139) (n_add ha hb' j (by omega) (by omega) (by omega)) ?_
    rw [← dist_s fa fb as' (bs + i * dim + 2 * dim) j]
    refine Good.dstore X hx (pc' := 142) (Ls' := #[.val (.ref a), .val (.int (Int32.ofNat as')), .val (.ref b), .val (.int (Int32.ofNat bs)), .val (.int (Int32.ofNat cnt)), .val (.int (Int32.ofNat dim)), .val (.ref t), .val (.int (Int32.ofNat i)), .val (.int (Int32.ofNat (bs + i * dim))), .val (.double (dist fa fb as' (bs + i * dim) (j + 1))), .second, .val (.double (dist fa fb as' (bs + i * dim + dim) (j + 1))), .second, .val (.double (dist fa fb as' (bs + i * dim + 2 * dim) (j + 1))), .second, .val (.double (dist fa fb as' (bs + i * dim + 3 * dim) j)), .second, .val (.int (Int32.ofNat j)), .val (.double (fa (as' + j))), .second, .val (.double (FP.dsub (fa (as' + j)) (fb ((bs + i * dim) + j)))), .second, .val (.double (FP.dsub (fa (as' + j)) (fb ((bs + i * dim + dim) + j)))), .second, .val (.double (FP.dsub (fa (as' + j)) (fb ((bs + i * dim + 2 * dim) + j)))), .second, .val (.double (FP.dsub (fa (as' + j)) (fb ((bs + i * dim + 3 * dim) + j)))), .second]) rfl (hb hby d_sums_140) rfl ?_
    refine Good.dload X hx (pc' := 144) rfl (hb hby d_sums_142) rfl ?_
    refine Good.dload X hx (pc' := 146) rfl (hb hby d_sums_144) rfl ?_
    refine Good.dload X hx (pc' := 148) rfl (hb hby d_sums_146) rfl ?_
    refine Good.dmul X hx (pc' := 149) rfl (hb hby d_sums_148) (n_mul (ha _ (by omega)) (hb' _ (by omega))) ?_
    refine Good.dadd X hx (pc' := 150) rfl (hb hby d_sums_149) (n_add ha hb' j (by omega) (by omega) (by omega)) ?_
    rw [← dist_s fa fb as' (bs + i * dim + 3 * dim) j]
    refine Good.dstore X hx (pc' := 152) (Ls' := #[.val (.ref a), .val (.int (Int32.ofNat as')), .val (.ref b), .val (.int (Int32.ofNat bs)), .val (.int (Int32.ofNat cnt)), .val (.int (Int32.ofNat dim)), .val (.ref t), .val (.int (Int32.ofNat i)), .val (.int (Int32.ofNat (bs + i * dim))), .val (.double (dist fa fb as' (bs + i * dim) (j + 1))), .second, .val (.double (dist fa fb as' (bs + i * dim + dim) (j + 1))), .second, .val (.double (dist fa fb as' (bs + i * dim + 2 * dim) (j + 1))), .second, .val (.double (dist fa fb as' (bs + i * dim + 3 * dim) (j + 1))), .second, .val (.int (Int32.ofNat j)), .val (.double (fa (as' + j))), .second, .val (.double (FP.dsub (fa (as' + j)) (fb ((bs + i * dim) + j)))), .second, .val (.double (FP.dsub (fa (as' + j)) (fb ((bs + i * dim + dim) + j)))), .second, .val (.double (FP.dsub (fa (as' + j)) (fb ((bs + i * dim + 2 * dim) + j)))), .second, .val (.double (FP.dsub (fa (as' + j)) (fb ((bs + i * dim + 3 * dim) + j)))), .second]) rfl (hb hby d_sums_150) rfl ?_
    refine Good.iincN X hx (pc' := 155) (w := 1) (Ls' := #[.val (.ref a), .val (.int (Int32.ofNat as')), .val (.ref b), .val (.int (Int32.ofNat bs)), .val (.int (Int32.ofNat cnt)), .val (.int (Int32.ofNat dim)), .val (.ref t), .val (.int (Int32.ofNat i)), .val (.int (Int32.ofNat (bs + i * dim))), .val (.double (dist fa fb as' (bs + i * dim) (j + 1))), .second, .val (.double (dist fa fb as' (bs + i * dim + dim) (j + 1))), .second, .val (.double (dist fa fb as' (bs + i * dim + 2 * dim) (j + 1))), .second, .val (.double (dist fa fb as' (bs + i * dim + 3 * dim) (j + 1))), .second, .val (.int (Int32.ofNat (j + 1))), .val (.double (fa (as' + j))), .second, .val (.double (FP.dsub (fa (as' + j)) (fb ((bs + i * dim) + j)))), .second, .val (.double (FP.dsub (fa (as' + j)) (fb ((bs + i * dim + dim) + j)))), .second, .val (.double (FP.dsub (fa (as' + j)) (fb ((bs + i * dim + 2 * dim) + j)))), .second, .val (.double (FP.dsub (fa (as' + j)) (fb ((bs + i * dim + 3 * dim) + j)))), .second]) rfl (hb hby d_sums_152) rfl rfl rfl ?_
    refine Good.goto X hx (pc' := 36) (by decide) (hb hby d_sums_155) ?_
    exact ih (j + 1) _ _ _ _ _ _ _ _ _ _ (by omega) (Two.d _) (Two.d _) (Two.d _) (Two.d _) (Two.d _)
theorem own_step {fa fb g : Nat → UInt64} {as' bs dim i : Nat} (q : Nat) : updD (fun q => if q < i then dist fa fb as' (bs + q * dim) dim else g q) i (dist fa fb as' (bs + i * dim) dim) q = if q < i + 1 then dist fa fb as' (bs + q * dim) dim else g q := by
  unfold updD
  dsimp only
  by_cases h : q = i
  · subst h; rw [if_pos rfl, if_pos (by omega)]
  · rw [if_neg h]
    by_cases h2 : q < i
    · rw [if_pos h2, if_pos (by omega)]
    · rw [if_neg h2, if_neg (by omega)]
set_option maxRecDepth 65536 in
set_option maxHeartbeats 40000000 in
theorem loop_tail {p : Program} {l : Launch} {e : Env} {s : State} {m : MethodId} {args : Array Value} {below : List Frame} {meth : Method} {c : Code} {Z : State} {G : Option Value → Heap → List Loc → Nat → Nat → Prop} {a b t : Addr} {as' bs cnt dim : Nat} {fa fb g : Nat → UInt64} {h1 : Heap} {n0 : Nat} (l0 : l = l) (a0 : Array Value) (hw : ∀ d ∈ tables_1, d.before a0 Z = true) (hx : p.tables.exec = Jvm.exec) (hby : c.code = prog_20_method_5_code) (hml : c.maxLocals = 28) (hown : s.vm.findClass "com/example/streamcover/streamcover/Distance" = some m.cls) (hret : meth.sig.returnType = none) (hlk : meth.locks = false) (hZ : Z.Warmed39 s.vm) (ha : AllM 4 fa) (hb' : AllM 32 fb) (h3 : dim ≤ 3) (h4 : as' + dim ≤ 4) (hc8 : cnt ≤ 8) (hb7 : bs ≤ 7) (hta : a ≠ t) (htb : b ≠ t) (gt : n0 ≤ t) (hv : ∀ (T : State) (h : Heap) (locs : List Loc), T.heap = h → DA Z h t 9 (fun q => if q < cnt then dist fa fb as' (bs + q * dim) dim else g q) → Fr n0 locs → Keep h1 h [t] → G none T.heap locs 0 0) :
    ∀ (k i : Nat) (T : State) (h : Heap) (locs : List Loc) (s8 s9 s10 s11 s12 s13 s14 s15 s16 s17 s18 s19 s20 s21 s22 s23 s24 s25 s26 s27 : Slot), i + k = cnt → Stand p l e ({ frames := 1, cells := 0, slots := 0, locals := 60 } : Room) s m args below meth c T locs 0 0 → T.heap = h → DA Z h a 4 fa → DA Z h b 32 fb → DA Z h t 9 (fun q => if q < i then dist fa fb as' (bs + q * dim) dim else g q) → n0 ≤ h.size → Fr n0 locs → Keep h1 h [t] → Good p.tables e below s G (T.setTop (mkF m 198 #[.val (.ref a), .val (.int (Int32.ofNat as')), .val (.ref b), .val (.int (Int32.ofNat bs)), .val (.int (Int32.ofNat cnt)), .val (.int (Int32.ofNat dim)), .val (.ref t), .val (.int (Int32.ofNat i)), s8, s9, s10, s11, s12, s13, s14, s15, s16, s17, s18, s19, s20, s21, s22, s23, s24, s25, s26, s27] [])) := by
  intro k
  induction k with
  | zero =>
    intro i T h locs s8 s9 s10 s11 s12 s13 s14 s15 s16 s17 s18 s19 s20 s21 s22 s23 s24 s25 s26 s27 hi X eT Da Db Dt Z0 NN KK
    refine Good.iload X hx (pc' := 200) rfl (hb hby d_sums_198) rfl ?_
    refine Good.iload X hx (pc' := 202) rfl (hb hby d_sums_200) rfl ?_
    refine Good.icmpYes X hx (pc' := 231) (by decide) (hb hby d_sums_202) (own_ge (by omega) (by omega) (by omega)) ?_
    obtain rfl : i = cnt := by omega
    exact Good.ret0 X hx hlk hret (hb hby d_sums_231) (hv T h locs eT Dt NN KK)
  | succ k ih =>
    intro i T h locs s8 s9 s10 s11 s12 s13 s14 s15 s16 s17 s18 s19 s20 s21 s22 s23 s24 s25 s26 s27 hi X eT Da Db Dt Z0 NN KK
    refine Good.iload X hx (pc' := 200) rfl (hb hby d_sums_198) rfl ?_
    refine Good.iload X hx (pc' := 202) rfl (hb hby d_sums_200) rfl ?_
    refine Good.icmpNo X hx (pc' := 205) rfl (hb hby d_sums_202) (own_lt (by omega) (by omega)) ?_
    have hm : i * dim ≤ 7 * 3 := Nat.mul_le_mul (by omega) h3
    refine Good.aload X hx (pc' := 207) rfl (hb hby d_sums_205) rfl rfl ?_
    refine Good.iload X hx (pc' := 209) rfl (hb hby d_sums_207) rfl ?_
    refine Good.aloadN X hx (pc' := 210) rfl (hb hby d_sums_209) rfl rfl ?_
    refine Good.iloadN X hx (pc' := 211) rfl (hb hby d_sums_210) rfl ?_
    refine Good.aloadN X hx (pc' := 212) rfl (hb hby d_sums_211) rfl rfl ?_
    refine Good.iloadN X hx (pc' := 213) rfl (hb hby d_sums_212) rfl ?_
    refine Good.iload X hx (pc' := 215) rfl (hb hby d_sums_213) rfl ?_
    refine Good.iload X hx (pc' := 217) rfl (hb hby d_sums_215) rfl ?_
    refine Good.imulN X hx (pc' := 218) rfl (hb hby d_sums_217) ?_
    refine Good.iaddN X hx (pc' := 219) rfl (hb hby d_sums_218) ?_
    refine Good.iload X hx (pc' := 221) rfl (hb hby d_sums_219) rfl ?_
    refine Good.callS X hx hZ (y := ⟨"com/example/streamcover/streamcover/Distance", "sumOfSquares", "([DI[DII)D"⟩) hown (hw _ (List.mem_of_getElem? (i := 21) rfl)) (hw _ (List.mem_of_getElem? (i := 22) rfl)) (hw _ (List.mem_of_getElem? (i := 13) rfl)) (hw _ (List.mem_of_getElem? (i := 23) rfl)) (by decide) eT (argsL := [(.ref a), (.int (Int32.ofNat as')), (.ref b), (.int (Int32.ofNat (bs + (i * dim)))), (.int (Int32.ofNat dim))]) (rest := [(.int (Int32.ofNat i)), (.ref t)]) (c_sq l Z a0 hw a b as' (bs + i * dim) dim fa fb h Da Db ha hb' h3 h4 (by omega)) (hdesc := pd_0) rfl (pc' := 224) rfl (by rw [hml]; rfl) rfl (hb hby d_sums_221) (W := 2) (Nat.le_of_eq rfl) (by decide) (by decide) (by decide) (by decide) fun v1 T1 L1 X1 Q1 => ?_
    obtain ⟨rfl, hh, rfl⟩ := Q1
    rw [List.append_nil] at X1
    refine Good.dastoreF X1 hx hZ hh Dt (i) (own_n32 (by omega)) (by omega) (pc' := 225) rfl (hb hby d_sums_224) fun T2 h2 X2 e2 W2 V2 => ?_
    have DA_a_2 := Da.other W2 hta
    have DA_b_2 := Db.other W2 htb
    have Z_2 : n0 ≤ h2.size := by rw [W2.size]; exact Z0
    have N_2 := Fr.snoc X2 NN gt
    refine Good.iincN X2 hx (pc' := 228) (w := 1) (Ls' := #[.val (.ref a), .val (.int (Int32.ofNat as')), .val (.ref b), .val (.int (Int32.ofNat bs)), .val (.int (Int32.ofNat cnt)), .val (.int (Int32.ofNat dim)), .val (.ref t), .val (.int (Int32.ofNat (i + 1))), s8, s9, s10, s11, s12, s13, s14, s15, s16, s17, s18, s19, s20, s21, s22, s23, s24, s25, s26, s27]) rfl (hb hby d_sums_225) rfl rfl rfl ?_
    refine Good.goto X2 hx (pc' := 198) (by decide) (hb hby d_sums_228) ?_
    exact ih (i + 1) _ _ _ s8 s9 s10 s11 s12 s13 s14 s15 s16 s17 s18 s19 s20 s21 s22 s23 s24 s25 s26 s27 (by omega) X2 e2 DA_a_2 DA_b_2 (DA.eq V2 fun q _ => own_step q) Z_2 N_2 (KK.wr W2 (Or.inl (by simp)))
theorem own_four {fa fb g : Nat → UInt64} {as' bs dim i : Nat} (q : Nat) : updD (updD (updD (updD (fun q => if q < i then dist fa fb as' (bs + q * dim) dim else g q) i (dist fa fb as' (bs + i * dim) dim)) (i + 1) (dist fa fb as' (bs + (i + 1) * dim) dim)) (i + 2) (dist fa fb as' (bs + (i + 2) * dim) dim)) (i + 3) (dist fa fb as' (bs + (i + 3) * dim) dim) q = if q < i + 4 then dist fa fb as' (bs + q * dim) dim else g q := by
  have e1 : updD (fun q => if q < i then dist fa fb as' (bs + q * dim) dim else g q) i (dist fa fb as' (bs + i * dim) dim) = fun q => if q < i + 1 then dist fa fb as' (bs + q * dim) dim else g q := funext fun q => own_step q
  have e2 : updD (fun q => if q < i + 1 then dist fa fb as' (bs + q * dim) dim else g q) (i + 1) (dist fa fb as' (bs + (i + 1) * dim) dim) = fun q => if q < i + 1 + 1 then dist fa fb as' (bs + q * dim) dim else g q := funext fun q => own_step q
  have e3 : updD (fun q => if q < i + 2 then dist fa fb as' (bs + q * dim) dim else g q) (i + 2) (dist fa fb as' (bs + (i + 2) * dim) dim) = fun q => if q < i + 2 + 1 then dist fa fb as' (bs + q * dim) dim else g q := funext fun q => own_step q
  rw [e1, e2, e3]
  exact own_step q
set_option maxRecDepth 65536 in
set_option maxHeartbeats 40000000 in
theorem loop_out {p : Program} {l : Launch} {e : Env} {s : State} {m : MethodId} {args : Array Value} {below : List Frame} {meth : Method} {c : Code} {Z : State} {G : Option Value → Heap → List Loc → Nat → Nat → Prop} {a b t : Addr} {as' bs cnt dim : Nat} {fa fb g : Nat → UInt64} {h1 : Heap} {n0 : Nat} (l0 : l = l) (a0 : Array Value) (hw : ∀ d ∈ tables_1, d.before a0 Z = true) (hx : p.tables.exec = Jvm.exec) (hby : c.code = prog_20_method_5_code) (hml : c.maxLocals = 28) (hown : s.vm.findClass "com/example/streamcover/streamcover/Distance" = some m.cls) (hret : meth.sig.returnType = none) (hlk : meth.locks = false) (hZ : Z.Warmed39 s.vm) (ha : AllM 4 fa) (hb' : AllM 32 fb) (h3 : dim ≤ 3) (h4 : as' + dim ≤ 4) (hc8 : cnt ≤ 8) (hb7 : bs ≤ 7) (hta : a ≠ t) (htb : b ≠ t) (gt : n0 ≤ t) (hv : ∀ (T : State) (h : Heap) (locs : List Loc), T.heap = h → DA Z h t 9 (fun q => if q < cnt then dist fa fb as' (bs + q * dim) dim else g q) → Fr n0 locs → Keep h1 h [t] → G none T.heap locs 0 0) :
    ∀ (k i : Nat) (T : State) (h : Heap) (locs : List Loc) (s8 s9 s10 s11 s12 s13 s14 s15 s16 s17 s18 s19 s20 s21 s22 s23 s24 s25 s26 s27 : Slot), i + 4 * k ≤ cnt → cnt < i + 4 * k + 4 → One1 s8 → Two s9 s10 → Two s11 s12 → Two s13 s14 → Two s15 s16 → One1 s17 → Two s18 s19 → Two s20 s21 → Two s22 s23 → Two s24 s25 → Two s26 s27 → Stand p l e ({ frames := 1, cells := 0, slots := 0, locals := 60 } : Room) s m args below meth c T locs 0 0 → T.heap = h → DA Z h a 4 fa → DA Z h b 32 fb → DA Z h t 9 (fun q => if q < i then dist fa fb as' (bs + q * dim) dim else g q) → n0 ≤ h.size → Fr n0 locs → Keep h1 h [t] → Good p.tables e below s G (T.setTop (mkF m 3 #[.val (.ref a), .val (.int (Int32.ofNat as')), .val (.ref b), .val (.int (Int32.ofNat bs)), .val (.int (Int32.ofNat cnt)), .val (.int (Int32.ofNat dim)), .val (.ref t), .val (.int (Int32.ofNat i)), s8, s9, s10, s11, s12, s13, s14, s15, s16, s17, s18, s19, s20, s21, s22, s23, s24, s25, s26, s27] [])) := by
  intro k
  induction k with
  | zero =>
    intro i T h locs s8 s9 s10 s11 s12 s13 s14 s15 s16 s17 s18 s19 s20 s21 s22 s23 s24 s25 s26 s27 hi1 hi2 t8 t9 t11 t13 t15 t17 t18 t20 t22 t24 t26 X eT Da Db Dt Z0 NN KK
    refine Good.iload X hx (pc' := 5) rfl (hb hby d_sums_3) rfl ?_
    refine Good.iconst X hx (pc' := 6) (w := Int32.ofNat 4) rfl (hb hby d_sums_5) rfl ?_
    refine Good.iaddN X hx (pc' := 7) rfl (hb hby d_sums_6) ?_
    refine Good.iload X hx (pc' := 9) rfl (hb hby d_sums_7) rfl ?_
    refine Good.icmpYes X hx (pc' := 198) (by decide) (hb hby d_sums_9) (own_gtY (by omega) (by omega)) ?_
    exact loop_tail l0 a0 hw hx hby hml hown hret hlk hZ ha hb' h3 h4 hc8 hb7 hta htb gt hv (cnt - i) i T h locs s8 s9 s10 s11 s12 s13 s14 s15 s16 s17 s18 s19 s20 s21 s22 s23 s24 s25 s26 s27 (by omega) X eT Da Db Dt Z0 NN KK
  | succ k ih =>
    intro i T h locs s8 s9 s10 s11 s12 s13 s14 s15 s16 s17 s18 s19 s20 s21 s22 s23 s24 s25 s26 s27 hi1 hi2 t8 t9 t11 t13 t15 t17 t18 t20 t22 t24 t26 X eT Da Db Dt Z0 NN KK
    refine Good.iload X hx (pc' := 5) rfl (hb hby d_sums_3) rfl ?_
    refine Good.iconst X hx (pc' := 6) (w := Int32.ofNat 4) rfl (hb hby d_sums_5) rfl ?_
    refine Good.iaddN X hx (pc' := 7) rfl (hb hby d_sums_6) ?_
    refine Good.iload X hx (pc' := 9) rfl (hb hby d_sums_7) rfl ?_
    refine Good.icmpNo X hx (pc' := 12) rfl (hb hby d_sums_9) (own_gtN (by omega) (by omega) (by omega)) ?_
    have hm : i * dim ≤ 4 * 3 := Nat.mul_le_mul (by omega) h3
    refine Good.iloadN X hx (pc' := 13) rfl (hb hby d_sums_12) rfl ?_
    refine Good.iload X hx (pc' := 15) rfl (hb hby d_sums_13) rfl ?_
    refine Good.iload X hx (pc' := 17) rfl (hb hby d_sums_15) rfl ?_
    refine Good.imulN X hx (pc' := 18) rfl (hb hby d_sums_17) ?_
    refine Good.iaddN X hx (pc' := 19) rfl (hb hby d_sums_18) ?_
    refine Good.istore X hx (pc' := 21) (Ls' := #[.val (.ref a), .val (.int (Int32.ofNat as')), .val (.ref b), .val (.int (Int32.ofNat bs)), .val (.int (Int32.ofNat cnt)), .val (.int (Int32.ofNat dim)), .val (.ref t), .val (.int (Int32.ofNat i)), .val (.int (Int32.ofNat (bs + (i * dim)))), s9, s10, s11, s12, s13, s14, s15, s16, s17, s18, s19, s20, s21, s22, s23, s24, s25, s26, s27]) rfl (hb hby d_sums_19) (XS.store1 rfl t8 rfl) ?_
    refine Good.dconst0 X hx (pc' := 22) rfl (hb hby d_sums_21) ?_
    refine Good.dstore X hx (pc' := 24) (Ls' := #[.val (.ref a), .val (.int (Int32.ofNat as')), .val (.ref b), .val (.int (Int32.ofNat bs)), .val (.int (Int32.ofNat cnt)), .val (.int (Int32.ofNat dim)), .val (.ref t), .val (.int (Int32.ofNat i)), .val (.int (Int32.ofNat (bs + (i * dim)))), .val (.double FP.dconst0), .second, s11, s12, s13, s14, s15, s16, s17, s18, s19, s20, s21, s22, s23, s24, s25, s26, s27]) rfl (hb hby d_sums_22) (store2 rfl rfl t9) ?_
    refine Good.dconst0 X hx (pc' := 25) rfl (hb hby d_sums_24) ?_
    refine Good.dstore X hx (pc' := 27) (Ls' := #[.val (.ref a), .val (.int (Int32.ofNat as')), .val (.ref b), .val (.int (Int32.ofNat bs)), .val (.int (Int32.ofNat cnt)), .val (.int (Int32.ofNat dim)), .val (.ref t), .val (.int (Int32.ofNat i)), .val (.int (Int32.ofNat (bs + (i * dim)))), .val (.double FP.dconst0), .second, .val (.double FP.dconst0), .second, s13, s14, s15, s16, s17, s18, s19, s20, s21, s22, s23, s24, s25, s26, s27]) rfl (hb hby d_sums_25) (store2 rfl rfl t11) ?_
    refine Good.dconst0 X hx (pc' := 28) rfl (hb hby d_sums_27) ?_
    refine Good.dstore X hx (pc' := 30) (Ls' := #[.val (.ref a), .val (.int (Int32.ofNat as')), .val (.ref b), .val (.int (Int32.ofNat bs)), .val (.int (Int32.ofNat cnt)), .val (.int (Int32.ofNat dim)), .val (.ref t), .val (.int (Int32.ofNat i)), .val (.int (Int32.ofNat (bs + (i * dim)))), .val (.double FP.dconst0), .second, .val (.double FP.dconst0), .second, .val (.double FP.dconst0), .second, s15, s16, s17, s18, s19, s20, s21, s22, s23, s24, s25, s26, s27]) rfl (hb hby d_sums_28) (store2 rfl rfl t13) ?_
    refine Good.dconst0 X hx (pc' := 31) rfl (hb hby d_sums_30) ?_
    refine Good.dstore X hx (pc' := 33) (Ls' := #[.val (.ref a), .val (.int (Int32.ofNat as')), .val (.ref b), .val (.int (Int32.ofNat bs)), .val (.int (Int32.ofNat cnt)), .val (.int (Int32.ofNat dim)), .val (.ref t), .val (.int (Int32.ofNat i)), .val (.int (Int32.ofNat (bs + (i * dim)))), .val (.double FP.dconst0), .second, .val (.double FP.dconst0), .second, .val (.double FP.dconst0), .second, .val (.double FP.dconst0), .second, s17, s18, s19, s20, s21, s22, s23, s24, s25, s26, s27]) rfl (hb hby d_sums_31) (store2 rfl rfl t15) ?_
    refine Good.iconst X hx (pc' := 34) (w := Int32.ofNat 0) rfl (hb hby d_sums_33) rfl ?_
    refine Good.istore X hx (pc' := 36) (Ls' := #[.val (.ref a), .val (.int (Int32.ofNat as')), .val (.ref b), .val (.int (Int32.ofNat bs)), .val (.int (Int32.ofNat cnt)), .val (.int (Int32.ofNat dim)), .val (.ref t), .val (.int (Int32.ofNat i)), .val (.int (Int32.ofNat (bs + (i * dim)))), .val (.double FP.dconst0), .second, .val (.double FP.dconst0), .second, .val (.double FP.dconst0), .second, .val (.double FP.dconst0), .second, .val (.int (Int32.ofNat 0)), s18, s19, s20, s21, s22, s23, s24, s25, s26, s27]) rfl (hb hby d_sums_34) (XS.store1 rfl t17 rfl) ?_
    show Good p.tables e below s G (T.setTop (mkF m 36 #[.val (.ref a), .val (.int (Int32.ofNat as')), .val (.ref b), .val (.int (Int32.ofNat bs)), .val (.int (Int32.ofNat cnt)), .val (.int (Int32.ofNat dim)), .val (.ref t), .val (.int (Int32.ofNat i)), .val (.int (Int32.ofNat (bs + (i * dim)))), .val (.double (dist fa fb as' (bs + i * dim) 0)), .second, .val (.double (dist fa fb as' (bs + i * dim + dim) 0)), .second, .val (.double (dist fa fb as' (bs + i * dim + 2 * dim) 0)), .second, .val (.double (dist fa fb as' (bs + i * dim + 3 * dim) 0)), .second, .val (.int (Int32.ofNat 0)), s18, s19, s20, s21, s22, s23, s24, s25, s26, s27] []))
    refine loop_in (fa := fa) (fb := fb) X hx hby hZ eT Da Db ha hb' h3 h4 (by omega) ?_ dim 0 s18 s19 s20 s21 s22 s23 s24 s25 s26 s27 (by omega) t18 t20 t22 t24 t26
    intro r18 r19 r20 r21 r22 r23 r24 r25 r26 r27 u18 u20 u22 u24 u26
    refine Good.aload X hx (pc' := 160) rfl (hb hby d_sums_158) rfl rfl ?_
    refine Good.iload X hx (pc' := 162) rfl (hb hby d_sums_160) rfl ?_
    refine Good.dload X hx (pc' := 164) rfl (hb hby d_sums_162) rfl ?_
    refine Good.dastoreF X hx hZ eT Dt (i) (own_n32 (by omega)) (by omega) (pc' := 165) rfl (hb hby d_sums_164) fun T1 h1 X1 e1 W1 V1 => ?_
    have DA_a_1 := Da.other W1 hta
    have DA_b_1 := Db.other W1 htb
    have Z_1 : n0 ≤ h1.size := by rw [W1.size]; exact Z0
    have N_1 := Fr.snoc X1 NN gt
    refine Good.aload X1 hx (pc' := 167) rfl (hb hby d_sums_165) rfl rfl ?_
    refine Good.iload X1 hx (pc' := 169) rfl (hb hby d_sums_167) rfl ?_
    refine Good.iconst X1 hx (pc' := 170) (w := Int32.ofNat 1) rfl (hb hby d_sums_169) rfl ?_
    refine Good.iaddN X1 hx (pc' := 171) rfl (hb hby d_sums_170) ?_
    refine Good.dload X1 hx (pc' := 173) rfl (hb hby d_sums_171) rfl ?_
    refine Good.dastoreF X1 hx hZ e1 V1 (i + 1) (own_n32 (by omega)) (by omega) (pc' := 174) rfl (hb hby d_sums_173) fun T2 h2 X2 e2 W2 V2 => ?_
    have DA_a_2 := DA_a_1.other W2 hta
    have DA_b_2 := DA_b_1.other W2 htb
    have Z_2 : n0 ≤ h2.size := by rw [W2.size]; exact Z_1
    have N_2 := Fr.snoc X2 N_1 gt
    refine Good.aload X2 hx (pc' := 176) rfl (hb hby d_sums_174) rfl rfl ?_
    refine Good.iload X2 hx (pc' := 178) rfl (hb hby d_sums_176) rfl ?_
    refine Good.iconst X2 hx (pc' := 179) (w := Int32.ofNat 2) rfl (hb hby d_sums_178) rfl ?_
    refine Good.iaddN X2 hx (pc' := 180) rfl (hb hby d_sums_179) ?_
    refine Good.dload X2 hx (pc' := 182) rfl (hb hby d_sums_180) rfl ?_
    refine Good.dastoreF X2 hx hZ e2 V2 (i + 2) (own_n32 (by omega)) (by omega) (pc' := 183) rfl (hb hby d_sums_182) fun T3 h3 X3 e3 W3 V3 => ?_
    have DA_a_3 := DA_a_2.other W3 hta
    have DA_b_3 := DA_b_2.other W3 htb
    have Z_3 : n0 ≤ h3.size := by rw [W3.size]; exact Z_2
    have N_3 := Fr.snoc X3 N_2 gt
    refine Good.aload X3 hx (pc' := 185) rfl (hb hby d_sums_183) rfl rfl ?_
    refine Good.iload X3 hx (pc' := 187) rfl (hb hby d_sums_185) rfl ?_
    refine Good.iconst X3 hx (pc' := 188) (w := Int32.ofNat 3) rfl (hb hby d_sums_187) rfl ?_
    refine Good.iaddN X3 hx (pc' := 189) rfl (hb hby d_sums_188) ?_
    refine Good.dload X3 hx (pc' := 191) rfl (hb hby d_sums_189) rfl ?_
    refine Good.dastoreF X3 hx hZ e3 V3 (i + 3) (own_n32 (by omega)) (by omega) (pc' := 192) rfl (hb hby d_sums_191) fun T4 h4 X4 e4 W4 V4 => ?_
    have DA_a_4 := DA_a_3.other W4 hta
    have DA_b_4 := DA_b_3.other W4 htb
    have Z_4 : n0 ≤ h4.size := by rw [W4.size]; exact Z_3
    have N_4 := Fr.snoc X4 N_3 gt
    refine Good.iincN X4 hx (pc' := 195) (w := 4) (Ls' := #[.val (.ref a), .val (.int (Int32.ofNat as')), .val (.ref b), .val (.int (Int32.ofNat bs)), .val (.int (Int32.ofNat cnt)), .val (.int (Int32.ofNat dim)), .val (.ref t), .val (.int (Int32.ofNat (i + 4))), .val (.int (Int32.ofNat (bs + i * dim))), .val (.double (dist fa fb as' (bs + i * dim) dim)), .second, .val (.double (dist fa fb as' (bs + i * dim + dim) dim)), .second, .val (.double (dist fa fb as' (bs + i * dim + 2 * dim) dim)), .second, .val (.double (dist fa fb as' (bs + i * dim + 3 * dim) dim)), .second, .val (.int (Int32.ofNat dim)), r18, r19, r20, r21, r22, r23, r24, r25, r26, r27]) rfl (hb hby d_sums_192) rfl rfl rfl ?_
    refine Good.goto X4 hx (pc' := 3) (by decide) (hb hby d_sums_195) ?_
    refine ih (i + 4) _ _ _ _ _ _ _ _ _ _ _ _ _ _ _ _ _ _ _ _ _ _ _ (by omega) (by omega) (One1.i _) (Two.d _) (Two.d _) (Two.d _) (Two.d _) (One1.i _) u18 u20 u22 u24 u26 X4 e4 DA_a_4 DA_b_4 (DA.eq V4 fun q _ => ?_) Z_4 N_4 ((((KK.wr W1 (Or.inl (by simp))).wr W2 (Or.inl (by simp))).wr W3 (Or.inl (by simp))).wr W4 (Or.inl (by simp)))
    have c1 : bs + i * dim + dim = bs + (i + 1) * dim := by rw [Nat.add_mul, Nat.one_mul]; omega
    have c2 : bs + i * dim + 2 * dim = bs + (i + 2) * dim := by rw [Nat.add_mul]; omega
    have c3 : bs + i * dim + 3 * dim = bs + (i + 3) * dim := by rw [Nat.add_mul]; omega
    rw [c1, c2, c3]
    exact own_four q
set_option maxRecDepth 65536 in
set_option maxHeartbeats 40000000 in
theorem c_sums (l : Launch) (Z : State) (a0 : Array Value) (hw : ∀ d ∈ tables_1, d.before a0 Z = true) (a b t : Addr) (as' bs cnt dim : Nat) (fa fb g : Nat → UInt64) (h0 : Heap) (n0 : Nat) (Z0 : n0 ≤ h0.size) (Da : DA Z h0 a 4 fa) (Db : DA Z h0 b 32 fb) (ha : AllM 4 fa) (hb' : AllM 32 fb) (Dt : DA Z h0 t 9 g) (h3 : dim ≤ 3) (h4 : as' + dim ≤ 4) (hc8 : cnt ≤ 8) (hb7 : bs ≤ 7) (hta : a ≠ t) (htb : b ≠ t) (gt : n0 ≤ t) :
    Con l Z (⟨"com/example/streamcover/streamcover/Distance", "sumsOfSquares", "([DI[DIII[D)V"⟩ : MethodName) prog_20_method_5_code 28 none ({ frames := 1, cells := 0, slots := 0, locals := 60 } : Room) #[.ref a, .int (Int32.ofNat as'), .ref b, .int (Int32.ofNat bs), .int (Int32.ofNat cnt), .int (Int32.ofNat dim), .ref t] h0 (fun v h L => v = none ∧ Fr n0 L ∧ Keep h0 h [t] ∧ DA Z h t 9 (fun q => if q < cnt then dist fa fb as' (bs + q * dim) dim else g q)) := by
  refine Con.body (plainFor_of_name pn_d) ?_
  intro G hG p e s m below meth c T X hx hby hml hown hnm hret hlk hZ e0
  rw [show entryFrame m #[.ref a, .int (Int32.ofNat as'), .ref b, .int (Int32.ofNat bs), .int (Int32.ofNat cnt), .int (Int32.ofNat dim), .ref t] 28 = mkF m 0 #[.val (.ref a), .val (.int (Int32.ofNat as')), .val (.ref b), .val (.int (Int32.ofNat bs)), .val (.int (Int32.ofNat cnt)), .val (.int (Int32.ofNat dim)), .val (.ref t), .unset, .unset, .unset, .unset, .unset, .unset, .unset, .unset, .unset, .unset, .unset, .unset, .unset, .unset, .unset, .unset, .unset, .unset, .unset, .unset, .unset] [] from by first | (simp [entryFrame, mkF, argsToLocals, Value.category, maxLocals]; done) | rfl]
  refine Good.iconst X hx (pc' := 1) (w := Int32.ofNat 0) rfl (hb hby d_sums_0) rfl ?_
  refine Good.istore X hx (pc' := 3) (Ls' := #[.val (.ref a), .val (.int (Int32.ofNat as')), .val (.ref b), .val (.int (Int32.ofNat bs)), .val (.int (Int32.ofNat cnt)), .val (.int (Int32.ofNat dim)), .val (.ref t), .val (.int (Int32.ofNat 0)), .unset, .unset, .unset, .unset, .unset, .unset, .unset, .unset, .unset, .unset, .unset, .unset, .unset, .unset, .unset, .unset, .unset, .unset, .unset, .unset]) rfl (hb hby d_sums_1) rfl ?_
  refine loop_out rfl a0 hw hx hby hml hown hret hlk hZ ha hb' h3 h4 hc8 hb7 hta htb gt (h1 := h0) (g := g) ?_ (cnt / 4) 0 T h0 [] .unset .unset .unset .unset .unset .unset .unset .unset .unset .unset .unset .unset .unset .unset .unset .unset .unset .unset .unset .unset (by omega) (by omega) One1.u Two.u Two.u Two.u Two.u One1.u Two.u Two.u Two.u Two.u Two.u X e0 Da Db (DA.eq Dt fun q _ => by rw [if_neg (by omega)]) Z0 (Fr.nil n0) (Keep.refl _ _)
  intro T' h' locs' e' D' N' K'
  exact hG _ _ _ _ _ ⟨rfl, N', by rw [e']; exact K', by rw [e']; exact D'⟩ (by decide) (by decide)
set_option maxRecDepth 65536 in
set_option maxHeartbeats 40000000 in
theorem c_law (l : Launch) (Z : State) (a0 : Array Value) (hw : ∀ d ∈ tables_1, d.before a0 Z = true) (p0 p1 p2 p3 : Int64) (aw shp : Int32) (h0 : Heap) (n0 : Nat) (Z0 : n0 ≤ h0.size) :
    Con l Z x code maxLocals ret room_1 #[.long p0, .long p1, .long p2, .long p3, .int aw, .int shp] h0 (fun v h L => v = some (.int 1) ∧ Fr n0 L) := by
  refine Con.body (plainFor_of_name pn_0) ?_
  intro G hG p e s m below meth c T X hx hby hml hown hnm hret hlk hZ e0
  rw [show entryFrame m #[.long p0, .long p1, .long p2, .long p3, .int aw, .int shp] maxLocals = mkF m 0 #[.val (.long p0), .second, .val (.long p1), .second, .val (.long p2), .second, .val (.long p3), .second, .val (.int aw), .val (.int shp), .unset, .unset, .unset, .unset, .unset, .unset, .unset] [] from by first | (simp [entryFrame, mkF, argsToLocals, Value.category, maxLocals]; done) | rfl]
  have N0 := Fr.nil n0
  refine Good.iload X hx (pc' := 2) rfl (hb hby at_0) rfl ?_
  refine Good.iconst X hx (pc' := 3) (w := Int32.ofNat 3) rfl (hb hby at_2) rfl ?_
  refine Good.iand X hx (pc' := 4) rfl (hb hby at_3) ?_
  obtain ⟨dim, h_dim, e_dim⟩ := own_and shp 3
  rw [e_dim]
  replace h_dim : dim ≤ 3 := h_dim
  refine Good.istore X hx (pc' := 6) (Ls' := #[.val (.long p0), .second, .val (.long p1), .second, .val (.long p2), .second, .val (.long p3), .second, .val (.int aw), .val (.int shp), .val (.int (Int32.ofNat dim)), .unset, .unset, .unset, .unset, .unset, .unset]) rfl (hb hby at_4) rfl ?_
  refine Good.iload X hx (pc' := 8) rfl (hb hby at_6) rfl ?_
  refine Good.iconst X hx (pc' := 9) (w := Int32.ofNat 2) rfl (hb hby at_8) rfl ?_
  refine Good.iushr X hx (pc' := 10) rfl (hb hby at_9) ?_
  refine Good.bipush X hx (pc' := 12) (w := Int32.ofNat 15) rfl (hb hby at_10) rfl ?_
  refine Good.iand X hx (pc' := 13) rfl (hb hby at_12) ?_
  obtain ⟨c0, h_c0, e_c0⟩ := own_and (XT.ushr shp (Int32.ofNat 2)) 15
  rw [e_c0]
  replace h_c0 : c0 ≤ 15 := h_c0
  refine Good.bipush X hx (pc' := 15) (w := Int32.ofNat 8) rfl (hb hby at_13) rfl ?_
  refine Good.callS X hx hZ (y := ⟨"java/lang/Math", "min", "(II)I"⟩) hown (hw _ (List.mem_of_getElem? (i := 0) rfl)) (hw _ (List.mem_of_getElem? (i := 1) rfl)) (hw _ (List.mem_of_getElem? (i := 2) rfl)) (hw _ (List.mem_of_getElem? (i := 3) rfl)) (by decide) e0 (argsL := [(.int (Int32.ofNat c0)), (.int (Int32.ofNat 8))]) (rest := []) (c_min l Z a0 hw c0 h_c0 h0) (hdesc := pd_1) rfl (pc' := 18) rfl (by rw [hml]; rfl) rfl (hb hby at_15) (W := 0) (Nat.le_of_eq rfl) (by decide) (by decide) (by decide) (by decide) fun v1 T1 L1 X1 Q1 => ?_
  obtain ⟨rfl, hhm, rfl⟩ := Q1
  rw [List.append_nil] at X1
  obtain ⟨cnt, ecnt⟩ : ∃ z, z = min c0 8 := ⟨_, rfl⟩
  rw [← ecnt]
  have hc8 : cnt ≤ 8 := by omega
  refine Good.istore X1 hx (pc' := 20) (Ls' := #[.val (.long p0), .second, .val (.long p1), .second, .val (.long p2), .second, .val (.long p3), .second, .val (.int aw), .val (.int shp), .val (.int (Int32.ofNat dim)), .val (.int (Int32.ofNat cnt)), .unset, .unset, .unset, .unset, .unset]) rfl (hb hby at_18) rfl ?_
  refine Good.iload X1 hx (pc' := 22) rfl (hb hby at_20) rfl ?_
  refine Good.bipush X1 hx (pc' := 24) (w := Int32.ofNat 6) rfl (hb hby at_22) rfl ?_
  refine Good.iushr X1 hx (pc' := 25) rfl (hb hby at_24) ?_
  refine Good.iconst X1 hx (pc' := 26) (w := Int32.ofNat 1) rfl (hb hby at_25) rfl ?_
  refine Good.iand X1 hx (pc' := 27) rfl (hb hby at_26) ?_
  obtain ⟨as', h_as', e_as'⟩ := own_and (XT.ushr shp (Int32.ofNat 6)) 1
  rw [e_as']
  replace h_as' : as' ≤ 1 := h_as'
  refine Good.istore X1 hx (pc' := 29) (Ls' := #[.val (.long p0), .second, .val (.long p1), .second, .val (.long p2), .second, .val (.long p3), .second, .val (.int aw), .val (.int shp), .val (.int (Int32.ofNat dim)), .val (.int (Int32.ofNat cnt)), .val (.int (Int32.ofNat as')), .unset, .unset, .unset, .unset]) rfl (hb hby at_27) rfl ?_
  refine Good.iload X1 hx (pc' := 31) rfl (hb hby at_29) rfl ?_
  refine Good.bipush X1 hx (pc' := 33) (w := Int32.ofNat 7) rfl (hb hby at_31) rfl ?_
  refine Good.iushr X1 hx (pc' := 34) rfl (hb hby at_33) ?_
  refine Good.bipush X1 hx (pc' := 36) (w := Int32.ofNat 7) rfl (hb hby at_34) rfl ?_
  refine Good.iand X1 hx (pc' := 37) rfl (hb hby at_36) ?_
  obtain ⟨bs, h_bs, e_bs⟩ := own_and (XT.ushr shp (Int32.ofNat 7)) 7
  rw [e_bs]
  replace h_bs : bs ≤ 7 := h_bs
  refine Good.istore X1 hx (pc' := 39) (Ls' := #[.val (.long p0), .second, .val (.long p1), .second, .val (.long p2), .second, .val (.long p3), .second, .val (.int aw), .val (.int shp), .val (.int (Int32.ofNat dim)), .val (.int (Int32.ofNat cnt)), .val (.int (Int32.ofNat as')), .val (.int (Int32.ofNat bs)), .unset, .unset, .unset]) rfl (hb hby at_37) rfl ?_
  refine Good.iconst X1 hx (pc' := 40) (w := Int32.ofNat 4) rfl (hb hby at_39) rfl ?_
  refine Good.newarray X1 hx hZ (hw _ (List.mem_of_getElem? (i := 4) rfl)) hhm (pc' := 42) rfl (hb hby at_40) (by decide) (cap := 4) (by decide) (by decide) (by decide) (by decide) fun T2 h2 k2 b2 g2 X2 e2 E2 A2 => ?_
  have ge_b2 : n0 ≤ b2 := by rw [g2]; exact Z0
  have Z_2 := Nat.le_trans Z0 E2.1
  have DA_b2 : DA Z h2 b2 4 (fun _ => 0) := DA.new A2 rfl
  refine Good.astore X2 hx (pc' := 44) (Ls' := #[.val (.long p0), .second, .val (.long p1), .second, .val (.long p2), .second, .val (.long p3), .second, .val (.int aw), .val (.int shp), .val (.int (Int32.ofNat dim)), .val (.int (Int32.ofNat cnt)), .val (.int (Int32.ofNat as')), .val (.int (Int32.ofNat bs)), .val (.ref b2), .unset, .unset]) rfl (hb hby at_42) rfl rfl ?_
  refine Good.aload X2 hx (pc' := 46) rfl (hb hby at_44) rfl rfl ?_
  refine Good.iconst X2 hx (pc' := 47) (w := Int32.ofNat 0) rfl (hb hby at_46) rfl ?_
  refine Good.iload X2 hx (pc' := 49) rfl (hb hby at_47) rfl ?_
  refine Good.i2d X2 hx (pc' := 50) rfl (hb hby at_49) ?_
  refine Good.dastoreF X2 hx hZ e2 DA_b2 (0) rfl (by decide) (pc' := 51) rfl (hb hby at_50) fun T3 h3 X3 e3 W3 V3 => ?_
  have Z_3 : n0 ≤ h3.size := by rw [W3.size]; exact Z_2
  have N_3 := Fr.snoc X3 N0 ge_b2
  refine Good.aload X3 hx (pc' := 53) rfl (hb hby at_51) rfl rfl ?_
  refine Good.iconst X3 hx (pc' := 54) (w := Int32.ofNat 1) rfl (hb hby at_53) rfl ?_
  refine Good.iload X3 hx (pc' := 56) rfl (hb hby at_54) rfl ?_
  refine Good.bipush X3 hx (pc' := 58) (w := Int32.ofNat 10) rfl (hb hby at_56) rfl ?_
  refine Good.ishr X3 hx (pc' := 59) rfl (hb hby at_58) ?_
  refine Good.i2d X3 hx (pc' := 60) rfl (hb hby at_59) ?_
  refine Good.dastoreF X3 hx hZ e3 V3 (1) rfl (by decide) (pc' := 61) rfl (hb hby at_60) fun T4 h4 X4 e4 W4 V4 => ?_
  have Z_4 : n0 ≤ h4.size := by rw [W4.size]; exact Z_3
  have N_4 := Fr.snoc X4 N_3 ge_b2
  refine Good.aload X4 hx (pc' := 63) rfl (hb hby at_61) rfl rfl ?_
  refine Good.iconst X4 hx (pc' := 64) (w := Int32.ofNat 2) rfl (hb hby at_63) rfl ?_
  refine Good.iload X4 hx (pc' := 66) rfl (hb hby at_64) rfl ?_
  refine Good.ldcI X4 hx hZ hown (hw _ (List.mem_of_getElem? (i := 5) rfl)) (pc' := 68) rfl (hb hby at_66) ?_
  refine Good.ixor X4 hx (pc' := 69) rfl (hb hby at_68) ?_
  refine Good.i2d X4 hx (pc' := 70) rfl (hb hby at_69) ?_
  refine Good.dastoreF X4 hx hZ e4 V4 (2) rfl (by decide) (pc' := 71) rfl (hb hby at_70) fun T5 h5 X5 e5 W5 V5 => ?_
  have Z_5 : n0 ≤ h5.size := by rw [W5.size]; exact Z_4
  have N_5 := Fr.snoc X5 N_4 ge_b2
  refine Good.aload X5 hx (pc' := 73) rfl (hb hby at_71) rfl rfl ?_
  refine Good.iconst X5 hx (pc' := 74) (w := Int32.ofNat 3) rfl (hb hby at_73) rfl ?_
  refine Good.iload X5 hx (pc' := 76) rfl (hb hby at_74) rfl ?_
  refine Good.bipush X5 hx (pc' := 78) (w := Int32.ofNat 16) rfl (hb hby at_76) rfl ?_
  refine Good.ishr X5 hx (pc' := 79) rfl (hb hby at_78) ?_
  refine Good.i2d X5 hx (pc' := 80) rfl (hb hby at_79) ?_
  refine Good.dastoreF X5 hx hZ e5 V5 (3) rfl (by decide) (pc' := 81) rfl (hb hby at_80) fun T6 h6 X6 e6 W6 V6 => ?_
  have Z_6 : n0 ≤ h6.size := by rw [W6.size]; exact Z_5
  have N_6 := Fr.snoc X6 N_5 ge_b2
  obtain ⟨fa, Dfa, ha⟩ : ∃ fa, DA Z h6 b2 4 fa ∧ AllM 4 fa := ⟨_, V6, (AllM.z 4).u.u.u.u⟩
  refine Good.bipush X6 hx (pc' := 83) (w := Int32.ofNat 32) rfl (hb hby at_81) rfl ?_
  refine Good.newarray X6 hx hZ (hw _ (List.mem_of_getElem? (i := 4) rfl)) e6 (pc' := 85) rfl (hb hby at_83) (by decide) (cap := 32) (by decide) (by decide) (by decide) (by decide) fun T7 h7 k7 b7 g7 X7 e7 E7 A7 => ?_
  have ne_b2_b7 : b2 ≠ b7 := by rw [g7]; exact Nat.ne_of_lt Dfa.lt
  have ge_b7 : n0 ≤ b7 := by rw [g7]; exact Z_6
  have DA_b2_7 := Dfa.ext E7
  have Z_7 := Nat.le_trans Z_6 E7.1
  have DA_b7 : DA Z h7 b7 32 (fun _ => 0) := DA.new A7 rfl
  refine Good.astore X7 hx (pc' := 87) (Ls' := #[.val (.long p0), .second, .val (.long p1), .second, .val (.long p2), .second, .val (.long p3), .second, .val (.int aw), .val (.int shp), .val (.int (Int32.ofNat dim)), .val (.int (Int32.ofNat cnt)), .val (.int (Int32.ofNat as')), .val (.int (Int32.ofNat bs)), .val (.ref b2), .val (.ref b7), .unset]) rfl (hb hby at_85) rfl rfl ?_
  refine Good.aload X7 hx (pc' := 89) rfl (hb hby at_87) rfl rfl ?_
  refine Good.iconst X7 hx (pc' := 90) (w := Int32.ofNat 0) rfl (hb hby at_89) rfl ?_
  refine Good.lloadN X7 hx (pc' := 91) rfl (hb hby at_90) rfl ?_
  refine Good.callS X7 hx hZ (y := ⟨"com/example/streamcover/streamcover/DistanceSumsOfSquaresPinLaw", "fill", "([DIJ)V"⟩) hown (hw _ (List.mem_of_getElem? (i := 6) rfl)) (hw _ (List.mem_of_getElem? (i := 7) rfl)) (hw _ (List.mem_of_getElem? (i := 8) rfl)) (hw _ (List.mem_of_getElem? (i := 9) rfl)) (by decide) e7 (argsL := [(.ref b7), (.int (Int32.ofNat 0)), (.long p0)]) (rest := []) (c_fill l Z a0 hw b7 0 (by decide) p0 (fun _ => 0) h7 n0 Z_7 DA_b7 (AllM.z 32) ge_b7) (hdesc := pd_2) rfl (pc' := 94) rfl (by rw [hml]; rfl) rfl (hb hby at_91) (W := 0) (Nat.le_of_eq rfl) (by decide) (by decide) (by decide) (by decide) fun v8 T8 L8 X8 Q8 => ?_
  obtain ⟨rfl, Nq0, Kq0, fb0, Db0, hb0⟩ := Q8
  have DA_b2_8 := DA_b2_7.keep Kq0 (ninS ne_b2_b7 nin0)
  have Z_8 := Nat.le_trans Z_7 Kq0.1
  have N_8 := Fr.app N_6 Nq0
  refine Good.aload X8 hx (pc' := 96) rfl (hb hby at_94) rfl rfl ?_
  refine Good.bipush X8 hx (pc' := 98) (w := Int32.ofNat 8) rfl (hb hby at_96) rfl ?_
  refine Good.lloadN X8 hx (pc' := 99) rfl (hb hby at_98) rfl ?_
  refine Good.callS X8 hx hZ (y := ⟨"com/example/streamcover/streamcover/DistanceSumsOfSquaresPinLaw", "fill", "([DIJ)V"⟩) hown (hw _ (List.mem_of_getElem? (i := 6) rfl)) (hw _ (List.mem_of_getElem? (i := 7) rfl)) (hw _ (List.mem_of_getElem? (i := 8) rfl)) (hw _ (List.mem_of_getElem? (i := 9) rfl)) (by decide) rfl (argsL := [(.ref b7), (.int (Int32.ofNat 8)), (.long p1)]) (rest := []) (c_fill l Z a0 hw b7 8 (by decide) p1 fb0 T8.heap n0 Z_8 Db0 hb0 ge_b7) (hdesc := pd_2) rfl (pc' := 102) rfl (by rw [hml]; rfl) rfl (hb hby at_99) (W := 0) (Nat.le_of_eq rfl) (by decide) (by decide) (by decide) (by decide) fun v9 T9 L9 X9 Q9 => ?_
  obtain ⟨rfl, Nq1, Kq1, fb1, Db1, hb1⟩ := Q9
  have DA_b2_9 := DA_b2_8.keep Kq1 (ninS ne_b2_b7 nin0)
  have Z_9 := Nat.le_trans Z_8 Kq1.1
  have N_9 := Fr.app N_8 Nq1
  refine Good.aload X9 hx (pc' := 104) rfl (hb hby at_102) rfl rfl ?_
  refine Good.bipush X9 hx (pc' := 106) (w := Int32.ofNat 16) rfl (hb hby at_104) rfl ?_
  refine Good.lload X9 hx (pc' := 108) rfl (hb hby at_106) rfl ?_
  refine Good.callS X9 hx hZ (y := ⟨"com/example/streamcover/streamcover/DistanceSumsOfSquaresPinLaw", "fill", "([DIJ)V"⟩) hown (hw _ (List.mem_of_getElem? (i := 6) rfl)) (hw _ (List.mem_of_getElem? (i := 7) rfl)) (hw _ (List.mem_of_getElem? (i := 8) rfl)) (hw _ (List.mem_of_getElem? (i := 9) rfl)) (by decide) rfl (argsL := [(.ref b7), (.int (Int32.ofNat 16)), (.long p2)]) (rest := []) (c_fill l Z a0 hw b7 16 (by decide) p2 fb1 T9.heap n0 Z_9 Db1 hb1 ge_b7) (hdesc := pd_2) rfl (pc' := 111) rfl (by rw [hml]; rfl) rfl (hb hby at_108) (W := 0) (Nat.le_of_eq rfl) (by decide) (by decide) (by decide) (by decide) fun v10 T10 L10 X10 Q10 => ?_
  obtain ⟨rfl, Nq2, Kq2, fb2, Db2, hb2⟩ := Q10
  have DA_b2_10 := DA_b2_9.keep Kq2 (ninS ne_b2_b7 nin0)
  have Z_10 := Nat.le_trans Z_9 Kq2.1
  have N_10 := Fr.app N_9 Nq2
  refine Good.aload X10 hx (pc' := 113) rfl (hb hby at_111) rfl rfl ?_
  refine Good.bipush X10 hx (pc' := 115) (w := Int32.ofNat 24) rfl (hb hby at_113) rfl ?_
  refine Good.lload X10 hx (pc' := 117) rfl (hb hby at_115) rfl ?_
  refine Good.callS X10 hx hZ (y := ⟨"com/example/streamcover/streamcover/DistanceSumsOfSquaresPinLaw", "fill", "([DIJ)V"⟩) hown (hw _ (List.mem_of_getElem? (i := 6) rfl)) (hw _ (List.mem_of_getElem? (i := 7) rfl)) (hw _ (List.mem_of_getElem? (i := 8) rfl)) (hw _ (List.mem_of_getElem? (i := 9) rfl)) (by decide) rfl (argsL := [(.ref b7), (.int (Int32.ofNat 24)), (.long p3)]) (rest := []) (c_fill l Z a0 hw b7 24 (by decide) p3 fb2 T10.heap n0 Z_10 Db2 hb2 ge_b7) (hdesc := pd_2) rfl (pc' := 120) rfl (by rw [hml]; rfl) rfl (hb hby at_117) (W := 0) (Nat.le_of_eq rfl) (by decide) (by decide) (by decide) (by decide) fun v11 T11 L11 X11 Q11 => ?_
  obtain ⟨rfl, Nq3, Kq3, fb3, Db3, hb3⟩ := Q11
  have DA_b2_11 := DA_b2_10.keep Kq3 (ninS ne_b2_b7 nin0)
  have Z_11 := Nat.le_trans Z_10 Kq3.1
  have N_11 := Fr.app N_10 Nq3
  refine Good.bipush X11 hx (pc' := 122) (w := Int32.ofNat 9) rfl (hb hby at_120) rfl ?_
  refine Good.newarray X11 hx hZ (hw _ (List.mem_of_getElem? (i := 4) rfl)) rfl (pc' := 124) rfl (hb hby at_122) (by decide) (cap := 9) (by decide) (by decide) (by decide) (by decide) fun T12 h12 k12 b12 g12 X12 e12 E12 A12 => ?_
  have ne_b2_b12 : b2 ≠ b12 := by rw [g12]; exact Nat.ne_of_lt DA_b2_11.lt
  have ne_b7_b12 : b7 ≠ b12 := by rw [g12]; exact Nat.ne_of_lt Db3.lt
  have ge_b12 : n0 ≤ b12 := by rw [g12]; exact Z_11
  have DA_b2_12 := DA_b2_11.ext E12
  have DA_b7_12 := Db3.ext E12
  have Z_12 := Nat.le_trans Z_11 E12.1
  have DA_b12 : DA Z h12 b12 9 (fun _ => 0) := DA.new A12 rfl
  refine Good.astore X12 hx (pc' := 126) (Ls' := #[.val (.long p0), .second, .val (.long p1), .second, .val (.long p2), .second, .val (.long p3), .second, .val (.int aw), .val (.int shp), .val (.int (Int32.ofNat dim)), .val (.int (Int32.ofNat cnt)), .val (.int (Int32.ofNat as')), .val (.int (Int32.ofNat bs)), .val (.ref b2), .val (.ref b7), .val (.ref b12)]) rfl (hb hby at_124) rfl rfl ?_
  refine Good.aload X12 hx (pc' := 128) rfl (hb hby at_126) rfl rfl ?_
  refine Good.iconst X12 hx (pc' := 129) (w := Int32.ofNat 0) rfl (hb hby at_128) rfl ?_
  refine Good.ldc2D X12 hx hZ hown (hw _ (List.mem_of_getElem? (i := 10) rfl)) (pc' := 132) rfl (hb hby at_129) ?_
  refine Good.dastoreF X12 hx hZ e12 DA_b12 (0) rfl (by decide) (pc' := 133) rfl (hb hby at_132) fun T13 h13 X13 e13 W13 V13 => ?_
  have DA_b2_13 := DA_b2_12.other W13 ne_b2_b12
  have DA_b7_13 := DA_b7_12.other W13 ne_b7_b12
  have Z_13 : n0 ≤ h13.size := by rw [W13.size]; exact Z_12
  have N_13 := Fr.snoc X13 N_11 ge_b12
  refine Good.aload X13 hx (pc' := 135) rfl (hb hby at_133) rfl rfl ?_
  refine Good.iconst X13 hx (pc' := 136) (w := Int32.ofNat 1) rfl (hb hby at_135) rfl ?_
  refine Good.ldc2D X13 hx hZ hown (hw _ (List.mem_of_getElem? (i := 10) rfl)) (pc' := 139) rfl (hb hby at_136) ?_
  refine Good.dastoreF X13 hx hZ e13 V13 (1) rfl (by decide) (pc' := 140) rfl (hb hby at_139) fun T14 h14 X14 e14 W14 V14 => ?_
  have DA_b2_14 := DA_b2_13.other W14 ne_b2_b12
  have DA_b7_14 := DA_b7_13.other W14 ne_b7_b12
  have Z_14 : n0 ≤ h14.size := by rw [W14.size]; exact Z_13
  have N_14 := Fr.snoc X14 N_13 ge_b12
  refine Good.aload X14 hx (pc' := 142) rfl (hb hby at_140) rfl rfl ?_
  refine Good.iconst X14 hx (pc' := 143) (w := Int32.ofNat 2) rfl (hb hby at_142) rfl ?_
  refine Good.ldc2D X14 hx hZ hown (hw _ (List.mem_of_getElem? (i := 10) rfl)) (pc' := 146) rfl (hb hby at_143) ?_
  refine Good.dastoreF X14 hx hZ e14 V14 (2) rfl (by decide) (pc' := 147) rfl (hb hby at_146) fun T15 h15 X15 e15 W15 V15 => ?_
  have DA_b2_15 := DA_b2_14.other W15 ne_b2_b12
  have DA_b7_15 := DA_b7_14.other W15 ne_b7_b12
  have Z_15 : n0 ≤ h15.size := by rw [W15.size]; exact Z_14
  have N_15 := Fr.snoc X15 N_14 ge_b12
  refine Good.aload X15 hx (pc' := 149) rfl (hb hby at_147) rfl rfl ?_
  refine Good.iconst X15 hx (pc' := 150) (w := Int32.ofNat 3) rfl (hb hby at_149) rfl ?_
  refine Good.ldc2D X15 hx hZ hown (hw _ (List.mem_of_getElem? (i := 10) rfl)) (pc' := 153) rfl (hb hby at_150) ?_
  refine Good.dastoreF X15 hx hZ e15 V15 (3) rfl (by decide) (pc' := 154) rfl (hb hby at_153) fun T16 h16 X16 e16 W16 V16 => ?_
  have DA_b2_16 := DA_b2_15.other W16 ne_b2_b12
  have DA_b7_16 := DA_b7_15.other W16 ne_b7_b12
  have Z_16 : n0 ≤ h16.size := by rw [W16.size]; exact Z_15
  have N_16 := Fr.snoc X16 N_15 ge_b12
  refine Good.aload X16 hx (pc' := 156) rfl (hb hby at_154) rfl rfl ?_
  refine Good.iconst X16 hx (pc' := 157) (w := Int32.ofNat 4) rfl (hb hby at_156) rfl ?_
  refine Good.ldc2D X16 hx hZ hown (hw _ (List.mem_of_getElem? (i := 10) rfl)) (pc' := 160) rfl (hb hby at_157) ?_
  refine Good.dastoreF X16 hx hZ e16 V16 (4) rfl (by decide) (pc' := 161) rfl (hb hby at_160) fun T17 h17 X17 e17 W17 V17 => ?_
  have DA_b2_17 := DA_b2_16.other W17 ne_b2_b12
  have DA_b7_17 := DA_b7_16.other W17 ne_b7_b12
  have Z_17 : n0 ≤ h17.size := by rw [W17.size]; exact Z_16
  have N_17 := Fr.snoc X17 N_16 ge_b12
  refine Good.aload X17 hx (pc' := 163) rfl (hb hby at_161) rfl rfl ?_
  refine Good.iconst X17 hx (pc' := 164) (w := Int32.ofNat 5) rfl (hb hby at_163) rfl ?_
  refine Good.ldc2D X17 hx hZ hown (hw _ (List.mem_of_getElem? (i := 10) rfl)) (pc' := 167) rfl (hb hby at_164) ?_
  refine Good.dastoreF X17 hx hZ e17 V17 (5) rfl (by decide) (pc' := 168) rfl (hb hby at_167) fun T18 h18 X18 e18 W18 V18 => ?_
  have DA_b2_18 := DA_b2_17.other W18 ne_b2_b12
  have DA_b7_18 := DA_b7_17.other W18 ne_b7_b12
  have Z_18 : n0 ≤ h18.size := by rw [W18.size]; exact Z_17
  have N_18 := Fr.snoc X18 N_17 ge_b12
  refine Good.aload X18 hx (pc' := 170) rfl (hb hby at_168) rfl rfl ?_
  refine Good.bipush X18 hx (pc' := 172) (w := Int32.ofNat 6) rfl (hb hby at_170) rfl ?_
  refine Good.ldc2D X18 hx hZ hown (hw _ (List.mem_of_getElem? (i := 10) rfl)) (pc' := 175) rfl (hb hby at_172) ?_
  refine Good.dastoreF X18 hx hZ e18 V18 (6) rfl (by decide) (pc' := 176) rfl (hb hby at_175) fun T19 h19 X19 e19 W19 V19 => ?_
  have DA_b2_19 := DA_b2_18.other W19 ne_b2_b12
  have DA_b7_19 := DA_b7_18.other W19 ne_b7_b12
  have Z_19 : n0 ≤ h19.size := by rw [W19.size]; exact Z_18
  have N_19 := Fr.snoc X19 N_18 ge_b12
  refine Good.aload X19 hx (pc' := 178) rfl (hb hby at_176) rfl rfl ?_
  refine Good.bipush X19 hx (pc' := 180) (w := Int32.ofNat 7) rfl (hb hby at_178) rfl ?_
  refine Good.ldc2D X19 hx hZ hown (hw _ (List.mem_of_getElem? (i := 10) rfl)) (pc' := 183) rfl (hb hby at_180) ?_
  refine Good.dastoreF X19 hx hZ e19 V19 (7) rfl (by decide) (pc' := 184) rfl (hb hby at_183) fun T20 h20 X20 e20 W20 V20 => ?_
  have DA_b2_20 := DA_b2_19.other W20 ne_b2_b12
  have DA_b7_20 := DA_b7_19.other W20 ne_b7_b12
  have Z_20 : n0 ≤ h20.size := by rw [W20.size]; exact Z_19
  have N_20 := Fr.snoc X20 N_19 ge_b12
  refine Good.aload X20 hx (pc' := 186) rfl (hb hby at_184) rfl rfl ?_
  refine Good.bipush X20 hx (pc' := 188) (w := Int32.ofNat 8) rfl (hb hby at_186) rfl ?_
  refine Good.ldc2D X20 hx hZ hown (hw _ (List.mem_of_getElem? (i := 10) rfl)) (pc' := 191) rfl (hb hby at_188) ?_
  refine Good.dastoreF X20 hx hZ e20 V20 (8) rfl (by decide) (pc' := 192) rfl (hb hby at_191) fun T21 h21 X21 e21 W21 V21 => ?_
  have DA_b2_21 := DA_b2_20.other W21 ne_b2_b12
  have DA_b7_21 := DA_b7_20.other W21 ne_b7_b12
  have Z_21 : n0 ≤ h21.size := by rw [W21.size]; exact Z_20
  have N_21 := Fr.snoc X21 N_20 ge_b12
  obtain ⟨g, Dg, hg⟩ : ∃ g, DA Z h21 b12 9 g ∧ ∀ i, i < 9 → g i = (13830554455654793216 : UInt64) := ⟨_, V21, fun i hi => by
    match i, hi with
    | 0, _ => rfl
    | 1, _ => rfl
    | 2, _ => rfl
    | 3, _ => rfl
    | 4, _ => rfl
    | 5, _ => rfl
    | 6, _ => rfl
    | 7, _ => rfl
    | 8, _ => rfl⟩
  refine Good.aload X21 hx (pc' := 194) rfl (hb hby at_192) rfl rfl ?_
  refine Good.iload X21 hx (pc' := 196) rfl (hb hby at_194) rfl ?_
  refine Good.aload X21 hx (pc' := 198) rfl (hb hby at_196) rfl rfl ?_
  refine Good.iload X21 hx (pc' := 200) rfl (hb hby at_198) rfl ?_
  refine Good.iload X21 hx (pc' := 202) rfl (hb hby at_200) rfl ?_
  refine Good.iload X21 hx (pc' := 204) rfl (hb hby at_202) rfl ?_
  refine Good.aload X21 hx (pc' := 206) rfl (hb hby at_204) rfl rfl ?_
  refine Good.callS X21 hx hZ (y := ⟨"com/example/streamcover/streamcover/Distance", "sumsOfSquares", "([DI[DIII[D)V"⟩) hown (hw _ (List.mem_of_getElem? (i := 11) rfl)) (hw _ (List.mem_of_getElem? (i := 12) rfl)) (hw _ (List.mem_of_getElem? (i := 13) rfl)) (hw _ (List.mem_of_getElem? (i := 14) rfl)) (by decide) e21 (argsL := [(.ref b2), (.int (Int32.ofNat as')), (.ref b7), (.int (Int32.ofNat bs)), (.int (Int32.ofNat cnt)), (.int (Int32.ofNat dim)), (.ref b12)]) (rest := []) (c_sums l Z a0 hw b2 b7 b12 as' bs cnt dim fa fb3 g h21 n0 Z_21 DA_b2_21 DA_b7_21 ha hb3 Dg h_dim (by omega) hc8 h_bs ne_b2_b12 ne_b7_b12 ge_b12) (hdesc := pd_3) rfl (pc' := 209) rfl (by rw [hml]; rfl) rfl (hb hby at_206) (W := 0) (Nat.le_of_eq rfl) (by decide) (by decide) (by decide) (by decide) fun v22 T22 L22 X22 Q22 => ?_
  obtain ⟨rfl, Nqs, Kqs, Dgs⟩ := Q22
  have DA_b2_22 := DA_b2_21.keep Kqs (ninS ne_b2_b12 nin0)
  have DA_b7_22 := DA_b7_21.keep Kqs (ninS ne_b7_b12 nin0)
  have Z_22 := Nat.le_trans Z_21 Kqs.1
  have N_22 := Fr.app N_21 Nqs
  have hmul : ∀ k, k < cnt → bs + k * dim + dim ≤ 32 := fun k hk => by have := Nat.mul_le_mul (show k ≤ 7 by omega) h_dim; omega
  refine Good.iconst X22 hx (pc' := 210) (w := Int32.ofNat 0) rfl (hb hby at_209) rfl ?_
  refine Good.aload X22 hx (pc' := 212) rfl (hb hby at_210) rfl rfl ?_
  refine Good.aload X22 hx (pc' := 214) rfl (hb hby at_212) rfl rfl ?_
  refine Good.iload X22 hx (pc' := 216) rfl (hb hby at_214) rfl ?_
  refine Good.aload X22 hx (pc' := 218) rfl (hb hby at_216) rfl rfl ?_
  refine Good.iload X22 hx (pc' := 220) rfl (hb hby at_218) rfl ?_
  refine Good.iload X22 hx (pc' := 222) rfl (hb hby at_220) rfl ?_
  refine Good.iload X22 hx (pc' := 224) rfl (hb hby at_222) rfl ?_
  refine Good.callS X22 hx hZ (y := ⟨"com/example/streamcover/streamcover/DistanceSumsOfSquaresPinLaw", "slot", "(I[D[DI[DIII)Z"⟩) hown (hw _ (List.mem_of_getElem? (i := 15) rfl)) (hw _ (List.mem_of_getElem? (i := 16) rfl)) (hw _ (List.mem_of_getElem? (i := 8) rfl)) (hw _ (List.mem_of_getElem? (i := 17) rfl)) (by decide) rfl (argsL := [(.int (Int32.ofNat 0)), (.ref b12), (.ref b2), (.int (Int32.ofNat as')), (.ref b7), (.int (Int32.ofNat bs)), (.int (Int32.ofNat cnt)), (.int (Int32.ofNat dim))]) (rest := []) (c_slot l Z a0 hw 0 (by decide) b12 b2 b7 as' bs cnt dim fa fb3 _ T22.heap DA_b2_22 DA_b7_22 ha hb3 Dgs h_dim (by omega) hc8 h_bs (hmul 0) (fun q => if_pos q) (fun q => by rw [if_neg q]; exact hg 0 (by decide))) (hdesc := pd_4) rfl (pc' := 227) rfl (by rw [hml]; rfl) rfl (hb hby at_224) (W := 0) (Nat.le_of_eq rfl) (by decide) (by decide) (by decide) (by decide) fun v23 T23 L23 X23 Q23 => ?_
  obtain ⟨rfl, hs0, rfl⟩ := Q23
  rw [List.append_nil] at X23
  rw [← hs0] at DA_b2_22 DA_b7_22 Dgs
  refine Good.ifNo X23 hx (pc' := 230) rfl (hb hby at_227) rfl ?_
  refine Good.iconst X23 hx (pc' := 231) (w := Int32.ofNat 1) rfl (hb hby at_230) rfl ?_
  refine Good.aload X23 hx (pc' := 233) rfl (hb hby at_231) rfl rfl ?_
  refine Good.aload X23 hx (pc' := 235) rfl (hb hby at_233) rfl rfl ?_
  refine Good.iload X23 hx (pc' := 237) rfl (hb hby at_235) rfl ?_
  refine Good.aload X23 hx (pc' := 239) rfl (hb hby at_237) rfl rfl ?_
  refine Good.iload X23 hx (pc' := 241) rfl (hb hby at_239) rfl ?_
  refine Good.iload X23 hx (pc' := 243) rfl (hb hby at_241) rfl ?_
  refine Good.iload X23 hx (pc' := 245) rfl (hb hby at_243) rfl ?_
  refine Good.callS X23 hx hZ (y := ⟨"com/example/streamcover/streamcover/DistanceSumsOfSquaresPinLaw", "slot", "(I[D[DI[DIII)Z"⟩) hown (hw _ (List.mem_of_getElem? (i := 15) rfl)) (hw _ (List.mem_of_getElem? (i := 16) rfl)) (hw _ (List.mem_of_getElem? (i := 8) rfl)) (hw _ (List.mem_of_getElem? (i := 17) rfl)) (by decide) rfl (argsL := [(.int (Int32.ofNat 1)), (.ref b12), (.ref b2), (.int (Int32.ofNat as')), (.ref b7), (.int (Int32.ofNat bs)), (.int (Int32.ofNat cnt)), (.int (Int32.ofNat dim))]) (rest := []) (c_slot l Z a0 hw 1 (by decide) b12 b2 b7 as' bs cnt dim fa fb3 _ T23.heap DA_b2_22 DA_b7_22 ha hb3 Dgs h_dim (by omega) hc8 h_bs (hmul 1) (fun q => if_pos q) (fun q => by rw [if_neg q]; exact hg 1 (by decide))) (hdesc := pd_4) rfl (pc' := 248) rfl (by rw [hml]; rfl) rfl (hb hby at_245) (W := 0) (Nat.le_of_eq rfl) (by decide) (by decide) (by decide) (by decide) fun v24 T24 L24 X24 Q24 => ?_
  obtain ⟨rfl, hs1, rfl⟩ := Q24
  rw [List.append_nil] at X24
  rw [← hs1] at DA_b2_22 DA_b7_22 Dgs
  refine Good.ifNo X24 hx (pc' := 251) rfl (hb hby at_248) rfl ?_
  refine Good.iconst X24 hx (pc' := 252) (w := Int32.ofNat 2) rfl (hb hby at_251) rfl ?_
  refine Good.aload X24 hx (pc' := 254) rfl (hb hby at_252) rfl rfl ?_
  refine Good.aload X24 hx (pc' := 256) rfl (hb hby at_254) rfl rfl ?_
  refine Good.iload X24 hx (pc' := 258) rfl (hb hby at_256) rfl ?_
  refine Good.aload X24 hx (pc' := 260) rfl (hb hby at_258) rfl rfl ?_
  refine Good.iload X24 hx (pc' := 262) rfl (hb hby at_260) rfl ?_
  refine Good.iload X24 hx (pc' := 264) rfl (hb hby at_262) rfl ?_
  refine Good.iload X24 hx (pc' := 266) rfl (hb hby at_264) rfl ?_
  refine Good.callS X24 hx hZ (y := ⟨"com/example/streamcover/streamcover/DistanceSumsOfSquaresPinLaw", "slot", "(I[D[DI[DIII)Z"⟩) hown (hw _ (List.mem_of_getElem? (i := 15) rfl)) (hw _ (List.mem_of_getElem? (i := 16) rfl)) (hw _ (List.mem_of_getElem? (i := 8) rfl)) (hw _ (List.mem_of_getElem? (i := 17) rfl)) (by decide) rfl (argsL := [(.int (Int32.ofNat 2)), (.ref b12), (.ref b2), (.int (Int32.ofNat as')), (.ref b7), (.int (Int32.ofNat bs)), (.int (Int32.ofNat cnt)), (.int (Int32.ofNat dim))]) (rest := []) (c_slot l Z a0 hw 2 (by decide) b12 b2 b7 as' bs cnt dim fa fb3 _ T24.heap DA_b2_22 DA_b7_22 ha hb3 Dgs h_dim (by omega) hc8 h_bs (hmul 2) (fun q => if_pos q) (fun q => by rw [if_neg q]; exact hg 2 (by decide))) (hdesc := pd_4) rfl (pc' := 269) rfl (by rw [hml]; rfl) rfl (hb hby at_266) (W := 0) (Nat.le_of_eq rfl) (by decide) (by decide) (by decide) (by decide) fun v25 T25 L25 X25 Q25 => ?_
  obtain ⟨rfl, hs2, rfl⟩ := Q25
  rw [List.append_nil] at X25
  rw [← hs2] at DA_b2_22 DA_b7_22 Dgs
  refine Good.ifNo X25 hx (pc' := 272) rfl (hb hby at_269) rfl ?_
  refine Good.iconst X25 hx (pc' := 273) (w := Int32.ofNat 3) rfl (hb hby at_272) rfl ?_
  refine Good.aload X25 hx (pc' := 275) rfl (hb hby at_273) rfl rfl ?_
  refine Good.aload X25 hx (pc' := 277) rfl (hb hby at_275) rfl rfl ?_
  refine Good.iload X25 hx (pc' := 279) rfl (hb hby at_277) rfl ?_
  refine Good.aload X25 hx (pc' := 281) rfl (hb hby at_279) rfl rfl ?_
  refine Good.iload X25 hx (pc' := 283) rfl (hb hby at_281) rfl ?_
  refine Good.iload X25 hx (pc' := 285) rfl (hb hby at_283) rfl ?_
  refine Good.iload X25 hx (pc' := 287) rfl (hb hby at_285) rfl ?_
  refine Good.callS X25 hx hZ (y := ⟨"com/example/streamcover/streamcover/DistanceSumsOfSquaresPinLaw", "slot", "(I[D[DI[DIII)Z"⟩) hown (hw _ (List.mem_of_getElem? (i := 15) rfl)) (hw _ (List.mem_of_getElem? (i := 16) rfl)) (hw _ (List.mem_of_getElem? (i := 8) rfl)) (hw _ (List.mem_of_getElem? (i := 17) rfl)) (by decide) rfl (argsL := [(.int (Int32.ofNat 3)), (.ref b12), (.ref b2), (.int (Int32.ofNat as')), (.ref b7), (.int (Int32.ofNat bs)), (.int (Int32.ofNat cnt)), (.int (Int32.ofNat dim))]) (rest := []) (c_slot l Z a0 hw 3 (by decide) b12 b2 b7 as' bs cnt dim fa fb3 _ T25.heap DA_b2_22 DA_b7_22 ha hb3 Dgs h_dim (by omega) hc8 h_bs (hmul 3) (fun q => if_pos q) (fun q => by rw [if_neg q]; exact hg 3 (by decide))) (hdesc := pd_4) rfl (pc' := 290) rfl (by rw [hml]; rfl) rfl (hb hby at_287) (W := 0) (Nat.le_of_eq rfl) (by decide) (by decide) (by decide) (by decide) fun v26 T26 L26 X26 Q26 => ?_
  obtain ⟨rfl, hs3, rfl⟩ := Q26
  rw [List.append_nil] at X26
  rw [← hs3] at DA_b2_22 DA_b7_22 Dgs
  refine Good.ifNo X26 hx (pc' := 293) rfl (hb hby at_290) rfl ?_
  refine Good.iconst X26 hx (pc' := 294) (w := Int32.ofNat 4) rfl (hb hby at_293) rfl ?_
  refine Good.aload X26 hx (pc' := 296) rfl (hb hby at_294) rfl rfl ?_
  refine Good.aload X26 hx (pc' := 298) rfl (hb hby at_296) rfl rfl ?_
  refine Good.iload X26 hx (pc' := 300) rfl (hb hby at_298) rfl ?_
  refine Good.aload X26 hx (pc' := 302) rfl (hb hby at_300) rfl rfl ?_
  refine Good.iload X26 hx (pc' := 304) rfl (hb hby at_302) rfl ?_
  refine Good.iload X26 hx (pc' := 306) rfl (hb hby at_304) rfl ?_
  refine Good.iload X26 hx (pc' := 308) rfl (hb hby at_306) rfl ?_
  refine Good.callS X26 hx hZ (y := ⟨"com/example/streamcover/streamcover/DistanceSumsOfSquaresPinLaw", "slot", "(I[D[DI[DIII)Z"⟩) hown (hw _ (List.mem_of_getElem? (i := 15) rfl)) (hw _ (List.mem_of_getElem? (i := 16) rfl)) (hw _ (List.mem_of_getElem? (i := 8) rfl)) (hw _ (List.mem_of_getElem? (i := 17) rfl)) (by decide) rfl (argsL := [(.int (Int32.ofNat 4)), (.ref b12), (.ref b2), (.int (Int32.ofNat as')), (.ref b7), (.int (Int32.ofNat bs)), (.int (Int32.ofNat cnt)), (.int (Int32.ofNat dim))]) (rest := []) (c_slot l Z a0 hw 4 (by decide) b12 b2 b7 as' bs cnt dim fa fb3 _ T26.heap DA_b2_22 DA_b7_22 ha hb3 Dgs h_dim (by omega) hc8 h_bs (hmul 4) (fun q => if_pos q) (fun q => by rw [if_neg q]; exact hg 4 (by decide))) (hdesc := pd_4) rfl (pc' := 311) rfl (by rw [hml]; rfl) rfl (hb hby at_308) (W := 0) (Nat.le_of_eq rfl) (by decide) (by decide) (by decide) (by decide) fun v27 T27 L27 X27 Q27 => ?_
  obtain ⟨rfl, hs4, rfl⟩ := Q27
  rw [List.append_nil] at X27
  rw [← hs4] at DA_b2_22 DA_b7_22 Dgs
  refine Good.ifNo X27 hx (pc' := 314) rfl (hb hby at_311) rfl ?_
  refine Good.iconst X27 hx (pc' := 315) (w := Int32.ofNat 5) rfl (hb hby at_314) rfl ?_
  refine Good.aload X27 hx (pc' := 317) rfl (hb hby at_315) rfl rfl ?_
  refine Good.aload X27 hx (pc' := 319) rfl (hb hby at_317) rfl rfl ?_
  refine Good.iload X27 hx (pc' := 321) rfl (hb hby at_319) rfl ?_
  refine Good.aload X27 hx (pc' := 323) rfl (hb hby at_321) rfl rfl ?_
  refine Good.iload X27 hx (pc' := 325) rfl (hb hby at_323) rfl ?_
  refine Good.iload X27 hx (pc' := 327) rfl (hb hby at_325) rfl ?_
  refine Good.iload X27 hx (pc' := 329) rfl (hb hby at_327) rfl ?_
  refine Good.callS X27 hx hZ (y := ⟨"com/example/streamcover/streamcover/DistanceSumsOfSquaresPinLaw", "slot", "(I[D[DI[DIII)Z"⟩) hown (hw _ (List.mem_of_getElem? (i := 15) rfl)) (hw _ (List.mem_of_getElem? (i := 16) rfl)) (hw _ (List.mem_of_getElem? (i := 8) rfl)) (hw _ (List.mem_of_getElem? (i := 17) rfl)) (by decide) rfl (argsL := [(.int (Int32.ofNat 5)), (.ref b12), (.ref b2), (.int (Int32.ofNat as')), (.ref b7), (.int (Int32.ofNat bs)), (.int (Int32.ofNat cnt)), (.int (Int32.ofNat dim))]) (rest := []) (c_slot l Z a0 hw 5 (by decide) b12 b2 b7 as' bs cnt dim fa fb3 _ T27.heap DA_b2_22 DA_b7_22 ha hb3 Dgs h_dim (by omega) hc8 h_bs (hmul 5) (fun q => if_pos q) (fun q => by rw [if_neg q]; exact hg 5 (by decide))) (hdesc := pd_4) rfl (pc' := 332) rfl (by rw [hml]; rfl) rfl (hb hby at_329) (W := 0) (Nat.le_of_eq rfl) (by decide) (by decide) (by decide) (by decide) fun v28 T28 L28 X28 Q28 => ?_
  obtain ⟨rfl, hs5, rfl⟩ := Q28
  rw [List.append_nil] at X28
  rw [← hs5] at DA_b2_22 DA_b7_22 Dgs
  refine Good.ifNo X28 hx (pc' := 335) rfl (hb hby at_332) rfl ?_
  refine Good.bipush X28 hx (pc' := 337) (w := Int32.ofNat 6) rfl (hb hby at_335) rfl ?_
  refine Good.aload X28 hx (pc' := 339) rfl (hb hby at_337) rfl rfl ?_
  refine Good.aload X28 hx (pc' := 341) rfl (hb hby at_339) rfl rfl ?_
  refine Good.iload X28 hx (pc' := 343) rfl (hb hby at_341) rfl ?_
  refine Good.aload X28 hx (pc' := 345) rfl (hb hby at_343) rfl rfl ?_
  refine Good.iload X28 hx (pc' := 347) rfl (hb hby at_345) rfl ?_
  refine Good.iload X28 hx (pc' := 349) rfl (hb hby at_347) rfl ?_
  refine Good.iload X28 hx (pc' := 351) rfl (hb hby at_349) rfl ?_
  refine Good.callS X28 hx hZ (y := ⟨"com/example/streamcover/streamcover/DistanceSumsOfSquaresPinLaw", "slot", "(I[D[DI[DIII)Z"⟩) hown (hw _ (List.mem_of_getElem? (i := 15) rfl)) (hw _ (List.mem_of_getElem? (i := 16) rfl)) (hw _ (List.mem_of_getElem? (i := 8) rfl)) (hw _ (List.mem_of_getElem? (i := 17) rfl)) (by decide) rfl (argsL := [(.int (Int32.ofNat 6)), (.ref b12), (.ref b2), (.int (Int32.ofNat as')), (.ref b7), (.int (Int32.ofNat bs)), (.int (Int32.ofNat cnt)), (.int (Int32.ofNat dim))]) (rest := []) (c_slot l Z a0 hw 6 (by decide) b12 b2 b7 as' bs cnt dim fa fb3 _ T28.heap DA_b2_22 DA_b7_22 ha hb3 Dgs h_dim (by omega) hc8 h_bs (hmul 6) (fun q => if_pos q) (fun q => by rw [if_neg q]; exact hg 6 (by decide))) (hdesc := pd_4) rfl (pc' := 354) rfl (by rw [hml]; rfl) rfl (hb hby at_351) (W := 0) (Nat.le_of_eq rfl) (by decide) (by decide) (by decide) (by decide) fun v29 T29 L29 X29 Q29 => ?_
  obtain ⟨rfl, hs6, rfl⟩ := Q29
  rw [List.append_nil] at X29
  rw [← hs6] at DA_b2_22 DA_b7_22 Dgs
  refine Good.ifNo X29 hx (pc' := 357) rfl (hb hby at_354) rfl ?_
  refine Good.bipush X29 hx (pc' := 359) (w := Int32.ofNat 7) rfl (hb hby at_357) rfl ?_
  refine Good.aload X29 hx (pc' := 361) rfl (hb hby at_359) rfl rfl ?_
  refine Good.aload X29 hx (pc' := 363) rfl (hb hby at_361) rfl rfl ?_
  refine Good.iload X29 hx (pc' := 365) rfl (hb hby at_363) rfl ?_
  refine Good.aload X29 hx (pc' := 367) rfl (hb hby at_365) rfl rfl ?_
  refine Good.iload X29 hx (pc' := 369) rfl (hb hby at_367) rfl ?_
  refine Good.iload X29 hx (pc' := 371) rfl (hb hby at_369) rfl ?_
  refine Good.iload X29 hx (pc' := 373) rfl (hb hby at_371) rfl ?_
  refine Good.callS X29 hx hZ (y := ⟨"com/example/streamcover/streamcover/DistanceSumsOfSquaresPinLaw", "slot", "(I[D[DI[DIII)Z"⟩) hown (hw _ (List.mem_of_getElem? (i := 15) rfl)) (hw _ (List.mem_of_getElem? (i := 16) rfl)) (hw _ (List.mem_of_getElem? (i := 8) rfl)) (hw _ (List.mem_of_getElem? (i := 17) rfl)) (by decide) rfl (argsL := [(.int (Int32.ofNat 7)), (.ref b12), (.ref b2), (.int (Int32.ofNat as')), (.ref b7), (.int (Int32.ofNat bs)), (.int (Int32.ofNat cnt)), (.int (Int32.ofNat dim))]) (rest := []) (c_slot l Z a0 hw 7 (by decide) b12 b2 b7 as' bs cnt dim fa fb3 _ T29.heap DA_b2_22 DA_b7_22 ha hb3 Dgs h_dim (by omega) hc8 h_bs (hmul 7) (fun q => if_pos q) (fun q => by rw [if_neg q]; exact hg 7 (by decide))) (hdesc := pd_4) rfl (pc' := 376) rfl (by rw [hml]; rfl) rfl (hb hby at_373) (W := 0) (Nat.le_of_eq rfl) (by decide) (by decide) (by decide) (by decide) fun v30 T30 L30 X30 Q30 => ?_
  obtain ⟨rfl, hs7, rfl⟩ := Q30
  rw [List.append_nil] at X30
  rw [← hs7] at DA_b2_22 DA_b7_22 Dgs
  refine Good.ifNo X30 hx (pc' := 379) rfl (hb hby at_376) rfl ?_
  refine Good.bipush X30 hx (pc' := 381) (w := Int32.ofNat 8) rfl (hb hby at_379) rfl ?_
  refine Good.aload X30 hx (pc' := 383) rfl (hb hby at_381) rfl rfl ?_
  refine Good.aload X30 hx (pc' := 385) rfl (hb hby at_383) rfl rfl ?_
  refine Good.iload X30 hx (pc' := 387) rfl (hb hby at_385) rfl ?_
  refine Good.aload X30 hx (pc' := 389) rfl (hb hby at_387) rfl rfl ?_
  refine Good.iload X30 hx (pc' := 391) rfl (hb hby at_389) rfl ?_
  refine Good.iload X30 hx (pc' := 393) rfl (hb hby at_391) rfl ?_
  refine Good.iload X30 hx (pc' := 395) rfl (hb hby at_393) rfl ?_
  refine Good.callS X30 hx hZ (y := ⟨"com/example/streamcover/streamcover/DistanceSumsOfSquaresPinLaw", "slot", "(I[D[DI[DIII)Z"⟩) hown (hw _ (List.mem_of_getElem? (i := 15) rfl)) (hw _ (List.mem_of_getElem? (i := 16) rfl)) (hw _ (List.mem_of_getElem? (i := 8) rfl)) (hw _ (List.mem_of_getElem? (i := 17) rfl)) (by decide) rfl (argsL := [(.int (Int32.ofNat 8)), (.ref b12), (.ref b2), (.int (Int32.ofNat as')), (.ref b7), (.int (Int32.ofNat bs)), (.int (Int32.ofNat cnt)), (.int (Int32.ofNat dim))]) (rest := []) (c_slot l Z a0 hw 8 (by decide) b12 b2 b7 as' bs cnt dim fa fb3 _ T30.heap DA_b2_22 DA_b7_22 ha hb3 Dgs h_dim (by omega) hc8 h_bs (hmul 8) (fun q => if_pos q) (fun q => by rw [if_neg q]; exact hg 8 (by decide))) (hdesc := pd_4) rfl (pc' := 398) rfl (by rw [hml]; rfl) rfl (hb hby at_395) (W := 0) (Nat.le_of_eq rfl) (by decide) (by decide) (by decide) (by decide) fun v31 T31 L31 X31 Q31 => ?_
  obtain ⟨rfl, hs8, rfl⟩ := Q31
  rw [List.append_nil] at X31
  rw [← hs8] at DA_b2_22 DA_b7_22 Dgs
  refine Good.ifNo X31 hx (pc' := 401) rfl (hb hby at_398) rfl ?_
  refine Good.iconst X31 hx (pc' := 402) (w := Int32.ofNat 1) rfl (hb hby at_401) rfl ?_
  refine Good.goto X31 hx (pc' := 406) (by decide) (hb hby at_402) ?_
  exact Good.retZ X31 hx hlk hret (hb hby at_406) (Or.inr rfl) (hG _ _ _ _ _ (⟨rfl, N_22⟩) (by decide) (by decide))
set_option maxRecDepth 65536 in
set_option maxHeartbeats 40000000 in
theorem comes_1 {Post : Tables → Env → Array Value → State → Outcome → State → Prop} (hpost : ∀ tb e args s v u, (limb_1_1.after args s (.returned v) u = true ∧ limb_1_2.after args s (.returned v) u = true ∧ True) → FrameEnd s (.returned v) u (Jvm.fieldLocs frame_1_writes args s ++ Jvm.arrayLocs frame_1_arrays args s ++ Jvm.staticLocs frame_1_statics s) 16 192 → Post tb e args s (.returned v) u) :
    ArmFor flags0 classFile x code maxLocals ret World_1 tables_1 room_1 Calls_1 rest_1 Pre_1 Post := by
  intro l hfl _ _ p e ha hc hk s m args below hf hA hF happ hP
  obtain ⟨hcalls, hrest, hpre⟩ := hP
  obtain ⟨-, -, -, hnamed, -, -, -, hat⟩ := (Spec.applies_iff hf).mp happ
  obtain ⟨hg, hn⟩ := and_e (Cond.before_iff.mp (show (Jvm.Cond.and given_1 narrow_1).before args s = true from hpre))
  obtain ⟨w0, w1, w2, w3, w4, w5, rfl⟩ : ∃ w0 w1 w2 w3 w4 w5 : Value, args = #[w0, w1, w2, w3, w4, w5] := by
    have hs : args.size = 6 := by
      obtain ⟨q, -⟩ := and_e hg
      simpa [Cond.value, given_1] using q
    obtain ⟨L⟩ := args
    match L, hs with
    | [w0, w1, w2, w3, w4, w5], _ => exact ⟨w0, w1, w2, w3, w4, w5, rfl⟩
  have hw := fun d (hd : d ∈ tables_1) => atoms_spec (ws := Jvm.Cond.code x code maxLocals ret :: tables_1) hat d (List.mem_cons_of_mem _ hd)
  obtain ⟨-, hg0⟩ := and_e hg
  obtain ⟨gi0, hg1⟩ := and_e hg0
  obtain ⟨i0, ei0⟩ := isL_v gi0
  obtain rfl : w0 = (.long i0) := Option.some.inj ei0
  obtain ⟨gi1, hg2⟩ := and_e hg1
  obtain ⟨i1, ei1⟩ := isL_v gi1
  obtain rfl : w1 = (.long i1) := Option.some.inj ei1
  obtain ⟨gi2, hg3⟩ := and_e hg2
  obtain ⟨i2, ei2⟩ := isL_v gi2
  obtain rfl : w2 = (.long i2) := Option.some.inj ei2
  obtain ⟨gi3, hg4⟩ := and_e hg3
  obtain ⟨i3, ei3⟩ := isL_v gi3
  obtain rfl : w3 = (.long i3) := Option.some.inj ei3
  obtain ⟨gi4, hg5⟩ := and_e hg4
  obtain ⟨i4, ei4⟩ := is_v gi4
  obtain rfl : w4 = (.int i4) := Option.some.inj ei4
  obtain ⟨i5, ei5⟩ := is_v hg5
  obtain rfl : w5 = (.int i5) := Option.some.inj ei5
  have K := c_law l s _ hw i0 i1 i2 i3 i4 i5 s.heap s.heap.size (Nat.le_refl _)
  obtain ⟨n, o, h1, h2, h3, _, L, rfl, ⟨rfl, N⟩, hq⟩ := K tables_1 p e ha hc hk s m _ below hf ((Spec.applies_iff_loose hf).mp happ).1 ⟨rfl, State.Warmed39.refl s, rfl⟩ trivial
  refine ⟨n, _, h1, h2, h3, hpost _ _ _ _ _ _ ⟨Cond.after_iff.mpr rfl, Cond.after_iff.mpr (eq_i res_at (Term.int_eval (1)) rfl), trivial⟩ ⟨hq.1, hq.2.1, (hq.2.2.sift fun y hy => Or.inr (N y hy)).mono (by decide) (by decide)⟩⟩
theorem main_1_1 : Claimed_1_1 := comes_1 fun _ _ _ _ _ _ h hF => ⟨h.1, hF⟩
theorem main_1_2 : Claimed_1_2 := comes_1 fun _ _ _ _ _ _ h hF => ⟨h.2.1, hF⟩
end Jvm.Pilot.@@N@@
namespace Jvm.Pilot.@@N@@
open Jvm Jvm.ClassFile Sem Op Lib Jvm.Free Jvm.Stand Jvm.Pilot.@@N@@.Jvm.D
/-! MADE BY PROGRAM (witnessworld.py) out of the Statement's table words and the real class files: 12 classes; the members and pool entries that the words name. The judged class is class 1, her method 1. -/
namespace start1
open Jvm.ClassFile
def u (s : String) : CpInfo := .utf8 (stringToUtf16 s)
/-- a pool by its gaps: so many unusable entries, then the entry; so many at the end -/
def gap : Nat → List CpInfo → List CpInfo
  | 0, r => r
  | n + 1, r => .unusable :: gap n r
def poolList (es : List (Nat × CpInfo)) (last : Nat) : List CpInfo := es.foldr (fun e r => gap e.1 (e.2 :: r)) (gap last [])
def pool (es : List (Nat × CpInfo)) (last : Nat) : Array CpInfo := ⟨poolList es last⟩
def fileOf (pool : Array CpInfo) (this : Nat) (attrs : Array Attribute := #[]) (ms : Array MethodInfo := #[]) (fl : Nat := 33) (sup : Nat := 0) (ifs : Array Nat := #[]) (fds : Array FieldInfo := #[]) : ClassFile where
  minorVersion := 0
  majorVersion := 65
  constantPool := pool
  accessFlags := fl
  thisClass := this
  superClass := sup
  interfaces := ifs
  fields := fds
  methods := ms
  attributes := attrs
def plain (name : String) (sup : Option ClassId) : Class where
  name := name
  kind := .ordinary
  loader := none
  accessFlags := 33
  super := sup
  interfaces := #[]
  cf := none
  fields := #[]
  methods := #[]
  instanceTypes := #[]
  staticTypes := #[]
  resolved := #[]
  callSites := []
  init := .initialized
  statics := none
  mirror := none

def pool0 : Array CpInfo := pool [(5, u "<init>"), (0, u "()V"), (1, .class_ 10), (1, u "java/lang/Object")] 113

def k0m0 : Method := { name := "<init>", desc := "()V", sig := { parameters := [], returnType := none }, accessFlags := 1, code := none }
/-- java/lang/Object -/
def k0 : Class := { plain "java/lang/Object" none with
  accessFlags := 33
  interfaces := #[]
  cf := some (fileOf pool0 8 #[] #[{ accessFlags := 1, nameIndex := 5, descriptorIndex := 6, attributes := #[] }] 33 0 #[] #[])
  fields := #[]
  methods := #[k0m0]
  instanceTypes := #[]
  staticTypes := #[]
  resolved := Array.replicate 124 none
  statics := none }

def pool1 : Array CpInfo := pool [(2, .class_ 4), (1, u "java/lang/Object"), (0, u "<init>"), (0, u "()V"), (0, .methodref 8 9), (0, .class_ 10), (0, .nameAndType 11 12), (0, u "java/lang/Math"), (0, u "min"), (0, u "(II)I"), (0, .integer 1515870810), (0, .methodref 15 16), (0, .class_ 17), (0, .nameAndType 18 19), (0, u "com/example/streamcover/streamcover/DistanceSumsOfSquaresPinLaw"), (0, u "fill"), (0, u "([DIJ)V"), (0, .double 13830554455654793216), (1, .methodref 23 24), (0, .class_ 25), (0, .nameAndType 26 27), (0, u "com/example/streamcover/streamcover/Distance"), (0, u "sumsOfSquares"), (0, u "([DI[DIII[D)V"), (0, .methodref 15 29), (0, .nameAndType 30 31), (0, u "slot"), (0, u "(I[D[DI[DIII)Z"), (0, .methodref 15 33), (0, .nameAndType 34 35), (0, u "reference"), (0, u "([DI[DII)D"), (2, u "law"), (0, u "(JJJJII)Z")] 5

def k1m0 : Method := { name := "<init>", desc := "()V", sig := { parameters := [], returnType := none }, accessFlags := 2, code := none }
def k1c1 : Code := { maxStack := 8, maxLocals := 17, code := code, exceptionTable := #[], attributes := #[] }
def k1m1 : Method := { name := "law", desc := "(JJJJII)Z", sig := { parameters := [.long, .long, .long, .long, .int, .int], returnType := some .boolean }, accessFlags := 9, code := some k1c1 }
def k1c2 : Code := { maxStack := 8, maxLocals := 8, code := method_3_code, exceptionTable := #[], attributes := #[] }
def k1m2 : Method := { name := "slot", desc := "(I[D[DI[DIII)Z", sig := { parameters := [.int, (.array .double), (.array .double), .int, (.array .double), .int, .int, .int], returnType := some .boolean }, accessFlags := 10, code := some k1c2 }
def k1c3 : Code := { maxStack := 6, maxLocals := 9, code := method_4_code, exceptionTable := #[], attributes := #[] }
def k1m3 : Method := { name := "reference", desc := "([DI[DII)D", sig := { parameters := [(.array .double), .int, (.array .double), .int, .int], returnType := some .double }, accessFlags := 10, code := some k1c3 }
def k1c4 : Code := { maxStack := 5, maxLocals := 4, code := method_5_code, exceptionTable := #[], attributes := #[] }
def k1m4 : Method := { name := "fill", desc := "([DIJ)V", sig := { parameters := [(.array .double), .int, .long], returnType := none }, accessFlags := 10, code := some k1c4 }
/-- com/example/streamcover/streamcover/DistanceSumsOfSquaresPinLaw -/
def k1 : Class := { plain "com/example/streamcover/streamcover/DistanceSumsOfSquaresPinLaw" (some 0) with
  accessFlags := 49
  interfaces := #[]
  cf := some (fileOf pool1 15 #[] #[{ accessFlags := 2, nameIndex := 5, descriptorIndex := 6, attributes := #[] }, { accessFlags := 9, nameIndex := 38, descriptorIndex := 39, attributes := #[] }, { accessFlags := 10, nameIndex := 30, descriptorIndex := 31, attributes := #[] }, { accessFlags := 10, nameIndex := 34, descriptorIndex := 35, attributes := #[] }, { accessFlags := 10, nameIndex := 18, descriptorIndex := 19, attributes := #[] }] 49 2 #[] #[])
  fields := #[]
  methods := #[k1m0, k1m1, k1m2, k1m3, k1m4]
  instanceTypes := #[]
  staticTypes := #[]
  resolved := Array.replicate 45 none
  statics := none }

def pool2 : Array CpInfo := pool [(1, .class_ 2), (0, u "java/lang/Math"), (1, .class_ 6), (1, u "java/lang/Object"), (0, u "<init>"), (0, u "()V"), (89, .class_ 100), (1, u "java/lang/Math$RandomNumberGeneratorHolder"), (71, u "negativeZeroFloatBits"), (0, u "J"), (2, u "negativeZeroDoubleBits"), (24, u "min"), (43, u "$assertionsDisabled"), (0, u "Z"), (88, u "(II)I"), (2, u "twoToTheDoubleScaleDown"), (0, u "D"), (4, u "twoToTheDoubleScaleUp"), (9, u "E"), (3, u "PI"), (2, u "TAU"), (2, u "DEGREES_TO_RADIANS"), (0, u "RADIANS_TO_DEGREES")] 94

def k2m0 : Method := { name := "<init>", desc := "()V", sig := { parameters := [], returnType := none }, accessFlags := 2, code := none }
def k2c1 : Code := { maxStack := 2, maxLocals := 2, code := jdk_29_method_69_code, exceptionTable := #[], attributes := #[] }
def k2m1 : Method := { name := "min", desc := "(II)I", sig := { parameters := [.int, .int], returnType := some .int }, accessFlags := 9, code := some k2c1 }
/-- java/lang/Math -/
def k2 : Class := { plain "java/lang/Math" (some 0) with
  accessFlags := 49
  interfaces := #[]
  cf := some (fileOf pool2 1 #[.nestMembers #[98]] #[{ accessFlags := 2, nameIndex := 7, descriptorIndex := 8, attributes := #[] }, { accessFlags := 9, nameIndex := 201, descriptorIndex := 335, attributes := #[] }] 49 4 #[] #[{ accessFlags := 25, nameIndex := 354, descriptorIndex := 339, attributes := #[] }, { accessFlags := 25, nameIndex := 358, descriptorIndex := 339, attributes := #[] }, { accessFlags := 25, nameIndex := 361, descriptorIndex := 339, attributes := #[] }, { accessFlags := 26, nameIndex := 364, descriptorIndex := 339, attributes := #[] }, { accessFlags := 26, nameIndex := 365, descriptorIndex := 339, attributes := #[] }, { accessFlags := 26, nameIndex := 172, descriptorIndex := 173, attributes := #[] }, { accessFlags := 26, nameIndex := 176, descriptorIndex := 173, attributes := #[] }, { accessFlags := 8, nameIndex := 344, descriptorIndex := 339, attributes := #[] }, { accessFlags := 8, nameIndex := 338, descriptorIndex := 339, attributes := #[] }, { accessFlags := 4120, nameIndex := 245, descriptorIndex := 246, attributes := #[] }])
  fields := #[{ name := "E", type := .double, accessFlags := 25, slot := 0, constantValue := 0 }, { name := "PI", type := .double, accessFlags := 25, slot := 1, constantValue := 0 }, { name := "TAU", type := .double, accessFlags := 25, slot := 2, constantValue := 0 }, { name := "DEGREES_TO_RADIANS", type := .double, accessFlags := 26, slot := 3, constantValue := 0 }, { name := "RADIANS_TO_DEGREES", type := .double, accessFlags := 26, slot := 4, constantValue := 0 }, { name := "negativeZeroFloatBits", type := .long, accessFlags := 26, slot := 5, constantValue := 0 }, { name := "negativeZeroDoubleBits", type := .long, accessFlags := 26, slot := 6, constantValue := 0 }, { name := "twoToTheDoubleScaleUp", type := .double, accessFlags := 8, slot := 7, constantValue := 0 }, { name := "twoToTheDoubleScaleDown", type := .double, accessFlags := 8, slot := 8, constantValue := 0 }, { name := "$assertionsDisabled", type := .boolean, accessFlags := 4120, slot := 9, constantValue := 0 }]
  methods := #[k2m0, k2m1]
  instanceTypes := #[]
  staticTypes := #[.double, .double, .double, .double, .double, .long, .long, .double, .double, .boolean]
  resolved := Array.replicate 460 none
  statics := none }

def pool3 : Array CpInfo := pool [(2, .class_ 4), (1, u "java/lang/Object"), (0, u "<init>"), (0, u "()V"), (0, .methodref 8 9), (0, .class_ 10), (0, .nameAndType 11 12), (0, u "com/example/streamcover/streamcover/Distance"), (0, u "sumOfSquares"), (0, u "([DI[DII)D"), (18, .class_ 33), (1, u "com/example/streamcover/streamcover/Distance$Threshold"), (1, u "D"), (16, u "SMALLEST_PLAIN_SUM"), (7, u "sumsOfSquares"), (0, u "([DI[DIII[D)V")] 7

def k3m0 : Method := { name := "<init>", desc := "()V", sig := { parameters := [], returnType := none }, accessFlags := 2, code := none }
def k3c1 : Code := { maxStack := 8, maxLocals := 28, code := prog_20_method_5_code, exceptionTable := #[], attributes := #[] }
def k3m1 : Method := { name := "sumsOfSquares", desc := "([DI[DIII[D)V", sig := { parameters := [(.array .double), .int, (.array .double), .int, .int, .int, (.array .double)], returnType := none }, accessFlags := 8, code := some k3c1 }
def k3c2 : Code := { maxStack := 6, maxLocals := 10, code := prog_20_method_6_code, exceptionTable := #[], attributes := #[] }
def k3m2 : Method := { name := "sumOfSquares", desc := "([DI[DII)D", sig := { parameters := [(.array .double), .int, (.array .double), .int, .int], returnType := some .double }, accessFlags := 10, code := some k3c2 }
/-- com/example/streamcover/streamcover/Distance -/
def k3 : Class := { plain "com/example/streamcover/streamcover/Distance" (some 0) with
  accessFlags := 48
  interfaces := #[]
  cf := some (fileOf pool3 8 #[.nestMembers #[31]] #[{ accessFlags := 2, nameIndex := 5, descriptorIndex := 6, attributes := #[] }, { accessFlags := 8, nameIndex := 60, descriptorIndex := 61, attributes := #[] }, { accessFlags := 10, nameIndex := 11, descriptorIndex := 12, attributes := #[] }] 48 2 #[] #[{ accessFlags := 26, nameIndex := 52, descriptorIndex := 35, attributes := #[] }])
  fields := #[{ name := "SMALLEST_PLAIN_SUM", type := .double, accessFlags := 26, slot := 0, constantValue := 0 }]
  methods := #[k3m0, k3m1, k3m2]
  instanceTypes := #[]
  staticTypes := #[.double]
  resolved := Array.replicate 69 none
  statics := none }

def pool4 : Array CpInfo := pool [(1, u "java/lang/Cloneable"), (0, .class_ 1), (0, u "java/lang/Object"), (0, .class_ 3)] 3

/-- java/lang/Cloneable -/
def k4 : Class := { plain "java/lang/Cloneable" (some 0) with
  accessFlags := 1537
  interfaces := #[]
  cf := some (fileOf pool4 2 #[] #[] 1537 4 #[] #[])
  fields := #[]
  methods := #[]
  instanceTypes := #[]
  staticTypes := #[]
  resolved := Array.replicate 8 none
  statics := none }

def pool5 : Array CpInfo := pool [(1, u "java/io/Serializable"), (0, .class_ 1), (0, u "java/lang/Object"), (0, .class_ 3)] 3

/-- java/io/Serializable -/
def k5 : Class := { plain "java/io/Serializable" (some 0) with
  accessFlags := 1537
  interfaces := #[]
  cf := some (fileOf pool5 2 #[] #[] 1537 4 #[] #[])
  fields := #[]
  methods := #[]
  instanceTypes := #[]
  staticTypes := #[]
  resolved := Array.replicate 8 none
  statics := none }

/-- the primitive byte -/
def k6 : Class := { plain "byte" none with kind := .primitive 'B', accessFlags := 0x411 }
/-- [B -/
def k7 : Class := { plain "[B" (some 0) with kind := .array 6 .byte, interfaces := #[4, 5], accessFlags := 1041 }

/-- the primitive double -/
def k8 : Class := { plain "double" none with kind := .primitive 'D', accessFlags := 0x411 }
/-- [D -/
def k9 : Class := { plain "[D" (some 0) with kind := .array 8 .double, interfaces := #[4, 5], accessFlags := 1041 }

/-- the primitive int -/
def k10 : Class := { plain "int" none with kind := .primitive 'I', accessFlags := 0x411 }
/-- [I -/
def k11 : Class := { plain "[I" (some 0) with kind := .array 10 .int, interfaces := #[4, 5], accessFlags := 1041 }

def heap : Heap := #[]
def classes : Array Class := #[k0, k1, k2, k3, k4, k5, k6, k7, k8, k9, k10, k11]
def interned : List (Array UInt16 × Addr) := []
def slotsUsed : Nat := 0
def theMethod : MethodId := ⟨1, 1⟩
def args0 : Array Value := #[.long 3, .long 5, .long 7, .long 9, .int 4, .int 77]
def aboutOver (below : List Frame) : State where
  vm := { classes := classes, interned := interned.toArray }
  heap := heap
  slotsUsed := slotsUsed
  threads := #[{ frames := .invoking theMethod args0 :: below }]
def below0 : List Frame := [.native { method := ⟨0, 0⟩, args := #[] }]
def about1 : State := aboutOver below0
def p0 : Program := .bare "" "" ""
def e0 : Env := launch0.env 0 0 0
theorem w_frames : about1.frames = Frame.invoking theMethod args0 :: below0 := rfl
set_option maxRecDepth 65536 in
theorem w_args : argsFit about1.vm theMethod args0 = true := by decide +kernel
set_option maxRecDepth 65536 in
theorem w_heap : heapFits about1 = true := by decide +kernel
set_option maxRecDepth 65536 in
theorem w_runnable : about1.curStatus? = some .runnable := by decide +kernel
set_option maxRecDepth 65536 in
theorem w_alone : about1.alone = true := by decide +kernel
set_option maxRecDepth 65536 in
theorem w_named : about1.methodNamed? x = some theMethod := by decide +kernel
set_option maxRecDepth 65536 in
theorem w_hears : about1.hears theMethod below0 = true := by decide +kernel
set_option maxRecDepth 65536 in
theorem w_ripe : about1.ripe theMethod args0 below0 = true := by decide +kernel
theorem w_running : about1.status = .running := rfl
set_option maxRecDepth 65536 in
theorem w_room : about1.hasRoom e0.platform room_1 = true :=
  launch0.hasRoom_least _ room_1 (by decide +kernel) (by decide +kernel) (by decide +kernel) (by decide +kernel) (by decide +kernel) (by decide +kernel)
theorem allAtoms_all (ts : List Jvm.Cond) (a : Array Jvm.Value) (st : Jvm.State) : (allAtoms ts).before a st = ts.all (fun c => c.before a st) := by
  induction ts with
  | nil => rfl
  | cons c t ih =>
    show (Jvm.Cond.and c (allAtoms t)).before a st = _
    rw [Jvm.Cond.before_and, ih, List.all_cons]
def words1 : List Jvm.Cond := Jvm.Cond.code x code maxLocals ret :: tables_1
/-- a 'code' word, met by the world's own term for the bytes: nothing is compared byte by byte -/
theorem code_word {y : MethodName} {bytes : ByteArray} {mx : Nat} {rt : Option FieldType} {a : Array Value} {s : State} {m : MethodId} {meth : Method} {c : Code} (h1 : s.methodNamed? y = some m) (h2 : s.vm.method? m = some meth) (h3 : meth.code = some c) (h4 : c.code = bytes)
    (h5 : (c.maxLocals == mx && c.exceptionTable.isEmpty && decide (c.maxStack ≤ mostOperands) && decide (meth.sig.returnType = rt) && !meth.locks && decide (parseMethodDescriptor y.desc = some meth.sig)) = true) : (Jvm.Cond.code y bytes mx rt).before a s = true := by
  simp only [Bool.and_eq_true, beq_iff_eq, Bool.not_eq_true', decide_eq_true_eq] at h5
  obtain ⟨⟨⟨⟨⟨g1, g2⟩, g3⟩, g4⟩, g5⟩, g6⟩ := h5
  simp [Cond.before, Cond.holds, Cond.value, h1, h2, h3, h4, g1, g2, g3, g4, g5, g6]
def isCode : Jvm.Cond → Bool
  | .code _ _ _ _ => true
  | _ => false
theorem all_split {L : List Jvm.Cond} {P : Jvm.Cond → Bool} (h1 : L.all (fun c => isCode c || P c) = true) (h2 : ∀ c ∈ L.filter isCode, P c = true) : L.all P = true := by
  refine List.all_eq_true.mpr fun c hc => ?_
  have h := List.all_eq_true.mp h1 c hc
  rcases Bool.eq_false_or_eq_true (isCode c) with hi | hi
  · exact h2 c (List.mem_filter.mpr ⟨hc, hi⟩)
  · simpa [hi] using h
set_option maxRecDepth 65536 in
theorem w_c0 : (Jvm.Cond.code x code maxLocals ret).before args0 about1 = true := code_word (m := ⟨1, 1⟩) (meth := k1m1) (c := k1c1) (by decide +kernel) rfl rfl rfl (by decide +kernel)
set_option maxRecDepth 65536 in
theorem w_c1 : (Jvm.Cond.code ({ cls := "java/lang/Math", name := "min", desc := "(II)I" } : Jvm.MethodName) jdk_29_method_69_code (2 : Nat) (Option.some Jvm.ClassFile.FieldType.int)).before args0 about1 = true := code_word (m := ⟨2, 1⟩) (meth := k2m1) (c := k2c1) (by decide +kernel) rfl rfl rfl (by decide +kernel)
set_option maxRecDepth 65536 in
theorem w_c2 : (Jvm.Cond.code ({ cls := "com/example/streamcover/streamcover/DistanceSumsOfSquaresPinLaw", name := "fill", desc := "([DIJ)V" } : Jvm.MethodName) method_5_code (4 : Nat) (Option.none : Option Jvm.ClassFile.FieldType)).before args0 about1 = true := code_word (m := ⟨1, 4⟩) (meth := k1m4) (c := k1c4) (by decide +kernel) rfl rfl rfl (by decide +kernel)
set_option maxRecDepth 65536 in
theorem w_c3 : (Jvm.Cond.code ({ cls := "com/example/streamcover/streamcover/Distance", name := "sumsOfSquares", desc := "([DI[DIII[D)V" } : Jvm.MethodName) prog_20_method_5_code (28 : Nat) (Option.none : Option Jvm.ClassFile.FieldType)).before args0 about1 = true := code_word (m := ⟨3, 1⟩) (meth := k3m1) (c := k3c1) (by decide +kernel) rfl rfl rfl (by decide +kernel)
set_option maxRecDepth 65536 in
theorem w_c4 : (Jvm.Cond.code ({ cls := "com/example/streamcover/streamcover/DistanceSumsOfSquaresPinLaw", name := "slot", desc := "(I[D[DI[DIII)Z" } : Jvm.MethodName) method_3_code (8 : Nat) (Option.some Jvm.ClassFile.FieldType.boolean)).before args0 about1 = true := code_word (m := ⟨1, 2⟩) (meth := k1m2) (c := k1c2) (by decide +kernel) rfl rfl rfl (by decide +kernel)
set_option maxRecDepth 65536 in
theorem w_c5 : (Jvm.Cond.code ({ cls := "com/example/streamcover/streamcover/DistanceSumsOfSquaresPinLaw", name := "reference", desc := "([DI[DII)D" } : Jvm.MethodName) method_4_code (9 : Nat) (Option.some Jvm.ClassFile.FieldType.double)).before args0 about1 = true := code_word (m := ⟨1, 3⟩) (meth := k1m3) (c := k1c3) (by decide +kernel) rfl rfl rfl (by decide +kernel)
set_option maxRecDepth 65536 in
theorem w_c6 : (Jvm.Cond.code ({ cls := "com/example/streamcover/streamcover/Distance", name := "sumOfSquares", desc := "([DI[DII)D" } : Jvm.MethodName) prog_20_method_6_code (10 : Nat) (Option.some Jvm.ClassFile.FieldType.double)).before args0 about1 = true := code_word (m := ⟨3, 2⟩) (meth := k3m2) (c := k3c2) (by decide +kernel) rfl rfl rfl (by decide +kernel)
def codes1 : List Jvm.Cond := [Jvm.Cond.code x code maxLocals ret, Jvm.Cond.code ({ cls := "java/lang/Math", name := "min", desc := "(II)I" } : Jvm.MethodName) jdk_29_method_69_code (2 : Nat) (Option.some Jvm.ClassFile.FieldType.int), Jvm.Cond.code ({ cls := "com/example/streamcover/streamcover/DistanceSumsOfSquaresPinLaw", name := "fill", desc := "([DIJ)V" } : Jvm.MethodName) method_5_code (4 : Nat) (Option.none : Option Jvm.ClassFile.FieldType), Jvm.Cond.code ({ cls := "com/example/streamcover/streamcover/Distance", name := "sumsOfSquares", desc := "([DI[DIII[D)V" } : Jvm.MethodName) prog_20_method_5_code (28 : Nat) (Option.none : Option Jvm.ClassFile.FieldType), Jvm.Cond.code ({ cls := "com/example/streamcover/streamcover/DistanceSumsOfSquaresPinLaw", name := "slot", desc := "(I[D[DI[DIII)Z" } : Jvm.MethodName) method_3_code (8 : Nat) (Option.some Jvm.ClassFile.FieldType.boolean), Jvm.Cond.code ({ cls := "com/example/streamcover/streamcover/DistanceSumsOfSquaresPinLaw", name := "reference", desc := "([DI[DII)D" } : Jvm.MethodName) method_4_code (9 : Nat) (Option.some Jvm.ClassFile.FieldType.double), Jvm.Cond.code ({ cls := "com/example/streamcover/streamcover/Distance", name := "sumOfSquares", desc := "([DI[DII)D" } : Jvm.MethodName) prog_20_method_6_code (10 : Nat) (Option.some Jvm.ClassFile.FieldType.double)]
set_option maxRecDepth 65536 in
theorem codes_eq : words1.filter isCode = codes1 := rfl
theorem w_codes : ∀ c ∈ words1.filter isCode, c.before args0 about1 = true := by
  rw [codes_eq]
  intro c hc
  simp only [codes1, List.mem_cons, List.not_mem_nil, or_false] at hc
  rcases hc with rfl | rfl | rfl | rfl | rfl | rfl | rfl
  · exact w_c0
  · exact w_c1
  · exact w_c2
  · exact w_c3
  · exact w_c4
  · exact w_c5
  · exact w_c6
set_option maxRecDepth 65536 in
theorem w_t1 : (words1.take 24).all (fun c => isCode c || c.before args0 about1) = true := by decide +kernel
set_option maxRecDepth 65536 in
theorem w_t2 : (words1.drop 24).all (fun c => isCode c || c.before args0 about1) = true := by decide +kernel
theorem w_tables : (allAtoms (Jvm.Cond.code x code maxLocals ret :: tables_1)).before args0 about1 = true := by
  rw [allAtoms_all]
  show words1.all (fun c => c.before args0 about1) = true
  refine all_split ?_ w_codes
  rw [← List.take_append_drop 24 words1, List.all_append, w_t1, w_t2]
  rfl
set_option maxRecDepth 65536 in
theorem w_case : (Jvm.Cond.and given_1 narrow_1).before args0 about1 = true := by decide +kernel
theorem w_applies : (headSpec (Jvm.Cond.code x code maxLocals ret :: tables_1) room_1).applies x e0.platform about1 = true :=
  (Spec.applies_iff w_frames).mpr ⟨w_running, w_runnable, w_alone, w_named, w_hears, w_ripe, w_room, w_tables⟩
theorem atStart : AtStart classFile x code maxLocals ret World_1 tables_1 room_1 Calls_1 rest_1 Pre_1 launch0 p0 e0 about1 theMethod args0 below0 :=
  ⟨lists_1, trivial, launch0.admits_env _ _ _, launch0.least_env, fairChoices_fair.cas, fairChoices_fair.clock, w_frames, w_args, w_heap, w_applies, trivial, trivial, w_case⟩
end start1
theorem witness_1 : WitnessClaimed_1 := ⟨start1.p0, start1.e0, start1.about1, start1.theMethod, start1.args0, start1.below0, start1.atStart⟩
end Jvm.Pilot.@@N@@
