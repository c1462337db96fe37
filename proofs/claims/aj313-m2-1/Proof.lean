import JvmDerived
import JvmDerived.Pilot.@@N@@Statement
import JvmDerived.Pilot.@@N@@Code
set_option linter.unusedVariables false
set_option linter.unusedSimpArgs false
namespace Jvm.OwnKit
open Sem ClassFile Op Lib Jvm.Stand Jvm.Free Jvm.LawKit Jvm.RoadKit Jvm.Free.Fl
/-- from U the run comes to a return whose value, heap, written places, new cells and slots meet G -/
def Good (tb : Tables) (e : Env) (below : List Frame) (s : State) (G : Option Value → Heap → List Loc → Nat → Nat → Prop) (U : State) : Prop :=
  ∃ (T : State) (fs : List Frame) (v : Option Value) (locs : List Loc) (cells slots : Nat), Steps tb e below U (T.setFrames fs) ∧ (T.setFrames fs).status = .running ∧ Ended (T.setFrames fs) below (.returned v) ∧ s.WarmedH (T.setFrames fs).vm ∧ s.sameButNew ({ T.setFrames fs with vm := s.vm } : State) locs cells slots ∧ G v T.heap locs cells slots
theorem Good.go {tb : Tables} {e : Env} {below : List Frame} {s : State} {G : Option Value → Heap → List Loc → Nat → Nat → Prop} {U U' : State} (st : ∀ target, Steps tb e below U' target → Steps tb e below U target) (k : Good tb e below s G U') : Good tb e below s G U := by
  obtain ⟨T, fs, v, L, a, b, q, r⟩ := k
  exact ⟨T, fs, v, L, a, b, st _ q, r⟩
section Kit
variable {p : Program} {l : Launch} {e : Env} {R : Room} {s : State} {m : MethodId} {args : Array Value} {below : List Frame} {meth : Method} {c : Code} {T : State} {locs : List Loc} {cells slots : Nat} {G : Option Value → Heap → List Loc → Nat → Nat → Prop}
theorem Good.ret (X : Stand p l e R s m args below meth c T locs cells slots) (hx : p.tables.exec = Jvm.exec) (hlk : meth.locks = false) {pc : Nat} {Ls : Array Slot} {w : Value} {t : FieldType} {i : Instr} {rest : List Value} (hret : meth.sig.returnType = some t) (hn : narrow t w = w)
    (hi : (i = .ireturn ∧ (t = .int ∨ t = .boolean ∨ t = .byte ∨ t = .char ∨ t = .short) ∧ ∃ z, w = .int z) ∨ (i = .lreturn ∧ t = .long ∧ ∃ z, w = .long z) ∨ (i = .dreturn ∧ t = .double ∧ ∃ z, w = .double z) ∨ (i = .freturn ∧ t = .float ∧ ∃ z, w = .float z) ∨ (i = .areturn ∧ t.isReference = true ∧ w.isRef = true))
    (hd : decode c.code pc = .ok (i, 1)) (hG : G (some w) T.heap locs cells slots) : Good p.tables e below s G (T.setTop (mkF m pc Ls (w :: rest))) := by
  obtain ⟨fs, hr, h1, h2, h3, h4⟩ := X.leave (v := some w) (fun q => by rw [hret] at q; cases q) hlk
  exact ⟨T, fs, some w, locs, cells, slots, retOut X hx hret hn hi hd hr, h1, h2, h3, h4, hG⟩
theorem Good.retD (X : Stand p l e R s m args below meth c T locs cells slots) (hx : p.tables.exec = Jvm.exec) (hlk : meth.locks = false) {pc : Nat} {Ls : Array Slot} {w : UInt64} {rest : List Value} (hret : meth.sig.returnType = some .double) (hd : decode c.code pc = .ok (.dreturn, 1)) (hG : G (some (.double w)) T.heap locs cells slots) : Good p.tables e below s G (T.setTop (mkF m pc Ls (.double w :: rest))) :=
  Good.ret X hx hlk hret rfl (Or.inr (Or.inr (Or.inl ⟨rfl, rfl, _, rfl⟩))) hd hG
theorem Good.retA (X : Stand p l e R s m args below meth c T locs cells slots) (hx : p.tables.exec = Jvm.exec) (hlk : meth.locks = false) {pc : Nat} {Ls : Array Slot} {w : Value} {t : FieldType} {rest : List Value} (hret : meth.sig.returnType = some t) (ht : t.isReference = true) (hw : w.isRef = true) (hd : decode c.code pc = .ok (.areturn, 1)) (hG : G (some w) T.heap locs cells slots) : Good p.tables e below s G (T.setTop (mkF m pc Ls (w :: rest))) :=
  Good.ret X hx hlk hret (by cases t <;> first | (exact Bool.noConfusion ht) | (cases w <;> first | rfl | exact Bool.noConfusion hw)) (Or.inr (Or.inr (Or.inr (Or.inr ⟨rfl, ht, hw⟩)))) hd hG
theorem Good.retI (X : Stand p l e R s m args below meth c T locs cells slots) (hx : p.tables.exec = Jvm.exec) (hlk : meth.locks = false) {pc : Nat} {Ls : Array Slot} {w : Int32} {rest : List Value} (hret : meth.sig.returnType = some .int) (hd : decode c.code pc = .ok (.ireturn, 1)) (hG : G (some (.int w)) T.heap locs cells slots) : Good p.tables e below s G (T.setTop (mkF m pc Ls (.int w :: rest))) :=
  Good.ret X hx hlk hret rfl (Or.inl ⟨rfl, Or.inl rfl, _, rfl⟩) hd hG
theorem Good.retZ (X : Stand p l e R s m args below meth c T locs cells slots) (hx : p.tables.exec = Jvm.exec) (hlk : meth.locks = false) {pc : Nat} {Ls : Array Slot} {w : Int32} {rest : List Value} (hret : meth.sig.returnType = some .boolean) (hd : decode c.code pc = .ok (.ireturn, 1)) (hw : w = 0 ∨ w = 1) (hG : G (some (.int w)) T.heap locs cells slots) : Good p.tables e below s G (T.setTop (mkF m pc Ls (.int w :: rest))) :=
  Good.ret X hx hlk hret (by rcases hw with rfl | rfl <;> rfl) (Or.inl ⟨rfl, Or.inr (Or.inl rfl), _, rfl⟩) hd hG
theorem Good.ret0 (X : Stand p l e R s m args below meth c T locs cells slots) (hx : p.tables.exec = Jvm.exec) (hlk : meth.locks = false) {pc : Nat} {Ls : Array Slot} (hret : meth.sig.returnType = none) (hd : decode c.code pc = .ok (.return_, 1)) (hG : G none T.heap locs cells slots) : Good p.tables e below s G (T.setTop (mkF m pc Ls [])) := by
  obtain ⟨fs, hr, h1, h2, h3, h4⟩ := X.leave (v := none) (fun _ => rfl) hlk
  exact ⟨T, fs, none, locs, cells, slots, X.returnOut hx hret hd hr, h1, h2, h3, h4, hG⟩

theorem Good.aloadN (X : Stand p l e R s m args below meth c T locs cells slots) (hx : p.tables.exec = Jvm.exec) {pc pc' : Nat} {Ls : Array Slot} {k : Fin 4} {v : Value} {st : List Value} (hp : pc + 1 = pc') (hd : decode c.code pc = .ok (.aload_n k, 1)) (hl : Ls[k.val]? = some (.val v)) (hv : v.isRef = true) (k : Good p.tables e below s G (T.setTop (mkF m pc' Ls (v :: st)))) : Good p.tables e below s G (T.setTop (mkF m pc Ls st)) := by
  subst hp
  exact Good.go (fun _ q => XS.aloadN X.here hx rfl hd hl hv q) k
theorem Good.aload (X : Stand p l e R s m args below meth c T locs cells slots) (hx : p.tables.exec = Jvm.exec) {pc pc' : Nat} {Ls : Array Slot} {k : Nat} {v : Value} {st : List Value} (hp : pc + 2 = pc') (hd : decode c.code pc = .ok (.aload k, 2)) (hl : Ls[k]? = some (.val v)) (hv : v.isRef = true) (k : Good p.tables e below s G (T.setTop (mkF m pc' Ls (v :: st)))) : Good p.tables e below s G (T.setTop (mkF m pc Ls st)) := by
  subst hp
  exact Good.go (fun _ q => XS.aload X.here hx rfl hd hl hv q) k
theorem Good.iloadN (X : Stand p l e R s m args below meth c T locs cells slots) (hx : p.tables.exec = Jvm.exec) {pc pc' : Nat} {Ls : Array Slot} {k : Fin 4} {v : Int32} {st : List Value} (hp : pc + 1 = pc') (hd : decode c.code pc = .ok (.iload_n k, 1)) (hl : Ls[k.val]? = some (.val (.int v))) (k : Good p.tables e below s G (T.setTop (mkF m pc' Ls (.int v :: st)))) : Good p.tables e below s G (T.setTop (mkF m pc Ls st)) := by
  subst hp
  exact Good.go (fun _ q => XS.iloadN X.here hx rfl hd hl q) k
theorem Good.iload (X : Stand p l e R s m args below meth c T locs cells slots) (hx : p.tables.exec = Jvm.exec) {pc pc' : Nat} {Ls : Array Slot} {k : Nat} {v : Int32} {st : List Value} (hp : pc + 2 = pc') (hd : decode c.code pc = .ok (.iload k, 2)) (hl : Ls[k]? = some (.val (.int v))) (k : Good p.tables e below s G (T.setTop (mkF m pc' Ls (.int v :: st)))) : Good p.tables e below s G (T.setTop (mkF m pc Ls st)) := by
  subst hp
  exact Good.go (fun _ q => XS.iload X.here hx rfl hd hl q) k
theorem Good.lloadN (X : Stand p l e R s m args below meth c T locs cells slots) (hx : p.tables.exec = Jvm.exec) {pc pc' : Nat} {Ls : Array Slot} {k : Fin 4} {v : Int64} {st : List Value} (hp : pc + 1 = pc') (hd : decode c.code pc = .ok (.lload_n k, 1)) (hl : Ls[k.val]? = some (.val (.long v))) (k : Good p.tables e below s G (T.setTop (mkF m pc' Ls (.long v :: st)))) : Good p.tables e below s G (T.setTop (mkF m pc Ls st)) := by
  subst hp
  exact Good.go (fun _ q => XT.lloadN X.here hx rfl hd hl q) k
theorem Good.lload (X : Stand p l e R s m args below meth c T locs cells slots) (hx : p.tables.exec = Jvm.exec) {pc pc' : Nat} {Ls : Array Slot} {k : Nat} {v : Int64} {st : List Value} (hp : pc + 2 = pc') (hd : decode c.code pc = .ok (.lload k, 2)) (hl : Ls[k]? = some (.val (.long v))) (k : Good p.tables e below s G (T.setTop (mkF m pc' Ls (.long v :: st)))) : Good p.tables e below s G (T.setTop (mkF m pc Ls st)) := by
  subst hp
  exact Good.go (fun _ q => XT.lload X.here hx rfl hd hl q) k
theorem Good.dloadN (X : Stand p l e R s m args below meth c T locs cells slots) (hx : p.tables.exec = Jvm.exec) {pc pc' : Nat} {Ls : Array Slot} {k : Fin 4} {v : UInt64} {st : List Value} (hp : pc + 1 = pc') (hd : decode c.code pc = .ok (.dload_n k, 1)) (hl : Ls[k.val]? = some (.val (.double v))) (k : Good p.tables e below s G (T.setTop (mkF m pc' Ls (.double v :: st)))) : Good p.tables e below s G (T.setTop (mkF m pc Ls st)) := by
  subst hp
  refine Good.go (fun _ q => ?_) k
  show Steps p.tables e below (T.setTop { method := m, pc := pc, locals := Ls, stack := st, locked := none }) _
  jvm_step X.here [X.here.top, hx, hd, hl]
  exact q
theorem Good.dload (X : Stand p l e R s m args below meth c T locs cells slots) (hx : p.tables.exec = Jvm.exec) {pc pc' : Nat} {Ls : Array Slot} {k : Nat} {v : UInt64} {st : List Value} (hp : pc + 2 = pc') (hd : decode c.code pc = .ok (.dload k, 2)) (hl : Ls[k]? = some (.val (.double v))) (k : Good p.tables e below s G (T.setTop (mkF m pc' Ls (.double v :: st)))) : Good p.tables e below s G (T.setTop (mkF m pc Ls st)) := by
  subst hp
  refine Good.go (fun _ q => ?_) k
  show Steps p.tables e below (T.setTop { method := m, pc := pc, locals := Ls, stack := st, locked := none }) _
  jvm_step X.here [X.here.top, hx, hd, hl]
  exact q
theorem Good.iconst (X : Stand p l e R s m args below meth c T locs cells slots) (hx : p.tables.exec = Jvm.exec) {pc pc' : Nat} {Ls : Array Slot} {i : Int} {w : Int32} {st : List Value} (hp : pc + 1 = pc') (hd : decode c.code pc = .ok (.iconst i, 1)) (hv : Int32.ofInt i = w) (k : Good p.tables e below s G (T.setTop (mkF m pc' Ls (.int w :: st)))) : Good p.tables e below s G (T.setTop (mkF m pc Ls st)) := by
  subst hp; subst hv
  exact Good.go (fun _ q => XS.iconst X.here hx rfl hd q) k
theorem Good.bipush (X : Stand p l e R s m args below meth c T locs cells slots) (hx : p.tables.exec = Jvm.exec) {pc pc' : Nat} {Ls : Array Slot} {i : Int} {w : Int32} {st : List Value} (hp : pc + 2 = pc') (hd : decode c.code pc = .ok (.bipush i, 2)) (hv : (Int8.ofInt i).toInt32 = w) (k : Good p.tables e below s G (T.setTop (mkF m pc' Ls (.int w :: st)))) : Good p.tables e below s G (T.setTop (mkF m pc Ls st)) := by
  subst hp; subst hv
  exact Good.go (fun _ q => XS.bipush X.here hx rfl hd q) k
theorem Good.sipush (X : Stand p l e R s m args below meth c T locs cells slots) (hx : p.tables.exec = Jvm.exec) {pc pc' : Nat} {Ls : Array Slot} {i : Int} {w : Int32} {st : List Value} (hp : pc + 3 = pc') (hd : decode c.code pc = .ok (.sipush i, 3)) (hv : (Int16.ofInt i).toInt32 = w) (k : Good p.tables e below s G (T.setTop (mkF m pc' Ls (.int w :: st)))) : Good p.tables e below s G (T.setTop (mkF m pc Ls st)) := by
  subst hp; subst hv
  exact Good.go (fun _ q => XS.sipush X.here hx rfl hd q) k
theorem Good.dconst0 (X : Stand p l e R s m args below meth c T locs cells slots) (hx : p.tables.exec = Jvm.exec) {pc pc' : Nat} {Ls : Array Slot} {st : List Value} (hp : pc + 1 = pc') (hd : decode c.code pc = .ok (.dconst 0, 1))  (k : Good p.tables e below s G (T.setTop (mkF m pc' Ls (.double FP.dconst0 :: st)))) : Good p.tables e below s G (T.setTop (mkF m pc Ls st)) := by
  subst hp
  refine Good.go (fun _ q => ?_) k
  show Steps p.tables e below (T.setTop { method := m, pc := pc, locals := Ls, stack := st, locked := none }) _
  jvm_step X.here [X.here.top, hx, hd, dconst.sem]
  exact q
theorem Good.dconst1 (X : Stand p l e R s m args below meth c T locs cells slots) (hx : p.tables.exec = Jvm.exec) {pc pc' : Nat} {Ls : Array Slot} {st : List Value} (hp : pc + 1 = pc') (hd : decode c.code pc = .ok (.dconst 1, 1))  (k : Good p.tables e below s G (T.setTop (mkF m pc' Ls (.double FP.dconst1 :: st)))) : Good p.tables e below s G (T.setTop (mkF m pc Ls st)) := by
  subst hp
  refine Good.go (fun _ q => ?_) k
  show Steps p.tables e below (T.setTop { method := m, pc := pc, locals := Ls, stack := st, locked := none }) _
  jvm_step X.here [X.here.top, hx, hd, dconst.sem]
  exact q
theorem Good.aconstNull (X : Stand p l e R s m args below meth c T locs cells slots) (hx : p.tables.exec = Jvm.exec) {pc pc' : Nat} {Ls : Array Slot} {st : List Value} (hp : pc + 1 = pc') (hd : decode c.code pc = .ok (.aconst_null, 1))  (k : Good p.tables e below s G (T.setTop (mkF m pc' Ls (.null :: st)))) : Good p.tables e below s G (T.setTop (mkF m pc Ls st)) := by
  subst hp
  exact Good.go (fun _ q => XS.aconstNull X.here hx rfl hd q) k
theorem Good.iadd (X : Stand p l e R s m args below meth c T locs cells slots) (hx : p.tables.exec = Jvm.exec) {pc pc' : Nat} {Ls : Array Slot} {x y : Int32} {st : List Value} (hp : pc + 1 = pc') (hd : decode c.code pc = .ok (.iadd, 1))  (k : Good p.tables e below s G (T.setTop (mkF m pc' Ls (.int (x + y) :: st)))) : Good p.tables e below s G (T.setTop (mkF m pc Ls (.int y :: .int x :: st))) := by
  subst hp
  exact Good.go (fun _ q => XS.iadd X.here hx rfl hd rfl q) k
theorem Good.isub (X : Stand p l e R s m args below meth c T locs cells slots) (hx : p.tables.exec = Jvm.exec) {pc pc' : Nat} {Ls : Array Slot} {x y : Int32} {st : List Value} (hp : pc + 1 = pc') (hd : decode c.code pc = .ok (.isub, 1))  (k : Good p.tables e below s G (T.setTop (mkF m pc' Ls (.int (x - y) :: st)))) : Good p.tables e below s G (T.setTop (mkF m pc Ls (.int y :: .int x :: st))) := by
  subst hp
  exact Good.go (fun _ q => XS.isub X.here hx rfl hd rfl q) k
theorem Good.iand (X : Stand p l e R s m args below meth c T locs cells slots) (hx : p.tables.exec = Jvm.exec) {pc pc' : Nat} {Ls : Array Slot} {x y : Int32} {st : List Value} (hp : pc + 1 = pc') (hd : decode c.code pc = .ok (.iand, 1))  (k : Good p.tables e below s G (T.setTop (mkF m pc' Ls (.int (x &&& y) :: st)))) : Good p.tables e below s G (T.setTop (mkF m pc Ls (.int y :: .int x :: st))) := by
  subst hp
  exact Good.go (fun _ q => XS.iand X.here hx rfl hd rfl q) k
theorem Good.imul (X : Stand p l e R s m args below meth c T locs cells slots) (hx : p.tables.exec = Jvm.exec) {pc pc' : Nat} {Ls : Array Slot} {x y : Int32} {st : List Value} (hp : pc + 1 = pc') (hd : decode c.code pc = .ok (.imul, 1))  (k : Good p.tables e below s G (T.setTop (mkF m pc' Ls (.int (x * y) :: st)))) : Good p.tables e below s G (T.setTop (mkF m pc Ls (.int y :: .int x :: st))) := by
  subst hp
  exact Good.go (fun _ q => XS.imul X.here hx rfl hd rfl q) k
theorem Good.ixor (X : Stand p l e R s m args below meth c T locs cells slots) (hx : p.tables.exec = Jvm.exec) {pc pc' : Nat} {Ls : Array Slot} {x y : Int32} {st : List Value} (hp : pc + 1 = pc') (hd : decode c.code pc = .ok (.ixor, 1))  (k : Good p.tables e below s G (T.setTop (mkF m pc' Ls (.int (x ^^^ y) :: st)))) : Good p.tables e below s G (T.setTop (mkF m pc Ls (.int y :: .int x :: st))) := by
  subst hp
  exact Good.go (fun _ q => XT.ixor X.here hx rfl hd rfl q) k
theorem Good.iushr (X : Stand p l e R s m args below meth c T locs cells slots) (hx : p.tables.exec = Jvm.exec) {pc pc' : Nat} {Ls : Array Slot} {x y : Int32} {st : List Value} (hp : pc + 1 = pc') (hd : decode c.code pc = .ok (.iushr, 1))  (k : Good p.tables e below s G (T.setTop (mkF m pc' Ls (.int (XT.ushr x y) :: st)))) : Good p.tables e below s G (T.setTop (mkF m pc Ls (.int y :: .int x :: st))) := by
  subst hp
  exact Good.go (fun _ q => XT.iushr X.here hx rfl hd rfl q) k
theorem Good.ishr (X : Stand p l e R s m args below meth c T locs cells slots) (hx : p.tables.exec = Jvm.exec) {pc pc' : Nat} {Ls : Array Slot} {x y : Int32} {st : List Value} (hp : pc + 1 = pc') (hd : decode c.code pc = .ok (.ishr, 1))  (k : Good p.tables e below s G (T.setTop (mkF m pc' Ls (.int (x >>> (y &&& 31)) :: st)))) : Good p.tables e below s G (T.setTop (mkF m pc Ls (.int y :: .int x :: st))) := by
  subst hp
  exact Good.go (fun _ q => XT.ishr X.here hx rfl hd rfl q) k
theorem Good.irem (X : Stand p l e R s m args below meth c T locs cells slots) (hx : p.tables.exec = Jvm.exec) {pc pc' : Nat} {Ls : Array Slot} {x y : Int32} {st : List Value} (hp : pc + 1 = pc') (hd : decode c.code pc = .ok (.irem, 1)) (hy : y ≠ 0) (k : Good p.tables e below s G (T.setTop (mkF m pc' Ls (.int (x % y) :: st)))) : Good p.tables e below s G (T.setTop (mkF m pc Ls (.int y :: .int x :: st))) := by
  subst hp
  exact Good.go (fun _ q => iremM X hx rfl hd rfl hy q) k
theorem Good.ladd (X : Stand p l e R s m args below meth c T locs cells slots) (hx : p.tables.exec = Jvm.exec) {pc pc' : Nat} {Ls : Array Slot} {x y : Int64} {st : List Value} (hp : pc + 1 = pc') (hd : decode c.code pc = .ok (.ladd, 1))  (k : Good p.tables e below s G (T.setTop (mkF m pc' Ls (.long (x + y) :: st)))) : Good p.tables e below s G (T.setTop (mkF m pc Ls (.long y :: .long x :: st))) := by
  subst hp
  exact Good.go (fun _ q => XT.ladd X.here hx rfl hd rfl q) k
theorem Good.lsub (X : Stand p l e R s m args below meth c T locs cells slots) (hx : p.tables.exec = Jvm.exec) {pc pc' : Nat} {Ls : Array Slot} {x y : Int64} {st : List Value} (hp : pc + 1 = pc') (hd : decode c.code pc = .ok (.lsub, 1))  (k : Good p.tables e below s G (T.setTop (mkF m pc' Ls (.long (x - y) :: st)))) : Good p.tables e below s G (T.setTop (mkF m pc Ls (.long y :: .long x :: st))) := by
  subst hp
  exact Good.go (fun _ q => XT.lsub X.here hx rfl hd rfl q) k
theorem Good.lrem (X : Stand p l e R s m args below meth c T locs cells slots) (hx : p.tables.exec = Jvm.exec) {pc pc' : Nat} {Ls : Array Slot} {x y : Int64} {st : List Value} (hp : pc + 1 = pc') (hd : decode c.code pc = .ok (.lrem, 1)) (hy : y ≠ 0) (k : Good p.tables e below s G (T.setTop (mkF m pc' Ls (.long (x - (x / y) * y) :: st)))) : Good p.tables e below s G (T.setTop (mkF m pc Ls (.long y :: .long x :: st))) := by
  subst hp
  exact Good.go (fun _ q => XT.lrem X.here hx rfl hd rfl hy q) k
theorem Good.i2l (X : Stand p l e R s m args below meth c T locs cells slots) (hx : p.tables.exec = Jvm.exec) {pc pc' : Nat} {Ls : Array Slot} {x : Int32} {st : List Value} (hp : pc + 1 = pc') (hd : decode c.code pc = .ok (.i2l, 1))  (k : Good p.tables e below s G (T.setTop (mkF m pc' Ls (.long x.toInt64 :: st)))) : Good p.tables e below s G (T.setTop (mkF m pc Ls (.int x :: st))) := by
  subst hp
  exact Good.go (fun _ q => XT.i2l X.here hx rfl hd rfl q) k
theorem Good.i2b (X : Stand p l e R s m args below meth c T locs cells slots) (hx : p.tables.exec = Jvm.exec) {pc pc' : Nat} {Ls : Array Slot} {x : Int32} {st : List Value} (hp : pc + 1 = pc') (hd : decode c.code pc = .ok (.i2b, 1))  (k : Good p.tables e below s G (T.setTop (mkF m pc' Ls (.int x.toInt8.toInt32 :: st)))) : Good p.tables e below s G (T.setTop (mkF m pc Ls (.int x :: st))) := by
  subst hp
  exact Good.go (fun _ q => XT.i2b X.here hx rfl hd rfl q) k
theorem Good.i2c (X : Stand p l e R s m args below meth c T locs cells slots) (hx : p.tables.exec = Jvm.exec) {pc pc' : Nat} {Ls : Array Slot} {x : Int32} {st : List Value} (hp : pc + 1 = pc') (hd : decode c.code pc = .ok (.i2c, 1))  (k : Good p.tables e below s G (T.setTop (mkF m pc' Ls (.int x.toUInt32.toUInt16.toUInt32.toInt32 :: st)))) : Good p.tables e below s G (T.setTop (mkF m pc Ls (.int x :: st))) := by
  subst hp
  exact Good.go (fun _ q => XT.i2c X.here hx rfl hd rfl q) k
theorem Good.l2i (X : Stand p l e R s m args below meth c T locs cells slots) (hx : p.tables.exec = Jvm.exec) {pc pc' : Nat} {Ls : Array Slot} {x : Int64} {st : List Value} (hp : pc + 1 = pc') (hd : decode c.code pc = .ok (.l2i, 1))  (k : Good p.tables e below s G (T.setTop (mkF m pc' Ls (.int x.toInt32 :: st)))) : Good p.tables e below s G (T.setTop (mkF m pc Ls (.long x :: st))) := by
  subst hp
  exact Good.go (fun _ q => XT.l2i X.here hx rfl hd rfl q) k
theorem Good.lshr (X : Stand p l e R s m args below meth c T locs cells slots) (hx : p.tables.exec = Jvm.exec) {pc pc' : Nat} {Ls : Array Slot} {x : Int64} {y : Int32} {st : List Value} (hp : pc + 1 = pc') (hd : decode c.code pc = .ok (.lshr, 1))  (k : Good p.tables e below s G (T.setTop (mkF m pc' Ls (.long (x >>> (y.toInt64 &&& 63)) :: st)))) : Good p.tables e below s G (T.setTop (mkF m pc Ls (.int y :: .long x :: st))) := by
  subst hp
  exact Good.go (fun _ q => XT.lshr X.here hx rfl hd rfl q) k
theorem Good.i2d (X : Stand p l e R s m args below meth c T locs cells slots) (hx : p.tables.exec = Jvm.exec) {pc pc' : Nat} {Ls : Array Slot} {x : Int32} {st : List Value} (hp : pc + 1 = pc') (hd : decode c.code pc = .ok (.i2d, 1))  (k : Good p.tables e below s G (T.setTop (mkF m pc' Ls (.double (FP.i2d x) :: st)))) : Good p.tables e below s G (T.setTop (mkF m pc Ls (.int x :: st))) := by
  subst hp
  refine Good.go (fun _ q => ?_) k
  show Steps p.tables e below (T.setTop { method := m, pc := pc, locals := Ls, stack := (.int x :: st), locked := none }) _
  jvm_step X.here [X.here.top, hx, hd]
  exact q
theorem Good.l2d (X : Stand p l e R s m args below meth c T locs cells slots) (hx : p.tables.exec = Jvm.exec) {pc pc' : Nat} {Ls : Array Slot} {x : Int64} {st : List Value} (hp : pc + 1 = pc') (hd : decode c.code pc = .ok (.l2d, 1))  (k : Good p.tables e below s G (T.setTop (mkF m pc' Ls (.double (FP.l2d x) :: st)))) : Good p.tables e below s G (T.setTop (mkF m pc Ls (.long x :: st))) := by
  subst hp
  refine Good.go (fun _ q => ?_) k
  show Steps p.tables e below (T.setTop { method := m, pc := pc, locals := Ls, stack := (.long x :: st), locked := none }) _
  jvm_step X.here [X.here.top, hx, hd]
  exact q
theorem Good.d2l (X : Stand p l e R s m args below meth c T locs cells slots) (hx : p.tables.exec = Jvm.exec) {pc pc' : Nat} {Ls : Array Slot} {x : UInt64} {st : List Value} (hp : pc + 1 = pc') (hd : decode c.code pc = .ok (.d2l, 1))  (k : Good p.tables e below s G (T.setTop (mkF m pc' Ls (.long (FP.d2l x) :: st)))) : Good p.tables e below s G (T.setTop (mkF m pc Ls (.double x :: st))) := by
  subst hp
  refine Good.go (fun _ q => ?_) k
  show Steps p.tables e below (T.setTop { method := m, pc := pc, locals := Ls, stack := (.double x :: st), locked := none }) _
  jvm_step X.here [X.here.top, hx, hd]
  exact q
theorem Good.dadd (X : Stand p l e R s m args below meth c T locs cells slots) (hx : p.tables.exec = Jvm.exec) {pc pc' : Nat} {Ls : Array Slot} {x y : UInt64} {st : List Value} (hp : pc + 1 = pc') (hd : decode c.code pc = .ok (.dadd, 1)) (hn : NoNaN64 (FP.dadd x y)) (k : Good p.tables e below s G (T.setTop (mkF m pc' Ls (.double (FP.dadd x y) :: st)))) : Good p.tables e below s G (T.setTop (mkF m pc Ls (.double y :: .double x :: st))) := by
  subst hp
  refine Good.go (fun _ q => ?_) k
  show Steps p.tables e below (T.setTop { method := m, pc := pc, locals := Ls, stack := (.double y :: .double x :: st), locked := none }) _
  jvm_step X.here [X.here.top, hx, hd, Op.dadd.at_number X.here.top hn]
  exact q
theorem Good.dsub (X : Stand p l e R s m args below meth c T locs cells slots) (hx : p.tables.exec = Jvm.exec) {pc pc' : Nat} {Ls : Array Slot} {x y : UInt64} {st : List Value} (hp : pc + 1 = pc') (hd : decode c.code pc = .ok (.dsub, 1)) (hn : NoNaN64 (FP.dsub x y)) (k : Good p.tables e below s G (T.setTop (mkF m pc' Ls (.double (FP.dsub x y) :: st)))) : Good p.tables e below s G (T.setTop (mkF m pc Ls (.double y :: .double x :: st))) := by
  subst hp
  refine Good.go (fun _ q => ?_) k
  show Steps p.tables e below (T.setTop { method := m, pc := pc, locals := Ls, stack := (.double y :: .double x :: st), locked := none }) _
  jvm_step X.here [X.here.top, hx, hd, Op.dsub.at_number X.here.top hn]
  exact q
theorem Good.dmul (X : Stand p l e R s m args below meth c T locs cells slots) (hx : p.tables.exec = Jvm.exec) {pc pc' : Nat} {Ls : Array Slot} {x y : UInt64} {st : List Value} (hp : pc + 1 = pc') (hd : decode c.code pc = .ok (.dmul, 1)) (hn : NoNaN64 (FP.dmul x y)) (k : Good p.tables e below s G (T.setTop (mkF m pc' Ls (.double (FP.dmul x y) :: st)))) : Good p.tables e below s G (T.setTop (mkF m pc Ls (.double y :: .double x :: st))) := by
  subst hp
  refine Good.go (fun _ q => ?_) k
  show Steps p.tables e below (T.setTop { method := m, pc := pc, locals := Ls, stack := (.double y :: .double x :: st), locked := none }) _
  jvm_step X.here [X.here.top, hx, hd, Op.dmul.at_number X.here.top hn]
  exact q
theorem Good.ddiv (X : Stand p l e R s m args below meth c T locs cells slots) (hx : p.tables.exec = Jvm.exec) {pc pc' : Nat} {Ls : Array Slot} {x y : UInt64} {st : List Value} (hp : pc + 1 = pc') (hd : decode c.code pc = .ok (.ddiv, 1)) (hn : NoNaN64 (FP.ddiv x y)) (k : Good p.tables e below s G (T.setTop (mkF m pc' Ls (.double (FP.ddiv x y) :: st)))) : Good p.tables e below s G (T.setTop (mkF m pc Ls (.double y :: .double x :: st))) := by
  subst hp
  refine Good.go (fun _ q => ?_) k
  show Steps p.tables e below (T.setTop { method := m, pc := pc, locals := Ls, stack := (.double y :: .double x :: st), locked := none }) _
  jvm_step X.here [X.here.top, hx, hd, Op.ddiv.at_number X.here.top hn]
  exact q
theorem Good.dcmp (X : Stand p l e R s m args below meth c T locs cells slots) (hx : p.tables.exec = Jvm.exec) {pc pc' : Nat} {Ls : Array Slot} {x y : UInt64} {op : CmpOp} {st : List Value} (hp : pc + 1 = pc') (hd : decode c.code pc = .ok (.dcmp op, 1))  (k : Good p.tables e below s G (T.setTop (mkF m pc' Ls (.int (cmpValue (FP.dcmp x y) op) :: st)))) : Good p.tables e below s G (T.setTop (mkF m pc Ls (.double y :: .double x :: st))) := by
  subst hp
  refine Good.go (fun _ q => ?_) k
  show Steps p.tables e below (T.setTop { method := m, pc := pc, locals := Ls, stack := (.double y :: .double x :: st), locked := none }) _
  jvm_step X.here [X.here.top, hx, hd]
  exact q
theorem Good.dup (X : Stand p l e R s m args below meth c T locs cells slots) (hx : p.tables.exec = Jvm.exec) {pc pc' : Nat} {Ls : Array Slot} {x : Value} {st : List Value} (hp : pc + 1 = pc') (hd : decode c.code pc = .ok (.dup, 1)) (hc : x.category = 1) (k : Good p.tables e below s G (T.setTop (mkF m pc' Ls (x :: x :: st)))) : Good p.tables e below s G (T.setTop (mkF m pc Ls (x :: st))) := by
  subst hp
  exact Good.go (fun _ q => XS.dup X.here hx rfl hd rfl hc q) k
theorem Good.istoreN (X : Stand p l e R s m args below meth c T locs cells slots) (hx : p.tables.exec = Jvm.exec) {pc pc' : Nat} {Ls : Array Slot} {k : Fin 4} {x : Int32} {Ls' : Array Slot} {st : List Value} (hp : pc + 1 = pc') (hd : decode c.code pc = .ok (.istore_n k, 1)) (hl : storeLocals Ls k.val (.int x) = some Ls') (k : Good p.tables e below s G (T.setTop (mkF m pc' Ls' st))) : Good p.tables e below s G (T.setTop (mkF m pc Ls (.int x :: st))) := by
  subst hp
  exact Good.go (fun _ q => XS.istoreN X.here hx rfl hd rfl hl q) k
theorem Good.istore (X : Stand p l e R s m args below meth c T locs cells slots) (hx : p.tables.exec = Jvm.exec) {pc pc' : Nat} {Ls : Array Slot} {k : Nat} {x : Int32} {Ls' : Array Slot} {st : List Value} (hp : pc + 2 = pc') (hd : decode c.code pc = .ok (.istore k, 2)) (hl : storeLocals Ls k (.int x) = some Ls') (k : Good p.tables e below s G (T.setTop (mkF m pc' Ls' st))) : Good p.tables e below s G (T.setTop (mkF m pc Ls (.int x :: st))) := by
  subst hp
  exact Good.go (fun _ q => XS.istore X.here hx rfl hd rfl hl q) k
theorem Good.astoreN (X : Stand p l e R s m args below meth c T locs cells slots) (hx : p.tables.exec = Jvm.exec) {pc pc' : Nat} {Ls : Array Slot} {k : Fin 4} {x : Value} {Ls' : Array Slot} {st : List Value} (hp : pc + 1 = pc') (hd : decode c.code pc = .ok (.astore_n k, 1)) (hv : x.isRef = true) (hl : storeLocals Ls k.val x = some Ls') (k : Good p.tables e below s G (T.setTop (mkF m pc' Ls' st))) : Good p.tables e below s G (T.setTop (mkF m pc Ls (x :: st))) := by
  subst hp
  exact Good.go (fun _ q => XS.astoreN X.here hx rfl hd rfl hv hl q) k
theorem Good.astore (X : Stand p l e R s m args below meth c T locs cells slots) (hx : p.tables.exec = Jvm.exec) {pc pc' : Nat} {Ls : Array Slot} {k : Nat} {x : Value} {Ls' : Array Slot} {st : List Value} (hp : pc + 2 = pc') (hd : decode c.code pc = .ok (.astore k, 2)) (hv : x.isRef = true) (hl : storeLocals Ls k x = some Ls') (k : Good p.tables e below s G (T.setTop (mkF m pc' Ls' st))) : Good p.tables e below s G (T.setTop (mkF m pc Ls (x :: st))) := by
  subst hp
  exact Good.go (fun _ q => XS.astore X.here hx rfl hd rfl hv hl q) k
theorem Good.lstoreN (X : Stand p l e R s m args below meth c T locs cells slots) (hx : p.tables.exec = Jvm.exec) {pc pc' : Nat} {Ls : Array Slot} {k : Fin 4} {x : Int64} {Ls' : Array Slot} {st : List Value} (hp : pc + 1 = pc') (hd : decode c.code pc = .ok (.lstore_n k, 1)) (hl : storeLocals Ls k.val (.long x) = some Ls') (k : Good p.tables e below s G (T.setTop (mkF m pc' Ls' st))) : Good p.tables e below s G (T.setTop (mkF m pc Ls (.long x :: st))) := by
  subst hp
  exact Good.go (fun _ q => XT.lstoreN X.here hx rfl hd rfl hl q) k
theorem Good.lstore (X : Stand p l e R s m args below meth c T locs cells slots) (hx : p.tables.exec = Jvm.exec) {pc pc' : Nat} {Ls : Array Slot} {k : Nat} {x : Int64} {Ls' : Array Slot} {st : List Value} (hp : pc + 2 = pc') (hd : decode c.code pc = .ok (.lstore k, 2)) (hl : storeLocals Ls k (.long x) = some Ls') (k : Good p.tables e below s G (T.setTop (mkF m pc' Ls' st))) : Good p.tables e below s G (T.setTop (mkF m pc Ls (.long x :: st))) := by
  subst hp
  exact Good.go (fun _ q => XT.lstore X.here hx rfl hd rfl hl q) k
theorem Good.dstoreN (X : Stand p l e R s m args below meth c T locs cells slots) (hx : p.tables.exec = Jvm.exec) {pc pc' : Nat} {Ls : Array Slot} {k : Fin 4} {x : UInt64} {Ls' : Array Slot} {st : List Value} (hp : pc + 1 = pc') (hd : decode c.code pc = .ok (.dstore_n k, 1)) (hl : storeLocals Ls k.val (.double x) = some Ls') (k : Good p.tables e below s G (T.setTop (mkF m pc' Ls' st))) : Good p.tables e below s G (T.setTop (mkF m pc Ls (.double x :: st))) := by
  subst hp
  refine Good.go (fun _ q => ?_) k
  show Steps p.tables e below (T.setTop { method := m, pc := pc, locals := Ls, stack := (.double x :: st), locked := none }) _
  jvm_step X.here [X.here.top, hx, hd, hl]
  exact q
theorem Good.dstore (X : Stand p l e R s m args below meth c T locs cells slots) (hx : p.tables.exec = Jvm.exec) {pc pc' : Nat} {Ls : Array Slot} {k : Nat} {x : UInt64} {Ls' : Array Slot} {st : List Value} (hp : pc + 2 = pc') (hd : decode c.code pc = .ok (.dstore k, 2)) (hl : storeLocals Ls k (.double x) = some Ls') (k : Good p.tables e below s G (T.setTop (mkF m pc' Ls' st))) : Good p.tables e below s G (T.setTop (mkF m pc Ls (.double x :: st))) := by
  subst hp
  refine Good.go (fun _ q => ?_) k
  show Steps p.tables e below (T.setTop { method := m, pc := pc, locals := Ls, stack := (.double x :: st), locked := none }) _
  jvm_step X.here [X.here.top, hx, hd, hl]
  exact q
theorem Good.iinc (X : Stand p l e R s m args below meth c T locs cells slots) (hx : p.tables.exec = Jvm.exec) {pc pc' : Nat} {Ls : Array Slot} {k : Nat} {cst : Int} {x : Int32} {w : Int32} {Ls' : Array Slot} {st : List Value} (hp : pc + 3 = pc') (hd : decode c.code pc = .ok (.iinc k cst, 3)) (hl : Ls[k]? = some (.val (.int x))) (hv : Int32.ofInt cst = w) (hl' : storeLocals Ls k (.int (x + w)) = some Ls') (k : Good p.tables e below s G (T.setTop (mkF m pc' Ls' st))) : Good p.tables e below s G (T.setTop (mkF m pc Ls st)) := by
  subst hp; subst hv
  exact Good.go (fun _ q => XS.iinc X.here hx rfl hd hl hl' q) k
theorem Good.goto (X : Stand p l e R s m args below meth c T locs cells slots) (hx : p.tables.exec = Jvm.exec) {pc pc' : Nat} {Ls : Array Slot} {st : List Value} {o : Int} (hp : (pc : Int) + o = (pc' : Int)) (hd : decode c.code pc = .ok (.goto o, 3))  (k : Good p.tables e below s G (T.setTop (mkF m pc' Ls st))) : Good p.tables e below s G (T.setTop (mkF m pc Ls st)) :=
  Good.go (fun _ q => XS.goto X.here hx rfl (pc0 := pc) (pc' := pc') rfl hd (by omega) (by omega) q) k
theorem Good.ifYes (X : Stand p l e R s m args below meth c T locs cells slots) (hx : p.tables.exec = Jvm.exec) {pc pc' : Nat} {Ls : Array Slot} {cd : ClassFile.Cond} {x : Int32} {st : List Value} {o : Int} (hp : (pc : Int) + o = (pc' : Int)) (hd : decode c.code pc = .ok (.ifCond cd o, 3)) (hc : ifCond.holds cd x = true) (k : Good p.tables e below s G (T.setTop (mkF m pc' Ls st))) : Good p.tables e below s G (T.setTop (mkF m pc Ls (.int x :: st))) :=
  Good.go (fun _ q => XS.ifYes X.here hx rfl (pc0 := pc) (pc' := pc') rfl hd rfl hc (by omega) (by omega) q) k
theorem Good.ifNo (X : Stand p l e R s m args below meth c T locs cells slots) (hx : p.tables.exec = Jvm.exec) {pc pc' : Nat} {Ls : Array Slot} {cd : ClassFile.Cond} {o : Int} {x : Int32} {st : List Value} (hp : pc + 3 = pc') (hd : decode c.code pc = .ok (.ifCond cd o, 3)) (hc : ifCond.holds cd x = false) (k : Good p.tables e below s G (T.setTop (mkF m pc' Ls st))) : Good p.tables e below s G (T.setTop (mkF m pc Ls (.int x :: st))) := by
  subst hp
  exact Good.go (fun _ q => XS.ifNo X.here hx rfl hd rfl hc q) k
theorem Good.icmpYes (X : Stand p l e R s m args below meth c T locs cells slots) (hx : p.tables.exec = Jvm.exec) {pc pc' : Nat} {Ls : Array Slot} {cd : ClassFile.Cond} {x y : Int32} {st : List Value} {o : Int} (hp : (pc : Int) + o = (pc' : Int)) (hd : decode c.code pc = .ok (.if_icmp cd o, 3)) (hc : if_icmp.holds cd x y = true) (k : Good p.tables e below s G (T.setTop (mkF m pc' Ls st))) : Good p.tables e below s G (T.setTop (mkF m pc Ls (.int y :: .int x :: st))) :=
  Good.go (fun _ q => XS.icmpYes X.here hx rfl (pc0 := pc) (pc' := pc') rfl hd rfl hc (by omega) (by omega) q) k
theorem Good.icmpNo (X : Stand p l e R s m args below meth c T locs cells slots) (hx : p.tables.exec = Jvm.exec) {pc pc' : Nat} {Ls : Array Slot} {cd : ClassFile.Cond} {o : Int} {x y : Int32} {st : List Value} (hp : pc + 3 = pc') (hd : decode c.code pc = .ok (.if_icmp cd o, 3)) (hc : if_icmp.holds cd x y = false) (k : Good p.tables e below s G (T.setTop (mkF m pc' Ls st))) : Good p.tables e below s G (T.setTop (mkF m pc Ls (.int y :: .int x :: st))) := by
  subst hp
  exact Good.go (fun _ q => XS.icmpNo X.here hx rfl hd rfl hc q) k
theorem Good.ifnullYes (X : Stand p l e R s m args below meth c T locs cells slots) (hx : p.tables.exec = Jvm.exec) {pc pc' : Nat} {Ls : Array Slot} {st : List Value} {o : Int} (hp : (pc : Int) + o = (pc' : Int)) (hd : decode c.code pc = .ok (.ifnull o, 3))  (k : Good p.tables e below s G (T.setTop (mkF m pc' Ls st))) : Good p.tables e below s G (T.setTop (mkF m pc Ls (.null :: st))) :=
  Good.go (fun _ q => XS.ifnullYes X.here hx rfl (pc0 := pc) (pc' := pc') rfl hd rfl (by omega) (by omega) q) k
theorem Good.ifnullNo (X : Stand p l e R s m args below meth c T locs cells slots) (hx : p.tables.exec = Jvm.exec) {pc pc' : Nat} {Ls : Array Slot} {o : Int} {b : Addr} {st : List Value} (hp : pc + 3 = pc') (hd : decode c.code pc = .ok (.ifnull o, 3))  (k : Good p.tables e below s G (T.setTop (mkF m pc' Ls st))) : Good p.tables e below s G (T.setTop (mkF m pc Ls (.ref b :: st))) := by
  subst hp
  exact Good.go (fun _ q => XS.ifnullNo X.here hx rfl hd rfl q) k
theorem Good.acmpYes (X : Stand p l e R s m args below meth c T locs cells slots) (hx : p.tables.exec = Jvm.exec) {pc pc' : Nat} {Ls : Array Slot} {cd : ClassFile.ACond} {x y : Value} {st : List Value} {o : Int} (hp : (pc : Int) + o = (pc' : Int)) (hd : decode c.code pc = .ok (.if_acmp cd o, 3)) (h1 : x.isRef = true) (h2 : y.isRef = true) (hc : XT.acmp cd x y = true) (k : Good p.tables e below s G (T.setTop (mkF m pc' Ls st))) : Good p.tables e below s G (T.setTop (mkF m pc Ls (y :: x :: st))) :=
  Good.go (fun _ q => XT.acmpYes X.here hx rfl (pc0 := pc) (pc' := pc') rfl hd rfl h1 h2 hc (by omega) (by omega) q) k
theorem Good.acmpNo (X : Stand p l e R s m args below meth c T locs cells slots) (hx : p.tables.exec = Jvm.exec) {pc pc' : Nat} {Ls : Array Slot} {cd : ClassFile.ACond} {o : Int} {x y : Value} {st : List Value} (hp : pc + 3 = pc') (hd : decode c.code pc = .ok (.if_acmp cd o, 3)) (h1 : x.isRef = true) (h2 : y.isRef = true) (hc : XT.acmp cd x y = false) (k : Good p.tables e below s G (T.setTop (mkF m pc' Ls st))) : Good p.tables e below s G (T.setTop (mkF m pc Ls (y :: x :: st))) := by
  subst hp
  exact Good.go (fun _ q => XT.acmpNo X.here hx rfl hd rfl h1 h2 hc q) k
theorem Good.ifFork (X : Stand p l e R s m args below meth c T locs cells slots) (hx : p.tables.exec = Jvm.exec) {pc pc1 pc2 : Nat} {Ls : Array Slot} {cd : ClassFile.Cond} {o : Int} {x : Int32} {st : List Value} (hd : decode c.code pc = .ok (.ifCond cd o, 3)) (hp1 : (pc : Int) + o = (pc1 : Int)) (hp2 : pc + 3 = pc2) (k1 : ifCond.holds cd x = true → Good p.tables e below s G (T.setTop (mkF m pc1 Ls st))) (k2 : ifCond.holds cd x = false → Good p.tables e below s G (T.setTop (mkF m pc2 Ls st))) : Good p.tables e below s G (T.setTop (mkF m pc Ls (.int x :: st))) := by
  cases hc : ifCond.holds cd x
  · exact Good.ifNo X hx hp2 hd hc (k2 hc)
  · exact Good.ifYes X hx hp1 hd hc (k1 hc)
theorem Good.icmpFork (X : Stand p l e R s m args below meth c T locs cells slots) (hx : p.tables.exec = Jvm.exec) {pc pc1 pc2 : Nat} {Ls : Array Slot} {cd : ClassFile.Cond} {o : Int} {x y : Int32} {st : List Value} (hd : decode c.code pc = .ok (.if_icmp cd o, 3)) (hp1 : (pc : Int) + o = (pc1 : Int)) (hp2 : pc + 3 = pc2) (k1 : if_icmp.holds cd x y = true → Good p.tables e below s G (T.setTop (mkF m pc1 Ls st))) (k2 : if_icmp.holds cd x y = false → Good p.tables e below s G (T.setTop (mkF m pc2 Ls st))) : Good p.tables e below s G (T.setTop (mkF m pc Ls (.int y :: .int x :: st))) := by
  cases hc : if_icmp.holds cd x y
  · exact Good.icmpNo X hx hp2 hd hc (k2 hc)
  · exact Good.icmpYes X hx hp1 hd hc (k1 hc)
variable {Z : State} {a0 : Array Value} {h : Heap}
theorem Good.ldcI (X : Stand p l e R s m args below meth c T locs cells slots) (hx : p.tables.exec = Jvm.exec) (hZ : Z.Warmed39 s.vm) {own : String} {index : Nat} {v : Int32} (hown : s.vm.findClass own = some m.cls) (w : (Cond.constant own index v).before a0 Z = true) {pc pc' : Nat} {Ls : Array Slot} {st : List Value} (hp : pc + 2 = pc') (hd : decode c.code pc = .ok (.ldc index, 2)) (k : Good p.tables e below s G (T.setTop (mkF m pc' Ls (.int v :: st)))) : Good p.tables e below s G (T.setTop (mkF m pc Ls st)) := by
  subst hp
  exact Good.go (fun _ q => X.ldcInt hx hown (mvT hZ w) (g := mkF m pc Ls st) rfl hd _ q) k
theorem Good.ldc2J (X : Stand p l e R s m args below meth c T locs cells slots) (hx : p.tables.exec = Jvm.exec) (hZ : Z.Warmed39 s.vm) {own : String} {index : Nat} {v : Int64} (hown : s.vm.findClass own = some m.cls) (w : (Cond.constantLong own index v).before a0 Z = true) {pc pc' : Nat} {Ls : Array Slot} {st : List Value} (hp : pc + 3 = pc') (hd : decode c.code pc = .ok (.ldc2_w index, 3)) (k : Good p.tables e below s G (T.setTop (mkF m pc' Ls (.long v :: st)))) : Good p.tables e below s G (T.setTop (mkF m pc Ls st)) := by
  subst hp
  exact Good.go (fun _ q => X.ldc2Long hx hown (mvT hZ w) (g := mkF m pc Ls st) rfl hd _ q) k
theorem Good.ldc2D (X : Stand p l e R s m args below meth c T locs cells slots) (hx : p.tables.exec = Jvm.exec) (hZ : Z.Warmed39 s.vm) {own : String} {index : Nat} {v : UInt64} (hown : s.vm.findClass own = some m.cls) (w : (Cond.constantDouble own index v).before a0 Z = true) {pc pc' : Nat} {Ls : Array Slot} {st : List Value} (hp : pc + 3 = pc') (hd : decode c.code pc = .ok (.ldc2_w index, 3)) (k : Good p.tables e below s G (T.setTop (mkF m pc' Ls (.double v :: st)))) : Good p.tables e below s G (T.setTop (mkF m pc Ls st)) := by
  subst hp
  exact Good.go (fun _ q => X.ldc2DoubleC hx hown (mvT hZ w) (g := mkF m pc Ls st) rfl hd _ q) k
theorem Good.daload (X : Stand p l e R s m args below meth c T locs cells slots) (hx : p.tables.exec = Jvm.exec) (hZ : Z.Warmed39 s.vm) (eT : T.heap = h) {a : Addr} {cl : Cell} {j : Int32} {v : UInt64} (A : Arr Z h a cl .double) (hin : ¬ (j < 0 ∨ cl.slots.size ≤ j.toNatClampNeg)) (hv : cl.slots[j.toNatClampNeg]? = some (.double v)) {pc pc' : Nat} {Ls : Array Slot} {st : List Value} (hp : pc + 1 = pc') (hd : decode c.code pc = .ok (.daload, 1)) (k : Good p.tables e below s G (T.setTop (mkF m pc' Ls (.double v :: st)))) : Good p.tables e below s G (T.setTop (mkF m pc Ls (.int j :: .ref a :: st))) := by
  subst hp
  exact Good.go (fun _ q => X.daload hx (by rw [eT]; exact A.1) (State.isArrayOf_alike hZ.alike A.2.1) A.2.2 hin hv (g := mkF m pc Ls (.int j :: .ref a :: st)) rfl rfl hd _ q) k
theorem stD (X : Stand p l e R s m args below meth c T locs cells slots) (hx : p.tables.exec = Jvm.exec) (hZ : Z.Warmed39 s.vm) (eT : T.heap = h) {a : Addr} {cl : Cell} (A : Arr Z h a cl .double) {j : Int32} {x : UInt64} (hj : ¬ (j < 0 ∨ cl.slots.size ≤ j.toNatClampNeg)) {g : JFrame} (hg : g.method = m) {rest : List Value} (hs : g.stack = .double x :: .int j :: .ref a :: rest) (hd : decode c.code g.pc = .ok (.dastore, 1)) :
    ∃ T' h', Stand p l e R s m args below meth c T' (locs ++ [⟨a, j.toNatClampNeg⟩]) cells slots ∧ T'.heap = h' ∧ Wr h h' a j.toNatClampNeg (.double x) ∧ ∀ target, Steps p.tables e below (T'.setTop { g with pc := g.pc + 1, stack := rest }) target → Steps p.tables e below (T.setTop g) target := by
  obtain ⟨X', st⟩ := X.dastore hx (by rw [eT]; exact A.1) (State.isArrayOf_alike hZ.alike A.2.1) A.2.2 hj hg hs hd
  exact ⟨_, _, X', rfl, ⟨cl, A.1, A.plain, Nat.lt_of_not_le fun q => hj (Or.inr q), by rw [← eT]; rfl⟩, st⟩
theorem Good.dastore (X : Stand p l e R s m args below meth c T locs cells slots) (hx : p.tables.exec = Jvm.exec) (hZ : Z.Warmed39 s.vm) (eT : T.heap = h) {a : Addr} {cl : Cell} {j : Int32} {x : UInt64} (A : Arr Z h a cl .double) (hin : ¬ (j < 0 ∨ cl.slots.size ≤ j.toNatClampNeg)) {pc pc' : Nat} {Ls : Array Slot} {st : List Value} (hp : pc + 1 = pc') (hd : decode c.code pc = .ok (.dastore, 1))
    (k : ∀ T' h', Stand p l e R s m args below meth c T' (locs ++ [⟨a, j.toNatClampNeg⟩]) cells slots → T'.heap = h' → Wr h h' a j.toNatClampNeg (.double x) → Good p.tables e below s G (T'.setTop (mkF m pc' Ls st))) : Good p.tables e below s G (T.setTop (mkF m pc Ls (.double x :: .int j :: .ref a :: st))) := by
  subst hp
  obtain ⟨T', h', X', e', W', st'⟩ := stD X hx hZ eT A hin (g := mkF m pc Ls (.double x :: .int j :: .ref a :: st)) rfl rfl hd
  exact Good.go st' (k T' h' X' e' W')
theorem Good.iastore (X : Stand p l e R s m args below meth c T locs cells slots) (hx : p.tables.exec = Jvm.exec) (hZ : Z.Warmed39 s.vm) (eT : T.heap = h) {a : Addr} {cl : Cell} {j : Int32} {x : Int32} (A : Arr Z h a cl .int) (hin : ¬ (j < 0 ∨ cl.slots.size ≤ j.toNatClampNeg)) {pc pc' : Nat} {Ls : Array Slot} {st : List Value} (hp : pc + 1 = pc') (hd : decode c.code pc = .ok (.iastore, 1))
    (k : ∀ T' h', Stand p l e R s m args below meth c T' (locs ++ [⟨a, j.toNatClampNeg⟩]) cells slots → T'.heap = h' → Wr h h' a j.toNatClampNeg (.int x) → Good p.tables e below s G (T'.setTop (mkF m pc' Ls st))) : Good p.tables e below s G (T.setTop (mkF m pc Ls (.int x :: .int j :: .ref a :: st))) := by
  subst hp
  obtain ⟨T', h', X', e', W', st'⟩ := stI X hx hZ eT A hin (g := mkF m pc Ls (.int x :: .int j :: .ref a :: st)) rfl rfl hd
  exact Good.go st' (k T' h' X' e' W')
theorem Good.arraylength (X : Stand p l e R s m args below meth c T locs cells slots) (hx : p.tables.exec = Jvm.exec) (hZ : Z.Warmed39 s.vm) (eT : T.heap = h) {a : Addr} {cl : Cell} {ty : FieldType} (A : Arr Z h a cl ty) {n : Int32} (hn : cl.slots.size = n.toNatClampNeg) (hn0 : ¬ n < 0) {pc pc' : Nat} {Ls : Array Slot} {st : List Value} (hp : pc + 1 = pc') (hd : decode c.code pc = .ok (.arraylength, 1)) (k : Good p.tables e below s G (T.setTop (mkF m pc' Ls (.int n :: st)))) : Good p.tables e below s G (T.setTop (mkF m pc Ls (.ref a :: st))) := by
  subst hp
  refine Good.go (fun t q => X.arraylength hx (by rw [eT]; exact A.1) (State.isArrayOf_alike hZ.alike A.2.1) (g := mkF m pc Ls (.ref a :: st)) rfl rfl hd t ?_) k
  rw [len_of hn hn0]; exact q
theorem Good.getfield (X : Stand p l e R s m args below meth c T locs cells slots) (hx : p.tables.exec = Jvm.exec) (hZ : Z.Warmed39 s.vm) {own R0 O n d : String} {index : Nat} (hown : s.vm.findClass own = some m.cls) (w : (Cond.fieldLink own index R0 n d).before a0 Z = true) (via : Via Z R0 O n d) (eT : T.heap = h) {a : Addr} {v : Value} (F : Fld Z h a O n d v) {pc pc' : Nat} {Ls : Array Slot} {st : List Value} (hp : pc + 3 = pc') (hd : decode c.code pc = .ok (.getfield index, 3))
    (k : ∀ T', Stand p l e R s m args below meth c T' locs cells slots → T'.heap = h → Good p.tables e below s G (T'.setTop (mkF m pc' Ls (v :: st)))) : Good p.tables e below s G (T.setTop (mkF m pc Ls (.ref a :: st))) := by
  subst hp
  obtain ⟨T', X', e', st'⟩ := getF X hx hZ hown (host := "") (Or.inl w) via eT F (g := mkF m pc Ls (.ref a :: st)) rfl rfl hd
  exact Good.go st' (k T' X' e')
theorem Good.getstatic (X : Stand p l e R s m args below meth c T locs cells slots) (hx : p.tables.exec = Jvm.exec) (hZ : Z.Warmed39 s.vm) {own R0 O n d : String} {index : Nat} (hown : s.vm.findClass own = some m.cls) (w : (Cond.fieldLink own index R0 n d).before a0 Z = true) (via : Via Z R0 O n d) (eT : T.heap = h) {v : Value} (F : Sta Z h O n d v) {pc pc' : Nat} {Ls : Array Slot} {st : List Value} (hp : pc + 3 = pc') (hd : decode c.code pc = .ok (.getstatic index, 3))
    (k : ∀ T', Stand p l e R s m args below meth c T' locs cells slots → T'.heap = h → Good p.tables e below s G (T'.setTop (mkF m pc' Ls (v :: st)))) : Good p.tables e below s G (T.setTop (mkF m pc Ls st)) := by
  subst hp
  obtain ⟨T', X', e', st'⟩ := getS2 X hx hZ hown (host := "") (Or.inl w) via eT F (g := mkF m pc Ls st) rfl hd
  exact Good.go st' (k T' X' e')
theorem Good.putfield (X : Stand p l e R s m args below meth c T locs cells slots) (hx : p.tables.exec = Jvm.exec) (hZ : Z.Warmed39 s.vm) {own R0 O n d C : String} {index kk : Nat} {ty : FieldType} (hown : s.vm.findClass own = some m.cls) (w : (Cond.fieldLink own index R0 n d).before a0 Z = true) (via : Via Z R0 O n d) (eT : T.heap = h) {a : Addr} {v old : Value} (F : Fld Z h a O n d old) (E : Exa Z h a C) (L : (Cond.lays C O n d).before a0 Z = true ∨ ((Cond.laysFinal C O n d).before a0 Z = true ∧ own = O ∧ meth.name = "<init>")) (wi : (Cond.instantiable C kk).before a0 Z = true) (hty : parseFieldDescriptor d = some ty) (hn : narrow ty v = v) (hf : fits ty v = true) {pc pc' : Nat} {Ls : Array Slot} {st : List Value} (hp : pc + 3 = pc') (hd : decode c.code pc = .ok (.putfield index, 3))
    (k : ∀ T' h', Stand p l e R s m args below meth c T' (locs ++ [⟨a, RoadKit.slotOf Z O n d⟩]) cells slots → T'.heap = h' → Wr h h' a (RoadKit.slotOf Z O n d) v → Good p.tables e below s G (T'.setTop (mkF m pc' Ls st))) : Good p.tables e below s G (T.setTop (mkF m pc Ls (v :: .ref a :: st))) := by
  subst hp
  obtain ⟨T', h', X', e', W', st'⟩ := putF X hx hZ hown (host := "") (Or.inl w) via eT F E L wi hty hn hf (g := mkF m pc Ls (v :: .ref a :: st)) rfl rfl hd
  exact Good.go st' (k T' h' X' e' W')
theorem Good.new (X : Stand p l e R s m args below meth c T locs cells slots) (hx : p.tables.exec = Jvm.exec) (hZ : Z.Warmed39 s.vm) {own C : String} {index n : Nat} (hown : s.vm.findClass own = some m.cls) (w : (Cond.classLink own index C).before a0 Z = true) (wi : (Cond.instantiable C n).before a0 Z = true) (wz : (Cond.initialized C).before a0 Z = true) (eT : T.heap = h) {pc pc' : Nat} {Ls : Array Slot} {st : List Value} (hp : pc + 3 = pc') (hd : decode c.code pc = .ok (.new index, 3)) (hc : cells + 1 ≤ R.cells) (hl : slots + n ≤ R.slots)
    (k : ∀ T' h' b, b = h.size → Stand p l e R s m args below meth c T' locs (cells + 1) (slots + n) → T'.heap = h' → Ext h h' → Exa Z h' b C → (∀ {O nm d : String} {ty : FieldType}, Laid Z a0 C O nm d → parseFieldDescriptor d = some ty → Fld Z h' b O nm d (defaultValue ty)) → Good p.tables e below s G (T'.setTop (mkF m pc' Ls (.ref b :: st)))) : Good p.tables e below s G (T.setTop (mkF m pc Ls st)) := by
  subst hp
  obtain ⟨T', h', X', e', E', A', D', -, st'⟩ := newO X hx hZ hown w wi wz eT (g := mkF m pc Ls st) rfl hd hc hl
  exact Good.go st' (k T' h' _ rfl X' e' E' A' D')
theorem Good.newarray (X : Stand p l e R s m args below meth c T locs cells slots) (hx : p.tables.exec = Jvm.exec) (hZ : Z.Warmed39 s.vm) {aty : ArrayType} (w : (Cond.arrayClass (newarray.typeOf aty)).before a0 Z = true) (eT : T.heap = h) {n : Int32} {pc pc' : Nat} {Ls : Array Slot} {st : List Value} (hp : pc + 2 = pc') (hd : decode c.code pc = .ok (.newarray aty, 2)) (hn : ¬ n < 0) {cap : Nat} (hcap : n.toNatClampNeg ≤ cap) (hb : cap * 8 ≤ 536870912) (hc : cells + 1 ≤ R.cells) (hl : slots + cap ≤ R.slots)
    (k : ∀ T' h' cA b, b = h.size → Stand p l e R s m args below meth c T' locs (cells + 1) (slots + cap) → T'.heap = h' → Ext h h' → Arr Z h' b (newA cA (newarray.typeOf aty) n) (newarray.typeOf aty) → Good p.tables e below s G (T'.setTop (mkF m pc' Ls (.ref b :: st)))) : Good p.tables e below s G (T.setTop (mkF m pc Ls (.int n :: st))) := by
  subst hp
  obtain ⟨T', h', cA, X', e', E', A', st'⟩ := newP X hx hZ w eT (g := mkF m pc Ls (.int n :: st)) rfl hd rfl hn hcap hb hc hl
  exact Good.go st' (k T' h' cA _ rfl X' e' E' A')
theorem Good.initO (X : Stand p l e R s m args below meth c T locs cells slots) (hx : p.tables.exec = Jvm.exec) (hZ : Z.Warmed39 s.vm) {own : String} {idx : Nat} (hown : s.vm.findClass own = some m.cls) (w1 : (Cond.methodLink own idx Lib.objectInit).before a0 Z = true) (w2 : (Cond.instanceMethod Lib.objectInit).before a0 Z = true) (w3 : (Cond.code Lib.objectInit ⟨#[0xb1]⟩ 1 none).before a0 Z = true) (eT : T.heap = h) {a : Addr} {pc pc' : Nat} {Ls : Array Slot} {rest : List Value} (hp : pc + 3 = pc') (hsz : Ls.size = c.maxLocals) (hd : decode c.code pc = .ok (.invokespecial idx, 3)) (hf : 1 ≤ R.frames) {W : Nat} (hW : (rest.map fun v => v.category).sum ≤ W) (hlo : W + 12 ≤ R.locals)
    (k : ∀ T', Stand p l e R s m args below meth c T' locs cells slots → T'.heap = h → Good p.tables e below s G (T'.setTop (mkF m pc' Ls rest))) : Good p.tables e below s G (T.setTop (mkF m pc Ls (.ref a :: rest))) := by
  subst hp
  obtain ⟨T', X', e', st'⟩ := Jvm.RoadKit.initO X hx hZ hown w1 w2 w3 eT (g := mkF m pc Ls (.ref a :: rest)) rfl hsz rfl hd hf (W := W) (by simpa using hW) hlo
  exact Good.go st' (k T' X' e')
/-- the contract of a body: called with these arguments on this heap it returns, and Q holds -/
def Con (l : Launch) (Z : State) (y : MethodName) (bytes : ByteArray) (maxL : Nat) (ret : Option FieldType) (rm : Room) (as' : Array Value) (h : Heap) (Q : Option Value → Heap → List Loc → Prop) : Prop :=
  ∀ ws : List Cond, MetFree l y (head1 (Cond.code y bytes maxL ret :: ws) rm) (fun a U => a = as' ∧ Z.Warmed39 U.vm ∧ U.heap = h) (fun _ _ _ _ _ => True) (fun _ U o U' => ∃ v L, o = .returned v ∧ Q v U'.heap L ∧ FrameEnd U o U' L rm.cells rm.slots)
theorem Con.body {y : MethodName} {bytes : ByteArray} {maxL : Nat} {ret : Option FieldType} {rm : Room} {as' : Array Value} {Q : Option Value → Heap → List Loc → Prop} (hpl : plainFor y = true)
    (B : ∀ G : Option Value → Heap → List Loc → Nat → Nat → Prop, (∀ v h' L k n, Q v h' L → k ≤ rm.cells → n ≤ rm.slots → G v h' L k n) → ∀ (p : Program) (e : Env) (s : State) (m : MethodId) (below : List Frame) (meth : Method) (c : Code) (T : State), Stand p l e rm s m as' below meth c T [] 0 0 → p.tables.exec = Jvm.exec → c.code = bytes → c.maxLocals = maxL → s.vm.findClass y.cls = some m.cls → meth.name = y.name → meth.sig.returnType = ret → meth.locks = false → Z.Warmed39 s.vm → T.heap = h →
      Good p.tables e below s G (T.setTop (entryFrame m as' maxL))) : Con l Z y bytes maxL ret rm as' h Q := by
  intro ws
  refine MetFree.of_bodySF hpl hisR ?_
  intro p e s m args below meth c s₁ Bd hml hP hK
  obtain ⟨rfl, hZ, hh⟩ := hP
  obtain ⟨T, fs, v, L, k, n, q, h1, h2, h3, h4, hQ, hk, hn⟩ := B (fun v h' L k n => Q v h' L ∧ k ≤ rm.cells ∧ n ≤ rm.slots) (fun _ _ _ _ _ a b c => ⟨a, b, c⟩) p e s m below meth c s₁ (Stand.of_body Bd) Bd.exec Bd.bytes hml (findClass_of_methodNamed Bd.named) (name_of_methodNamed Bd.named Bd.method).1 Bd.returns Bd.notSynchronized hZ (by rw [← hh, Bd.state]; rfl)
  exact ⟨_, _, q, h1, h2, v, L, rfl, hQ, ⟨_, rfl⟩, h3, h4.mono hk hn⟩
theorem Good.callS (X : Stand p l e R s m args below meth c T locs cells slots) (hx : p.tables.exec = Jvm.exec) (hZ : Z.Warmed39 s.vm) {own : String} {index : Nat} {y : MethodName} {bytes : ByteArray} {maxL : Nat} {ret : Option FieldType} {rm : Room} {Q : Option Value → Heap → List Loc → Prop} (hown : s.vm.findClass own = some m.cls) (w1 : (Cond.methodLink own index y).before a0 Z = true) (w2 : (Cond.static y).before a0 Z = true) (w3 : (Cond.initialized y.cls).before a0 Z = true) (w4 : (Cond.code y bytes maxL ret).before a0 Z = true) (hy : y.cls ≠ "java/lang/invoke/MethodHandle" ∧ y.cls ≠ "java/lang/invoke/VarHandle") (eT : T.heap = h) {argsL rest : List Value} (K : Con l Z y bytes maxL ret rm argsL.toArray h Q) {ps : List FieldType} {r : Option FieldType} (hdesc : parseMethodDescriptor y.desc = some ⟨ps, r⟩) (hlen : argsL.length = ps.length) {pc pc' : Nat} {Ls : Array Slot} {st : List Value} (hp : pc + 3 = pc') (hsz : Ls.size = c.maxLocals) (hs : st = argsL.reverse ++ rest) (hd : decode c.code pc = .ok (.invokestatic index, 3)) {W : Nat} (hW : (rest.map fun v => v.category).sum ≤ W) (hf : rm.frames + 1 ≤ R.frames) (hlo : W + (maxL + 11) + rm.locals ≤ R.locals) (hce : cells + rm.cells ≤ R.cells) (hsl : slots + rm.slots ≤ R.slots)
    (k : ∀ v T' L, Stand p l e R s m args below meth c T' (locs ++ L) (cells + rm.cells) (slots + rm.slots) → Q v T'.heap L → Good p.tables e below s G (T'.setTop (mkF m pc' Ls (v.toList ++ rest)))) : Good p.tables e below s G (T.setTop (mkF m pc Ls st)) := by
  subst hp hs
  obtain ⟨v, vm₁, ⟨T', L', k', n'⟩, -, X', ⟨L, hQ, l1, l2, l3⟩, st⟩ := Jvm.LawKit.callS X hx (y := y) hown (mvT hZ w1) (mvT hZ w2) (mvT hZ w3) (mvT hZ w4) hy (backOf (W := W) (K []) hZ w4 w3 hf hlo) (g := mkF m pc Ls (argsL.reverse ++ rest)) rfl hsz (argsL := argsL) (rest := rest) (lenOf hdesc hlen) rfl (by simpa using hW) hd (fun _ _ => ⟨rfl, eT, hce, hsl⟩)
  dsimp only [Pt.U, Pt.locs, Pt.cells, Pt.slots] at X' l1 l2 l3 st hQ
  subst l1 l2 l3
  exact Good.go st (k v T' L X' hQ)
theorem Good.callN (X : Stand p l e R s m args below meth c T locs cells slots) (hx : p.tables.exec = Jvm.exec) (hZ : Z.Warmed39 s.vm) {own : String} {index : Nat} {y : MethodName} {bytes : ByteArray} {maxL : Nat} {rm : Room} {Q : Option Value → Heap → List Loc → Prop} (hyn : y.name = "<init>") (hown : s.vm.findClass own = some m.cls) (w1 : (Cond.methodLink own index y).before a0 Z = true) (w2 : (Cond.instanceMethod y).before a0 Z = true) (w3 : (Cond.initialized y.cls).before a0 Z = true) (w4 : (Cond.code y bytes maxL none).before a0 Z = true) (hy : y.cls ≠ "java/lang/invoke/MethodHandle" ∧ y.cls ≠ "java/lang/invoke/VarHandle") (eT : T.heap = h) {a : Addr} {argsL rest : List Value} (K : Con l Z y bytes maxL none rm (.ref a :: argsL).toArray h Q) {ps : List FieldType} {r : Option FieldType} (hdesc : parseMethodDescriptor y.desc = some ⟨ps, r⟩) (hlen : argsL.length = ps.length) {pc pc' : Nat} {Ls : Array Slot} {st : List Value} (hp : pc + 3 = pc') (hsz : Ls.size = c.maxLocals) (hs : st = argsL.reverse ++ .ref a :: rest) (hd : decode c.code pc = .ok (.invokespecial index, 3)) {W : Nat} (hW : (rest.map fun v => v.category).sum ≤ W) (hf : rm.frames + 1 ≤ R.frames) (hlo : W + (maxL + 11) + rm.locals ≤ R.locals) (hce : cells + rm.cells ≤ R.cells) (hsl : slots + rm.slots ≤ R.slots)
    (k : ∀ v T' L, Stand p l e R s m args below meth c T' (locs ++ L) (cells + rm.cells) (slots + rm.slots) → Q v T'.heap L → Good p.tables e below s G (T'.setTop (mkF m pc' Ls (v.toList ++ rest)))) : Good p.tables e below s G (T.setTop (mkF m pc Ls st)) := by
  subst hp hs
  obtain ⟨v, vm₁, ⟨T', L', k', n'⟩, -, X', ⟨L, hQ, l1, l2, l3⟩, st⟩ := X.specialBack hx (y := y) hyn hown (mvT hZ w1) (mvT hZ w2) (mvT hZ w4) hy (backOf (W := W) (K []) hZ w4 w3 hf hlo) (g := mkF m pc Ls (argsL.reverse ++ .ref a :: rest)) rfl hsz (Steps.refl _) (a := a) (argsL := argsL) (rest := rest) (lenOf hdesc hlen) rfl (by simpa using hW) hd (fun _ _ => ⟨rfl, eT, hce, hsl⟩)
  dsimp only [Pt.U, Pt.locs, Pt.cells, Pt.slots] at X' l1 l2 l3 st hQ
  subst l1 l2 l3
  exact Good.go (fun _ q => st.trans q) (k v T' L X' hQ)
theorem Good.callV (X : Stand p l e R s m args below meth c T locs cells slots) (hx : p.tables.exec = Jvm.exec) (hZ : Z.Warmed39 s.vm) {own C : String} {index : Nat} {y : MethodName} {bytes : ByteArray} {maxL : Nat} {ret : Option FieldType} {rm : Room} {Q : Option Value → Heap → List Loc → Prop} (hown : s.vm.findClass own = some m.cls) (w1 : (Cond.methodLink own index y).before a0 Z = true) (wd : (Cond.declares y).before a0 Z = true) (ws : (Cond.selects C y y).before a0 Z = true) (w2 : (Cond.instanceMethod y).before a0 Z = true) (w3 : (Cond.initialized y.cls).before a0 Z = true) (w4 : (Cond.code y bytes maxL ret).before a0 Z = true) (hy : y.cls ≠ "java/lang/invoke/MethodHandle" ∧ y.cls ≠ "java/lang/invoke/VarHandle") (eT : T.heap = h) {a : Addr} (E : Exa Z h a C) {argsL rest : List Value} (K : Con l Z y bytes maxL ret rm (.ref a :: argsL).toArray h Q) {ps : List FieldType} {r : Option FieldType} (hdesc : parseMethodDescriptor y.desc = some ⟨ps, r⟩) (hlen : argsL.length = ps.length) {pc pc' : Nat} {Ls : Array Slot} {st : List Value} (hp : pc + 3 = pc') (hsz : Ls.size = c.maxLocals) (hs : st = argsL.reverse ++ .ref a :: rest) (hd : decode c.code pc = .ok (.invokevirtual index, 3)) {W : Nat} (hW : (rest.map fun v => v.category).sum ≤ W) (hf : rm.frames + 1 ≤ R.frames) (hlo : W + (maxL + 11) + rm.locals ≤ R.locals) (hce : cells + rm.cells ≤ R.cells) (hsl : slots + rm.slots ≤ R.slots)
    (k : ∀ v T' L, Stand p l e R s m args below meth c T' (locs ++ L) (cells + rm.cells) (slots + rm.slots) → Q v T'.heap L → Good p.tables e below s G (T'.setTop (mkF m pc' Ls (v.toList ++ rest)))) : Good p.tables e below s G (T.setTop (mkF m pc Ls st)) := by
  subst hp hs
  obtain ⟨cq, kq, q1, q2, q3⟩ := isOf hZ eT E
  obtain ⟨v, vm₁, ⟨T', L', k', n'⟩, -, X', ⟨L, hQ, l1, l2, l3⟩, st⟩ := X.virtualBack hx (y := y) (z := y) hown (mvT hZ w1) (mvT hZ wd) (notFace_of_selects (args := #[]) (mvT hZ ws)) (mvT hZ ws) (mvT hZ w2) hy (backOf (W := W) (K []) hZ w4 w3 hf hlo) q1 q3 (g := mkF m pc Ls (argsL.reverse ++ .ref a :: rest)) rfl hsz (Steps.refl _) (argsL := argsL) (rest := rest) (lenOf hdesc hlen) rfl (by simpa using hW) hd (fun _ _ => ⟨rfl, eT, hce, hsl⟩)
  dsimp only [Pt.U, Pt.locs, Pt.cells, Pt.slots] at X' l1 l2 l3 st hQ
  subst l1 l2 l3
  exact Good.go (fun _ q => st.trans q) (k v T' L X' hQ)

theorem Good.iaddN (X : Stand p l e R s m args below meth c T locs cells slots) (hx : p.tables.exec = Jvm.exec) {pc pc' : Nat} {Ls : Array Slot} {x y : Nat} {st : List Value} (hp : pc + 1 = pc') (hd : decode c.code pc = .ok (.iadd, 1)) (k : Good p.tables e below s G (T.setTop (mkF m pc' Ls (.int (Int32.ofNat (x + y)) :: st)))) : Good p.tables e below s G (T.setTop (mkF m pc Ls (.int (Int32.ofNat y) :: .int (Int32.ofNat x) :: st))) :=
  Good.iadd X hx hp hd (by rw [← Int32.ofNat_add]; exact k)
theorem Good.imulN (X : Stand p l e R s m args below meth c T locs cells slots) (hx : p.tables.exec = Jvm.exec) {pc pc' : Nat} {Ls : Array Slot} {x y : Nat} {st : List Value} (hp : pc + 1 = pc') (hd : decode c.code pc = .ok (.imul, 1)) (k : Good p.tables e below s G (T.setTop (mkF m pc' Ls (.int (Int32.ofNat (x * y)) :: st)))) : Good p.tables e below s G (T.setTop (mkF m pc Ls (.int (Int32.ofNat y) :: .int (Int32.ofNat x) :: st))) :=
  Good.imul X hx hp hd (by rw [← Int32.ofNat_mul]; exact k)
theorem Good.iincN (X : Stand p l e R s m args below meth c T locs cells slots) (hx : p.tables.exec = Jvm.exec) {pc pc' : Nat} {Ls : Array Slot} {i x w : Nat} {cst : Int} {Ls' : Array Slot} {st : List Value} (hp : pc + 3 = pc') (hd : decode c.code pc = .ok (.iinc i cst, 3)) (hl : Ls[i]? = some (.val (.int (Int32.ofNat x)))) (hv : Int32.ofInt cst = Int32.ofNat w) (hl' : storeLocals Ls i (.int (Int32.ofNat (x + w))) = some Ls') (k : Good p.tables e below s G (T.setTop (mkF m pc' Ls' st))) : Good p.tables e below s G (T.setTop (mkF m pc Ls st)) :=
  Good.iinc X hx hp hd hl hv (by rw [← Int32.ofNat_add]; exact hl') k
/-- a slot that a one-word value may be laid over -/
def One (o : Slot) : Prop := o = .unset ∨ ∃ w, o = .val w ∧ w.category = 1
/-- two slots that a double may be laid over -/
def Two (o o' : Slot) : Prop := (o = .unset ∧ o' = .unset) ∨ ∃ d, o = .val (.double d) ∧ o' = .second
theorem One.u : One .unset := Or.inl rfl
theorem One.i (x : Int32) : One (.val (.int x)) := Or.inr ⟨_, rfl, rfl⟩
theorem Two.u : Two .unset .unset := Or.inl ⟨rfl, rfl⟩
theorem Two.d (x : UInt64) : Two (.val (.double x)) .second := Or.inr ⟨_, rfl, rfl⟩
theorem store2 {l : Array Slot} {i : Nat} {x : UInt64} {o o' : Slot} (h1 : l[i]? = some o) (h2 : l[i + 1]? = some o') (ho : Two o o') : storeLocals l i (.double x) = some ((l.setIfInBounds i (.val (.double x))).setIfInBounds (i + 1) .second) := by
  obtain ⟨hi, g1⟩ := Array.getElem?_eq_some_iff.mp h1
  obtain ⟨hj, g2⟩ := Array.getElem?_eq_some_iff.mp h2
  rcases ho with ⟨rfl, rfl⟩ | ⟨d, rfl, rfl⟩
  · simp [storeLocals, storeSelf, setAt, Value.category, hi, hj, g1, g2]
  · simp [storeLocals, storeSelf, setAt, Value.category, hi, hj, g1, g2]
    apply Array.ext_getElem?
    intro j
    simp only [Array.getElem?_setIfInBounds, Array.size_setIfInBounds]
    by_cases q1 : i + 1 = j
    · simp [q1]
    · by_cases q2 : i = j <;> simp [q1, q2]
end Kit
section Arrays
variable {Z : State} {h h' : Heap} {a b : Addr} {n : Nat} {f : Nat → UInt64} {sl : Nat} {v : Value} {ws : List Addr} {ty : FieldType}
/-- a double[] of n places, place i holds f i -/
def DA (Z : State) (h : Heap) (a : Addr) (n : Nat) (f : Nat → UInt64) : Prop := ∃ cl : Cell, Arr Z h a cl .double ∧ cl.slots.size = n ∧ ∀ i, i < n → cl.slots[i]? = some (.double (f i))
def updD (f : Nat → UInt64) (j : Nat) (x : UInt64) : Nat → UInt64 := fun i => if i = j then x else f i
/-- an array of n places -/
def AR (Z : State) (h : Heap) (a : Addr) (n : Nat) (ty : FieldType) : Prop := ∃ cl : Cell, Arr Z h a cl ty ∧ cl.slots.size = n
theorem DA.lt (F : DA Z h a n f) : a < h.size := by obtain ⟨c, A, -⟩ := F; exact A.lt
theorem DA.ext (F : DA Z h a n f) (E : Ext h h') : DA Z h' a n f := by obtain ⟨c, A, r⟩ := F; exact ⟨c, A.ext E, r⟩
theorem DA.other (F : DA Z h b n f) (W : Wr h h' a sl v) (q : b ≠ a) : DA Z h' b n f := by obtain ⟨c, A, r⟩ := F; exact ⟨c, A.other W q, r⟩
theorem DA.keep (F : DA Z h a n f) (K : Keep h h' ws) (q : a ∉ ws) : DA Z h' a n f := by obtain ⟨c, A, r⟩ := F; exact ⟨c, ⟨K.2.1 a c A.1 q, A.2⟩, r⟩
theorem AR.lt (F : AR Z h a n ty) : a < h.size := by obtain ⟨c, A, -⟩ := F; exact A.lt
theorem AR.ext (F : AR Z h a n ty) (E : Ext h h') : AR Z h' a n ty := by obtain ⟨c, A, r⟩ := F; exact ⟨c, A.ext E, r⟩
theorem AR.other (F : AR Z h b n ty) (W : Wr h h' a sl v) (q : b ≠ a) : AR Z h' b n ty := by obtain ⟨c, A, r⟩ := F; exact ⟨c, A.other W q, r⟩
theorem AR.keep (F : AR Z h a n ty) (K : Keep h h' ws) (q : a ∉ ws) : AR Z h' a n ty := by obtain ⟨c, A, r⟩ := F; exact ⟨c, ⟨K.2.1 a c A.1 q, A.2⟩, r⟩
theorem clampOf {j : Int32} {i : Nat} (hj : j.toInt = (i : Int)) : j.toNatClampNeg = i := by
  show j.toInt.toNat = i
  rw [hj]; rfl
theorem inOf {j : Int32} {i m : Nat} (hj : j.toInt = (i : Int)) (hi : i < m) : ¬ (j < 0 ∨ m ≤ j.toNatClampNeg) := by
  rw [clampOf hj, Int32.lt_iff_toInt_lt, hj]
  have e0 : (0 : Int32).toInt = 0 := rfl
  omega
theorem DA.new {k : ClassId} {z : Int32} (A : Arr Z h a (newA k (newarray.typeOf .double) z) (newarray.typeOf .double)) (hz : z.toInt = (n : Int)) : DA Z h a n (fun _ => 0) :=
  ⟨_, A, by rw [sz_new, clampOf hz], fun i hi => by
    show (Array.replicate z.toNatClampNeg (defaultValue .double))[i]? = _
    rw [clampOf hz, Array.getElem?_replicate, if_pos hi]; rfl⟩
theorem AR.new {k : ClassId} {z : Int32} (A : Arr Z h a (newA k ty z) ty) (hz : z.toInt = (n : Int)) : AR Z h a n ty := ⟨_, A, by rw [sz_new, clampOf hz]⟩
theorem DA.set (F : DA Z h a n f) {j : Nat} {x : UInt64} (W : Wr h h' a j (.double x)) : DA Z h' a n (updD f j x) := by
  obtain ⟨cl, A, S, H⟩ := F
  refine ⟨_, A.same W, by rw [sz_set]; exact S, fun i hi => ?_⟩
  show (cl.slots.setIfInBounds j (.double x))[i]? = some (.double (if i = j then x else f i))
  by_cases q : i = j
  · subst q
    rw [if_pos rfl, Array.getElem?_setIfInBounds_self_of_lt (by omega)]
  · rw [if_neg q, Array.getElem?_setIfInBounds_ne (fun z => q z.symm)]; exact H i hi
theorem AR.set (F : AR Z h a n ty) (W : Wr h h' a sl v) : AR Z h' a n ty := by
  obtain ⟨cl, A, S⟩ := F
  exact ⟨_, A.same W, by rw [sz_set]; exact S⟩
theorem DA.eq (F : DA Z h a n f) {g : Nat → UInt64} (q : ∀ i, i < n → f i = g i) : DA Z h a n g := by
  obtain ⟨cl, A, S, H⟩ := F
  exact ⟨cl, A, S, fun i hi => by rw [← q i hi]; exact H i hi⟩
theorem DA.ar (F : DA Z h a n f) : AR Z h a n .double := by obtain ⟨cl, A, S, -⟩ := F; exact ⟨cl, A, S⟩
variable {p : Program} {l : Launch} {e : Env} {R : Room} {s : State} {m : MethodId} {args : Array Value} {below : List Frame} {meth : Method} {c : Code} {T : State} {locs : List Loc} {cells slots : Nat} {G : Option Value → Heap → List Loc → Nat → Nat → Prop}
theorem Good.daloadF (X : Stand p l e R s m args below meth c T locs cells slots) (hx : p.tables.exec = Jvm.exec) (hZ : Z.Warmed39 s.vm) (eT : T.heap = h) (A : DA Z h a n f) {j : Int32} (i : Nat) (hj : j.toInt = (i : Int)) (hi : i < n) {w : UInt64} (hw : f i = w) {pc pc' : Nat} {Ls : Array Slot} {st : List Value} (hp : pc + 1 = pc') (hd : decode c.code pc = .ok (.daload, 1)) (k : Good p.tables e below s G (T.setTop (mkF m pc' Ls (.double w :: st)))) : Good p.tables e below s G (T.setTop (mkF m pc Ls (.int j :: .ref a :: st))) := by
  obtain ⟨cl, A, S, H⟩ := A
  exact Good.daload X hx hZ eT A (by rw [S]; exact inOf hj hi) (by rw [clampOf hj, H i hi, hw]) hp hd k
theorem Good.dastoreF (X : Stand p l e R s m args below meth c T locs cells slots) (hx : p.tables.exec = Jvm.exec) (hZ : Z.Warmed39 s.vm) (eT : T.heap = h) (A : DA Z h a n f) {j : Int32} (i : Nat) (hj : j.toInt = (i : Int)) (hi : i < n) {x : UInt64} {pc pc' : Nat} {Ls : Array Slot} {st : List Value} (hp : pc + 1 = pc') (hd : decode c.code pc = .ok (.dastore, 1))
    (k : ∀ T' h', Stand p l e R s m args below meth c T' (locs ++ [⟨a, i⟩]) cells slots → T'.heap = h' → Wr h h' a i (.double x) → DA Z h' a n (updD f i x) → Good p.tables e below s G (T'.setTop (mkF m pc' Ls st))) : Good p.tables e below s G (T.setTop (mkF m pc Ls (.double x :: .int j :: .ref a :: st))) := by
  have A0 := A
  obtain ⟨cl, A, S, H⟩ := A
  refine Good.dastore X hx hZ eT A (by rw [S]; exact inOf hj hi) hp hd fun T' h' X' e' W' => ?_
  rw [clampOf hj] at X' W'
  exact k T' h' X' e' W' (A0.set W')
theorem Good.iastoreF (X : Stand p l e R s m args below meth c T locs cells slots) (hx : p.tables.exec = Jvm.exec) (hZ : Z.Warmed39 s.vm) (eT : T.heap = h) (A : AR Z h a n .int) {j : Int32} (i : Nat) (hj : j.toInt = (i : Int)) (hi : i < n) {x : Int32} {pc pc' : Nat} {Ls : Array Slot} {st : List Value} (hp : pc + 1 = pc') (hd : decode c.code pc = .ok (.iastore, 1))
    (k : ∀ T' h', Stand p l e R s m args below meth c T' (locs ++ [⟨a, i⟩]) cells slots → T'.heap = h' → Wr h h' a i (.int x) → AR Z h' a n .int → Good p.tables e below s G (T'.setTop (mkF m pc' Ls st))) : Good p.tables e below s G (T.setTop (mkF m pc Ls (.int x :: .int j :: .ref a :: st))) := by
  have A0 := A
  obtain ⟨cl, A, S⟩ := A
  refine Good.iastore X hx hZ eT A (by rw [S]; exact inOf hj hi) hp hd fun T' h' X' e' W' => ?_
  rw [clampOf hj] at X' W'
  exact k T' h' X' e' W' (A0.set W')
theorem Good.alenF (X : Stand p l e R s m args below meth c T locs cells slots) (hx : p.tables.exec = Jvm.exec) (hZ : Z.Warmed39 s.vm) (eT : T.heap = h) (A : DA Z h a n f) {z : Int32} (hz : z.toInt = (n : Int)) {pc pc' : Nat} {Ls : Array Slot} {st : List Value} (hp : pc + 1 = pc') (hd : decode c.code pc = .ok (.arraylength, 1)) (k : Good p.tables e below s G (T.setTop (mkF m pc' Ls (.int z :: st)))) : Good p.tables e below s G (T.setTop (mkF m pc Ls (.ref a :: st))) := by
  obtain ⟨cl, A, S, H⟩ := A
  refine Good.arraylength X hx hZ eT A (n := z) (by rw [S, clampOf hz]) ?_ hp hd k
  rw [Int32.lt_iff_toInt_lt, hz]
  have e0 : (0 : Int32).toInt = 0 := rfl
  omega
end Arrays
section Chars
variable {p : Program} {l : Launch} {e : Env} {R : Room} {s : State} {m : MethodId} {args : Array Value} {below : List Frame} {meth : Method} {c : Code} {T : State} {locs : List Loc} {cells slots : Nat} {G : Option Value → Heap → List Loc → Nat → Nat → Prop} {Z : State} {a0 : Array Value} {h : Heap}
/-- a char laid into an array of two, whose values are known -/
theorem Good.castoreV (X : Stand p l e R s m args below meth c T locs cells slots) (hx : p.tables.exec = Jvm.exec) (hZ : Z.Warmed39 s.vm) (eT : T.heap = h) {a : Addr} {kC : ClassId} {z j x : Int32} {vs : List Value} {dv : Value} (A : Arv Z h a kC .char z vs dv) (i : Nat) (hj : j.toInt = (i : Int)) (hi : (i : Int) < z.toInt) (hl : i < vs.length) {pc pc' : Nat} {Ls : Array Slot} {st : List Value} (hp : pc + 1 = pc') (hd : decode c.code pc = .ok (.castore, 1))
    (k : ∀ T' h', Stand p l e R s m args below meth c T' (locs ++ [⟨a, i⟩]) cells slots → T'.heap = h' → Wr h h' a i (.int (nar .char x)) → Arv Z h' a kC .char z (vs.set i (.int (nar .char x))) dv → Good p.tables e below s G (T'.setTop (mkF m pc' Ls st))) : Good p.tables e below s G (T.setTop (mkF m pc Ls (.int x :: .int j :: .ref a :: st))) := by
  subst hp
  obtain ⟨cl, A, q1, S, q3, H, U⟩ := A
  have hin : ¬ (j < 0 ∨ cl.slots.size ≤ j.toNatClampNeg) := by
    rw [S]
    refine inOf hj ?_
    show i < z.toInt.toNat
    omega
  obtain ⟨T', h', X', e', W', st'⟩ := stC X hx hZ eT A hin (g := mkF m pc Ls (.int x :: .int j :: .ref a :: st)) rfl rfl hd
  have V := Arv.set A q1 S q3 H U (fits_nar_char x) W' i (clampOf hj) hl
  rw [clampOf hj] at X' W'
  exact Good.go st' (k T' h' X' e' W' V)
/-- a constructor paid by a Back -/
theorem Good.callNB (X : Stand p l e R s m args below meth c T locs cells slots) (hx : p.tables.exec = Jvm.exec) (hZ : Z.Warmed39 s.vm) {own : String} {index : Nat} {y : MethodName} {bytes : ByteArray} {maxL kc ks : Nat} {Q : Option Value → Heap → List Loc → Prop} (hyn : y.name = "<init>") (hown : s.vm.findClass own = some m.cls) (w1 : (Cond.methodLink own index y).before a0 Z = true) (w2 : (Cond.instanceMethod y).before a0 Z = true) (w4 : (Cond.code y bytes maxL none).before a0 Z = true) (hy : y.cls ≠ "java/lang/invoke/MethodHandle" ∧ y.cls ≠ "java/lang/invoke/VarHandle") (eT : T.heap = h) {a : Addr} {argsL rest : List Value} {W : Nat}
    (K : Back l R p e below s args y 3 W (fun P a' => a' = (.ref a :: argsL).toArray ∧ P.U.heap = h ∧ P.cells + kc ≤ R.cells ∧ P.slots + ks ≤ R.slots) (fun P _ v B => ∃ L, Q v B.U.heap L ∧ B.locs = P.locs ++ L ∧ B.cells = P.cells + kc ∧ B.slots = P.slots + ks)) {ps : List FieldType} {r : Option FieldType} (hdesc : parseMethodDescriptor y.desc = some ⟨ps, r⟩) (hlen : argsL.length = ps.length) {pc pc' : Nat} {Ls : Array Slot} {st : List Value} (hp : pc + 3 = pc') (hsz : Ls.size = c.maxLocals) (hs : st = argsL.reverse ++ .ref a :: rest) (hd : decode c.code pc = .ok (.invokespecial index, 3)) (hW : (rest.map fun v => v.category).sum ≤ W) (hce : cells + kc ≤ R.cells) (hsl : slots + ks ≤ R.slots)
    (k : ∀ v T' L, Stand p l e R s m args below meth c T' (locs ++ L) (cells + kc) (slots + ks) → Q v T'.heap L → Good p.tables e below s G (T'.setTop (mkF m pc' Ls (v.toList ++ rest)))) : Good p.tables e below s G (T.setTop (mkF m pc Ls st)) := by
  subst hp hs
  obtain ⟨v, vm₁, ⟨T', L', k', n'⟩, -, X', ⟨L, hQ, l1, l2, l3⟩, st⟩ := X.specialBack hx (y := y) hyn hown (mvT hZ w1) (mvT hZ w2) (mvT hZ w4) hy K (g := mkF m pc Ls (argsL.reverse ++ .ref a :: rest)) rfl hsz (Steps.refl _) (a := a) (argsL := argsL) (rest := rest) (lenOf hdesc hlen) rfl (by simpa using hW) hd (fun _ _ => ⟨rfl, eT, hce, hsl⟩)
  dsimp only [Pt.U, Pt.locs, Pt.cells, Pt.slots] at X' l1 l2 l3 st hQ
  subst l1 l2 l3
  exact Good.go (fun _ q => st.trans q) (k v T' L X' hQ)
end Chars
end Jvm.OwnKit
namespace Jvm.Pilot.@@N@@
open Jvm Jvm.ClassFile Sem Op Lib Jvm.Free Jvm.Stand Jvm.LawKit Jvm.RoadKit Jvm.OwnKit Jvm.Free.Fl Bundle Jvm.Pilot.@@N@@.Jvm.D
open Jvm.FP.Core in
theorem own_round {s : Bool} {c : Nat} {q i : Int} (h : Whole i (.fin s c q)) (h1 : 2 ^ 53 ≤ i.natAbs) (h2 : i.natAbs < 2 ^ 54) : ∃ t : Int, Whole t (round b64 (.fin s c q)) ∧ t - i ≤ 1 ∧ i - t ≤ 1 := by
  rw [round_whole h]
  have hs := whole_sign h (by omega)
  have hlog : i.natAbs.log2 = 53 := (Nat.log2_eq_iff (by omega)).mpr ⟨h1, h2⟩
  have hl : leading i.natAbs 1 = 53 := by
    unfold leading
    rw [hlog, show Nat.log2 1 = 0 from by decide]
    show (if 1 * 2 ^ (53 : Nat) ≤ i.natAbs * 2 ^ (0 : Nat) then ((53 : Nat) : Int) - ((0 : Nat) : Int) else _) = 53
    rw [if_pos (by omega)]
    rfl
  have hq : quantum b64 i.natAbs 1 0 = 1 := by
    unfold quantum
    rw [hl]
    decide
  unfold roundRatio
  rw [if_neg (by omega), hq]
  unfold roundAt
  have hu : unitsNum i.natAbs 0 1 = i.natAbs := by
    show i.natAbs * 2 ^ (0 : Nat) = _
    omega
  have hd : unitsDen 1 0 1 = 2 := by decide
  rw [hu, hd]
  obtain ⟨m, hm⟩ : ∃ m, m = nearest i.natAbs 2 := ⟨_, rfl⟩
  have hb : 2 * m ≤ i.natAbs + 1 ∧ i.natAbs ≤ 2 * m + 1 := by
    rw [hm]
    unfold nearest
    split
    · omega
    · split
      · omega
      · omega
  rw [← hm]
  unfold settle bound
  have e1 : (b64.p : Nat) = 53 := rfl
  have e2 : b64.tails = 2 ^ 52 := by decide
  have e3 : b64.qmax = 971 := by decide
  rw [e1, e2, e3]
  have hsg : ∀ k : Nat, signed s k = if i < 0 then -(k : Int) else (k : Int) := fun k => by
    rw [hs]; unfold signed
    by_cases hi : i < 0 <;> simp [hi]
  by_cases hlt : m < 2 ^ 53
  · rw [if_pos hlt, if_pos (by decide)]
    refine ⟨if i < 0 then -((m * 2 : Nat) : Int) else ((m * 2 : Nat) : Int), ?_, ?_, ?_⟩
    · show signed s (m * 2 ^ (1 : Nat)) = _ * ((2 ^ (0 : Nat) : Nat) : Int)
      rw [hsg]; simp
    · split <;> omega
    · split <;> omega
  · rw [if_neg hlt, if_pos (by decide)]
    have : m = 2 ^ 53 := by omega
    refine ⟨if i < 0 then -((2 ^ 54 : Nat) : Int) else ((2 ^ 54 : Nat) : Int), ?_, ?_, ?_⟩
    · show signed s (2 ^ 52 * 2 ^ (2 : Nat)) = _ * ((2 ^ (0 : Nat) : Nat) : Int)
      rw [hsg]; split <;> decide
    · split <;> omega
    · split <;> omega
open Jvm.FP.Core in
/-- a sum of two whole doubles below 2^54: the whole number itself or a neighbour -/
theorem own_sum {i j : Int} {a b : UInt64} (ha : DInt i a) (hb : DInt j b) (h : (i + j).natAbs < 2 ^ 54) : ∃ t : Int, DInt t (FP.dadd a b) ∧ t - (i + j) ≤ 1 ∧ (i + j) - t ≤ 1 := by
  by_cases hs : (i + j).natAbs ≤ 2 ^ 53
  · exact ⟨i + j, dadd_int ha hb hs, by omega, by omega⟩
  · have hw := whole_sum ha hb
    unfold DInt
    rw [val64_dadd]
    cases hx : exactSum (val64 a) (val64 b) with
    | nan => rw [hx] at hw; exact hw.elim
    | inf z => rw [hx] at hw; exact hw.elim
    | fin z c q => rw [hx] at hw; exact own_round hw (by omega) h
open Jvm.FP.Core in
theorem own_no {i : Int} {a : UInt64} (h : DInt i a) : NoNaN64 a := val64_no.mpr fun q => by
  unfold DInt at h
  rw [q] at h
  exact h.elim
/-- TWO-SUM on whole doubles -/
theorem own_two (A B : Int64) (hA : A.toInt.natAbs < 2 ^ 53) (hB : B.toInt.natAbs < 2 ^ 53) (a b u x1 x2 y1 y2 r : UInt64) (ea : a = FP.l2d A) (eb : b = FP.l2d B) (eu : u = FP.dadd a b) (e1 : x1 = FP.dsub u a) (e2 : x2 = FP.dsub u x1) (e3 : y1 = FP.dsub a x2) (e4 : y2 = FP.dsub b x1) (e5 : r = FP.dadd y1 y2) :
    NoNaN64 u ∧ NoNaN64 x1 ∧ NoNaN64 x2 ∧ NoNaN64 y1 ∧ NoNaN64 y2 ∧ NoNaN64 r ∧ cmpValue (FP.dcmp r (FP.l2d ((A + B) - FP.d2l u))) .l = 0 := by
  have da : Jvm.FP.Core.DInt A.toInt a := ea ▸ Jvm.FP.Core.l2d_int (by omega)
  have db : Jvm.FP.Core.DInt B.toInt b := eb ▸ Jvm.FP.Core.l2d_int (by omega)
  obtain ⟨t, du, t1, t2⟩ := own_sum da db (by omega)
  rw [← eu] at du
  have d1 : Jvm.FP.Core.DInt (t - A.toInt) x1 := by rw [e1]; exact Jvm.FP.Core.dsub_int du da (by omega)
  have d2 : Jvm.FP.Core.DInt (t - (t - A.toInt)) x2 := by rw [e2]; exact Jvm.FP.Core.dsub_int du d1 (by omega)
  have d3 : Jvm.FP.Core.DInt (A.toInt - (t - (t - A.toInt))) y1 := by rw [e3]; exact Jvm.FP.Core.dsub_int da d2 (by omega)
  have d4 : Jvm.FP.Core.DInt (B.toInt - (t - A.toInt)) y2 := by rw [e4]; exact Jvm.FP.Core.dsub_int db d1 (by omega)
  have d5 : Jvm.FP.Core.DInt (A.toInt - (t - (t - A.toInt)) + (B.toInt - (t - A.toInt))) r := by rw [e5]; exact Jvm.FP.Core.dadd_int d3 d4 (by omega)
  refine ⟨own_no du, own_no d1, own_no d2, own_no d3, own_no d4, own_no d5, ?_⟩
  have ht : (Int64.ofInt t).toInt = t := Int64.toInt_ofInt_of_le (by omega) (by omega)
  have eL : FP.d2l u = Int64.ofInt t := Jvm.FP.Core.d2l_int (by rw [ht]; exact du)
  have hAB : (A + B).toInt = A.toInt + B.toInt := by
    rw [Int64.toInt_add]; exact Int.bmod_eq_of_le (by omega) (by omega)
  have he : ((A + B) - FP.d2l u).toInt = A.toInt + B.toInt - t := by
    rw [eL, Int64.toInt_sub, hAB, ht]; exact Int.bmod_eq_of_le (by omega) (by omega)
  have de := Jvm.FP.Core.l2d_int (a := (A + B) - FP.d2l u) (by rw [he]; omega)
  rw [he] at de
  have hc := Jvm.FP.Core.dcmp_int d5 de
  rw [show FP.dcmp r (FP.l2d ((A + B) - FP.d2l u)) = some (compare (A.toInt - (t - (t - A.toInt)) + (B.toInt - (t - A.toInt))) (A.toInt + B.toInt - t)) from hc]
  rw [show A.toInt - (t - (t - A.toInt)) + (B.toInt - (t - A.toInt)) = A.toInt + B.toInt - t by omega, Jvm.FP.Core.compare_self_int]
  rfl
theorem own_rem (x : Int64) : (x - (x / (9007199254740992 : Int64)) * (9007199254740992 : Int64)).toInt.natAbs < 2 ^ 53 := by
  obtain ⟨p, q⟩ := c_lrem x (9007199254740992 : Int64) 9007199254740992 (by decide)
  by_cases h : 0 ≤ x.toInt
  · rw [p h]; omega
  · rw [q (by omega)]; omega
theorem d1_0 : decode prog_40_method_3_code 0 = .ok (.dload 4, 2) := by decide +kernel
theorem d1_2 : decode prog_40_method_3_code 2 = .ok (.dload_n 0, 1) := by decide +kernel
theorem d1_3 : decode prog_40_method_3_code 3 = .ok (.dsub, 1) := by decide +kernel
theorem d1_4 : decode prog_40_method_3_code 4 = .ok (.dstore 6, 2) := by decide +kernel
theorem d1_6 : decode prog_40_method_3_code 6 = .ok (.dload 4, 2) := by decide +kernel
theorem d1_8 : decode prog_40_method_3_code 8 = .ok (.dload 6, 2) := by decide +kernel
theorem d1_10 : decode prog_40_method_3_code 10 = .ok (.dsub, 1) := by decide +kernel
theorem d1_11 : decode prog_40_method_3_code 11 = .ok (.dstore 8, 2) := by decide +kernel
theorem d1_13 : decode prog_40_method_3_code 13 = .ok (.dload_n 0, 1) := by decide +kernel
theorem d1_14 : decode prog_40_method_3_code 14 = .ok (.dload 8, 2) := by decide +kernel
theorem d1_16 : decode prog_40_method_3_code 16 = .ok (.dsub, 1) := by decide +kernel
theorem d1_17 : decode prog_40_method_3_code 17 = .ok (.dload_n 2, 1) := by decide +kernel
theorem d1_18 : decode prog_40_method_3_code 18 = .ok (.dload 6, 2) := by decide +kernel
theorem d1_20 : decode prog_40_method_3_code 20 = .ok (.dsub, 1) := by decide +kernel
theorem d1_21 : decode prog_40_method_3_code 21 = .ok (.dadd, 1) := by decide +kernel
theorem d1_22 : decode prog_40_method_3_code 22 = .ok (.dreturn, 1) := by decide +kernel
theorem pn_1 : plainName "com/example/cylinder/cylinder/product/RoundingError" = true := by first | (simp [plainName, overriddenIn]; done) | decide +kernel
theorem pn_0 : plainName "com/example/cylinder/cylinder/product/RoundingErrorOfSumPinLaw" = true := by first | (simp [plainName, overriddenIn]; done) | decide +kernel
set_option maxRecDepth 65536 in
set_option maxHeartbeats 40000000 in
theorem c_sum (l : Launch) (Z : State) (a0 : Array Value) (hw : ∀ d ∈ tables_1, d.before a0 Z = true) (a b u : UInt64) (h0 : Heap) (n1 : NoNaN64 (FP.dsub u a)) (n2 : NoNaN64 (FP.dsub u (FP.dsub u a))) (n3 : NoNaN64 (FP.dsub a (FP.dsub u (FP.dsub u a)))) (n4 : NoNaN64 (FP.dsub b (FP.dsub u a))) (n5 : NoNaN64 (FP.dadd (FP.dsub a (FP.dsub u (FP.dsub u a))) (FP.dsub b (FP.dsub u a)))) :
    Con l Z (⟨"com/example/cylinder/cylinder/product/RoundingError", "ofSum", "(DDD)D"⟩ : MethodName) prog_40_method_3_code 10 (some .double) ({ frames := 0, cells := 0, slots := 0, locals := 0 } : Room) #[.double a, .double b, .double u] h0 (fun v h L => v = some (.double (FP.dadd (FP.dsub a (FP.dsub u (FP.dsub u a))) (FP.dsub b (FP.dsub u a)))) ∧ h = h0 ∧ L = []) := by
  refine Con.body (plainFor_of_name pn_1) ?_
  intro G hG p e s m below meth c T X hx hby hml hown hnm hret hlk hZ e0
  rw [show entryFrame m #[.double a, .double b, .double u] 10 = mkF m 0 #[.val (.double a), .second, .val (.double b), .second, .val (.double u), .second, .unset, .unset, .unset, .unset] [] from by first | (simp [entryFrame, mkF, argsToLocals, Value.category, maxLocals]; done) | rfl]
  refine Good.dload X hx (pc' := 2) rfl (hb hby d1_0) rfl ?_
  refine Good.dloadN X hx (pc' := 3) rfl (hb hby d1_2) rfl ?_
  refine Good.dsub X hx (pc' := 4) rfl (hb hby d1_3) n1 ?_
  refine Good.dstore X hx (pc' := 6) (Ls' := #[.val (.double a), .second, .val (.double b), .second, .val (.double u), .second, .val (.double (FP.dsub u a)), .second, .unset, .unset]) rfl (hb hby d1_4) rfl ?_
  refine Good.dload X hx (pc' := 8) rfl (hb hby d1_6) rfl ?_
  refine Good.dload X hx (pc' := 10) rfl (hb hby d1_8) rfl ?_
  refine Good.dsub X hx (pc' := 11) rfl (hb hby d1_10) n2 ?_
  refine Good.dstore X hx (pc' := 13) (Ls' := #[.val (.double a), .second, .val (.double b), .second, .val (.double u), .second, .val (.double (FP.dsub u a)), .second, .val (.double (FP.dsub u (FP.dsub u a))), .second]) rfl (hb hby d1_11) rfl ?_
  refine Good.dloadN X hx (pc' := 14) rfl (hb hby d1_13) rfl ?_
  refine Good.dload X hx (pc' := 16) rfl (hb hby d1_14) rfl ?_
  refine Good.dsub X hx (pc' := 17) rfl (hb hby d1_16) n3 ?_
  refine Good.dloadN X hx (pc' := 18) rfl (hb hby d1_17) rfl ?_
  refine Good.dload X hx (pc' := 20) rfl (hb hby d1_18) rfl ?_
  refine Good.dsub X hx (pc' := 21) rfl (hb hby d1_20) n4 ?_
  refine Good.dadd X hx (pc' := 22) rfl (hb hby d1_21) n5 ?_
  exact Good.retD X hx hlk hret (hb hby d1_22) (hG _ _ _ _ _ (⟨rfl, e0, rfl⟩) (by decide) (by decide))
theorem pd_0 : parseMethodDescriptor "(DDD)D" = some ⟨[.double, .double, .double], some .double⟩ := by decide +kernel
set_option maxRecDepth 65536 in
set_option maxHeartbeats 40000000 in
theorem c_law (l : Launch) (Z : State) (a0 : Array Value) (hw : ∀ d ∈ tables_1, d.before a0 Z = true) (xx yy : Int64) (h0 : Heap) (n0 : Nat) :
    Con l Z x code maxLocals ret room_1 #[.long xx, .long yy] h0 (fun v h L => v = some (.int 1) ∧ Fr n0 L) := by
  refine Con.body (plainFor_of_name pn_0) ?_
  intro G hG p e s m below meth c T X hx hby hml hown hnm hret hlk hZ e0
  rw [show entryFrame m #[.long xx, .long yy] maxLocals = mkF m 0 #[.val (.long xx), .second, .val (.long yy), .second, .unset, .unset, .unset, .unset, .unset, .unset, .unset, .unset, .unset, .unset, .unset, .unset, .unset, .unset, .unset, .unset, .unset, .unset] [] from by first | (simp [entryFrame, mkF, argsToLocals, Value.category, maxLocals]; done) | rfl]
  refine Good.lloadN X hx (pc' := 1) rfl (hb hby at_0) rfl ?_
  refine Good.ldc2J X hx hZ hown (hw _ (List.mem_of_getElem? (i := 0) rfl)) (pc' := 4) rfl (hb hby at_1) ?_
  refine Good.lrem X hx (pc' := 5) rfl (hb hby at_4) (by decide) ?_
  obtain ⟨A, eA⟩ : ∃ z, z = (xx - (xx / (9007199254740992 : Int64)) * (9007199254740992 : Int64)) := ⟨_, rfl⟩
  rw [← eA]
  refine Good.lstore X hx (pc' := 7) (Ls' := #[.val (.long xx), .second, .val (.long yy), .second, .val (.long A), .second, .unset, .unset, .unset, .unset, .unset, .unset, .unset, .unset, .unset, .unset, .unset, .unset, .unset, .unset, .unset, .unset]) rfl (hb hby at_5) rfl ?_
  refine Good.lloadN X hx (pc' := 8) rfl (hb hby at_7) rfl ?_
  refine Good.ldc2J X hx hZ hown (hw _ (List.mem_of_getElem? (i := 0) rfl)) (pc' := 11) rfl (hb hby at_8) ?_
  refine Good.lrem X hx (pc' := 12) rfl (hb hby at_11) (by decide) ?_
  obtain ⟨B, eB⟩ : ∃ z, z = (yy - (yy / (9007199254740992 : Int64)) * (9007199254740992 : Int64)) := ⟨_, rfl⟩
  rw [← eB]
  refine Good.lstore X hx (pc' := 14) (Ls' := #[.val (.long xx), .second, .val (.long yy), .second, .val (.long A), .second, .val (.long B), .second, .unset, .unset, .unset, .unset, .unset, .unset, .unset, .unset, .unset, .unset, .unset, .unset, .unset, .unset]) rfl (hb hby at_12) rfl ?_
  refine Good.lload X hx (pc' := 16) rfl (hb hby at_14) rfl ?_
  refine Good.l2d X hx (pc' := 17) rfl (hb hby at_16) ?_
  obtain ⟨a, ea⟩ : ∃ z, z = (FP.l2d A) := ⟨_, rfl⟩
  rw [← ea]
  refine Good.dstore X hx (pc' := 19) (Ls' := #[.val (.long xx), .second, .val (.long yy), .second, .val (.long A), .second, .val (.long B), .second, .val (.double a), .second, .unset, .unset, .unset, .unset, .unset, .unset, .unset, .unset, .unset, .unset, .unset, .unset]) rfl (hb hby at_17) rfl ?_
  refine Good.lload X hx (pc' := 21) rfl (hb hby at_19) rfl ?_
  refine Good.l2d X hx (pc' := 22) rfl (hb hby at_21) ?_
  obtain ⟨b, eb⟩ : ∃ z, z = (FP.l2d B) := ⟨_, rfl⟩
  rw [← eb]
  refine Good.dstore X hx (pc' := 24) (Ls' := #[.val (.long xx), .second, .val (.long yy), .second, .val (.long A), .second, .val (.long B), .second, .val (.double a), .second, .val (.double b), .second, .unset, .unset, .unset, .unset, .unset, .unset, .unset, .unset, .unset, .unset]) rfl (hb hby at_22) rfl ?_
  refine Good.dload X hx (pc' := 26) rfl (hb hby at_24) rfl ?_
  refine Good.dload X hx (pc' := 28) rfl (hb hby at_26) rfl ?_
  obtain ⟨u, eu⟩ : ∃ z, z = FP.dadd a b := ⟨_, rfl⟩
  obtain ⟨r, er⟩ : ∃ z, z = (FP.dadd (FP.dsub a (FP.dsub u (FP.dsub u a))) (FP.dsub b (FP.dsub u a))) := ⟨_, rfl⟩
  obtain ⟨nu, n1, n2, n3, n4, n5, hcmp⟩ := own_two A B (by rw [eA]; exact own_rem xx) (by rw [eB]; exact own_rem yy) a b u _ _ _ _ r ea eb eu rfl rfl rfl rfl er
  rw [er] at n5
  refine Good.dadd X hx (pc' := 29) rfl (hb hby at_28) (by rw [← eu]; exact nu) ?_
  rw [← eu]
  refine Good.dstore X hx (pc' := 31) (Ls' := #[.val (.long xx), .second, .val (.long yy), .second, .val (.long A), .second, .val (.long B), .second, .val (.double a), .second, .val (.double b), .second, .val (.double u), .second, .unset, .unset, .unset, .unset, .unset, .unset, .unset, .unset]) rfl (hb hby at_29) rfl ?_
  refine Good.dload X hx (pc' := 33) rfl (hb hby at_31) rfl ?_
  refine Good.dload X hx (pc' := 35) rfl (hb hby at_33) rfl ?_
  refine Good.dload X hx (pc' := 37) rfl (hb hby at_35) rfl ?_
  refine Good.callS X hx hZ (y := ⟨"com/example/cylinder/cylinder/product/RoundingError", "ofSum", "(DDD)D"⟩) hown (hw _ (List.mem_of_getElem? (i := 1) rfl)) (hw _ (List.mem_of_getElem? (i := 2) rfl)) (hw _ (List.mem_of_getElem? (i := 3) rfl)) (hw _ (List.mem_of_getElem? (i := 4) rfl)) (by decide) e0 (argsL := [(.double a), (.double b), (.double u)]) (rest := []) (c_sum l Z a0 hw a b u h0 n1 n2 n3 n4 n5) (hdesc := pd_0) rfl (pc' := 40) rfl (by rw [hml]; rfl) rfl (hb hby at_37) (W := 0) (Nat.le_of_eq rfl) (by decide) (by decide) (by decide) (by decide) fun v1 T1 L1 X1 Q1 => ?_
  obtain ⟨rfl, hh, rfl⟩ := Q1
  rw [← er]
  refine Good.dstore X1 hx (pc' := 42) (Ls' := #[.val (.long xx), .second, .val (.long yy), .second, .val (.long A), .second, .val (.long B), .second, .val (.double a), .second, .val (.double b), .second, .val (.double u), .second, .val (.double r), .second, .unset, .unset, .unset, .unset, .unset, .unset]) rfl (hb hby at_40) rfl ?_
  refine Good.lload X1 hx (pc' := 44) rfl (hb hby at_42) rfl ?_
  refine Good.lload X1 hx (pc' := 46) rfl (hb hby at_44) rfl ?_
  refine Good.ladd X1 hx (pc' := 47) rfl (hb hby at_46) ?_
  refine Good.lstore X1 hx (pc' := 49) (Ls' := #[.val (.long xx), .second, .val (.long yy), .second, .val (.long A), .second, .val (.long B), .second, .val (.double a), .second, .val (.double b), .second, .val (.double u), .second, .val (.double r), .second, .val (.long (A + B)), .second, .unset, .unset, .unset, .unset]) rfl (hb hby at_47) rfl ?_
  refine Good.dload X1 hx (pc' := 51) rfl (hb hby at_49) rfl ?_
  refine Good.d2l X1 hx (pc' := 52) rfl (hb hby at_51) ?_
  refine Good.lstore X1 hx (pc' := 54) (Ls' := #[.val (.long xx), .second, .val (.long yy), .second, .val (.long A), .second, .val (.long B), .second, .val (.double a), .second, .val (.double b), .second, .val (.double u), .second, .val (.double r), .second, .val (.long (A + B)), .second, .val (.long (FP.d2l u)), .second, .unset, .unset]) rfl (hb hby at_52) rfl ?_
  refine Good.lload X1 hx (pc' := 56) rfl (hb hby at_54) rfl ?_
  refine Good.lload X1 hx (pc' := 58) rfl (hb hby at_56) rfl ?_
  refine Good.lsub X1 hx (pc' := 59) rfl (hb hby at_58) ?_
  refine Good.lstore X1 hx (pc' := 61) (Ls' := #[.val (.long xx), .second, .val (.long yy), .second, .val (.long A), .second, .val (.long B), .second, .val (.double a), .second, .val (.double b), .second, .val (.double u), .second, .val (.double r), .second, .val (.long (A + B)), .second, .val (.long (FP.d2l u)), .second, .val (.long ((A + B) - (FP.d2l u))), .second]) rfl (hb hby at_59) rfl ?_
  refine Good.dload X1 hx (pc' := 63) rfl (hb hby at_61) rfl ?_
  refine Good.lload X1 hx (pc' := 65) rfl (hb hby at_63) rfl ?_
  refine Good.l2d X1 hx (pc' := 66) rfl (hb hby at_65) ?_
  refine Good.dcmp X1 hx (pc' := 67) rfl (hb hby at_66) ?_
  refine Good.ifNo X1 hx (pc' := 70) rfl (hb hby at_67) (by rw [hcmp]; rfl) ?_
  refine Good.iconst X1 hx (pc' := 71) (w := (1 : Int32)) rfl (hb hby at_70) rfl ?_
  refine Good.goto X1 hx (pc' := 75) (by decide) (hb hby at_71) ?_
  exact Good.retZ X1 hx hlk hret (hb hby at_75) (Or.inr rfl) (hG _ _ _ _ _ (⟨rfl, by intro y hy; simp at hy⟩) (by decide) (by decide))
set_option maxRecDepth 65536 in
set_option maxHeartbeats 40000000 in
theorem comes_1 {Post : Tables → Env → Array Value → State → Outcome → State → Prop} (hpost : ∀ tb e args s v u, (limb_1_1.after args s (.returned v) u = true ∧ limb_1_2.after args s (.returned v) u = true ∧ True) → FrameEnd s (.returned v) u (Jvm.fieldLocs frame_1_writes args s ++ Jvm.arrayLocs frame_1_arrays args s ++ Jvm.staticLocs frame_1_statics s) 0 0 → Post tb e args s (.returned v) u) :
    ArmFor flags0 classFile x code maxLocals ret World_1 tables_1 room_1 Calls_1 rest_1 Pre_1 Post := by
  intro l hfl _ _ p e ha hc hk s m args below hf hA hF happ hP
  obtain ⟨hcalls, hrest, hpre⟩ := hP
  obtain ⟨-, -, -, hnamed, -, -, -, hat⟩ := (Spec.applies_iff hf).mp happ
  obtain ⟨hg, hn⟩ := and_e (Cond.before_iff.mp (show (Jvm.Cond.and given_1 narrow_1).before args s = true from hpre))
  obtain ⟨w0, w1, rfl⟩ : ∃ w0 w1 : Value, args = #[w0, w1] := by
    have hs : args.size = 2 := by
      obtain ⟨q, -⟩ := and_e hg
      simpa [Cond.value, given_1] using q
    obtain ⟨L⟩ := args
    match L, hs with
    | [w0, w1], _ => exact ⟨w0, w1, rfl⟩
  have hw := fun d (hd : d ∈ tables_1) => atoms_spec (ws := Jvm.Cond.code x code maxLocals ret :: tables_1) hat d (List.mem_cons_of_mem _ hd)
  obtain ⟨-, hg0⟩ := and_e hg
  obtain ⟨gi0, hg1⟩ := and_e hg0
  obtain ⟨i0, ei0⟩ := isL_v gi0
  obtain rfl : w0 = (.long i0) := Option.some.inj ei0
  obtain ⟨i1, ei1⟩ := isL_v hg1
  obtain rfl : w1 = (.long i1) := Option.some.inj ei1
  have K := c_law l s _ hw i0 i1 s.heap s.heap.size
  obtain ⟨n, o, h1, h2, h3, _, L, rfl, ⟨rfl, N⟩, hq⟩ := K tables_1 p e ha hc hk s m _ below hf ((Spec.applies_iff_loose hf).mp happ).1 ⟨rfl, State.Warmed39.refl s, rfl⟩ trivial
  refine ⟨n, _, h1, h2, h3, hpost _ _ _ _ _ _ ⟨Cond.after_iff.mpr rfl, Cond.after_iff.mpr (eq_i res_at (Term.int_eval (1)) rfl), trivial⟩ ⟨hq.1, hq.2.1, (hq.2.2.sift fun y hy => Or.inr (N y hy)).mono (by decide) (by decide)⟩⟩
theorem main_1_1 : Claimed_1_1 := comes_1 fun _ _ _ _ _ _ h hF => ⟨h.1, hF⟩
theorem main_1_2 : Claimed_1_2 := comes_1 fun _ _ _ _ _ _ h hF => ⟨h.2.1, hF⟩
end Jvm.Pilot.@@N@@
namespace Jvm.Pilot.@@N@@
open Jvm Jvm.ClassFile Sem Op Lib Jvm.Free Jvm.Stand Jvm.Pilot.@@N@@.Jvm.D
/-! MADE BY PROGRAM (witnessworld.py) out of the Statement's table words and the real class files: 9 classes; the members and pool entries that the words name. The judged class is class 1, her method 1. -/
namespace start1
open Jvm.ClassFile
def u (s : String) : CpInfo := .utf8 (stringToUtf16 s)
/-- a pool by its gaps: so many unusable entries, then the entry; so many at the end -/
def gap : Nat → List CpInfo → List CpInfo
  | 0, r => r
  | n + 1, r => .unusable :: gap n r
def poolList (es : List (Nat × CpInfo)) (last : Nat) : List CpInfo := es.foldr (fun e r => gap e.1 (e.2 :: r)) (gap last [])
def pool (es : List (Nat × CpInfo)) (last : Nat) : Array CpInfo := ⟨poolList es last⟩
def fileOf (pool : Array CpInfo) (this : Nat) (attrs : Array Attribute := #[]) (ms : Array MethodInfo := #[]) (fl : Nat := 33) (sup : Nat := 0) (ifs : Array Nat := #[]) (fds : Array FieldInfo := #[]) : ClassFile where
  minorVersion := 0
  majorVersion := 65
  constantPool := pool
  accessFlags := fl
  thisClass := this
  superClass := sup
  interfaces := ifs
  fields := fds
  methods := ms
  attributes := attrs
def plain (name : String) (sup : Option ClassId) : Class where
  name := name
  kind := .ordinary
  loader := none
  accessFlags := 33
  super := sup
  interfaces := #[]
  cf := none
  fields := #[]
  methods := #[]
  instanceTypes := #[]
  staticTypes := #[]
  resolved := #[]
  callSites := []
  init := .initialized
  statics := none
  mirror := none

def pool0 : Array CpInfo := pool [(5, u "<init>"), (0, u "()V"), (1, .class_ 10), (1, u "java/lang/Object")] 113

def k0m0 : Method := { name := "<init>", desc := "()V", sig := { parameters := [], returnType := none }, accessFlags := 1, code := none }
/-- java/lang/Object -/
def k0 : Class := { plain "java/lang/Object" none with
  accessFlags := 33
  interfaces := #[]
  cf := some (fileOf pool0 8 #[] #[{ accessFlags := 1, nameIndex := 5, descriptorIndex := 6, attributes := #[] }] 33 0 #[] #[])
  fields := #[]
  methods := #[k0m0]
  instanceTypes := #[]
  staticTypes := #[]
  resolved := Array.replicate 124 none
  statics := none }

def pool1 : Array CpInfo := pool [(2, .class_ 4), (1, u "java/lang/Object"), (0, u "<init>"), (0, u "()V"), (0, .long 9007199254740992), (1, .methodref 10 11), (0, .class_ 12), (0, .nameAndType 13 14), (0, u "com/example/cylinder/cylinder/product/RoundingError"), (0, u "ofSum"), (0, u "(DDD)D"), (0, .class_ 16), (0, u "com/example/cylinder/cylinder/product/RoundingErrorOfSumPinLaw"), (2, u "law"), (0, u "(JJ)Z")] 3

def k1m0 : Method := { name := "<init>", desc := "()V", sig := { parameters := [], returnType := none }, accessFlags := 2, code := none }
def k1c1 : Code := { maxStack := 6, maxLocals := 22, code := code, exceptionTable := #[], attributes := #[] }
def k1m1 : Method := { name := "law", desc := "(JJ)Z", sig := { parameters := [.long, .long], returnType := some .boolean }, accessFlags := 9, code := some k1c1 }
/-- com/example/cylinder/cylinder/product/RoundingErrorOfSumPinLaw -/
def k1 : Class := { plain "com/example/cylinder/cylinder/product/RoundingErrorOfSumPinLaw" (some 0) with
  accessFlags := 49
  interfaces := #[]
  cf := some (fileOf pool1 15 #[] #[{ accessFlags := 2, nameIndex := 5, descriptorIndex := 6, attributes := #[] }, { accessFlags := 9, nameIndex := 19, descriptorIndex := 20, attributes := #[] }] 49 2 #[] #[])
  fields := #[]
  methods := #[k1m0, k1m1]
  instanceTypes := #[]
  staticTypes := #[]
  resolved := Array.replicate 24 none
  statics := none }

def pool2 : Array CpInfo := pool [(2, .class_ 4), (1, u "java/lang/Object"), (0, u "<init>"), (0, u "()V"), (0, .class_ 8), (0, u "com/example/cylinder/cylinder/product/RoundingError"), (2, u "SPLIT"), (0, u "D"), (4, u "(DDD)D"), (0, u "ofSum")] 2

def k2m0 : Method := { name := "<init>", desc := "()V", sig := { parameters := [], returnType := none }, accessFlags := 2, code := none }
def k2c1 : Code := { maxStack := 6, maxLocals := 10, code := prog_40_method_3_code, exceptionTable := #[], attributes := #[] }
def k2m1 : Method := { name := "ofSum", desc := "(DDD)D", sig := { parameters := [.double, .double, .double], returnType := some .double }, accessFlags := 8, code := some k2c1 }
/-- com/example/cylinder/cylinder/product/RoundingError -/
def k2 : Class := { plain "com/example/cylinder/cylinder/product/RoundingError" (some 0) with
  accessFlags := 32
  interfaces := #[]
  cf := some (fileOf pool2 7 #[] #[{ accessFlags := 2, nameIndex := 5, descriptorIndex := 6, attributes := #[] }, { accessFlags := 8, nameIndex := 18, descriptorIndex := 17, attributes := #[] }] 32 2 #[] #[{ accessFlags := 26, nameIndex := 11, descriptorIndex := 12, attributes := #[] }])
  fields := #[{ name := "SPLIT", type := .double, accessFlags := 26, slot := 0, constantValue := 0 }]
  methods := #[k2m0, k2m1]
  instanceTypes := #[]
  staticTypes := #[.double]
  resolved := Array.replicate 21 none
  statics := none }

def pool3 : Array CpInfo := pool [(1, u "java/lang/Cloneable"), (0, .class_ 1), (0, u "java/lang/Object"), (0, .class_ 3)] 3

/-- java/lang/Cloneable -/
def k3 : Class := { plain "java/lang/Cloneable" (some 0) with
  accessFlags := 1537
  interfaces := #[]
  cf := some (fileOf pool3 2 #[] #[] 1537 4 #[] #[])
  fields := #[]
  methods := #[]
  instanceTypes := #[]
  staticTypes := #[]
  resolved := Array.replicate 8 none
  statics := none }

def pool4 : Array CpInfo := pool [(1, u "java/io/Serializable"), (0, .class_ 1), (0, u "java/lang/Object"), (0, .class_ 3)] 3

/-- java/io/Serializable -/
def k4 : Class := { plain "java/io/Serializable" (some 0) with
  accessFlags := 1537
  interfaces := #[]
  cf := some (fileOf pool4 2 #[] #[] 1537 4 #[] #[])
  fields := #[]
  methods := #[]
  instanceTypes := #[]
  staticTypes := #[]
  resolved := Array.replicate 8 none
  statics := none }

/-- the primitive byte -/
def k5 : Class := { plain "byte" none with kind := .primitive 'B', accessFlags := 0x411 }
/-- [B -/
def k6 : Class := { plain "[B" (some 0) with kind := .array 5 .byte, interfaces := #[3, 4], accessFlags := 1041 }

/-- the primitive int -/
def k7 : Class := { plain "int" none with kind := .primitive 'I', accessFlags := 0x411 }
/-- [I -/
def k8 : Class := { plain "[I" (some 0) with kind := .array 7 .int, interfaces := #[3, 4], accessFlags := 1041 }

def heap : Heap := #[]
def classes : Array Class := #[k0, k1, k2, k3, k4, k5, k6, k7, k8]
def interned : List (Array UInt16 × Addr) := []
def slotsUsed : Nat := 0
def theMethod : MethodId := ⟨1, 1⟩
def args0 : Array Value := #[.long 5, .long 7]
def aboutOver (below : List Frame) : State where
  vm := { classes := classes, interned := interned.toArray }
  heap := heap
  slotsUsed := slotsUsed
  threads := #[{ frames := .invoking theMethod args0 :: below }]
def below0 : List Frame := [.native { method := ⟨0, 0⟩, args := #[] }]
def about1 : State := aboutOver below0
def p0 : Program := .bare "" "" ""
def e0 : Env := launch0.env 0 0 0
theorem w_frames : about1.frames = Frame.invoking theMethod args0 :: below0 := rfl
set_option maxRecDepth 65536 in
theorem w_args : argsFit about1.vm theMethod args0 = true := by decide +kernel
set_option maxRecDepth 65536 in
theorem w_heap : heapFits about1 = true := by decide +kernel
set_option maxRecDepth 65536 in
theorem w_runnable : about1.curStatus? = some .runnable := by decide +kernel
set_option maxRecDepth 65536 in
theorem w_alone : about1.alone = true := by decide +kernel
set_option maxRecDepth 65536 in
theorem w_named : about1.methodNamed? x = some theMethod := by decide +kernel
set_option maxRecDepth 65536 in
theorem w_hears : about1.hears theMethod below0 = true := by decide +kernel
set_option maxRecDepth 65536 in
theorem w_ripe : about1.ripe theMethod args0 below0 = true := by decide +kernel
theorem w_running : about1.status = .running := rfl
set_option maxRecDepth 65536 in
theorem w_room : about1.hasRoom e0.platform room_1 = true :=
  launch0.hasRoom_least _ room_1 (by decide +kernel) (by decide +kernel) (by decide +kernel) (by decide +kernel) (by decide +kernel) (by decide +kernel)
theorem allAtoms_all (ts : List Jvm.Cond) (a : Array Jvm.Value) (st : Jvm.State) : (allAtoms ts).before a st = ts.all (fun c => c.before a st) := by
  induction ts with
  | nil => rfl
  | cons c t ih =>
    show (Jvm.Cond.and c (allAtoms t)).before a st = _
    rw [Jvm.Cond.before_and, ih, List.all_cons]
def words1 : List Jvm.Cond := Jvm.Cond.code x code maxLocals ret :: tables_1
/-- a 'code' word, met by the world's own term for the bytes: nothing is compared byte by byte -/
theorem code_word {y : MethodName} {bytes : ByteArray} {mx : Nat} {rt : Option FieldType} {a : Array Value} {s : State} {m : MethodId} {meth : Method} {c : Code} (h1 : s.methodNamed? y = some m) (h2 : s.vm.method? m = some meth) (h3 : meth.code = some c) (h4 : c.code = bytes)
    (h5 : (c.maxLocals == mx && c.exceptionTable.isEmpty && decide (c.maxStack ≤ mostOperands) && decide (meth.sig.returnType = rt) && !meth.locks && decide (parseMethodDescriptor y.desc = some meth.sig)) = true) : (Jvm.Cond.code y bytes mx rt).before a s = true := by
  simp only [Bool.and_eq_true, beq_iff_eq, Bool.not_eq_true', decide_eq_true_eq] at h5
  obtain ⟨⟨⟨⟨⟨g1, g2⟩, g3⟩, g4⟩, g5⟩, g6⟩ := h5
  simp [Cond.before, Cond.holds, Cond.value, h1, h2, h3, h4, g1, g2, g3, g4, g5, g6]
def isCode : Jvm.Cond → Bool
  | .code _ _ _ _ => true
  | _ => false
theorem all_split {L : List Jvm.Cond} {P : Jvm.Cond → Bool} (h1 : L.all (fun c => isCode c || P c) = true) (h2 : ∀ c ∈ L.filter isCode, P c = true) : L.all P = true := by
  refine List.all_eq_true.mpr fun c hc => ?_
  have h := List.all_eq_true.mp h1 c hc
  rcases Bool.eq_false_or_eq_true (isCode c) with hi | hi
  · exact h2 c (List.mem_filter.mpr ⟨hc, hi⟩)
  · simpa [hi] using h
set_option maxRecDepth 65536 in
theorem w_c0 : (Jvm.Cond.code x code maxLocals ret).before args0 about1 = true := code_word (m := ⟨1, 1⟩) (meth := k1m1) (c := k1c1) (by decide +kernel) rfl rfl rfl (by decide +kernel)
set_option maxRecDepth 65536 in
theorem w_c1 : (Jvm.Cond.code ({ cls := "com/example/cylinder/cylinder/product/RoundingError", name := "ofSum", desc := "(DDD)D" } : Jvm.MethodName) prog_40_method_3_code (10 : Nat) (Option.some Jvm.ClassFile.FieldType.double)).before args0 about1 = true := code_word (m := ⟨2, 1⟩) (meth := k2m1) (c := k2c1) (by decide +kernel) rfl rfl rfl (by decide +kernel)
def codes1 : List Jvm.Cond := [Jvm.Cond.code x code maxLocals ret, Jvm.Cond.code ({ cls := "com/example/cylinder/cylinder/product/RoundingError", name := "ofSum", desc := "(DDD)D" } : Jvm.MethodName) prog_40_method_3_code (10 : Nat) (Option.some Jvm.ClassFile.FieldType.double)]
set_option maxRecDepth 65536 in
theorem codes_eq : words1.filter isCode = codes1 := rfl
theorem w_codes : ∀ c ∈ words1.filter isCode, c.before args0 about1 = true := by
  rw [codes_eq]
  intro c hc
  simp only [codes1, List.mem_cons, List.not_mem_nil, or_false] at hc
  rcases hc with rfl | rfl
  · exact w_c0
  · exact w_c1
set_option maxRecDepth 65536 in
theorem w_t1 : words1.all (fun c => isCode c || c.before args0 about1) = true := by decide +kernel
theorem w_tables : (allAtoms (Jvm.Cond.code x code maxLocals ret :: tables_1)).before args0 about1 = true := by
  rw [allAtoms_all]
  show words1.all (fun c => c.before args0 about1) = true
  refine all_split ?_ w_codes
  rw [w_t1]
set_option maxRecDepth 65536 in
theorem w_case : (Jvm.Cond.and given_1 narrow_1).before args0 about1 = true := by decide +kernel
theorem w_applies : (headSpec (Jvm.Cond.code x code maxLocals ret :: tables_1) room_1).applies x e0.platform about1 = true :=
  (Spec.applies_iff w_frames).mpr ⟨w_running, w_runnable, w_alone, w_named, w_hears, w_ripe, w_room, w_tables⟩
theorem atStart : AtStart classFile x code maxLocals ret World_1 tables_1 room_1 Calls_1 rest_1 Pre_1 launch0 p0 e0 about1 theMethod args0 below0 :=
  ⟨lists_1, trivial, launch0.admits_env _ _ _, launch0.least_env, fairChoices_fair.cas, fairChoices_fair.clock, w_frames, w_args, w_heap, w_applies, trivial, trivial, w_case⟩
end start1
theorem witness_1 : WitnessClaimed_1 := ⟨start1.p0, start1.e0, start1.about1, start1.theMethod, start1.args0, start1.below0, start1.atStart⟩
end Jvm.Pilot.@@N@@
