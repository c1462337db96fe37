import JvmDerived
import JvmDerived.Pilot.@@N@@Statement
import JvmDerived.Pilot.@@N@@Code
set_option linter.unusedVariables false
set_option linter.unusedSimpArgs false
namespace Jvm.OwnKit
open Sem ClassFile Op Lib Jvm.Stand Jvm.Free Jvm.LawKit Jvm.RoadKit Jvm.Free.Fl
/-- from U the run comes to a return whose value, heap, written places, new cells and slots meet G -/
def Good (tb : Tables) (e : Env) (below : List Frame) (s : State) (G : Option Value → Heap → List Loc → Nat → Nat → Prop) (U : State) : Prop :=
  ∃ (T : State) (fs : List Frame) (v : Option Value) (locs : List Loc) (cells slots : Nat), Steps tb e below U (T.setFrames fs) ∧ (T.setFrames fs).status = .running ∧ Ended (T.setFrames fs) below (.returned v) ∧ s.WarmedH (T.setFrames fs).vm ∧ s.sameButNew ({ T.setFrames fs with vm := s.vm } : State) locs cells slots ∧ G v T.heap locs cells slots
theorem Good.go {tb : Tables} {e : Env} {below : List Frame} {s : State} {G : Option Value → Heap → List Loc → Nat → Nat → Prop} {U U' : State} (st : ∀ target, Steps tb e below U' target → Steps tb e below U target) (k : Good tb e below s G U') : Good tb e below s G U := by
  obtain ⟨T, fs, v, L, a, b, q, r⟩ := k
  exact ⟨T, fs, v, L, a, b, st _ q, r⟩
section Kit
variable {p : Program} {l : Launch} {e : Env} {R : Room} {s : State} {m : MethodId} {args : Array Value} {below : List Frame} {meth : Method} {c : Code} {T : State} {locs : List Loc} {cells slots : Nat} {G : Option Value → Heap → List Loc → Nat → Nat → Prop}
theorem Good.ret (X : Stand p l e R s m args below meth c T locs cells slots) (hx : p.tables.exec = Jvm.exec) (hlk : meth.locks = false) {pc : Nat} {Ls : Array Slot} {w : Value} {t : FieldType} {i : Instr} {rest : List Value} (hret : meth.sig.returnType = some t) (hn : narrow t w = w)
    (hi : (i = .ireturn ∧ (t = .int ∨ t = .boolean ∨ t = .byte ∨ t = .char ∨ t = .short) ∧ ∃ z, w = .int z) ∨ (i = .lreturn ∧ t = .long ∧ ∃ z, w = .long z) ∨ (i = .dreturn ∧ t = .double ∧ ∃ z, w = .double z) ∨ (i = .freturn ∧ t = .float ∧ ∃ z, w = .float z) ∨ (i = .areturn ∧ t.isReference = true ∧ w.isRef = true))
    (hd : decode c.code pc = .ok (i, 1)) (hG : G (some w) T.heap locs cells slots) : Good p.tables e below s G (T.setTop (mkF m pc Ls (w :: rest))) := by
  obtain ⟨fs, hr, h1, h2, h3, h4⟩ := X.leave (v := some w) (fun q => by rw [hret] at q; cases q) hlk
  exact ⟨T, fs, some w, locs, cells, slots, retOut X hx hret hn hi hd hr, h1, h2, h3, h4, hG⟩
theorem Good.retD (X : Stand p l e R s m args below meth c T locs cells slots) (hx : p.tables.exec = Jvm.exec) (hlk : meth.locks = false) {pc : Nat} {Ls : Array Slot} {w : UInt64} {rest : List Value} (hret : meth.sig.returnType = some .double) (hd : decode c.code pc = .ok (.dreturn, 1)) (hG : G (some (.double w)) T.heap locs cells slots) : Good p.tables e below s G (T.setTop (mkF m pc Ls (.double w :: rest))) :=
  Good.ret X hx hlk hret rfl (Or.inr (Or.inr (Or.inl ⟨rfl, rfl, _, rfl⟩))) hd hG
theorem Good.retA (X : Stand p l e R s m args below meth c T locs cells slots) (hx : p.tables.exec = Jvm.exec) (hlk : meth.locks = false) {pc : Nat} {Ls : Array Slot} {w : Value} {t : FieldType} {rest : List Value} (hret : meth.sig.returnType = some t) (ht : t.isReference = true) (hw : w.isRef = true) (hd : decode c.code pc = .ok (.areturn, 1)) (hG : G (some w) T.heap locs cells slots) : Good p.tables e below s G (T.setTop (mkF m pc Ls (w :: rest))) :=
  Good.ret X hx hlk hret (by cases t <;> first | (exact Bool.noConfusion ht) | (cases w <;> first | rfl | exact Bool.noConfusion hw)) (Or.inr (Or.inr (Or.inr (Or.inr ⟨rfl, ht, hw⟩)))) hd hG
theorem Good.retI (X : Stand p l e R s m args below meth c T locs cells slots) (hx : p.tables.exec = Jvm.exec) (hlk : meth.locks = false) {pc : Nat} {Ls : Array Slot} {w : Int32} {rest : List Value} (hret : meth.sig.returnType = some .int) (hd : decode c.code pc = .ok (.ireturn, 1)) (hG : G (some (.int w)) T.heap locs cells slots) : Good p.tables e below s G (T.setTop (mkF m pc Ls (.int w :: rest))) :=
  Good.ret X hx hlk hret rfl (Or.inl ⟨rfl, Or.inl rfl, _, rfl⟩) hd hG
theorem Good.retZ (X : Stand p l e R s m args below meth c T locs cells slots) (hx : p.tables.exec = Jvm.exec) (hlk : meth.locks = false) {pc : Nat} {Ls : Array Slot} {w : Int32} {rest : List Value} (hret : meth.sig.returnType = some .boolean) (hd : decode c.code pc = .ok (.ireturn, 1)) (hw : w = 0 ∨ w = 1) (hG : G (some (.int w)) T.heap locs cells slots) : Good p.tables e below s G (T.setTop (mkF m pc Ls (.int w :: rest))) :=
  Good.ret X hx hlk hret (by rcases hw with rfl | rfl <;> rfl) (Or.inl ⟨rfl, Or.inr (Or.inl rfl), _, rfl⟩) hd hG
theorem Good.ret0 (X : Stand p l e R s m args below meth c T locs cells slots) (hx : p.tables.exec = Jvm.exec) (hlk : meth.locks = false) {pc : Nat} {Ls : Array Slot} (hret : meth.sig.returnType = none) (hd : decode c.code pc = .ok (.return_, 1)) (hG : G none T.heap locs cells slots) : Good p.tables e below s G (T.setTop (mkF m pc Ls [])) := by
  obtain ⟨fs, hr, h1, h2, h3, h4⟩ := X.leave (v := none) (fun _ => rfl) hlk
  exact ⟨T, fs, none, locs, cells, slots, X.returnOut hx hret hd hr, h1, h2, h3, h4, hG⟩

theorem Good.aloadN (X : Stand p l e R s m args below meth c T locs cells slots) (hx : p.tables.exec = Jvm.exec) {pc pc' : Nat} {Ls : Array Slot} {k : Fin 4} {v : Value} {st : List Value} (hp : pc + 1 = pc') (hd : decode c.code pc = .ok (.aload_n k, 1)) (hl : Ls[k.val]? = some (.val v)) (hv : v.isRef = true) (k : Good p.tables e below s G (T.setTop (mkF m pc' Ls (v :: st)))) : Good p.tables e below s G (T.setTop (mkF m pc Ls st)) := by
  subst hp
  exact Good.go (fun _ q => XS.aloadN X.here hx rfl hd hl hv q) k
theorem Good.aload (X : Stand p l e R s m args below meth c T locs cells slots) (hx : p.tables.exec = Jvm.exec) {pc pc' : Nat} {Ls : Array Slot} {k : Nat} {v : Value} {st : List Value} (hp : pc + 2 = pc') (hd : decode c.code pc = .ok (.aload k, 2)) (hl : Ls[k]? = some (.val v)) (hv : v.isRef = true) (k : Good p.tables e below s G (T.setTop (mkF m pc' Ls (v :: st)))) : Good p.tables e below s G (T.setTop (mkF m pc Ls st)) := by
  subst hp
  exact Good.go (fun _ q => XS.aload X.here hx rfl hd hl hv q) k
theorem Good.iloadN (X : Stand p l e R s m args below meth c T locs cells slots) (hx : p.tables.exec = Jvm.exec) {pc pc' : Nat} {Ls : Array Slot} {k : Fin 4} {v : Int32} {st : List Value} (hp : pc + 1 = pc') (hd : decode c.code pc = .ok (.iload_n k, 1)) (hl : Ls[k.val]? = some (.val (.int v))) (k : Good p.tables e below s G (T.setTop (mkF m pc' Ls (.int v :: st)))) : Good p.tables e below s G (T.setTop (mkF m pc Ls st)) := by
  subst hp
  exact Good.go (fun _ q => XS.iloadN X.here hx rfl hd hl q) k
theorem Good.iload (X : Stand p l e R s m args below meth c T locs cells slots) (hx : p.tables.exec = Jvm.exec) {pc pc' : Nat} {Ls : Array Slot} {k : Nat} {v : Int32} {st : List Value} (hp : pc + 2 = pc') (hd : decode c.code pc = .ok (.iload k, 2)) (hl : Ls[k]? = some (.val (.int v))) (k : Good p.tables e below s G (T.setTop (mkF m pc' Ls (.int v :: st)))) : Good p.tables e below s G (T.setTop (mkF m pc Ls st)) := by
  subst hp
  exact Good.go (fun _ q => XS.iload X.here hx rfl hd hl q) k
theorem Good.lloadN (X : Stand p l e R s m args below meth c T locs cells slots) (hx : p.tables.exec = Jvm.exec) {pc pc' : Nat} {Ls : Array Slot} {k : Fin 4} {v : Int64} {st : List Value} (hp : pc + 1 = pc') (hd : decode c.code pc = .ok (.lload_n k, 1)) (hl : Ls[k.val]? = some (.val (.long v))) (k : Good p.tables e below s G (T.setTop (mkF m pc' Ls (.long v :: st)))) : Good p.tables e below s G (T.setTop (mkF m pc Ls st)) := by
  subst hp
  exact Good.go (fun _ q => XT.lloadN X.here hx rfl hd hl q) k
theorem Good.lload (X : Stand p l e R s m args below meth c T locs cells slots) (hx : p.tables.exec = Jvm.exec) {pc pc' : Nat} {Ls : Array Slot} {k : Nat} {v : Int64} {st : List Value} (hp : pc + 2 = pc') (hd : decode c.code pc = .ok (.lload k, 2)) (hl : Ls[k]? = some (.val (.long v))) (k : Good p.tables e below s G (T.setTop (mkF m pc' Ls (.long v :: st)))) : Good p.tables e below s G (T.setTop (mkF m pc Ls st)) := by
  subst hp
  exact Good.go (fun _ q => XT.lload X.here hx rfl hd hl q) k
theorem Good.dloadN (X : Stand p l e R s m args below meth c T locs cells slots) (hx : p.tables.exec = Jvm.exec) {pc pc' : Nat} {Ls : Array Slot} {k : Fin 4} {v : UInt64} {st : List Value} (hp : pc + 1 = pc') (hd : decode c.code pc = .ok (.dload_n k, 1)) (hl : Ls[k.val]? = some (.val (.double v))) (k : Good p.tables e below s G (T.setTop (mkF m pc' Ls (.double v :: st)))) : Good p.tables e below s G (T.setTop (mkF m pc Ls st)) := by
  subst hp
  refine Good.go (fun _ q => ?_) k
  show Steps p.tables e below (T.setTop { method := m, pc := pc, locals := Ls, stack := st, locked := none }) _
  jvm_step X.here [X.here.top, hx, hd, hl]
  exact q
theorem Good.dload (X : Stand p l e R s m args below meth c T locs cells slots) (hx : p.tables.exec = Jvm.exec) {pc pc' : Nat} {Ls : Array Slot} {k : Nat} {v : UInt64} {st : List Value} (hp : pc + 2 = pc') (hd : decode c.code pc = .ok (.dload k, 2)) (hl : Ls[k]? = some (.val (.double v))) (k : Good p.tables e below s G (T.setTop (mkF m pc' Ls (.double v :: st)))) : Good p.tables e below s G (T.setTop (mkF m pc Ls st)) := by
  subst hp
  refine Good.go (fun _ q => ?_) k
  show Steps p.tables e below (T.setTop { method := m, pc := pc, locals := Ls, stack := st, locked := none }) _
  jvm_step X.here [X.here.top, hx, hd, hl]
  exact q
theorem Good.iconst (X : Stand p l e R s m args below meth c T locs cells slots) (hx : p.tables.exec = Jvm.exec) {pc pc' : Nat} {Ls : Array Slot} {i : Int} {w : Int32} {st : List Value} (hp : pc + 1 = pc') (hd : decode c.code pc = .ok (.iconst i, 1)) (hv : Int32.ofInt i = w) (k : Good p.tables e below s G (T.setTop (mkF m pc' Ls (.int w :: st)))) : Good p.tables e below s G (T.setTop (mkF m pc Ls st)) := by
  subst hp; subst hv
  exact Good.go (fun _ q => XS.iconst X.here hx rfl hd q) k
theorem Good.bipush (X : Stand p l e R s m args below meth c T locs cells slots) (hx : p.tables.exec = Jvm.exec) {pc pc' : Nat} {Ls : Array Slot} {i : Int} {w : Int32} {st : List Value} (hp : pc + 2 = pc') (hd : decode c.code pc = .ok (.bipush i, 2)) (hv : (Int8.ofInt i).toInt32 = w) (k : Good p.tables e below s G (T.setTop (mkF m pc' Ls (.int w :: st)))) : Good p.tables e below s G (T.setTop (mkF m pc Ls st)) := by
  subst hp; subst hv
  exact Good.go (fun _ q => XS.bipush X.here hx rfl hd q) k
theorem Good.sipush (X : Stand p l e R s m args below meth c T locs cells slots) (hx : p.tables.exec = Jvm.exec) {pc pc' : Nat} {Ls : Array Slot} {i : Int} {w : Int32} {st : List Value} (hp : pc + 3 = pc') (hd : decode c.code pc = .ok (.sipush i, 3)) (hv : (Int16.ofInt i).toInt32 = w) (k : Good p.tables e below s G (T.setTop (mkF m pc' Ls (.int w :: st)))) : Good p.tables e below s G (T.setTop (mkF m pc Ls st)) := by
  subst hp; subst hv
  exact Good.go (fun _ q => XS.sipush X.here hx rfl hd q) k
theorem Good.dconst0 (X : Stand p l e R s m args below meth c T locs cells slots) (hx : p.tables.exec = Jvm.exec) {pc pc' : Nat} {Ls : Array Slot} {st : List Value} (hp : pc + 1 = pc') (hd : decode c.code pc = .ok (.dconst 0, 1))  (k : Good p.tables e below s G (T.setTop (mkF m pc' Ls (.double FP.dconst0 :: st)))) : Good p.tables e below s G (T.setTop (mkF m pc Ls st)) := by
  subst hp
  refine Good.go (fun _ q => ?_) k
  show Steps p.tables e below (T.setTop { method := m, pc := pc, locals := Ls, stack := st, locked := none }) _
  jvm_step X.here [X.here.top, hx, hd, dconst.sem]
  exact q
theorem Good.dconst1 (X : Stand p l e R s m args below meth c T locs cells slots) (hx : p.tables.exec = Jvm.exec) {pc pc' : Nat} {Ls : Array Slot} {st : List Value} (hp : pc + 1 = pc') (hd : decode c.code pc = .ok (.dconst 1, 1))  (k : Good p.tables e below s G (T.setTop (mkF m pc' Ls (.double FP.dconst1 :: st)))) : Good p.tables e below s G (T.setTop (mkF m pc Ls st)) := by
  subst hp
  refine Good.go (fun _ q => ?_) k
  show Steps p.tables e below (T.setTop { method := m, pc := pc, locals := Ls, stack := st, locked := none }) _
  jvm_step X.here [X.here.top, hx, hd, dconst.sem]
  exact q
theorem Good.aconstNull (X : Stand p l e R s m args below meth c T locs cells slots) (hx : p.tables.exec = Jvm.exec) {pc pc' : Nat} {Ls : Array Slot} {st : List Value} (hp : pc + 1 = pc') (hd : decode c.code pc = .ok (.aconst_null, 1))  (k : Good p.tables e below s G (T.setTop (mkF m pc' Ls (.null :: st)))) : Good p.tables e below s G (T.setTop (mkF m pc Ls st)) := by
  subst hp
  exact Good.go (fun _ q => XS.aconstNull X.here hx rfl hd q) k
theorem Good.iadd (X : Stand p l e R s m args below meth c T locs cells slots) (hx : p.tables.exec = Jvm.exec) {pc pc' : Nat} {Ls : Array Slot} {x y : Int32} {st : List Value} (hp : pc + 1 = pc') (hd : decode c.code pc = .ok (.iadd, 1))  (k : Good p.tables e below s G (T.setTop (mkF m pc' Ls (.int (x + y) :: st)))) : Good p.tables e below s G (T.setTop (mkF m pc Ls (.int y :: .int x :: st))) := by
  subst hp
  exact Good.go (fun _ q => XS.iadd X.here hx rfl hd rfl q) k
theorem Good.isub (X : Stand p l e R s m args below meth c T locs cells slots) (hx : p.tables.exec = Jvm.exec) {pc pc' : Nat} {Ls : Array Slot} {x y : Int32} {st : List Value} (hp : pc + 1 = pc') (hd : decode c.code pc = .ok (.isub, 1))  (k : Good p.tables e below s G (T.setTop (mkF m pc' Ls (.int (x - y) :: st)))) : Good p.tables e below s G (T.setTop (mkF m pc Ls (.int y :: .int x :: st))) := by
  subst hp
  exact Good.go (fun _ q => XS.isub X.here hx rfl hd rfl q) k
theorem Good.iand (X : Stand p l e R s m args below meth c T locs cells slots) (hx : p.tables.exec = Jvm.exec) {pc pc' : Nat} {Ls : Array Slot} {x y : Int32} {st : List Value} (hp : pc + 1 = pc') (hd : decode c.code pc = .ok (.iand, 1))  (k : Good p.tables e below s G (T.setTop (mkF m pc' Ls (.int (x &&& y) :: st)))) : Good p.tables e below s G (T.setTop (mkF m pc Ls (.int y :: .int x :: st))) := by
  subst hp
  exact Good.go (fun _ q => XS.iand X.here hx rfl hd rfl q) k
theorem Good.imul (X : Stand p l e R s m args below meth c T locs cells slots) (hx : p.tables.exec = Jvm.exec) {pc pc' : Nat} {Ls : Array Slot} {x y : Int32} {st : List Value} (hp : pc + 1 = pc') (hd : decode c.code pc = .ok (.imul, 1))  (k : Good p.tables e below s G (T.setTop (mkF m pc' Ls (.int (x * y) :: st)))) : Good p.tables e below s G (T.setTop (mkF m pc Ls (.int y :: .int x :: st))) := by
  subst hp
  exact Good.go (fun _ q => XS.imul X.here hx rfl hd rfl q) k
theorem Good.ixor (X : Stand p l e R s m args below meth c T locs cells slots) (hx : p.tables.exec = Jvm.exec) {pc pc' : Nat} {Ls : Array Slot} {x y : Int32} {st : List Value} (hp : pc + 1 = pc') (hd : decode c.code pc = .ok (.ixor, 1))  (k : Good p.tables e below s G (T.setTop (mkF m pc' Ls (.int (x ^^^ y) :: st)))) : Good p.tables e below s G (T.setTop (mkF m pc Ls (.int y :: .int x :: st))) := by
  subst hp
  exact Good.go (fun _ q => XT.ixor X.here hx rfl hd rfl q) k
theorem Good.iushr (X : Stand p l e R s m args below meth c T locs cells slots) (hx : p.tables.exec = Jvm.exec) {pc pc' : Nat} {Ls : Array Slot} {x y : Int32} {st : List Value} (hp : pc + 1 = pc') (hd : decode c.code pc = .ok (.iushr, 1))  (k : Good p.tables e below s G (T.setTop (mkF m pc' Ls (.int (XT.ushr x y) :: st)))) : Good p.tables e below s G (T.setTop (mkF m pc Ls (.int y :: .int x :: st))) := by
  subst hp
  exact Good.go (fun _ q => XT.iushr X.here hx rfl hd rfl q) k
theorem Good.ishr (X : Stand p l e R s m args below meth c T locs cells slots) (hx : p.tables.exec = Jvm.exec) {pc pc' : Nat} {Ls : Array Slot} {x y : Int32} {st : List Value} (hp : pc + 1 = pc') (hd : decode c.code pc = .ok (.ishr, 1))  (k : Good p.tables e below s G (T.setTop (mkF m pc' Ls (.int (x >>> (y &&& 31)) :: st)))) : Good p.tables e below s G (T.setTop (mkF m pc Ls (.int y :: .int x :: st))) := by
  subst hp
  exact Good.go (fun _ q => XT.ishr X.here hx rfl hd rfl q) k
theorem Good.irem (X : Stand p l e R s m args below meth c T locs cells slots) (hx : p.tables.exec = Jvm.exec) {pc pc' : Nat} {Ls : Array Slot} {x y : Int32} {st : List Value} (hp : pc + 1 = pc') (hd : decode c.code pc = .ok (.irem, 1)) (hy : y ≠ 0) (k : Good p.tables e below s G (T.setTop (mkF m pc' Ls (.int (x % y) :: st)))) : Good p.tables e below s G (T.setTop (mkF m pc Ls (.int y :: .int x :: st))) := by
  subst hp
  exact Good.go (fun _ q => iremM X hx rfl hd rfl hy q) k
theorem Good.ladd (X : Stand p l e R s m args below meth c T locs cells slots) (hx : p.tables.exec = Jvm.exec) {pc pc' : Nat} {Ls : Array Slot} {x y : Int64} {st : List Value} (hp : pc + 1 = pc') (hd : decode c.code pc = .ok (.ladd, 1))  (k : Good p.tables e below s G (T.setTop (mkF m pc' Ls (.long (x + y) :: st)))) : Good p.tables e below s G (T.setTop (mkF m pc Ls (.long y :: .long x :: st))) := by
  subst hp
  exact Good.go (fun _ q => XT.ladd X.here hx rfl hd rfl q) k
theorem Good.lsub (X : Stand p l e R s m args below meth c T locs cells slots) (hx : p.tables.exec = Jvm.exec) {pc pc' : Nat} {Ls : Array Slot} {x y : Int64} {st : List Value} (hp : pc + 1 = pc') (hd : decode c.code pc = .ok (.lsub, 1))  (k : Good p.tables e below s G (T.setTop (mkF m pc' Ls (.long (x - y) :: st)))) : Good p.tables e below s G (T.setTop (mkF m pc Ls (.long y :: .long x :: st))) := by
  subst hp
  exact Good.go (fun _ q => XT.lsub X.here hx rfl hd rfl q) k
theorem Good.lrem (X : Stand p l e R s m args below meth c T locs cells slots) (hx : p.tables.exec = Jvm.exec) {pc pc' : Nat} {Ls : Array Slot} {x y : Int64} {st : List Value} (hp : pc + 1 = pc') (hd : decode c.code pc = .ok (.lrem, 1)) (hy : y ≠ 0) (k : Good p.tables e below s G (T.setTop (mkF m pc' Ls (.long (x - (x / y) * y) :: st)))) : Good p.tables e below s G (T.setTop (mkF m pc Ls (.long y :: .long x :: st))) := by
  subst hp
  exact Good.go (fun _ q => XT.lrem X.here hx rfl hd rfl hy q) k
theorem Good.i2l (X : Stand p l e R s m args below meth c T locs cells slots) (hx : p.tables.exec = Jvm.exec) {pc pc' : Nat} {Ls : Array Slot} {x : Int32} {st : List Value} (hp : pc + 1 = pc') (hd : decode c.code pc = .ok (.i2l, 1))  (k : Good p.tables e below s G (T.setTop (mkF m pc' Ls (.long x.toInt64 :: st)))) : Good p.tables e below s G (T.setTop (mkF m pc Ls (.int x :: st))) := by
  subst hp
  exact Good.go (fun _ q => XT.i2l X.here hx rfl hd rfl q) k
theorem Good.i2b (X : Stand p l e R s m args below meth c T locs cells slots) (hx : p.tables.exec = Jvm.exec) {pc pc' : Nat} {Ls : Array Slot} {x : Int32} {st : List Value} (hp : pc + 1 = pc') (hd : decode c.code pc = .ok (.i2b, 1))  (k : Good p.tables e below s G (T.setTop (mkF m pc' Ls (.int x.toInt8.toInt32 :: st)))) : Good p.tables e below s G (T.setTop (mkF m pc Ls (.int x :: st))) := by
  subst hp
  exact Good.go (fun _ q => XT.i2b X.here hx rfl hd rfl q) k
theorem Good.i2c (X : Stand p l e R s m args below meth c T locs cells slots) (hx : p.tables.exec = Jvm.exec) {pc pc' : Nat} {Ls : Array Slot} {x : Int32} {st : List Value} (hp : pc + 1 = pc') (hd : decode c.code pc = .ok (.i2c, 1))  (k : Good p.tables e below s G (T.setTop (mkF m pc' Ls (.int x.toUInt32.toUInt16.toUInt32.toInt32 :: st)))) : Good p.tables e below s G (T.setTop (mkF m pc Ls (.int x :: st))) := by
  subst hp
  exact Good.go (fun _ q => XT.i2c X.here hx rfl hd rfl q) k
theorem Good.l2i (X : Stand p l e R s m args below meth c T locs cells slots) (hx : p.tables.exec = Jvm.exec) {pc pc' : Nat} {Ls : Array Slot} {x : Int64} {st : List Value} (hp : pc + 1 = pc') (hd : decode c.code pc = .ok (.l2i, 1))  (k : Good p.tables e below s G (T.setTop (mkF m pc' Ls (.int x.toInt32 :: st)))) : Good p.tables e below s G (T.setTop (mkF m pc Ls (.long x :: st))) := by
  subst hp
  exact Good.go (fun _ q => XT.l2i X.here hx rfl hd rfl q) k
theorem Good.lshr (X : Stand p l e R s m args below meth c T locs cells slots) (hx : p.tables.exec = Jvm.exec) {pc pc' : Nat} {Ls : Array Slot} {x : Int64} {y : Int32} {st : List Value} (hp : pc + 1 = pc') (hd : decode c.code pc = .ok (.lshr, 1))  (k : Good p.tables e below s G (T.setTop (mkF m pc' Ls (.long (x >>> (y.toInt64 &&& 63)) :: st)))) : Good p.tables e below s G (T.setTop (mkF m pc Ls (.int y :: .long x :: st))) := by
  subst hp
  exact Good.go (fun _ q => XT.lshr X.here hx rfl hd rfl q) k
theorem Good.i2d (X : Stand p l e R s m args below meth c T locs cells slots) (hx : p.tables.exec = Jvm.exec) {pc pc' : Nat} {Ls : Array Slot} {x : Int32} {st : List Value} (hp : pc + 1 = pc') (hd : decode c.code pc = .ok (.i2d, 1))  (k : Good p.tables e below s G (T.setTop (mkF m pc' Ls (.double (FP.i2d x) :: st)))) : Good p.tables e below s G (T.setTop (mkF m pc Ls (.int x :: st))) := by
  subst hp
  refine Good.go (fun _ q => ?_) k
  show Steps p.tables e below (T.setTop { method := m, pc := pc, locals := Ls, stack := (.int x :: st), locked := none }) _
  jvm_step X.here [X.here.top, hx, hd]
  exact q
theorem Good.l2d (X : Stand p l e R s m args below meth c T locs cells slots) (hx : p.tables.exec = Jvm.exec) {pc pc' : Nat} {Ls : Array Slot} {x : Int64} {st : List Value} (hp : pc + 1 = pc') (hd : decode c.code pc = .ok (.l2d, 1))  (k : Good p.tables e below s G (T.setTop (mkF m pc' Ls (.double (FP.l2d x) :: st)))) : Good p.tables e below s G (T.setTop (mkF m pc Ls (.long x :: st))) := by
  subst hp
  refine Good.go (fun _ q => ?_) k
  show Steps p.tables e below (T.setTop { method := m, pc := pc, locals := Ls, stack := (.long x :: st), locked := none }) _
  jvm_step X.here [X.here.top, hx, hd]
  exact q
theorem Good.d2l (X : Stand p l e R s m args below meth c T locs cells slots) (hx : p.tables.exec = Jvm.exec) {pc pc' : Nat} {Ls : Array Slot} {x : UInt64} {st : List Value} (hp : pc + 1 = pc') (hd : decode c.code pc = .ok (.d2l, 1))  (k : Good p.tables e below s G (T.setTop (mkF m pc' Ls (.long (FP.d2l x) :: st)))) : Good p.tables e below s G (T.setTop (mkF m pc Ls (.double x :: st))) := by
  subst hp
  refine Good.go (fun _ q => ?_) k
  show Steps p.tables e below (T.setTop { method := m, pc := pc, locals := Ls, stack := (.double x :: st), locked := none }) _
  jvm_step X.here [X.here.top, hx, hd]
  exact q
theorem Good.dadd (X : Stand p l e R s m args below meth c T locs cells slots) (hx : p.tables.exec = Jvm.exec) {pc pc' : Nat} {Ls : Array Slot} {x y : UInt64} {st : List Value} (hp : pc + 1 = pc') (hd : decode c.code pc = .ok (.dadd, 1)) (hn : NoNaN64 (FP.dadd x y)) (k : Good p.tables e below s G (T.setTop (mkF m pc' Ls (.double (FP.dadd x y) :: st)))) : Good p.tables e below s G (T.setTop (mkF m pc Ls (.double y :: .double x :: st))) := by
  subst hp
  refine Good.go (fun _ q => ?_) k
  show Steps p.tables e below (T.setTop { method := m, pc := pc, locals := Ls, stack := (.double y :: .double x :: st), locked := none }) _
  jvm_step X.here [X.here.top, hx, hd, Op.dadd.at_number X.here.top hn]
  exact q
theorem Good.dsub (X : Stand p l e R s m args below meth c T locs cells slots) (hx : p.tables.exec = Jvm.exec) {pc pc' : Nat} {Ls : Array Slot} {x y : UInt64} {st : List Value} (hp : pc + 1 = pc') (hd : decode c.code pc = .ok (.dsub, 1)) (hn : NoNaN64 (FP.dsub x y)) (k : Good p.tables e below s G (T.setTop (mkF m pc' Ls (.double (FP.dsub x y) :: st)))) : Good p.tables e below s G (T.setTop (mkF m pc Ls (.double y :: .double x :: st))) := by
  subst hp
  refine Good.go (fun _ q => ?_) k
  show Steps p.tables e below (T.setTop { method := m, pc := pc, locals := Ls, stack := (.double y :: .double x :: st), locked := none }) _
  jvm_step X.here [X.here.top, hx, hd, Op.dsub.at_number X.here.top hn]
  exact q
theorem Good.dmul (X : Stand p l e R s m args below meth c T locs cells slots) (hx : p.tables.exec = Jvm.exec) {pc pc' : Nat} {Ls : Array Slot} {x y : UInt64} {st : List Value} (hp : pc + 1 = pc') (hd : decode c.code pc = .ok (.dmul, 1)) (hn : NoNaN64 (FP.dmul x y)) (k : Good p.tables e below s G (T.setTop (mkF m pc' Ls (.double (FP.dmul x y) :: st)))) : Good p.tables e below s G (T.setTop (mkF m pc Ls (.double y :: .double x :: st))) := by
  subst hp
  refine Good.go (fun _ q => ?_) k
  show Steps p.tables e below (T.setTop { method := m, pc := pc, locals := Ls, stack := (.double y :: .double x :: st), locked := none }) _
  jvm_step X.here [X.here.top, hx, hd, Op.dmul.at_number X.here.top hn]
  exact q
theorem Good.ddiv (X : Stand p l e R s m args below meth c T locs cells slots) (hx : p.tables.exec = Jvm.exec) {pc pc' : Nat} {Ls : Array Slot} {x y : UInt64} {st : List Value} (hp : pc + 1 = pc') (hd : decode c.code pc = .ok (.ddiv, 1)) (hn : NoNaN64 (FP.ddiv x y)) (k : Good p.tables e below s G (T.setTop (mkF m pc' Ls (.double (FP.ddiv x y) :: st)))) : Good p.tables e below s G (T.setTop (mkF m pc Ls (.double y :: .double x :: st))) := by
  subst hp
  refine Good.go (fun _ q => ?_) k
  show Steps p.tables e below (T.setTop { method := m, pc := pc, locals := Ls, stack := (.double y :: .double x :: st), locked := none }) _
  jvm_step X.here [X.here.top, hx, hd, Op.ddiv.at_number X.here.top hn]
  exact q
theorem Good.dcmp (X : Stand p l e R s m args below meth c T locs cells slots) (hx : p.tables.exec = Jvm.exec) {pc pc' : Nat} {Ls : Array Slot} {x y : UInt64} {op : CmpOp} {st : List Value} (hp : pc + 1 = pc') (hd : decode c.code pc = .ok (.dcmp op, 1))  (k : Good p.tables e below s G (T.setTop (mkF m pc' Ls (.int (cmpValue (FP.dcmp x y) op) :: st)))) : Good p.tables e below s G (T.setTop (mkF m pc Ls (.double y :: .double x :: st))) := by
  subst hp
  refine Good.go (fun _ q => ?_) k
  show Steps p.tables e below (T.setTop { method := m, pc := pc, locals := Ls, stack := (.double y :: .double x :: st), locked := none }) _
  jvm_step X.here [X.here.top, hx, hd]
  exact q
theorem Good.dup (X : Stand p l e R s m args below meth c T locs cells slots) (hx : p.tables.exec = Jvm.exec) {pc pc' : Nat} {Ls : Array Slot} {x : Value} {st : List Value} (hp : pc + 1 = pc') (hd : decode c.code pc = .ok (.dup, 1)) (hc : x.category = 1) (k : Good p.tables e below s G (T.setTop (mkF m pc' Ls (x :: x :: st)))) : Good p.tables e below s G (T.setTop (mkF m pc Ls (x :: st))) := by
  subst hp
  exact Good.go (fun _ q => XS.dup X.here hx rfl hd rfl hc q) k
theorem Good.istoreN (X : Stand p l e R s m args below meth c T locs cells slots) (hx : p.tables.exec = Jvm.exec) {pc pc' : Nat} {Ls : Array Slot} {k : Fin 4} {x : Int32} {Ls' : Array Slot} {st : List Value} (hp : pc + 1 = pc') (hd : decode c.code pc = .ok (.istore_n k, 1)) (hl : storeLocals Ls k.val (.int x) = some Ls') (k : Good p.tables e below s G (T.setTop (mkF m pc' Ls' st))) : Good p.tables e below s G (T.setTop (mkF m pc Ls (.int x :: st))) := by
  subst hp
  exact Good.go (fun _ q => XS.istoreN X.here hx rfl hd rfl hl q) k
theorem Good.istore (X : Stand p l e R s m args below meth c T locs cells slots) (hx : p.tables.exec = Jvm.exec) {pc pc' : Nat} {Ls : Array Slot} {k : Nat} {x : Int32} {Ls' : Array Slot} {st : List Value} (hp : pc + 2 = pc') (hd : decode c.code pc = .ok (.istore k, 2)) (hl : storeLocals Ls k (.int x) = some Ls') (k : Good p.tables e below s G (T.setTop (mkF m pc' Ls' st))) : Good p.tables e below s G (T.setTop (mkF m pc Ls (.int x :: st))) := by
  subst hp
  exact Good.go (fun _ q => XS.istore X.here hx rfl hd rfl hl q) k
theorem Good.astoreN (X : Stand p l e R s m args below meth c T locs cells slots) (hx : p.tables.exec = Jvm.exec) {pc pc' : Nat} {Ls : Array Slot} {k : Fin 4} {x : Value} {Ls' : Array Slot} {st : List Value} (hp : pc + 1 = pc') (hd : decode c.code pc = .ok (.astore_n k, 1)) (hv : x.isRef = true) (hl : storeLocals Ls k.val x = some Ls') (k : Good p.tables e below s G (T.setTop (mkF m pc' Ls' st))) : Good p.tables e below s G (T.setTop (mkF m pc Ls (x :: st))) := by
  subst hp
  exact Good.go (fun _ q => XS.astoreN X.here hx rfl hd rfl hv hl q) k
theorem Good.astore (X : Stand p l e R s m args below meth c T locs cells slots) (hx : p.tables.exec = Jvm.exec) {pc pc' : Nat} {Ls : Array Slot} {k : Nat} {x : Value} {Ls' : Array Slot} {st : List Value} (hp : pc + 2 = pc') (hd : decode c.code pc = .ok (.astore k, 2)) (hv : x.isRef = true) (hl : storeLocals Ls k x = some Ls') (k : Good p.tables e below s G (T.setTop (mkF m pc' Ls' st))) : Good p.tables e below s G (T.setTop (mkF m pc Ls (x :: st))) := by
  subst hp
  exact Good.go (fun _ q => XS.astore X.here hx rfl hd rfl hv hl q) k
theorem Good.lstoreN (X : Stand p l e R s m args below meth c T locs cells slots) (hx : p.tables.exec = Jvm.exec) {pc pc' : Nat} {Ls : Array Slot} {k : Fin 4} {x : Int64} {Ls' : Array Slot} {st : List Value} (hp : pc + 1 = pc') (hd : decode c.code pc = .ok (.lstore_n k, 1)) (hl : storeLocals Ls k.val (.long x) = some Ls') (k : Good p.tables e below s G (T.setTop (mkF m pc' Ls' st))) : Good p.tables e below s G (T.setTop (mkF m pc Ls (.long x :: st))) := by
  subst hp
  exact Good.go (fun _ q => XT.lstoreN X.here hx rfl hd rfl hl q) k
theorem Good.lstore (X : Stand p l e R s m args below meth c T locs cells slots) (hx : p.tables.exec = Jvm.exec) {pc pc' : Nat} {Ls : Array Slot} {k : Nat} {x : Int64} {Ls' : Array Slot} {st : List Value} (hp : pc + 2 = pc') (hd : decode c.code pc = .ok (.lstore k, 2)) (hl : storeLocals Ls k (.long x) = some Ls') (k : Good p.tables e below s G (T.setTop (mkF m pc' Ls' st))) : Good p.tables e below s G (T.setTop (mkF m pc Ls (.long x :: st))) := by
  subst hp
  exact Good.go (fun _ q => XT.lstore X.here hx rfl hd rfl hl q) k
theorem Good.dstoreN (X : Stand p l e R s m args below meth c T locs cells slots) (hx : p.tables.exec = Jvm.exec) {pc pc' : Nat} {Ls : Array Slot} {k : Fin 4} {x : UInt64} {Ls' : Array Slot} {st : List Value} (hp : pc + 1 = pc') (hd : decode c.code pc = .ok (.dstore_n k, 1)) (hl : storeLocals Ls k.val (.double x) = some Ls') (k : Good p.tables e below s G (T.setTop (mkF m pc' Ls' st))) : Good p.tables e below s G (T.setTop (mkF m pc Ls (.double x :: st))) := by
  subst hp
  refine Good.go (fun _ q => ?_) k
  show Steps p.tables e below (T.setTop { method := m, pc := pc, locals := Ls, stack := (.double x :: st), locked := none }) _
  jvm_step X.here [X.here.top, hx, hd, hl]
  exact q
theorem Good.dstore (X : Stand p l e R s m args below meth c T locs cells slots) (hx : p.tables.exec = Jvm.exec) {pc pc' : Nat} {Ls : Array Slot} {k : Nat} {x : UInt64} {Ls' : Array Slot} {st : List Value} (hp : pc + 2 = pc') (hd : decode c.code pc = .ok (.dstore k, 2)) (hl : storeLocals Ls k (.double x) = some Ls') (k : Good p.tables e below s G (T.setTop (mkF m pc' Ls' st))) : Good p.tables e below s G (T.setTop (mkF m pc Ls (.double x :: st))) := by
  subst hp
  refine Good.go (fun _ q => ?_) k
  show Steps p.tables e below (T.setTop { method := m, pc := pc, locals := Ls, stack := (.double x :: st), locked := none }) _
  jvm_step X.here [X.here.top, hx, hd, hl]
  exact q
theorem Good.iinc (X : Stand p l e R s m args below meth c T locs cells slots) (hx : p.tables.exec = Jvm.exec) {pc pc' : Nat} {Ls : Array Slot} {k : Nat} {cst : Int} {x : Int32} {w : Int32} {Ls' : Array Slot} {st : List Value} (hp : pc + 3 = pc') (hd : decode c.code pc = .ok (.iinc k cst, 3)) (hl : Ls[k]? = some (.val (.int x))) (hv : Int32.ofInt cst = w) (hl' : storeLocals Ls k (.int (x + w)) = some Ls') (k : Good p.tables e below s G (T.setTop (mkF m pc' Ls' st))) : Good p.tables e below s G (T.setTop (mkF m pc Ls st)) := by
  subst hp; subst hv
  exact Good.go (fun _ q => XS.iinc X.here hx rfl hd hl hl' q) k
theorem Good.goto (X : Stand p l e R s m args below meth c T locs cells slots) (hx : p.tables.exec = Jvm.exec) {pc pc' : Nat} {Ls : Array Slot} {st : List Value} {o : Int} (hp : (pc : Int) + o = (pc' : Int)) (hd : decode c.code pc = .ok (.goto o, 3))  (k : Good p.tables e below s G (T.setTop (mkF m pc' Ls st))) : Good p.tables e below s G (T.setTop (mkF m pc Ls st)) :=
  Good.go (fun _ q => XS.goto X.here hx rfl (pc0 := pc) (pc' := pc') rfl hd (by omega) (by omega) q) k
theorem Good.ifYes (X : Stand p l e R s m args below meth c T locs cells slots) (hx : p.tables.exec = Jvm.exec) {pc pc' : Nat} {Ls : Array Slot} {cd : ClassFile.Cond} {x : Int32} {st : List Value} {o : Int} (hp : (pc : Int) + o = (pc' : Int)) (hd : decode c.code pc = .ok (.ifCond cd o, 3)) (hc : ifCond.holds cd x = true) (k : Good p.tables e below s G (T.setTop (mkF m pc' Ls st))) : Good p.tables e below s G (T.setTop (mkF m pc Ls (.int x :: st))) :=
  Good.go (fun _ q => XS.ifYes X.here hx rfl (pc0 := pc) (pc' := pc') rfl hd rfl hc (by omega) (by omega) q) k
theorem Good.ifNo (X : Stand p l e R s m args below meth c T locs cells slots) (hx : p.tables.exec = Jvm.exec) {pc pc' : Nat} {Ls : Array Slot} {cd : ClassFile.Cond} {o : Int} {x : Int32} {st : List Value} (hp : pc + 3 = pc') (hd : decode c.code pc = .ok (.ifCond cd o, 3)) (hc : ifCond.holds cd x = false) (k : Good p.tables e below s G (T.setTop (mkF m pc' Ls st))) : Good p.tables e below s G (T.setTop (mkF m pc Ls (.int x :: st))) := by
  subst hp
  exact Good.go (fun _ q => XS.ifNo X.here hx rfl hd rfl hc q) k
theorem Good.icmpYes (X : Stand p l e R s m args below meth c T locs cells slots) (hx : p.tables.exec = Jvm.exec) {pc pc' : Nat} {Ls : Array Slot} {cd : ClassFile.Cond} {x y : Int32} {st : List Value} {o : Int} (hp : (pc : Int) + o = (pc' : Int)) (hd : decode c.code pc = .ok (.if_icmp cd o, 3)) (hc : if_icmp.holds cd x y = true) (k : Good p.tables e below s G (T.setTop (mkF m pc' Ls st))) : Good p.tables e below s G (T.setTop (mkF m pc Ls (.int y :: .int x :: st))) :=
  Good.go (fun _ q => XS.icmpYes X.here hx rfl (pc0 := pc) (pc' := pc') rfl hd rfl hc (by omega) (by omega) q) k
theorem Good.icmpNo (X : Stand p l e R s m args below meth c T locs cells slots) (hx : p.tables.exec = Jvm.exec) {pc pc' : Nat} {Ls : Array Slot} {cd : ClassFile.Cond} {o : Int} {x y : Int32} {st : List Value} (hp : pc + 3 = pc') (hd : decode c.code pc = .ok (.if_icmp cd o, 3)) (hc : if_icmp.holds cd x y = false) (k : Good p.tables e below s G (T.setTop (mkF m pc' Ls st))) : Good p.tables e below s G (T.setTop (mkF m pc Ls (.int y :: .int x :: st))) := by
  subst hp
  exact Good.go (fun _ q => XS.icmpNo X.here hx rfl hd rfl hc q) k
theorem Good.ifnullYes (X : Stand p l e R s m args below meth c T locs cells slots) (hx : p.tables.exec = Jvm.exec) {pc pc' : Nat} {Ls : Array Slot} {st : List Value} {o : Int} (hp : (pc : Int) + o = (pc' : Int)) (hd : decode c.code pc = .ok (.ifnull o, 3))  (k : Good p.tables e below s G (T.setTop (mkF m pc' Ls st))) : Good p.tables e below s G (T.setTop (mkF m pc Ls (.null :: st))) :=
  Good.go (fun _ q => XS.ifnullYes X.here hx rfl (pc0 := pc) (pc' := pc') rfl hd rfl (by omega) (by omega) q) k
theorem Good.ifnullNo (X : Stand p l e R s m args below meth c T locs cells slots) (hx : p.tables.exec = Jvm.exec) {pc pc' : Nat} {Ls : Array Slot} {o : Int} {b : Addr} {st : List Value} (hp : pc + 3 = pc') (hd : decode c.code pc = .ok (.ifnull o, 3))  (k : Good p.tables e below s G (T.setTop (mkF m pc' Ls st))) : Good p.tables e below s G (T.setTop (mkF m pc Ls (.ref b :: st))) := by
  subst hp
  exact Good.go (fun _ q => XS.ifnullNo X.here hx rfl hd rfl q) k
theorem Good.acmpYes (X : Stand p l e R s m args below meth c T locs cells slots) (hx : p.tables.exec = Jvm.exec) {pc pc' : Nat} {Ls : Array Slot} {cd : ClassFile.ACond} {x y : Value} {st : List Value} {o : Int} (hp : (pc : Int) + o = (pc' : Int)) (hd : decode c.code pc = .ok (.if_acmp cd o, 3)) (h1 : x.isRef = true) (h2 : y.isRef = true) (hc : XT.acmp cd x y = true) (k : Good p.tables e below s G (T.setTop (mkF m pc' Ls st))) : Good p.tables e below s G (T.setTop (mkF m pc Ls (y :: x :: st))) :=
  Good.go (fun _ q => XT.acmpYes X.here hx rfl (pc0 := pc) (pc' := pc') rfl hd rfl h1 h2 hc (by omega) (by omega) q) k
theorem Good.acmpNo (X : Stand p l e R s m args below meth c T locs cells slots) (hx : p.tables.exec = Jvm.exec) {pc pc' : Nat} {Ls : Array Slot} {cd : ClassFile.ACond} {o : Int} {x y : Value} {st : List Value} (hp : pc + 3 = pc') (hd : decode c.code pc = .ok (.if_acmp cd o, 3)) (h1 : x.isRef = true) (h2 : y.isRef = true) (hc : XT.acmp cd x y = false) (k : Good p.tables e below s G (T.setTop (mkF m pc' Ls st))) : Good p.tables e below s G (T.setTop (mkF m pc Ls (y :: x :: st))) := by
  subst hp
  exact Good.go (fun _ q => XT.acmpNo X.here hx rfl hd rfl h1 h2 hc q) k
theorem Good.ifFork (X : Stand p l e R s m args below meth c T locs cells slots) (hx : p.tables.exec = Jvm.exec) {pc pc1 pc2 : Nat} {Ls : Array Slot} {cd : ClassFile.Cond} {o : Int} {x : Int32} {st : List Value} (hd : decode c.code pc = .ok (.ifCond cd o, 3)) (hp1 : (pc : Int) + o = (pc1 : Int)) (hp2 : pc + 3 = pc2) (k1 : ifCond.holds cd x = true → Good p.tables e below s G (T.setTop (mkF m pc1 Ls st))) (k2 : ifCond.holds cd x = false → Good p.tables e below s G (T.setTop (mkF m pc2 Ls st))) : Good p.tables e below s G (T.setTop (mkF m pc Ls (.int x :: st))) := by
  cases hc : ifCond.holds cd x
  · exact Good.ifNo X hx hp2 hd hc (k2 hc)
  · exact Good.ifYes X hx hp1 hd hc (k1 hc)
theorem Good.icmpFork (X : Stand p l e R s m args below meth c T locs cells slots) (hx : p.tables.exec = Jvm.exec) {pc pc1 pc2 : Nat} {Ls : Array Slot} {cd : ClassFile.Cond} {o : Int} {x y : Int32} {st : List Value} (hd : decode c.code pc = .ok (.if_icmp cd o, 3)) (hp1 : (pc : Int) + o = (pc1 : Int)) (hp2 : pc + 3 = pc2) (k1 : if_icmp.holds cd x y = true → Good p.tables e below s G (T.setTop (mkF m pc1 Ls st))) (k2 : if_icmp.holds cd x y = false → Good p.tables e below s G (T.setTop (mkF m pc2 Ls st))) : Good p.tables e below s G (T.setTop (mkF m pc Ls (.int y :: .int x :: st))) := by
  cases hc : if_icmp.holds cd x y
  · exact Good.icmpNo X hx hp2 hd hc (k2 hc)
  · exact Good.icmpYes X hx hp1 hd hc (k1 hc)
variable {Z : State} {a0 : Array Value} {h : Heap}
theorem Good.ldcI (X : Stand p l e R s m args below meth c T locs cells slots) (hx : p.tables.exec = Jvm.exec) (hZ : Z.Warmed39 s.vm) {own : String} {index : Nat} {v : Int32} (hown : s.vm.findClass own = some m.cls) (w : (Cond.constant own index v).before a0 Z = true) {pc pc' : Nat} {Ls : Array Slot} {st : List Value} (hp : pc + 2 = pc') (hd : decode c.code pc = .ok (.ldc index, 2)) (k : Good p.tables e below s G (T.setTop (mkF m pc' Ls (.int v :: st)))) : Good p.tables e below s G (T.setTop (mkF m pc Ls st)) := by
  subst hp
  exact Good.go (fun _ q => X.ldcInt hx hown (mvT hZ w) (g := mkF m pc Ls st) rfl hd _ q) k
theorem Good.ldc2J (X : Stand p l e R s m args below meth c T locs cells slots) (hx : p.tables.exec = Jvm.exec) (hZ : Z.Warmed39 s.vm) {own : String} {index : Nat} {v : Int64} (hown : s.vm.findClass own = some m.cls) (w : (Cond.constantLong own index v).before a0 Z = true) {pc pc' : Nat} {Ls : Array Slot} {st : List Value} (hp : pc + 3 = pc') (hd : decode c.code pc = .ok (.ldc2_w index, 3)) (k : Good p.tables e below s G (T.setTop (mkF m pc' Ls (.long v :: st)))) : Good p.tables e below s G (T.setTop (mkF m pc Ls st)) := by
  subst hp
  exact Good.go (fun _ q => X.ldc2Long hx hown (mvT hZ w) (g := mkF m pc Ls st) rfl hd _ q) k
theorem Good.ldc2D (X : Stand p l e R s m args below meth c T locs cells slots) (hx : p.tables.exec = Jvm.exec) (hZ : Z.Warmed39 s.vm) {own : String} {index : Nat} {v : UInt64} (hown : s.vm.findClass own = some m.cls) (w : (Cond.constantDouble own index v).before a0 Z = true) {pc pc' : Nat} {Ls : Array Slot} {st : List Value} (hp : pc + 3 = pc') (hd : decode c.code pc = .ok (.ldc2_w index, 3)) (k : Good p.tables e below s G (T.setTop (mkF m pc' Ls (.double v :: st)))) : Good p.tables e below s G (T.setTop (mkF m pc Ls st)) := by
  subst hp
  exact Good.go (fun _ q => X.ldc2DoubleC hx hown (mvT hZ w) (g := mkF m pc Ls st) rfl hd _ q) k
theorem Good.daload (X : Stand p l e R s m args below meth c T locs cells slots) (hx : p.tables.exec = Jvm.exec) (hZ : Z.Warmed39 s.vm) (eT : T.heap = h) {a : Addr} {cl : Cell} {j : Int32} {v : UInt64} (A : Arr Z h a cl .double) (hin : ¬ (j < 0 ∨ cl.slots.size ≤ j.toNatClampNeg)) (hv : cl.slots[j.toNatClampNeg]? = some (.double v)) {pc pc' : Nat} {Ls : Array Slot} {st : List Value} (hp : pc + 1 = pc') (hd : decode c.code pc = .ok (.daload, 1)) (k : Good p.tables e below s G (T.setTop (mkF m pc' Ls (.double v :: st)))) : Good p.tables e below s G (T.setTop (mkF m pc Ls (.int j :: .ref a :: st))) := by
  subst hp
  exact Good.go (fun _ q => X.daload hx (by rw [eT]; exact A.1) (State.isArrayOf_alike hZ.alike A.2.1) A.2.2 hin hv (g := mkF m pc Ls (.int j :: .ref a :: st)) rfl rfl hd _ q) k
theorem stD (X : Stand p l e R s m args below meth c T locs cells slots) (hx : p.tables.exec = Jvm.exec) (hZ : Z.Warmed39 s.vm) (eT : T.heap = h) {a : Addr} {cl : Cell} (A : Arr Z h a cl .double) {j : Int32} {x : UInt64} (hj : ¬ (j < 0 ∨ cl.slots.size ≤ j.toNatClampNeg)) {g : JFrame} (hg : g.method = m) {rest : List Value} (hs : g.stack = .double x :: .int j :: .ref a :: rest) (hd : decode c.code g.pc = .ok (.dastore, 1)) :
    ∃ T' h', Stand p l e R s m args below meth c T' (locs ++ [⟨a, j.toNatClampNeg⟩]) cells slots ∧ T'.heap = h' ∧ Wr h h' a j.toNatClampNeg (.double x) ∧ ∀ target, Steps p.tables e below (T'.setTop { g with pc := g.pc + 1, stack := rest }) target → Steps p.tables e below (T.setTop g) target := by
  obtain ⟨X', st⟩ := X.dastore hx (by rw [eT]; exact A.1) (State.isArrayOf_alike hZ.alike A.2.1) A.2.2 hj hg hs hd
  exact ⟨_, _, X', rfl, ⟨cl, A.1, A.plain, Nat.lt_of_not_le fun q => hj (Or.inr q), by rw [← eT]; rfl⟩, st⟩
theorem Good.dastore (X : Stand p l e R s m args below meth c T locs cells slots) (hx : p.tables.exec = Jvm.exec) (hZ : Z.Warmed39 s.vm) (eT : T.heap = h) {a : Addr} {cl : Cell} {j : Int32} {x : UInt64} (A : Arr Z h a cl .double) (hin : ¬ (j < 0 ∨ cl.slots.size ≤ j.toNatClampNeg)) {pc pc' : Nat} {Ls : Array Slot} {st : List Value} (hp : pc + 1 = pc') (hd : decode c.code pc = .ok (.dastore, 1))
    (k : ∀ T' h', Stand p l e R s m args below meth c T' (locs ++ [⟨a, j.toNatClampNeg⟩]) cells slots → T'.heap = h' → Wr h h' a j.toNatClampNeg (.double x) → Good p.tables e below s G (T'.setTop (mkF m pc' Ls st))) : Good p.tables e below s G (T.setTop (mkF m pc Ls (.double x :: .int j :: .ref a :: st))) := by
  subst hp
  obtain ⟨T', h', X', e', W', st'⟩ := stD X hx hZ eT A hin (g := mkF m pc Ls (.double x :: .int j :: .ref a :: st)) rfl rfl hd
  exact Good.go st' (k T' h' X' e' W')
theorem Good.iastore (X : Stand p l e R s m args below meth c T locs cells slots) (hx : p.tables.exec = Jvm.exec) (hZ : Z.Warmed39 s.vm) (eT : T.heap = h) {a : Addr} {cl : Cell} {j : Int32} {x : Int32} (A : Arr Z h a cl .int) (hin : ¬ (j < 0 ∨ cl.slots.size ≤ j.toNatClampNeg)) {pc pc' : Nat} {Ls : Array Slot} {st : List Value} (hp : pc + 1 = pc') (hd : decode c.code pc = .ok (.iastore, 1))
    (k : ∀ T' h', Stand p l e R s m args below meth c T' (locs ++ [⟨a, j.toNatClampNeg⟩]) cells slots → T'.heap = h' → Wr h h' a j.toNatClampNeg (.int x) → Good p.tables e below s G (T'.setTop (mkF m pc' Ls st))) : Good p.tables e below s G (T.setTop (mkF m pc Ls (.int x :: .int j :: .ref a :: st))) := by
  subst hp
  obtain ⟨T', h', X', e', W', st'⟩ := stI X hx hZ eT A hin (g := mkF m pc Ls (.int x :: .int j :: .ref a :: st)) rfl rfl hd
  exact Good.go st' (k T' h' X' e' W')
theorem Good.arraylength (X : Stand p l e R s m args below meth c T locs cells slots) (hx : p.tables.exec = Jvm.exec) (hZ : Z.Warmed39 s.vm) (eT : T.heap = h) {a : Addr} {cl : Cell} {ty : FieldType} (A : Arr Z h a cl ty) {n : Int32} (hn : cl.slots.size = n.toNatClampNeg) (hn0 : ¬ n < 0) {pc pc' : Nat} {Ls : Array Slot} {st : List Value} (hp : pc + 1 = pc') (hd : decode c.code pc = .ok (.arraylength, 1)) (k : Good p.tables e below s G (T.setTop (mkF m pc' Ls (.int n :: st)))) : Good p.tables e below s G (T.setTop (mkF m pc Ls (.ref a :: st))) := by
  subst hp
  refine Good.go (fun t q => X.arraylength hx (by rw [eT]; exact A.1) (State.isArrayOf_alike hZ.alike A.2.1) (g := mkF m pc Ls (.ref a :: st)) rfl rfl hd t ?_) k
  rw [len_of hn hn0]; exact q
theorem Good.getfield (X : Stand p l e R s m args below meth c T locs cells slots) (hx : p.tables.exec = Jvm.exec) (hZ : Z.Warmed39 s.vm) {own R0 O n d : String} {index : Nat} (hown : s.vm.findClass own = some m.cls) (w : (Cond.fieldLink own index R0 n d).before a0 Z = true) (via : Via Z R0 O n d) (eT : T.heap = h) {a : Addr} {v : Value} (F : Fld Z h a O n d v) {pc pc' : Nat} {Ls : Array Slot} {st : List Value} (hp : pc + 3 = pc') (hd : decode c.code pc = .ok (.getfield index, 3))
    (k : ∀ T', Stand p l e R s m args below meth c T' locs cells slots → T'.heap = h → Good p.tables e below s G (T'.setTop (mkF m pc' Ls (v :: st)))) : Good p.tables e below s G (T.setTop (mkF m pc Ls (.ref a :: st))) := by
  subst hp
  obtain ⟨T', X', e', st'⟩ := getF X hx hZ hown (host := "") (Or.inl w) via eT F (g := mkF m pc Ls (.ref a :: st)) rfl rfl hd
  exact Good.go st' (k T' X' e')
theorem Good.getstatic (X : Stand p l e R s m args below meth c T locs cells slots) (hx : p.tables.exec = Jvm.exec) (hZ : Z.Warmed39 s.vm) {own R0 O n d : String} {index : Nat} (hown : s.vm.findClass own = some m.cls) (w : (Cond.fieldLink own index R0 n d).before a0 Z = true) (via : Via Z R0 O n d) (eT : T.heap = h) {v : Value} (F : Sta Z h O n d v) {pc pc' : Nat} {Ls : Array Slot} {st : List Value} (hp : pc + 3 = pc') (hd : decode c.code pc = .ok (.getstatic index, 3))
    (k : ∀ T', Stand p l e R s m args below meth c T' locs cells slots → T'.heap = h → Good p.tables e below s G (T'.setTop (mkF m pc' Ls (v :: st)))) : Good p.tables e below s G (T.setTop (mkF m pc Ls st)) := by
  subst hp
  obtain ⟨T', X', e', st'⟩ := getS2 X hx hZ hown (host := "") (Or.inl w) via eT F (g := mkF m pc Ls st) rfl hd
  exact Good.go st' (k T' X' e')
theorem Good.putfield (X : Stand p l e R s m args below meth c T locs cells slots) (hx : p.tables.exec = Jvm.exec) (hZ : Z.Warmed39 s.vm) {own R0 O n d C : String} {index kk : Nat} {ty : FieldType} (hown : s.vm.findClass own = some m.cls) (w : (Cond.fieldLink own index R0 n d).before a0 Z = true) (via : Via Z R0 O n d) (eT : T.heap = h) {a : Addr} {v old : Value} (F : Fld Z h a O n d old) (E : Exa Z h a C) (L : (Cond.lays C O n d).before a0 Z = true ∨ ((Cond.laysFinal C O n d).before a0 Z = true ∧ own = O ∧ meth.name = "<init>")) (wi : (Cond.instantiable C kk).before a0 Z = true) (hty : parseFieldDescriptor d = some ty) (hn : narrow ty v = v) (hf : fits ty v = true) {pc pc' : Nat} {Ls : Array Slot} {st : List Value} (hp : pc + 3 = pc') (hd : decode c.code pc = .ok (.putfield index, 3))
    (k : ∀ T' h', Stand p l e R s m args below meth c T' (locs ++ [⟨a, RoadKit.slotOf Z O n d⟩]) cells slots → T'.heap = h' → Wr h h' a (RoadKit.slotOf Z O n d) v → Good p.tables e below s G (T'.setTop (mkF m pc' Ls st))) : Good p.tables e below s G (T.setTop (mkF m pc Ls (v :: .ref a :: st))) := by
  subst hp
  obtain ⟨T', h', X', e', W', st'⟩ := putF X hx hZ hown (host := "") (Or.inl w) via eT F E L wi hty hn hf (g := mkF m pc Ls (v :: .ref a :: st)) rfl rfl hd
  exact Good.go st' (k T' h' X' e' W')
theorem Good.new (X : Stand p l e R s m args below meth c T locs cells slots) (hx : p.tables.exec = Jvm.exec) (hZ : Z.Warmed39 s.vm) {own C : String} {index n : Nat} (hown : s.vm.findClass own = some m.cls) (w : (Cond.classLink own index C).before a0 Z = true) (wi : (Cond.instantiable C n).before a0 Z = true) (wz : (Cond.initialized C).before a0 Z = true) (eT : T.heap = h) {pc pc' : Nat} {Ls : Array Slot} {st : List Value} (hp : pc + 3 = pc') (hd : decode c.code pc = .ok (.new index, 3)) (hc : cells + 1 ≤ R.cells) (hl : slots + n ≤ R.slots)
    (k : ∀ T' h' b, b = h.size → Stand p l e R s m args below meth c T' locs (cells + 1) (slots + n) → T'.heap = h' → Ext h h' → Exa Z h' b C → (∀ {O nm d : String} {ty : FieldType}, Laid Z a0 C O nm d → parseFieldDescriptor d = some ty → Fld Z h' b O nm d (defaultValue ty)) → Good p.tables e below s G (T'.setTop (mkF m pc' Ls (.ref b :: st)))) : Good p.tables e below s G (T.setTop (mkF m pc Ls st)) := by
  subst hp
  obtain ⟨T', h', X', e', E', A', D', -, st'⟩ := newO X hx hZ hown w wi wz eT (g := mkF m pc Ls st) rfl hd hc hl
  exact Good.go st' (k T' h' _ rfl X' e' E' A' D')
theorem Good.newarray (X : Stand p l e R s m args below meth c T locs cells slots) (hx : p.tables.exec = Jvm.exec) (hZ : Z.Warmed39 s.vm) {aty : ArrayType} (w : (Cond.arrayClass (newarray.typeOf aty)).before a0 Z = true) (eT : T.heap = h) {n : Int32} {pc pc' : Nat} {Ls : Array Slot} {st : List Value} (hp : pc + 2 = pc') (hd : decode c.code pc = .ok (.newarray aty, 2)) (hn : ¬ n < 0) {cap : Nat} (hcap : n.toNatClampNeg ≤ cap) (hb : cap * 8 ≤ 536870912) (hc : cells + 1 ≤ R.cells) (hl : slots + cap ≤ R.slots)
    (k : ∀ T' h' cA b, b = h.size → Stand p l e R s m args below meth c T' locs (cells + 1) (slots + cap) → T'.heap = h' → Ext h h' → Arr Z h' b (newA cA (newarray.typeOf aty) n) (newarray.typeOf aty) → Good p.tables e below s G (T'.setTop (mkF m pc' Ls (.ref b :: st)))) : Good p.tables e below s G (T.setTop (mkF m pc Ls (.int n :: st))) := by
  subst hp
  obtain ⟨T', h', cA, X', e', E', A', st'⟩ := newP X hx hZ w eT (g := mkF m pc Ls (.int n :: st)) rfl hd rfl hn hcap hb hc hl
  exact Good.go st' (k T' h' cA _ rfl X' e' E' A')
theorem Good.initO (X : Stand p l e R s m args below meth c T locs cells slots) (hx : p.tables.exec = Jvm.exec) (hZ : Z.Warmed39 s.vm) {own : String} {idx : Nat} (hown : s.vm.findClass own = some m.cls) (w1 : (Cond.methodLink own idx Lib.objectInit).before a0 Z = true) (w2 : (Cond.instanceMethod Lib.objectInit).before a0 Z = true) (w3 : (Cond.code Lib.objectInit ⟨#[0xb1]⟩ 1 none).before a0 Z = true) (eT : T.heap = h) {a : Addr} {pc pc' : Nat} {Ls : Array Slot} {rest : List Value} (hp : pc + 3 = pc') (hsz : Ls.size = c.maxLocals) (hd : decode c.code pc = .ok (.invokespecial idx, 3)) (hf : 1 ≤ R.frames) {W : Nat} (hW : (rest.map fun v => v.category).sum ≤ W) (hlo : W + 12 ≤ R.locals)
    (k : ∀ T', Stand p l e R s m args below meth c T' locs cells slots → T'.heap = h → Good p.tables e below s G (T'.setTop (mkF m pc' Ls rest))) : Good p.tables e below s G (T.setTop (mkF m pc Ls (.ref a :: rest))) := by
  subst hp
  obtain ⟨T', X', e', st'⟩ := Jvm.RoadKit.initO X hx hZ hown w1 w2 w3 eT (g := mkF m pc Ls (.ref a :: rest)) rfl hsz rfl hd hf (W := W) (by simpa using hW) hlo
  exact Good.go st' (k T' X' e')
/-- the contract of a body: called with these arguments on this heap it returns, and Q holds -/
def Con (l : Launch) (Z : State) (y : MethodName) (bytes : ByteArray) (maxL : Nat) (ret : Option FieldType) (rm : Room) (as' : Array Value) (h : Heap) (Q : Option Value → Heap → List Loc → Prop) : Prop :=
  ∀ ws : List Cond, MetFree l y (head1 (Cond.code y bytes maxL ret :: ws) rm) (fun a U => a = as' ∧ Z.Warmed39 U.vm ∧ U.heap = h) (fun _ _ _ _ _ => True) (fun _ U o U' => ∃ v L, o = .returned v ∧ Q v U'.heap L ∧ FrameEnd U o U' L rm.cells rm.slots)
theorem Con.body {y : MethodName} {bytes : ByteArray} {maxL : Nat} {ret : Option FieldType} {rm : Room} {as' : Array Value} {Q : Option Value → Heap → List Loc → Prop} (hpl : plainFor y = true)
    (B : ∀ G : Option Value → Heap → List Loc → Nat → Nat → Prop, (∀ v h' L k n, Q v h' L → k ≤ rm.cells → n ≤ rm.slots → G v h' L k n) → ∀ (p : Program) (e : Env) (s : State) (m : MethodId) (below : List Frame) (meth : Method) (c : Code) (T : State), Stand p l e rm s m as' below meth c T [] 0 0 → p.tables.exec = Jvm.exec → c.code = bytes → c.maxLocals = maxL → s.vm.findClass y.cls = some m.cls → meth.name = y.name → meth.sig.returnType = ret → meth.locks = false → Z.Warmed39 s.vm → T.heap = h →
      Good p.tables e below s G (T.setTop (entryFrame m as' maxL))) : Con l Z y bytes maxL ret rm as' h Q := by
  intro ws
  refine MetFree.of_bodySF hpl hisR ?_
  intro p e s m args below meth c s₁ Bd hml hP hK
  obtain ⟨rfl, hZ, hh⟩ := hP
  obtain ⟨T, fs, v, L, k, n, q, h1, h2, h3, h4, hQ, hk, hn⟩ := B (fun v h' L k n => Q v h' L ∧ k ≤ rm.cells ∧ n ≤ rm.slots) (fun _ _ _ _ _ a b c => ⟨a, b, c⟩) p e s m below meth c s₁ (Stand.of_body Bd) Bd.exec Bd.bytes hml (findClass_of_methodNamed Bd.named) (name_of_methodNamed Bd.named Bd.method).1 Bd.returns Bd.notSynchronized hZ (by rw [← hh, Bd.state]; rfl)
  exact ⟨_, _, q, h1, h2, v, L, rfl, hQ, ⟨_, rfl⟩, h3, h4.mono hk hn⟩
theorem Good.callS (X : Stand p l e R s m args below meth c T locs cells slots) (hx : p.tables.exec = Jvm.exec) (hZ : Z.Warmed39 s.vm) {own : String} {index : Nat} {y : MethodName} {bytes : ByteArray} {maxL : Nat} {ret : Option FieldType} {rm : Room} {Q : Option Value → Heap → List Loc → Prop} (hown : s.vm.findClass own = some m.cls) (w1 : (Cond.methodLink own index y).before a0 Z = true) (w2 : (Cond.static y).before a0 Z = true) (w3 : (Cond.initialized y.cls).before a0 Z = true) (w4 : (Cond.code y bytes maxL ret).before a0 Z = true) (hy : y.cls ≠ "java/lang/invoke/MethodHandle" ∧ y.cls ≠ "java/lang/invoke/VarHandle") (eT : T.heap = h) {argsL rest : List Value} (K : Con l Z y bytes maxL ret rm argsL.toArray h Q) {ps : List FieldType} {r : Option FieldType} (hdesc : parseMethodDescriptor y.desc = some ⟨ps, r⟩) (hlen : argsL.length = ps.length) {pc pc' : Nat} {Ls : Array Slot} {st : List Value} (hp : pc + 3 = pc') (hsz : Ls.size = c.maxLocals) (hs : st = argsL.reverse ++ rest) (hd : decode c.code pc = .ok (.invokestatic index, 3)) {W : Nat} (hW : (rest.map fun v => v.category).sum ≤ W) (hf : rm.frames + 1 ≤ R.frames) (hlo : W + (maxL + 11) + rm.locals ≤ R.locals) (hce : cells + rm.cells ≤ R.cells) (hsl : slots + rm.slots ≤ R.slots)
    (k : ∀ v T' L, Stand p l e R s m args below meth c T' (locs ++ L) (cells + rm.cells) (slots + rm.slots) → Q v T'.heap L → Good p.tables e below s G (T'.setTop (mkF m pc' Ls (v.toList ++ rest)))) : Good p.tables e below s G (T.setTop (mkF m pc Ls st)) := by
  subst hp hs
  obtain ⟨v, vm₁, ⟨T', L', k', n'⟩, -, X', ⟨L, hQ, l1, l2, l3⟩, st⟩ := Jvm.LawKit.callS X hx (y := y) hown (mvT hZ w1) (mvT hZ w2) (mvT hZ w3) (mvT hZ w4) hy (backOf (W := W) (K []) hZ w4 w3 hf hlo) (g := mkF m pc Ls (argsL.reverse ++ rest)) rfl hsz (argsL := argsL) (rest := rest) (lenOf hdesc hlen) rfl (by simpa using hW) hd (fun _ _ => ⟨rfl, eT, hce, hsl⟩)
  dsimp only [Pt.U, Pt.locs, Pt.cells, Pt.slots] at X' l1 l2 l3 st hQ
  subst l1 l2 l3
  exact Good.go st (k v T' L X' hQ)
theorem Good.callN (X : Stand p l e R s m args below meth c T locs cells slots) (hx : p.tables.exec = Jvm.exec) (hZ : Z.Warmed39 s.vm) {own : String} {index : Nat} {y : MethodName} {bytes : ByteArray} {maxL : Nat} {rm : Room} {Q : Option Value → Heap → List Loc → Prop} (hyn : y.name = "<init>") (hown : s.vm.findClass own = some m.cls) (w1 : (Cond.methodLink own index y).before a0 Z = true) (w2 : (Cond.instanceMethod y).before a0 Z = true) (w3 : (Cond.initialized y.cls).before a0 Z = true) (w4 : (Cond.code y bytes maxL none).before a0 Z = true) (hy : y.cls ≠ "java/lang/invoke/MethodHandle" ∧ y.cls ≠ "java/lang/invoke/VarHandle") (eT : T.heap = h) {a : Addr} {argsL rest : List Value} (K : Con l Z y bytes maxL none rm (.ref a :: argsL).toArray h Q) {ps : List FieldType} {r : Option FieldType} (hdesc : parseMethodDescriptor y.desc = some ⟨ps, r⟩) (hlen : argsL.length = ps.length) {pc pc' : Nat} {Ls : Array Slot} {st : List Value} (hp : pc + 3 = pc') (hsz : Ls.size = c.maxLocals) (hs : st = argsL.reverse ++ .ref a :: rest) (hd : decode c.code pc = .ok (.invokespecial index, 3)) {W : Nat} (hW : (rest.map fun v => v.category).sum ≤ W) (hf : rm.frames + 1 ≤ R.frames) (hlo : W + (maxL + 11) + rm.locals ≤ R.locals) (hce : cells + rm.cells ≤ R.cells) (hsl : slots + rm.slots ≤ R.slots)
    (k : ∀ v T' L, Stand p l e R s m args below meth c T' (locs ++ L) (cells + rm.cells) (slots + rm.slots) → Q v T'.heap L → Good p.tables e below s G (T'.setTop (mkF m pc' Ls (v.toList ++ rest)))) : Good p.tables e below s G (T.setTop (mkF m pc Ls st)) := by
  subst hp hs
  obtain ⟨v, vm₁, ⟨T', L', k', n'⟩, -, X', ⟨L, hQ, l1, l2, l3⟩, st⟩ := X.specialBack hx (y := y) hyn hown (mvT hZ w1) (mvT hZ w2) (mvT hZ w4) hy (backOf (W := W) (K []) hZ w4 w3 hf hlo) (g := mkF m pc Ls (argsL.reverse ++ .ref a :: rest)) rfl hsz (Steps.refl _) (a := a) (argsL := argsL) (rest := rest) (lenOf hdesc hlen) rfl (by simpa using hW) hd (fun _ _ => ⟨rfl, eT, hce, hsl⟩)
  dsimp only [Pt.U, Pt.locs, Pt.cells, Pt.slots] at X' l1 l2 l3 st hQ
  subst l1 l2 l3
  exact Good.go (fun _ q => st.trans q) (k v T' L X' hQ)
theorem Good.callV (X : Stand p l e R s m args below meth c T locs cells slots) (hx : p.tables.exec = Jvm.exec) (hZ : Z.Warmed39 s.vm) {own C : String} {index : Nat} {y : MethodName} {bytes : ByteArray} {maxL : Nat} {ret : Option FieldType} {rm : Room} {Q : Option Value → Heap → List Loc → Prop} (hown : s.vm.findClass own = some m.cls) (w1 : (Cond.methodLink own index y).before a0 Z = true) (wd : (Cond.declares y).before a0 Z = true) (ws : (Cond.selects C y y).before a0 Z = true) (w2 : (Cond.instanceMethod y).before a0 Z = true) (w3 : (Cond.initialized y.cls).before a0 Z = true) (w4 : (Cond.code y bytes maxL ret).before a0 Z = true) (hy : y.cls ≠ "java/lang/invoke/MethodHandle" ∧ y.cls ≠ "java/lang/invoke/VarHandle") (eT : T.heap = h) {a : Addr} (E : Exa Z h a C) {argsL rest : List Value} (K : Con l Z y bytes maxL ret rm (.ref a :: argsL).toArray h Q) {ps : List FieldType} {r : Option FieldType} (hdesc : parseMethodDescriptor y.desc = some ⟨ps, r⟩) (hlen : argsL.length = ps.length) {pc pc' : Nat} {Ls : Array Slot} {st : List Value} (hp : pc + 3 = pc') (hsz : Ls.size = c.maxLocals) (hs : st = argsL.reverse ++ .ref a :: rest) (hd : decode c.code pc = .ok (.invokevirtual index, 3)) {W : Nat} (hW : (rest.map fun v => v.category).sum ≤ W) (hf : rm.frames + 1 ≤ R.frames) (hlo : W + (maxL + 11) + rm.locals ≤ R.locals) (hce : cells + rm.cells ≤ R.cells) (hsl : slots + rm.slots ≤ R.slots)
    (k : ∀ v T' L, Stand p l e R s m args below meth c T' (locs ++ L) (cells + rm.cells) (slots + rm.slots) → Q v T'.heap L → Good p.tables e below s G (T'.setTop (mkF m pc' Ls (v.toList ++ rest)))) : Good p.tables e below s G (T.setTop (mkF m pc Ls st)) := by
  subst hp hs
  obtain ⟨cq, kq, q1, q2, q3⟩ := isOf hZ eT E
  obtain ⟨v, vm₁, ⟨T', L', k', n'⟩, -, X', ⟨L, hQ, l1, l2, l3⟩, st⟩ := X.virtualBack hx (y := y) (z := y) hown (mvT hZ w1) (mvT hZ wd) (notFace_of_selects (args := #[]) (mvT hZ ws)) (mvT hZ ws) (mvT hZ w2) hy (backOf (W := W) (K []) hZ w4 w3 hf hlo) q1 q3 (g := mkF m pc Ls (argsL.reverse ++ .ref a :: rest)) rfl hsz (Steps.refl _) (argsL := argsL) (rest := rest) (lenOf hdesc hlen) rfl (by simpa using hW) hd (fun _ _ => ⟨rfl, eT, hce, hsl⟩)
  dsimp only [Pt.U, Pt.locs, Pt.cells, Pt.slots] at X' l1 l2 l3 st hQ
  subst l1 l2 l3
  exact Good.go (fun _ q => st.trans q) (k v T' L X' hQ)

theorem Good.iaddN (X : Stand p l e R s m args below meth c T locs cells slots) (hx : p.tables.exec = Jvm.exec) {pc pc' : Nat} {Ls : Array Slot} {x y : Nat} {st : List Value} (hp : pc + 1 = pc') (hd : decode c.code pc = .ok (.iadd, 1)) (k : Good p.tables e below s G (T.setTop (mkF m pc' Ls (.int (Int32.ofNat (x + y)) :: st)))) : Good p.tables e below s G (T.setTop (mkF m pc Ls (.int (Int32.ofNat y) :: .int (Int32.ofNat x) :: st))) :=
  Good.iadd X hx hp hd (by rw [← Int32.ofNat_add]; exact k)
theorem Good.imulN (X : Stand p l e R s m args below meth c T locs cells slots) (hx : p.tables.exec = Jvm.exec) {pc pc' : Nat} {Ls : Array Slot} {x y : Nat} {st : List Value} (hp : pc + 1 = pc') (hd : decode c.code pc = .ok (.imul, 1)) (k : Good p.tables e below s G (T.setTop (mkF m pc' Ls (.int (Int32.ofNat (x * y)) :: st)))) : Good p.tables e below s G (T.setTop (mkF m pc Ls (.int (Int32.ofNat y) :: .int (Int32.ofNat x) :: st))) :=
  Good.imul X hx hp hd (by rw [← Int32.ofNat_mul]; exact k)
theorem Good.iincN (X : Stand p l e R s m args below meth c T locs cells slots) (hx : p.tables.exec = Jvm.exec) {pc pc' : Nat} {Ls : Array Slot} {i x w : Nat} {cst : Int} {Ls' : Array Slot} {st : List Value} (hp : pc + 3 = pc') (hd : decode c.code pc = .ok (.iinc i cst, 3)) (hl : Ls[i]? = some (.val (.int (Int32.ofNat x)))) (hv : Int32.ofInt cst = Int32.ofNat w) (hl' : storeLocals Ls i (.int (Int32.ofNat (x + w))) = some Ls') (k : Good p.tables e below s G (T.setTop (mkF m pc' Ls' st))) : Good p.tables e below s G (T.setTop (mkF m pc Ls st)) :=
  Good.iinc X hx hp hd hl hv (by rw [← Int32.ofNat_add]; exact hl') k
/-- a slot that a one-word value may be laid over -/
def One (o : Slot) : Prop := o = .unset ∨ ∃ w, o = .val w ∧ w.category = 1
/-- two slots that a double may be laid over -/
def Two (o o' : Slot) : Prop := (o = .unset ∧ o' = .unset) ∨ ∃ d, o = .val (.double d) ∧ o' = .second
theorem One.u : One .unset := Or.inl rfl
theorem One.i (x : Int32) : One (.val (.int x)) := Or.inr ⟨_, rfl, rfl⟩
theorem Two.u : Two .unset .unset := Or.inl ⟨rfl, rfl⟩
theorem Two.d (x : UInt64) : Two (.val (.double x)) .second := Or.inr ⟨_, rfl, rfl⟩
theorem store2 {l : Array Slot} {i : Nat} {x : UInt64} {o o' : Slot} (h1 : l[i]? = some o) (h2 : l[i + 1]? = some o') (ho : Two o o') : storeLocals l i (.double x) = some ((l.setIfInBounds i (.val (.double x))).setIfInBounds (i + 1) .second) := by
  obtain ⟨hi, g1⟩ := Array.getElem?_eq_some_iff.mp h1
  obtain ⟨hj, g2⟩ := Array.getElem?_eq_some_iff.mp h2
  rcases ho with ⟨rfl, rfl⟩ | ⟨d, rfl, rfl⟩
  · simp [storeLocals, storeSelf, setAt, Value.category, hi, hj, g1, g2]
  · simp [storeLocals, storeSelf, setAt, Value.category, hi, hj, g1, g2]
    apply Array.ext_getElem?
    intro j
    simp only [Array.getElem?_setIfInBounds, Array.size_setIfInBounds]
    by_cases q1 : i + 1 = j
    · simp [q1]
    · by_cases q2 : i = j <;> simp [q1, q2]
end Kit
section Arrays
variable {Z : State} {h h' : Heap} {a b : Addr} {n : Nat} {f : Nat → UInt64} {sl : Nat} {v : Value} {ws : List Addr} {ty : FieldType}
/-- a double[] of n places, place i holds f i -/
def DA (Z : State) (h : Heap) (a : Addr) (n : Nat) (f : Nat → UInt64) : Prop := ∃ cl : Cell, Arr Z h a cl .double ∧ cl.slots.size = n ∧ ∀ i, i < n → cl.slots[i]? = some (.double (f i))
def updD (f : Nat → UInt64) (j : Nat) (x : UInt64) : Nat → UInt64 := fun i => if i = j then x else f i
/-- an array of n places -/
def AR (Z : State) (h : Heap) (a : Addr) (n : Nat) (ty : FieldType) : Prop := ∃ cl : Cell, Arr Z h a cl ty ∧ cl.slots.size = n
theorem DA.lt (F : DA Z h a n f) : a < h.size := by obtain ⟨c, A, -⟩ := F; exact A.lt
theorem DA.ext (F : DA Z h a n f) (E : Ext h h') : DA Z h' a n f := by obtain ⟨c, A, r⟩ := F; exact ⟨c, A.ext E, r⟩
theorem DA.other (F : DA Z h b n f) (W : Wr h h' a sl v) (q : b ≠ a) : DA Z h' b n f := by obtain ⟨c, A, r⟩ := F; exact ⟨c, A.other W q, r⟩
theorem DA.keep (F : DA Z h a n f) (K : Keep h h' ws) (q : a ∉ ws) : DA Z h' a n f := by obtain ⟨c, A, r⟩ := F; exact ⟨c, ⟨K.2.1 a c A.1 q, A.2⟩, r⟩
theorem AR.lt (F : AR Z h a n ty) : a < h.size := by obtain ⟨c, A, -⟩ := F; exact A.lt
theorem AR.ext (F : AR Z h a n ty) (E : Ext h h') : AR Z h' a n ty := by obtain ⟨c, A, r⟩ := F; exact ⟨c, A.ext E, r⟩
theorem AR.other (F : AR Z h b n ty) (W : Wr h h' a sl v) (q : b ≠ a) : AR Z h' b n ty := by obtain ⟨c, A, r⟩ := F; exact ⟨c, A.other W q, r⟩
theorem AR.keep (F : AR Z h a n ty) (K : Keep h h' ws) (q : a ∉ ws) : AR Z h' a n ty := by obtain ⟨c, A, r⟩ := F; exact ⟨c, ⟨K.2.1 a c A.1 q, A.2⟩, r⟩
theorem clampOf {j : Int32} {i : Nat} (hj : j.toInt = (i : Int)) : j.toNatClampNeg = i := by
  show j.toInt.toNat = i
  rw [hj]; rfl
theorem inOf {j : Int32} {i m : Nat} (hj : j.toInt = (i : Int)) (hi : i < m) : ¬ (j < 0 ∨ m ≤ j.toNatClampNeg) := by
  rw [clampOf hj, Int32.lt_iff_toInt_lt, hj]
  have e0 : (0 : Int32).toInt = 0 := rfl
  omega
theorem DA.new {k : ClassId} {z : Int32} (A : Arr Z h a (newA k (newarray.typeOf .double) z) (newarray.typeOf .double)) (hz : z.toInt = (n : Int)) : DA Z h a n (fun _ => 0) :=
  ⟨_, A, by rw [sz_new, clampOf hz], fun i hi => by
    show (Array.replicate z.toNatClampNeg (defaultValue .double))[i]? = _
    rw [clampOf hz, Array.getElem?_replicate, if_pos hi]; rfl⟩
theorem AR.new {k : ClassId} {z : Int32} (A : Arr Z h a (newA k ty z) ty) (hz : z.toInt = (n : Int)) : AR Z h a n ty := ⟨_, A, by rw [sz_new, clampOf hz]⟩
theorem DA.set (F : DA Z h a n f) {j : Nat} {x : UInt64} (W : Wr h h' a j (.double x)) : DA Z h' a n (updD f j x) := by
  obtain ⟨cl, A, S, H⟩ := F
  refine ⟨_, A.same W, by rw [sz_set]; exact S, fun i hi => ?_⟩
  show (cl.slots.setIfInBounds j (.double x))[i]? = some (.double (if i = j then x else f i))
  by_cases q : i = j
  · subst q
    rw [if_pos rfl, Array.getElem?_setIfInBounds_self_of_lt (by omega)]
  · rw [if_neg q, Array.getElem?_setIfInBounds_ne (fun z => q z.symm)]; exact H i hi
theorem AR.set (F : AR Z h a n ty) (W : Wr h h' a sl v) : AR Z h' a n ty := by
  obtain ⟨cl, A, S⟩ := F
  exact ⟨_, A.same W, by rw [sz_set]; exact S⟩
theorem DA.eq (F : DA Z h a n f) {g : Nat → UInt64} (q : ∀ i, i < n → f i = g i) : DA Z h a n g := by
  obtain ⟨cl, A, S, H⟩ := F
  exact ⟨cl, A, S, fun i hi => by rw [← q i hi]; exact H i hi⟩
theorem DA.ar (F : DA Z h a n f) : AR Z h a n .double := by obtain ⟨cl, A, S, -⟩ := F; exact ⟨cl, A, S⟩
variable {p : Program} {l : Launch} {e : Env} {R : Room} {s : State} {m : MethodId} {args : Array Value} {below : List Frame} {meth : Method} {c : Code} {T : State} {locs : List Loc} {cells slots : Nat} {G : Option Value → Heap → List Loc → Nat → Nat → Prop}
theorem Good.daloadF (X : Stand p l e R s m args below meth c T locs cells slots) (hx : p.tables.exec = Jvm.exec) (hZ : Z.Warmed39 s.vm) (eT : T.heap = h) (A : DA Z h a n f) {j : Int32} (i : Nat) (hj : j.toInt = (i : Int)) (hi : i < n) {w : UInt64} (hw : f i = w) {pc pc' : Nat} {Ls : Array Slot} {st : List Value} (hp : pc + 1 = pc') (hd : decode c.code pc = .ok (.daload, 1)) (k : Good p.tables e below s G (T.setTop (mkF m pc' Ls (.double w :: st)))) : Good p.tables e below s G (T.setTop (mkF m pc Ls (.int j :: .ref a :: st))) := by
  obtain ⟨cl, A, S, H⟩ := A
  exact Good.daload X hx hZ eT A (by rw [S]; exact inOf hj hi) (by rw [clampOf hj, H i hi, hw]) hp hd k
theorem Good.dastoreF (X : Stand p l e R s m args below meth c T locs cells slots) (hx : p.tables.exec = Jvm.exec) (hZ : Z.Warmed39 s.vm) (eT : T.heap = h) (A : DA Z h a n f) {j : Int32} (i : Nat) (hj : j.toInt = (i : Int)) (hi : i < n) {x : UInt64} {pc pc' : Nat} {Ls : Array Slot} {st : List Value} (hp : pc + 1 = pc') (hd : decode c.code pc = .ok (.dastore, 1))
    (k : ∀ T' h', Stand p l e R s m args below meth c T' (locs ++ [⟨a, i⟩]) cells slots → T'.heap = h' → Wr h h' a i (.double x) → DA Z h' a n (updD f i x) → Good p.tables e below s G (T'.setTop (mkF m pc' Ls st))) : Good p.tables e below s G (T.setTop (mkF m pc Ls (.double x :: .int j :: .ref a :: st))) := by
  have A0 := A
  obtain ⟨cl, A, S, H⟩ := A
  refine Good.dastore X hx hZ eT A (by rw [S]; exact inOf hj hi) hp hd fun T' h' X' e' W' => ?_
  rw [clampOf hj] at X' W'
  exact k T' h' X' e' W' (A0.set W')
theorem Good.iastoreF (X : Stand p l e R s m args below meth c T locs cells slots) (hx : p.tables.exec = Jvm.exec) (hZ : Z.Warmed39 s.vm) (eT : T.heap = h) (A : AR Z h a n .int) {j : Int32} (i : Nat) (hj : j.toInt = (i : Int)) (hi : i < n) {x : Int32} {pc pc' : Nat} {Ls : Array Slot} {st : List Value} (hp : pc + 1 = pc') (hd : decode c.code pc = .ok (.iastore, 1))
    (k : ∀ T' h', Stand p l e R s m args below meth c T' (locs ++ [⟨a, i⟩]) cells slots → T'.heap = h' → Wr h h' a i (.int x) → AR Z h' a n .int → Good p.tables e below s G (T'.setTop (mkF m pc' Ls st))) : Good p.tables e below s G (T.setTop (mkF m pc Ls (.int x :: .int j :: .ref a :: st))) := by
  have A0 := A
  obtain ⟨cl, A, S⟩ := A
  refine Good.iastore X hx hZ eT A (by rw [S]; exact inOf hj hi) hp hd fun T' h' X' e' W' => ?_
  rw [clampOf hj] at X' W'
  exact k T' h' X' e' W' (A0.set W')
theorem Good.alenF (X : Stand p l e R s m args below meth c T locs cells slots) (hx : p.tables.exec = Jvm.exec) (hZ : Z.Warmed39 s.vm) (eT : T.heap = h) (A : DA Z h a n f) {z : Int32} (hz : z.toInt = (n : Int)) {pc pc' : Nat} {Ls : Array Slot} {st : List Value} (hp : pc + 1 = pc') (hd : decode c.code pc = .ok (.arraylength, 1)) (k : Good p.tables e below s G (T.setTop (mkF m pc' Ls (.int z :: st)))) : Good p.tables e below s G (T.setTop (mkF m pc Ls (.ref a :: st))) := by
  obtain ⟨cl, A, S, H⟩ := A
  refine Good.arraylength X hx hZ eT A (n := z) (by rw [S, clampOf hz]) ?_ hp hd k
  rw [Int32.lt_iff_toInt_lt, hz]
  have e0 : (0 : Int32).toInt = 0 := rfl
  omega
end Arrays
section Chars
variable {p : Program} {l : Launch} {e : Env} {R : Room} {s : State} {m : MethodId} {args : Array Value} {below : List Frame} {meth : Method} {c : Code} {T : State} {locs : List Loc} {cells slots : Nat} {G : Option Value → Heap → List Loc → Nat → Nat → Prop} {Z : State} {a0 : Array Value} {h : Heap}
/-- a char laid into an array of two, whose values are known -/
theorem Good.castoreV (X : Stand p l e R s m args below meth c T locs cells slots) (hx : p.tables.exec = Jvm.exec) (hZ : Z.Warmed39 s.vm) (eT : T.heap = h) {a : Addr} {kC : ClassId} {z j x : Int32} {vs : List Value} {dv : Value} (A : Arv Z h a kC .char z vs dv) (i : Nat) (hj : j.toInt = (i : Int)) (hi : (i : Int) < z.toInt) (hl : i < vs.length) {pc pc' : Nat} {Ls : Array Slot} {st : List Value} (hp : pc + 1 = pc') (hd : decode c.code pc = .ok (.castore, 1))
    (k : ∀ T' h', Stand p l e R s m args below meth c T' (locs ++ [⟨a, i⟩]) cells slots → T'.heap = h' → Wr h h' a i (.int (nar .char x)) → Arv Z h' a kC .char z (vs.set i (.int (nar .char x))) dv → Good p.tables e below s G (T'.setTop (mkF m pc' Ls st))) : Good p.tables e below s G (T.setTop (mkF m pc Ls (.int x :: .int j :: .ref a :: st))) := by
  subst hp
  obtain ⟨cl, A, q1, S, q3, H, U⟩ := A
  have hin : ¬ (j < 0 ∨ cl.slots.size ≤ j.toNatClampNeg) := by
    rw [S]
    refine inOf hj ?_
    show i < z.toInt.toNat
    omega
  obtain ⟨T', h', X', e', W', st'⟩ := stC X hx hZ eT A hin (g := mkF m pc Ls (.int x :: .int j :: .ref a :: st)) rfl rfl hd
  have V := Arv.set A q1 S q3 H U (fits_nar_char x) W' i (clampOf hj) hl
  rw [clampOf hj] at X' W'
  exact Good.go st' (k T' h' X' e' W' V)
/-- a constructor paid by a Back -/
theorem Good.callNB (X : Stand p l e R s m args below meth c T locs cells slots) (hx : p.tables.exec = Jvm.exec) (hZ : Z.Warmed39 s.vm) {own : String} {index : Nat} {y : MethodName} {bytes : ByteArray} {maxL kc ks : Nat} {Q : Option Value → Heap → List Loc → Prop} (hyn : y.name = "<init>") (hown : s.vm.findClass own = some m.cls) (w1 : (Cond.methodLink own index y).before a0 Z = true) (w2 : (Cond.instanceMethod y).before a0 Z = true) (w4 : (Cond.code y bytes maxL none).before a0 Z = true) (hy : y.cls ≠ "java/lang/invoke/MethodHandle" ∧ y.cls ≠ "java/lang/invoke/VarHandle") (eT : T.heap = h) {a : Addr} {argsL rest : List Value} {W : Nat}
    (K : Back l R p e below s args y 3 W (fun P a' => a' = (.ref a :: argsL).toArray ∧ P.U.heap = h ∧ P.cells + kc ≤ R.cells ∧ P.slots + ks ≤ R.slots) (fun P _ v B => ∃ L, Q v B.U.heap L ∧ B.locs = P.locs ++ L ∧ B.cells = P.cells + kc ∧ B.slots = P.slots + ks)) {ps : List FieldType} {r : Option FieldType} (hdesc : parseMethodDescriptor y.desc = some ⟨ps, r⟩) (hlen : argsL.length = ps.length) {pc pc' : Nat} {Ls : Array Slot} {st : List Value} (hp : pc + 3 = pc') (hsz : Ls.size = c.maxLocals) (hs : st = argsL.reverse ++ .ref a :: rest) (hd : decode c.code pc = .ok (.invokespecial index, 3)) (hW : (rest.map fun v => v.category).sum ≤ W) (hce : cells + kc ≤ R.cells) (hsl : slots + ks ≤ R.slots)
    (k : ∀ v T' L, Stand p l e R s m args below meth c T' (locs ++ L) (cells + kc) (slots + ks) → Q v T'.heap L → Good p.tables e below s G (T'.setTop (mkF m pc' Ls (v.toList ++ rest)))) : Good p.tables e below s G (T.setTop (mkF m pc Ls st)) := by
  subst hp hs
  obtain ⟨v, vm₁, ⟨T', L', k', n'⟩, -, X', ⟨L, hQ, l1, l2, l3⟩, st⟩ := X.specialBack hx (y := y) hyn hown (mvT hZ w1) (mvT hZ w2) (mvT hZ w4) hy K (g := mkF m pc Ls (argsL.reverse ++ .ref a :: rest)) rfl hsz (Steps.refl _) (a := a) (argsL := argsL) (rest := rest) (lenOf hdesc hlen) rfl (by simpa using hW) hd (fun _ _ => ⟨rfl, eT, hce, hsl⟩)
  dsimp only [Pt.U, Pt.locs, Pt.cells, Pt.slots] at X' l1 l2 l3 st hQ
  subst l1 l2 l3
  exact Good.go (fun _ q => st.trans q) (k v T' L X' hQ)
end Chars
end Jvm.OwnKit
namespace Jvm.Pilot.@@N@@
open Jvm Jvm.ClassFile Sem Op Lib Jvm.Free Jvm.Stand Jvm.LawKit Jvm.RoadKit Jvm.OwnKit Jvm.Free.Fl Bundle Jvm.Pilot.@@N@@.Jvm.D
theorem own_nar {v : Value} (h : v.isRef = true) : narrow (.array .double) v = v := by rcases ref_cases h with rfl | ⟨a, rfl⟩ <;> rfl
theorem own_fit {v : Value} (h : v.isRef = true) : fits (.array .double) v = true := by rcases ref_cases h with rfl | ⟨a, rfl⟩ <;> rfl
theorem own_and3 (x : Int32) : ∃ k : Int32, x &&& (3 : Int32) = k ∧ ¬ k < 0 ∧ k.toNatClampNeg ≤ 3 ∧ ∃ n : Nat, n ≤ 3 ∧ k.toInt = (n : Int) := by
  refine ⟨_, rfl, ?_⟩
  have h : (x &&& (3 : Int32)).toBitVec.toNat ≤ 3 := by
    simp only [Int32.toBitVec_and, BitVec.toNat_and]
    exact Nat.and_le_right
  have e : x &&& (3 : Int32) = Int32.ofNat (x &&& (3 : Int32)).toBitVec.toNat := by
    apply Int32.toBitVec_inj.mp
    show _ = BitVec.ofNat 32 _
    rw [BitVec.ofNat_toNat]; simp
  generalize (x &&& (3 : Int32)).toBitVec.toNat = k at h e
  rw [e]
  match k, h with
  | 0, _ => exact ⟨by decide, by decide, 0, by decide, by decide⟩
  | 1, _ => exact ⟨by decide, by decide, 1, by decide, by decide⟩
  | 2, _ => exact ⟨by decide, by decide, 2, by decide, by decide⟩
  | 3, _ => exact ⟨by decide, by decide, 3, by decide, by decide⟩
theorem own_pos {k : Int32} {n : Nat} (hk : k.toInt = (n : Int)) (h : ifCond.holds .le k = false) : 0 < n := by
  rw [if0] at h
  by_cases q : (0 : Int32) < k
  · rw [Int32.lt_iff_toInt_lt, hk] at q
    have e0 : (0 : Int32).toInt = 0 := rfl
    omega
  · rw [(flt q).2.2.2] at h; cases h
theorem own_eq0 {x : Int32} (h : ifCond.holds .eq x = true) : x = 0 := by simpa [ifCond.holds] using h
theorem own_eq1 {x : Int32} (h : x = 0 ∨ x = 1) (hc : ifCond.holds .eq x = false) : x = 1 := by
  rcases h with rfl | rfl
  · cases hc
  · rfl
def nn : Value → Int32
  | .null => 0
  | _ => 1
theorem d_init_0 : decode prog_41_method_1_code 0 = .ok (.aload_n 0, 1) := by decide +kernel
theorem d_init_1 : decode prog_41_method_1_code 1 = .ok (.invokespecial 1, 3) := by decide +kernel
theorem d_init_4 : decode prog_41_method_1_code 4 = .ok (.aload_n 0, 1) := by decide +kernel
theorem d_init_5 : decode prog_41_method_1_code 5 = .ok (.aload_n 1, 1) := by decide +kernel
theorem d_init_6 : decode prog_41_method_1_code 6 = .ok (.putfield 7, 3) := by decide +kernel
theorem d_init_9 : decode prog_41_method_1_code 9 = .ok (.aload_n 0, 1) := by decide +kernel
theorem d_init_10 : decode prog_41_method_1_code 10 = .ok (.aload_n 2, 1) := by decide +kernel
theorem d_init_11 : decode prog_41_method_1_code 11 = .ok (.putfield 13, 3) := by decide +kernel
theorem d_init_14 : decode prog_41_method_1_code 14 = .ok (.return_, 1) := by decide +kernel
theorem d_min_0 : decode prog_41_method_2_code 0 = .ok (.new 8, 3) := by decide +kernel
theorem d_min_3 : decode prog_41_method_2_code 3 = .ok (.dup, 1) := by decide +kernel
theorem d_min_4 : decode prog_41_method_2_code 4 = .ok (.aload_n 0, 1) := by decide +kernel
theorem d_min_5 : decode prog_41_method_2_code 5 = .ok (.aload_n 1, 1) := by decide +kernel
theorem d_min_6 : decode prog_41_method_2_code 6 = .ok (.invokespecial 16, 3) := by decide +kernel
theorem d_min_9 : decode prog_41_method_2_code 9 = .ok (.areturn, 1) := by decide +kernel
theorem d_inf_0 : decode prog_41_method_3_code 0 = .ok (.new 8, 3) := by decide +kernel
theorem d_inf_3 : decode prog_41_method_3_code 3 = .ok (.dup, 1) := by decide +kernel
theorem d_inf_4 : decode prog_41_method_3_code 4 = .ok (.aconst_null, 1) := by decide +kernel
theorem d_inf_5 : decode prog_41_method_3_code 5 = .ok (.aload_n 0, 1) := by decide +kernel
theorem d_inf_6 : decode prog_41_method_3_code 6 = .ok (.invokespecial 16, 3) := by decide +kernel
theorem d_inf_9 : decode prog_41_method_3_code 9 = .ok (.areturn, 1) := by decide +kernel
theorem d_fea_0 : decode prog_41_method_4_code 0 = .ok (.aload_n 0, 1) := by decide +kernel
theorem d_fea_1 : decode prog_41_method_4_code 1 = .ok (.getfield 7, 3) := by decide +kernel
theorem d_fea_4 : decode prog_41_method_4_code 4 = .ok (.ifnull 7, 3) := by decide +kernel
theorem d_fea_7 : decode prog_41_method_4_code 7 = .ok (.iconst 1, 1) := by decide +kernel
theorem d_fea_8 : decode prog_41_method_4_code 8 = .ok (.goto 4, 3) := by decide +kernel
theorem d_fea_11 : decode prog_41_method_4_code 11 = .ok (.iconst 0, 1) := by decide +kernel
theorem d_fea_12 : decode prog_41_method_4_code 12 = .ok (.ireturn, 1) := by decide +kernel
theorem d_x_0 : decode prog_41_method_8_code 0 = .ok (.aload_n 0, 1) := by decide +kernel
theorem d_x_1 : decode prog_41_method_8_code 1 = .ok (.getfield 7, 3) := by decide +kernel
theorem d_x_4 : decode prog_41_method_8_code 4 = .ok (.areturn, 1) := by decide +kernel
theorem d_rec_0 : decode jdk_30_method_1_code 0 = .ok (.aload_n 0, 1) := by decide +kernel
theorem d_rec_1 : decode jdk_30_method_1_code 1 = .ok (.invokespecial 1, 3) := by decide +kernel
theorem d_rec_4 : decode jdk_30_method_1_code 4 = .ok (.return_, 1) := by decide +kernel
theorem pn_o : plainName "com/example/vetted_terms/vettedterms/feedback/DualActiveSet$Outcome" = true := by first | (simp [plainName, overriddenIn]; done) | decide +kernel
theorem pn_r : plainName "java/lang/Record" = true := by first | (simp [plainName, overriddenIn]; done) | decide +kernel
theorem pn_0 : plainName "com/example/vetted_terms/vettedterms/feedback/OutcomeFeasiblePinLaw" = true := by first | (simp [plainName, overriddenIn]; done) | decide +kernel
theorem pd_0 : parseMethodDescriptor "()V" = some ⟨[], none⟩ := by decide +kernel
theorem pd_1 : parseMethodDescriptor "([D[D)V" = some ⟨[(.array .double), (.array .double)], none⟩ := by decide +kernel
theorem pd_2 : parseMethodDescriptor "()Z" = some ⟨[], some .boolean⟩ := by decide +kernel
theorem pd_3 : parseMethodDescriptor "()[D" = some ⟨[], some (.array .double)⟩ := by decide +kernel
theorem pd_4 : parseMethodDescriptor "([D)Lcom/example/vetted_terms/vettedterms/feedback/DualActiveSet$Outcome;" = some ⟨[(.array .double)], some (.object "com/example/vetted_terms/vettedterms/feedback/DualActiveSet$Outcome")⟩ := by decide +kernel
theorem pd_5 : parseMethodDescriptor "([D[D)Lcom/example/vetted_terms/vettedterms/feedback/DualActiveSet$Outcome;" = some ⟨[(.array .double), (.array .double)], some (.object "com/example/vetted_terms/vettedterms/feedback/DualActiveSet$Outcome")⟩ := by decide +kernel
set_option maxRecDepth 65536 in
set_option maxHeartbeats 40000000 in
theorem c_rec (l : Launch) (Z : State) (a0 : Array Value) (hw : ∀ d ∈ tables_1, d.before a0 Z = true) (a : Addr) (h0 : Heap) :
    Con l Z (⟨"java/lang/Record", "<init>", "()V"⟩ : MethodName) jdk_30_method_1_code 1 none ({ frames := 1, cells := 0, slots := 0, locals := 12 } : Room) #[.ref a] h0 (fun v h L => v = none ∧ h = h0 ∧ L = []) := by
  refine Con.body (plainFor_of_name pn_r) ?_
  intro G hG p e s m below meth c T X hx hby hml hown hnm hret hlk hZ e0
  rw [show entryFrame m #[.ref a] 1 = mkF m 0 #[.val (.ref a)] [] from by first | rfl | (simp [entryFrame, mkF, argsToLocals, Value.category, maxLocals]; done)]
  refine Good.aloadN X hx (pc' := 1) rfl (hb hby d_rec_0) rfl rfl ?_
  refine Good.initO X hx hZ hown (hw _ (List.mem_of_getElem? (i := 11) rfl)) (hw _ (List.mem_of_getElem? (i := 12) rfl)) (hw _ (List.mem_of_getElem? (i := 13) rfl)) e0 (pc' := 4) rfl (by rw [hml]; rfl) (hb hby d_rec_1) (by decide) (W := 0) (Nat.le_of_eq rfl) (by decide) fun T1 X1 e1 => ?_
  exact Good.ret0 X1 hx hlk hret (hb hby d_rec_4) (hG _ _ _ _ _ (⟨rfl, e1, rfl⟩) (by decide) (by decide))
set_option maxRecDepth 65536 in
set_option maxHeartbeats 40000000 in
theorem c_init (l : Launch) (Z : State) (a0 : Array Value) (hw : ∀ d ∈ tables_1, d.before a0 Z = true) (a : Addr) (vx vm u1 u2 : Value) (hvx : vx.isRef = true) (hvm : vm.isRef = true) (h0 : Heap) (n0 : Nat) (Z0 : n0 ≤ h0.size) (Ea : Exa Z h0 a "com/example/vetted_terms/vettedterms/feedback/DualActiveSet$Outcome") (F_x : Fld Z h0 a "com/example/vetted_terms/vettedterms/feedback/DualActiveSet$Outcome" "x" "[D" u1) (F_multipliers : Fld Z h0 a "com/example/vetted_terms/vettedterms/feedback/DualActiveSet$Outcome" "multipliers" "[D" u2) (ga : n0 ≤ a) :
    Con l Z (⟨"com/example/vetted_terms/vettedterms/feedback/DualActiveSet$Outcome", "<init>", "([D[D)V"⟩ : MethodName) prog_41_method_1_code 3 none ({ frames := 2, cells := 0, slots := 0, locals := 24 } : Room) #[.ref a, vx, vm] h0 (fun v h L => v = none ∧ Fr n0 L ∧ Keep h0 h [a] ∧ Exa Z h a "com/example/vetted_terms/vettedterms/feedback/DualActiveSet$Outcome" ∧ Fld Z h a "com/example/vetted_terms/vettedterms/feedback/DualActiveSet$Outcome" "x" "[D" vx) := by
  refine Con.body (plainFor_of_name pn_o) ?_
  intro G hG p e s m below meth c T X hx hby hml hown hnm hret hlk hZ e0
  rw [show entryFrame m #[.ref a, vx, vm] 3 = mkF m 0 #[.val (.ref a), .val vx, .val vm] [] from by rcases ref_cases hvx with rfl | ⟨_, rfl⟩ <;> rcases ref_cases hvm with rfl | ⟨_, rfl⟩ <;> rfl]
  have N0 := Fr.nil n0
  refine Good.aloadN X hx (pc' := 1) rfl (hb hby d_init_0) rfl rfl ?_
  refine Good.callN X hx hZ (y := ⟨"java/lang/Record", "<init>", "()V"⟩) rfl hown (hw _ (List.mem_of_getElem? (i := 6) rfl)) (hw _ (List.mem_of_getElem? (i := 7) rfl)) (hw _ (List.mem_of_getElem? (i := 9) rfl)) (hw _ (List.mem_of_getElem? (i := 10) rfl)) (by decide) e0 (a := a) (argsL := []) (rest := []) (c_rec l Z a0 hw a h0) (hdesc := pd_0) rfl (pc' := 4) rfl (by rw [hml]; rfl) rfl (hb hby d_init_1) (W := 0) (Nat.le_of_eq rfl) (by decide) (by decide) (by decide) (by decide) fun v1 T1 L1 X1 Q1 => ?_
  obtain ⟨rfl, hh, rfl⟩ := Q1
  have e1 : T1.heap = h0 := hh
  rw [List.append_nil] at X1
  refine Good.aloadN X1 hx (pc' := 5) rfl (hb hby d_init_4) rfl rfl ?_
  refine Good.aloadN X1 hx (pc' := 6) rfl (hb hby d_init_5) rfl hvx ?_
  refine Good.putfield X1 hx hZ hown (hw _ (List.mem_of_getElem? (i := 14) rfl)) Via.refl e1 F_x Ea (Or.inr ⟨(hw _ (List.mem_of_getElem? (i := 15) rfl)), rfl, hnm⟩) (hw _ (List.mem_of_getElem? (i := 1) rfl)) (ty := (.array .double)) (by decide) (own_nar hvx) (own_fit hvx) (pc' := 9) rfl (hb hby d_init_6) fun T2 h2 X2 e2 W2 => ?_
  have F_a_multipliers_2 := F_multipliers.other W2 (Or.inr (slot_ne (Or.inr (hw _ (List.mem_of_getElem? (i := 17) rfl))) (Or.inr (hw _ (List.mem_of_getElem? (i := 15) rfl))) (by decide) (t := (.array .double)) (t' := (.array .double)) (by decide) (by decide)))
  have E_a_2 := Ea.wr W2
  have Z_2 : n0 ≤ h2.size := by rw [W2.size]; exact Z0
  have N_2 := Fr.snoc X2 N0 ga
  have F_a_x_2 := F_x.same W2
  refine Good.aloadN X2 hx (pc' := 10) rfl (hb hby d_init_9) rfl rfl ?_
  refine Good.aloadN X2 hx (pc' := 11) rfl (hb hby d_init_10) rfl hvm ?_
  refine Good.putfield X2 hx hZ hown (hw _ (List.mem_of_getElem? (i := 16) rfl)) Via.refl e2 F_a_multipliers_2 E_a_2 (Or.inr ⟨(hw _ (List.mem_of_getElem? (i := 17) rfl)), rfl, hnm⟩) (hw _ (List.mem_of_getElem? (i := 1) rfl)) (ty := (.array .double)) (by decide) (own_nar hvm) (own_fit hvm) (pc' := 14) rfl (hb hby d_init_11) fun T3 h3 X3 e3 W3 => ?_
  have F_a_x_3 := F_a_x_2.other W3 (Or.inr (slot_ne (Or.inr (hw _ (List.mem_of_getElem? (i := 15) rfl))) (Or.inr (hw _ (List.mem_of_getElem? (i := 17) rfl))) (by decide) (t := (.array .double)) (t' := (.array .double)) (by decide) (by decide)))
  have E_a_3 := E_a_2.wr W3
  have Z_3 : n0 ≤ h3.size := by rw [W3.size]; exact Z_2
  have N_3 := Fr.snoc X3 N_2 ga
  have F_a_multipliers_3 := F_a_multipliers_2.same W3
  exact Good.ret0 X3 hx hlk hret (hb hby d_init_14) (hG _ _ _ _ _ (by rw [e3]; exact ⟨rfl, N_3, (((Keep.refl h0 [a]).wr W2 (Or.inl (by simp))).wr W3 (Or.inl (by simp))), E_a_3, F_a_x_3⟩) (by decide) (by decide))
set_option maxRecDepth 65536 in
set_option maxHeartbeats 40000000 in
theorem c_fea (l : Launch) (Z : State) (a0 : Array Value) (hw : ∀ d ∈ tables_1, d.before a0 Z = true) (a : Addr) (vx : Value) (hvx : vx.isRef = true) (h0 : Heap) (Fx : Fld Z h0 a "com/example/vetted_terms/vettedterms/feedback/DualActiveSet$Outcome" "x" "[D" vx) :
    Con l Z (⟨"com/example/vetted_terms/vettedterms/feedback/DualActiveSet$Outcome", "feasible", "()Z"⟩ : MethodName) prog_41_method_4_code 1 (some .boolean) ({ frames := 0, cells := 0, slots := 0, locals := 0 } : Room) #[.ref a] h0 (fun v h L => v = some (.int (nn vx)) ∧ h = h0 ∧ L = []) := by
  refine Con.body (plainFor_of_name pn_o) ?_
  intro G hG p e s m below meth c T X hx hby hml hown hnm hret hlk hZ e0
  rw [show entryFrame m #[.ref a] 1 = mkF m 0 #[.val (.ref a)] [] from by first | rfl | (simp [entryFrame, mkF, argsToLocals, Value.category, maxLocals]; done)]
  refine Good.aloadN X hx (pc' := 1) rfl (hb hby d_fea_0) rfl rfl ?_
  refine Good.getfield X hx hZ hown (hw _ (List.mem_of_getElem? (i := 14) rfl)) Via.refl e0 Fx (pc' := 4) rfl (hb hby d_fea_1) fun T1 X1 e1 => ?_
  rcases ref_cases hvx with rfl | ⟨b, rfl⟩
  · refine Good.ifnullYes X1 hx (pc' := 11) (by decide) (hb hby d_fea_4)  ?_
    refine Good.iconst X1 hx (pc' := 12) (w := (0 : Int32)) rfl (hb hby d_fea_11) rfl ?_
    exact Good.retZ X1 hx hlk hret (hb hby d_fea_12) (Or.inl rfl) (hG _ _ _ _ _ (⟨rfl, e1, rfl⟩) (by decide) (by decide))
  · refine Good.ifnullNo X1 hx (pc' := 7) rfl (hb hby d_fea_4)  ?_
    refine Good.iconst X1 hx (pc' := 8) (w := (1 : Int32)) rfl (hb hby d_fea_7) rfl ?_
    refine Good.goto X1 hx (pc' := 12) (by decide) (hb hby d_fea_8) ?_
    exact Good.retZ X1 hx hlk hret (hb hby d_fea_12) (Or.inr rfl) (hG _ _ _ _ _ (⟨rfl, e1, rfl⟩) (by decide) (by decide))
set_option maxRecDepth 65536 in
set_option maxHeartbeats 40000000 in
theorem c_x (l : Launch) (Z : State) (a0 : Array Value) (hw : ∀ d ∈ tables_1, d.before a0 Z = true) (a : Addr) (vx : Value) (hvx : vx.isRef = true) (h0 : Heap) (Fx : Fld Z h0 a "com/example/vetted_terms/vettedterms/feedback/DualActiveSet$Outcome" "x" "[D" vx) :
    Con l Z (⟨"com/example/vetted_terms/vettedterms/feedback/DualActiveSet$Outcome", "x", "()[D"⟩ : MethodName) prog_41_method_8_code 1 (some (.array .double)) ({ frames := 0, cells := 0, slots := 0, locals := 0 } : Room) #[.ref a] h0 (fun v h L => v = some vx ∧ h = h0 ∧ L = []) := by
  refine Con.body (plainFor_of_name pn_o) ?_
  intro G hG p e s m below meth c T X hx hby hml hown hnm hret hlk hZ e0
  rw [show entryFrame m #[.ref a] 1 = mkF m 0 #[.val (.ref a)] [] from by first | rfl | (simp [entryFrame, mkF, argsToLocals, Value.category, maxLocals]; done)]
  refine Good.aloadN X hx (pc' := 1) rfl (hb hby d_x_0) rfl rfl ?_
  refine Good.getfield X hx hZ hown (hw _ (List.mem_of_getElem? (i := 14) rfl)) Via.refl e0 Fx (pc' := 4) rfl (hb hby d_x_1) fun T1 X1 e1 => ?_
  exact Good.retA X1 hx hlk hret rfl hvx (hb hby d_x_4) (hG _ _ _ _ _ (⟨rfl, e1, rfl⟩) (by decide) (by decide))
set_option maxRecDepth 65536 in
set_option maxHeartbeats 40000000 in
theorem c_min (l : Launch) (Z : State) (a0 : Array Value) (hw : ∀ d ∈ tables_1, d.before a0 Z = true) (vx vm : Value) (hvx : vx.isRef = true) (hvm : vm.isRef = true) (h0 : Heap) (n0 : Nat) (Z0 : n0 ≤ h0.size) :
    Con l Z (⟨"com/example/vetted_terms/vettedterms/feedback/DualActiveSet$Outcome", "minimum", "([D[D)Lcom/example/vetted_terms/vettedterms/feedback/DualActiveSet$Outcome;"⟩ : MethodName) prog_41_method_2_code 2 (some (.object "com/example/vetted_terms/vettedterms/feedback/DualActiveSet$Outcome")) ({ frames := 3, cells := 1, slots := 2, locals := 40 } : Room) #[vx, vm] h0 (fun v h L => ∃ b, v = some (.ref b) ∧ Fr n0 L ∧ n0 ≤ h.size ∧ Exa Z h b "com/example/vetted_terms/vettedterms/feedback/DualActiveSet$Outcome" ∧ Fld Z h b "com/example/vetted_terms/vettedterms/feedback/DualActiveSet$Outcome" "x" "[D" vx) := by
  refine Con.body (plainFor_of_name pn_o) ?_
  intro G hG p e s m below meth c T X hx hby hml hown hnm hret hlk hZ e0
  rw [show entryFrame m #[vx, vm] 2 = mkF m 0 #[.val vx, .val vm] [] from by rcases ref_cases hvx with rfl | ⟨_, rfl⟩ <;> rcases ref_cases hvm with rfl | ⟨_, rfl⟩ <;> rfl]
  have N0 := Fr.nil n0
  refine Good.new X hx hZ hown (hw _ (List.mem_of_getElem? (i := 32) rfl)) (hw _ (List.mem_of_getElem? (i := 1) rfl)) (hw _ (List.mem_of_getElem? (i := 2) rfl)) e0 (pc' := 3) rfl (hb hby d_min_0) (by decide) (by decide) fun T1 h1 b1 g1 X1 e1 E1 A1 D1 => ?_
  have ge_b1 : n0 ≤ b1 := by rw [g1]; exact Z0
  have Z_1 := Nat.le_trans Z0 E1.1
  have F0_x_b1 := D1 (O := "com/example/vetted_terms/vettedterms/feedback/DualActiveSet$Outcome") (nm := "x") (d := "[D") (Or.inr (hw _ (List.mem_of_getElem? (i := 15) rfl))) (ty := (.array .double)) (by decide)
  have F0_multipliers_b1 := D1 (O := "com/example/vetted_terms/vettedterms/feedback/DualActiveSet$Outcome") (nm := "multipliers") (d := "[D") (Or.inr (hw _ (List.mem_of_getElem? (i := 17) rfl))) (ty := (.array .double)) (by decide)
  refine Good.dup X1 hx (pc' := 4) rfl (hb hby d_min_3) rfl ?_
  refine Good.aloadN X1 hx (pc' := 5) rfl (hb hby d_min_4) rfl hvx ?_
  refine Good.aloadN X1 hx (pc' := 6) rfl (hb hby d_min_5) rfl hvm ?_
  refine Good.callN X1 hx hZ (y := ⟨"com/example/vetted_terms/vettedterms/feedback/DualActiveSet$Outcome", "<init>", "([D[D)V"⟩) rfl hown (hw _ (List.mem_of_getElem? (i := 33) rfl)) (hw _ (List.mem_of_getElem? (i := 4) rfl)) (hw _ (List.mem_of_getElem? (i := 2) rfl)) (hw _ (List.mem_of_getElem? (i := 5) rfl)) (by decide) e1 (a := b1) (argsL := [vx, vm]) (rest := [(.ref b1)]) (c_init l Z a0 hw b1 vx vm _ _ hvx hvm h1 n0 Z_1 A1 F0_x_b1 F0_multipliers_b1 ge_b1) (hdesc := pd_1) rfl (pc' := 9) rfl (by rw [hml]; rfl) rfl (hb hby d_min_6) (W := 1) (Nat.le_of_eq rfl) (by decide) (by decide) (by decide) (by decide) fun v2 T2 L2 X2 Q2 => ?_
  obtain ⟨rfl, Nq, Kq, Eq, Fq⟩ := Q2
  have E_b1_2 := A1.keep Kq
  have Z_2 := Nat.le_trans Z_1 Kq.1
  have N_2 := Fr.app N0 Nq
  exact Good.retA X2 hx hlk hret rfl rfl (hb hby d_min_9) (hG _ _ _ _ _ (⟨_, rfl, N_2, Z_2, Eq, Fq⟩) (by decide) (by decide))
set_option maxRecDepth 65536 in
set_option maxHeartbeats 40000000 in
theorem c_inf (l : Launch) (Z : State) (a0 : Array Value) (hw : ∀ d ∈ tables_1, d.before a0 Z = true) (vm : Value) (hvm : vm.isRef = true) (h0 : Heap) (n0 : Nat) (Z0 : n0 ≤ h0.size) :
    Con l Z (⟨"com/example/vetted_terms/vettedterms/feedback/DualActiveSet$Outcome", "infeasible", "([D)Lcom/example/vetted_terms/vettedterms/feedback/DualActiveSet$Outcome;"⟩ : MethodName) prog_41_method_3_code 1 (some (.object "com/example/vetted_terms/vettedterms/feedback/DualActiveSet$Outcome")) ({ frames := 3, cells := 1, slots := 2, locals := 40 } : Room) #[vm] h0 (fun v h L => ∃ b, v = some (.ref b) ∧ Fr n0 L ∧ n0 ≤ h.size ∧ Exa Z h b "com/example/vetted_terms/vettedterms/feedback/DualActiveSet$Outcome" ∧ Fld Z h b "com/example/vetted_terms/vettedterms/feedback/DualActiveSet$Outcome" "x" "[D" .null) := by
  refine Con.body (plainFor_of_name pn_o) ?_
  intro G hG p e s m below meth c T X hx hby hml hown hnm hret hlk hZ e0
  rw [show entryFrame m #[vm] 1 = mkF m 0 #[.val vm] [] from by rcases ref_cases hvm with rfl | ⟨_, rfl⟩ <;> rfl]
  have N0 := Fr.nil n0
  refine Good.new X hx hZ hown (hw _ (List.mem_of_getElem? (i := 32) rfl)) (hw _ (List.mem_of_getElem? (i := 1) rfl)) (hw _ (List.mem_of_getElem? (i := 2) rfl)) e0 (pc' := 3) rfl (hb hby d_inf_0) (by decide) (by decide) fun T1 h1 b1 g1 X1 e1 E1 A1 D1 => ?_
  have ge_b1 : n0 ≤ b1 := by rw [g1]; exact Z0
  have Z_1 := Nat.le_trans Z0 E1.1
  have F0_x_b1 := D1 (O := "com/example/vetted_terms/vettedterms/feedback/DualActiveSet$Outcome") (nm := "x") (d := "[D") (Or.inr (hw _ (List.mem_of_getElem? (i := 15) rfl))) (ty := (.array .double)) (by decide)
  have F0_multipliers_b1 := D1 (O := "com/example/vetted_terms/vettedterms/feedback/DualActiveSet$Outcome") (nm := "multipliers") (d := "[D") (Or.inr (hw _ (List.mem_of_getElem? (i := 17) rfl))) (ty := (.array .double)) (by decide)
  refine Good.dup X1 hx (pc' := 4) rfl (hb hby d_inf_3) rfl ?_
  refine Good.aconstNull X1 hx (pc' := 5) rfl (hb hby d_inf_4) ?_
  refine Good.aloadN X1 hx (pc' := 6) rfl (hb hby d_inf_5) rfl hvm ?_
  refine Good.callN X1 hx hZ (y := ⟨"com/example/vetted_terms/vettedterms/feedback/DualActiveSet$Outcome", "<init>", "([D[D)V"⟩) rfl hown (hw _ (List.mem_of_getElem? (i := 33) rfl)) (hw _ (List.mem_of_getElem? (i := 4) rfl)) (hw _ (List.mem_of_getElem? (i := 2) rfl)) (hw _ (List.mem_of_getElem? (i := 5) rfl)) (by decide) e1 (a := b1) (argsL := [.null, vm]) (rest := [(.ref b1)]) (c_init l Z a0 hw b1 .null vm _ _ rfl hvm h1 n0 Z_1 A1 F0_x_b1 F0_multipliers_b1 ge_b1) (hdesc := pd_1) rfl (pc' := 9) rfl (by rw [hml]; rfl) rfl (hb hby d_inf_6) (W := 1) (Nat.le_of_eq rfl) (by decide) (by decide) (by decide) (by decide) fun v2 T2 L2 X2 Q2 => ?_
  obtain ⟨rfl, Nq, Kq, Eq, Fq⟩ := Q2
  have E_b1_2 := A1.keep Kq
  have Z_2 := Nat.le_trans Z_1 Kq.1
  have N_2 := Fr.app N0 Nq
  exact Good.retA X2 hx hlk hret rfl rfl (hb hby d_inf_9) (hG _ _ _ _ _ (⟨_, rfl, N_2, Z_2, Eq, Fq⟩) (by decide) (by decide))
set_option maxRecDepth 65536 in
set_option maxHeartbeats 40000000 in
theorem c_law (l : Launch) (Z : State) (a0 : Array Value) (hw : ∀ d ∈ tables_1, d.before a0 Z = true) (fl xl xv ml mv' : Int32) (h0 : Heap) (n0 : Nat) (Z0 : n0 ≤ h0.size) :
    Con l Z x code maxLocals ret room_1 #[.int fl, .int xl, .int xv, .int ml, .int mv'] h0 (fun v h L => v = some (.int 1) ∧ Fr n0 L) := by
  refine Con.body (plainFor_of_name pn_0) ?_
  intro G hG p e s m below meth c T X hx hby hml hown hnm hret hlk hZ e0
  rw [show entryFrame m #[.int fl, .int xl, .int xv, .int ml, .int mv'] maxLocals = mkF m 0 #[.val (.int fl), .val (.int xl), .val (.int xv), .val (.int ml), .val (.int mv'), .unset, .unset, .unset, .unset, .unset, .unset, .unset, .unset] [] from by first | rfl | (simp [entryFrame, mkF, argsToLocals, Value.category, maxLocals]; done)]
  have N0 := Fr.nil n0
  obtain ⟨kx, hkx, kx0, kx3, nx, nx3, hnx⟩ := own_and3 xl
  obtain ⟨km, hkm, km0, km3, nm, nm3, hnm'⟩ := own_and3 ml
  refine Good.iloadN X hx (pc' := 1) rfl (hb hby at_0) rfl ?_
  refine Good.iconst X hx (pc' := 2) (w := (1 : Int32)) rfl (hb hby at_1) rfl ?_
  refine Good.iand X hx (pc' := 3) rfl (hb hby at_2) ?_
  have J_q1 : ∀ q1 : Int32, (q1 = 0 ∨ q1 = 1) → Good p.tables e below s G (T.setTop (mkF m 11 #[.val (.int fl), .val (.int xl), .val (.int xv), .val (.int ml), .val (.int mv'), .unset, .unset, .unset, .unset, .unset, .unset, .unset, .unset] [(.int q1)])) := by
    intro q1 h_q1
    refine Good.istore X hx (pc' := 13) (Ls' := #[.val (.int fl), .val (.int xl), .val (.int xv), .val (.int ml), .val (.int mv'), .val (.int q1), .unset, .unset, .unset, .unset, .unset, .unset, .unset]) rfl (hb hby at_11) rfl ?_
    refine Good.iloadN X hx (pc' := 14) rfl (hb hby at_13) rfl ?_
    refine Good.iconst X hx (pc' := 15) (w := (2 : Int32)) rfl (hb hby at_14) rfl ?_
    refine Good.iand X hx (pc' := 16) rfl (hb hby at_15) ?_
    have J_q2 : ∀ q2 : Int32, (q2 = 0 ∨ q2 = 1) → Good p.tables e below s G (T.setTop (mkF m 24 #[.val (.int fl), .val (.int xl), .val (.int xv), .val (.int ml), .val (.int mv'), .val (.int q1), .unset, .unset, .unset, .unset, .unset, .unset, .unset] [(.int q2)])) := by
      intro q2 h_q2
      refine Good.istore X hx (pc' := 26) (Ls' := #[.val (.int fl), .val (.int xl), .val (.int xv), .val (.int ml), .val (.int mv'), .val (.int q1), .val (.int q2), .unset, .unset, .unset, .unset, .unset, .unset]) rfl (hb hby at_24) rfl ?_
      refine Good.iloadN X hx (pc' := 27) rfl (hb hby at_26) rfl ?_
      refine Good.iconst X hx (pc' := 28) (w := (4 : Int32)) rfl (hb hby at_27) rfl ?_
      refine Good.iand X hx (pc' := 29) rfl (hb hby at_28) ?_
      have J_q3 : ∀ q3 : Int32, (q3 = 0 ∨ q3 = 1) → Good p.tables e below s G (T.setTop (mkF m 37 #[.val (.int fl), .val (.int xl), .val (.int xv), .val (.int ml), .val (.int mv'), .val (.int q1), .val (.int q2), .unset, .unset, .unset, .unset, .unset, .unset] [(.int q3)])) := by
        intro q3 h_q3
        refine Good.istore X hx (pc' := 39) (Ls' := #[.val (.int fl), .val (.int xl), .val (.int xv), .val (.int ml), .val (.int mv'), .val (.int q1), .val (.int q2), .val (.int q3), .unset, .unset, .unset, .unset, .unset]) rfl (hb hby at_37) rfl ?_
        refine Good.iloadN X hx (pc' := 40) rfl (hb hby at_39) rfl ?_
        refine Good.iconst X hx (pc' := 41) (w := (3 : Int32)) rfl (hb hby at_40) rfl ?_
        refine Good.iand X hx (pc' := 42) rfl (hb hby at_41) ?_
        rw [hkx]
        refine Good.istore X hx (pc' := 44) (Ls' := #[.val (.int fl), .val (.int xl), .val (.int xv), .val (.int ml), .val (.int mv'), .val (.int q1), .val (.int q2), .val (.int q3), .val (.int kx), .unset, .unset, .unset, .unset]) rfl (hb hby at_42) rfl ?_
        refine Good.iloadN X hx (pc' := 45) rfl (hb hby at_44) rfl ?_
        refine Good.iconst X hx (pc' := 46) (w := (3 : Int32)) rfl (hb hby at_45) rfl ?_
        refine Good.iand X hx (pc' := 47) rfl (hb hby at_46) ?_
        rw [hkm]
        refine Good.istore X hx (pc' := 49) (Ls' := #[.val (.int fl), .val (.int xl), .val (.int xv), .val (.int ml), .val (.int mv'), .val (.int q1), .val (.int q2), .val (.int q3), .val (.int kx), .val (.int km), .unset, .unset, .unset]) rfl (hb hby at_47) rfl ?_
        refine Good.aconstNull X hx (pc' := 50) rfl (hb hby at_49) ?_
        refine Good.astore X hx (pc' := 52) (Ls' := #[.val (.int fl), .val (.int xl), .val (.int xv), .val (.int ml), .val (.int mv'), .val (.int q1), .val (.int q2), .val (.int q3), .val (.int kx), .val (.int km), .val .null, .unset, .unset]) rfl (hb hby at_50) rfl rfl ?_
        refine Good.iload X hx (pc' := 54) rfl (hb hby at_52) rfl ?_
        have J_x : ∀ (T' : State) (h' : Heap) (vx : Value) (locs : List Loc), Stand p l e room_1 s m #[.int fl, .int xl, .int xv, .int ml, .int mv'] below meth c T' locs 1 3 → T'.heap = h' → n0 ≤ h'.size → Fr n0 locs → ((vx = .null ∧ q1 = 0) ∨ ∃ b, vx = .ref b ∧ q1 = 1) → Good p.tables e below s G (T'.setTop (mkF m 78 #[.val (.int fl), .val (.int xl), .val (.int xv), .val (.int ml), .val (.int mv'), .val (.int q1), .val (.int q2), .val (.int q3), .val (.int kx), .val (.int km), .val vx, .unset, .unset] [])) := by
          intro T4 h4 vx lc4 X4 e4 Z4 N4 hvx
          rcases hvx with ⟨rfl, rfl⟩ | ⟨bx, rfl, rfl⟩
          · refine Good.aconstNull X4 hx (pc' := 79) rfl (hb hby at_78) ?_
            refine Good.astore X4 hx (pc' := 81) (Ls' := #[.val (.int fl), .val (.int xl), .val (.int xv), .val (.int ml), .val (.int mv'), .val (.int (0 : Int32)), .val (.int q2), .val (.int q3), .val (.int kx), .val (.int km), .val .null, .val .null, .unset]) rfl (hb hby at_79) rfl rfl ?_
            refine Good.iload X4 hx (pc' := 83) rfl (hb hby at_81) rfl ?_
            have J_m : ∀ (T' : State) (h' : Heap) (vm : Value) (locs : List Loc), Stand p l e room_1 s m #[.int fl, .int xl, .int xv, .int ml, .int mv'] below meth c T' locs 2 6 → T'.heap = h' → n0 ≤ h'.size → Fr n0 locs → vm.isRef = true → Good p.tables e below s G (T'.setTop (mkF m 108 #[.val (.int fl), .val (.int xl), .val (.int xv), .val (.int ml), .val (.int mv'), .val (.int (0 : Int32)), .val (.int q2), .val (.int q3), .val (.int kx), .val (.int km), .val .null, .val vm, .unset] [])) := by
              intro T5 h5 vm lc5 X5 e5 Z5 N5 hvm
              have J_o : ∀ (T' : State) (h' : Heap) (ob : Addr) (locs : List Loc), Stand p l e room_1 s m #[.int fl, .int xl, .int xv, .int ml, .int mv'] below meth c T' locs 3 8 → T'.heap = h' → Fr n0 locs → Exa Z h' ob "com/example/vetted_terms/vettedterms/feedback/DualActiveSet$Outcome" → Fld Z h' ob "com/example/vetted_terms/vettedterms/feedback/DualActiveSet$Outcome" "x" "[D" .null → Good p.tables e below s G (T'.setTop (mkF m 153 #[.val (.int fl), .val (.int xl), .val (.int xv), .val (.int ml), .val (.int mv'), .val (.int (0 : Int32)), .val (.int q2), .val (.int q3), .val (.int kx), .val (.int km), .val .null, .val vm, .val (.ref ob)] [])) := by
                intro T6 h6 ob lc6 X6 e6 N6 E6 F6
                refine Good.aload X6 hx (pc' := 155) rfl (hb hby at_153) rfl rfl ?_
                refine Good.callV X6 hx hZ (y := ⟨"com/example/vetted_terms/vettedterms/feedback/DualActiveSet$Outcome", "feasible", "()Z"⟩) hown (hw _ (List.mem_of_getElem? (i := 18) rfl)) (hw _ (List.mem_of_getElem? (i := 19) rfl)) (hw _ (List.mem_of_getElem? (i := 21) rfl)) (hw _ (List.mem_of_getElem? (i := 20) rfl)) (hw _ (List.mem_of_getElem? (i := 2) rfl)) (hw _ (List.mem_of_getElem? (i := 22) rfl)) (by decide) e6 E6 (argsL := []) (rest := []) (c_fea l Z a0 hw ob .null rfl h6 F6) (hdesc := pd_2) rfl (pc' := 158) rfl (by rw [hml]; rfl) rfl (hb hby at_155) (W := 0) (Nat.le_of_eq rfl) (by decide) (by decide) (by decide) (by decide) fun v31 T31 L31 X31 Q31 => ?_
                obtain ⟨rfl, hh1, rfl⟩ := Q31
                rw [List.append_nil] at X31
                refine Good.iload X31 hx (pc' := 160) rfl (hb hby at_158) rfl ?_
                refine Good.icmpNo X31 hx (pc' := 163) rfl (hb hby at_160) rfl ?_
                refine Good.aload X31 hx (pc' := 165) rfl (hb hby at_163) rfl rfl ?_
                refine Good.callV X31 hx hZ (y := ⟨"com/example/vetted_terms/vettedterms/feedback/DualActiveSet$Outcome", "x", "()[D"⟩) hown (hw _ (List.mem_of_getElem? (i := 23) rfl)) (hw _ (List.mem_of_getElem? (i := 24) rfl)) (hw _ (List.mem_of_getElem? (i := 26) rfl)) (hw _ (List.mem_of_getElem? (i := 25) rfl)) (hw _ (List.mem_of_getElem? (i := 2) rfl)) (hw _ (List.mem_of_getElem? (i := 27) rfl)) (by decide) hh1 E6 (argsL := []) (rest := []) (c_x l Z a0 hw ob .null rfl h6 F6) (hdesc := pd_3) rfl (pc' := 168) rfl (by rw [hml]; rfl) rfl (hb hby at_165) (W := 0) (Nat.le_of_eq rfl) (by decide) (by decide) (by decide) (by decide) fun v32 T32 L32 X32 Q32 => ?_
                obtain ⟨rfl, hh2, rfl⟩ := Q32
                rw [List.append_nil] at X32
                refine Good.aload X32 hx (pc' := 170) rfl (hb hby at_168) rfl rfl ?_
                refine Good.acmpNo X32 hx (pc' := 173) rfl (hb hby at_170) rfl rfl (by simp [XT.acmp]) ?_
                refine Good.iconst X32 hx (pc' := 174) (w := (1 : Int32)) rfl (hb hby at_173) rfl ?_
                refine Good.goto X32 hx (pc' := 178) (by decide) (hb hby at_174) ?_
                exact Good.retZ X32 hx hlk hret (hb hby at_178) (Or.inr rfl) (hG _ _ _ _ _ (⟨rfl, N6⟩) (by decide) (by decide))
              refine Good.iload X5 hx (pc' := 110) rfl (hb hby at_108) rfl ?_
              refine Good.ifFork X5 hx (pc1 := 140) (pc2 := 113) (hb hby at_110) (by decide) rfl (fun hc_f => ?_) (fun hc_f => ?_)
              · refine Good.new X5 hx hZ hown (hw _ (List.mem_of_getElem? (i := 0) rfl)) (hw _ (List.mem_of_getElem? (i := 1) rfl)) (hw _ (List.mem_of_getElem? (i := 2) rfl)) e5 (pc' := 143) rfl (hb hby at_140) (by decide) (by decide) fun T21 h21 b21 g21 X21 e21 E21 A21 D21 => ?_
                have ge_b21 : n0 ≤ b21 := by rw [g21]; exact Z5
                have Z_21 := Nat.le_trans Z5 E21.1
                have F0_x_b21 := D21 (O := "com/example/vetted_terms/vettedterms/feedback/DualActiveSet$Outcome") (nm := "x") (d := "[D") (Or.inr (hw _ (List.mem_of_getElem? (i := 15) rfl))) (ty := (.array .double)) (by decide)
                have F0_multipliers_b21 := D21 (O := "com/example/vetted_terms/vettedterms/feedback/DualActiveSet$Outcome") (nm := "multipliers") (d := "[D") (Or.inr (hw _ (List.mem_of_getElem? (i := 17) rfl))) (ty := (.array .double)) (by decide)
                refine Good.dup X21 hx (pc' := 144) rfl (hb hby at_143) rfl ?_
                refine Good.aload X21 hx (pc' := 146) rfl (hb hby at_144) rfl rfl ?_
                refine Good.aload X21 hx (pc' := 148) rfl (hb hby at_146) rfl hvm ?_
                refine Good.callN X21 hx hZ (y := ⟨"com/example/vetted_terms/vettedterms/feedback/DualActiveSet$Outcome", "<init>", "([D[D)V"⟩) rfl hown (hw _ (List.mem_of_getElem? (i := 3) rfl)) (hw _ (List.mem_of_getElem? (i := 4) rfl)) (hw _ (List.mem_of_getElem? (i := 2) rfl)) (hw _ (List.mem_of_getElem? (i := 5) rfl)) (by decide) e21 (a := b21) (argsL := [.null, vm]) (rest := [(.ref b21)]) (c_init l Z a0 hw b21 .null vm _ _ rfl hvm h21 n0 Z_21 A21 F0_x_b21 F0_multipliers_b21 ge_b21) (hdesc := pd_1) rfl (pc' := 151) rfl (by rw [hml]; rfl) rfl (hb hby at_148) (W := 1) (Nat.le_of_eq rfl) (by decide) (by decide) (by decide) (by decide) fun v22 T22 L22 X22 Q22 => ?_
                obtain ⟨rfl, Nq, Kq, Eq, Fq⟩ := Q22
                have E_b21_22 := A21.keep Kq
                have Z_22 := Nat.le_trans Z_21 Kq.1
                have N_22 := Fr.app N5 Nq
                refine Good.astore X22 hx (pc' := 153) (Ls' := #[.val (.int fl), .val (.int xl), .val (.int xv), .val (.int ml), .val (.int mv'), .val (.int (0 : Int32)), .val (.int q2), .val (.int q3), .val (.int kx), .val (.int km), .val .null, .val vm, .val (.ref b21)]) rfl (hb hby at_151) rfl rfl ?_
                exact J_o _ _ b21 _ X22 rfl N_22 Eq Fq
              · refine Good.iload X5 hx (pc' := 115) rfl (hb hby at_113) rfl ?_
                refine Good.ifYes X5 hx (pc' := 130) (by decide) (hb hby at_115) rfl ?_
                refine Good.aload X5 hx (pc' := 132) rfl (hb hby at_130) rfl hvm ?_
                refine Good.callS X5 hx hZ (y := ⟨"com/example/vetted_terms/vettedterms/feedback/DualActiveSet$Outcome", "infeasible", "([D)Lcom/example/vetted_terms/vettedterms/feedback/DualActiveSet$Outcome;"⟩) hown (hw _ (List.mem_of_getElem? (i := 34) rfl)) (hw _ (List.mem_of_getElem? (i := 35) rfl)) (hw _ (List.mem_of_getElem? (i := 2) rfl)) (hw _ (List.mem_of_getElem? (i := 36) rfl)) (by decide) e5 (argsL := [vm]) (rest := []) (c_inf l Z a0 hw vm hvm h5 n0 Z5) (hdesc := pd_4) rfl (pc' := 135) rfl (by rw [hml]; rfl) rfl (hb hby at_132) (W := 0) (Nat.le_of_eq rfl) (by decide) (by decide) (by decide) (by decide) fun v21 T21 L21 X21 Q21 => ?_
                obtain ⟨bq, rfl, Nq, Zq, Eq, Fq⟩ := Q21
                refine Good.astore X21 hx (pc' := 137) (Ls' := #[.val (.int fl), .val (.int xl), .val (.int xv), .val (.int ml), .val (.int mv'), .val (.int (0 : Int32)), .val (.int q2), .val (.int q3), .val (.int kx), .val (.int km), .val .null, .val vm, .val (.ref bq)]) rfl (hb hby at_135) rfl rfl ?_
                refine Good.goto X21 hx (pc' := 153) (by decide) (hb hby at_137) ?_
                exact J_o _ _ bq _ X21 rfl (Fr.app N5 Nq) Eq Fq
            refine Good.ifFork X4 hx (pc1 := 108) (pc2 := 86) (hb hby at_83) (by decide) rfl (fun hc_J_m => ?_) (fun hc_J_m => ?_)
            · exact J_m _ _ .null _ (X4.more (by decide) (by decide)) e4 Z4 N4 rfl
            · refine Good.iload X4 hx (pc' := 88) rfl (hb hby at_86) rfl ?_
              refine Good.newarray X4 hx hZ (hw _ (List.mem_of_getElem? (i := 28) rfl)) e4 (pc' := 90) rfl (hb hby at_88) km0 (cap := 3) km3 (by decide) (by decide) (by decide) fun T11 h11 k11 b11 g11 X11 e11 E11 A11 => ?_
              have ge_b11 : n0 ≤ b11 := by rw [g11]; exact Z4
              have Z_11 := Nat.le_trans Z4 E11.1
              have DA_b11 : DA Z h11 b11 nm (fun _ => 0) := DA.new A11 hnm'
              refine Good.astore X11 hx (pc' := 92) (Ls' := #[.val (.int fl), .val (.int xl), .val (.int xv), .val (.int ml), .val (.int mv'), .val (.int (0 : Int32)), .val (.int q2), .val (.int q3), .val (.int kx), .val (.int km), .val .null, .val (.ref b11), .unset]) rfl (hb hby at_90) rfl rfl ?_
              refine Good.iload X11 hx (pc' := 94) rfl (hb hby at_92) rfl ?_
              refine Good.ifFork X11 hx (pc1 := 108) (pc2 := 97) (hb hby at_94) (by decide) rfl (fun hl_J_m => ?_) (fun hl_J_m => ?_)
              · exact J_m _ _ (.ref b11) _ X11 e11 Z_11 N4 rfl
              · refine Good.aload X11 hx (pc' := 99) rfl (hb hby at_97) rfl rfl ?_
                refine Good.iconst X11 hx (pc' := 100) (w := (0 : Int32)) rfl (hb hby at_99) rfl ?_
                refine Good.iload X11 hx (pc' := 102) rfl (hb hby at_100) rfl ?_
                refine Good.sipush X11 hx (pc' := 105) (w := (255 : Int32)) rfl (hb hby at_102) rfl ?_
                refine Good.iand X11 hx (pc' := 106) rfl (hb hby at_105) ?_
                refine Good.i2d X11 hx (pc' := 107) rfl (hb hby at_106) ?_
                refine Good.dastoreF X11 hx hZ e11 DA_b11 (0) rfl (own_pos hnm' hl_J_m) (pc' := 108) rfl (hb hby at_107) fun T12 h12 X12 e12 W12 V12 => ?_
                have Z_12 : n0 ≤ h12.size := by rw [W12.size]; exact Z_11
                have N_12 := Fr.snoc X12 N4 ge_b11
                exact J_m _ _ (.ref b11) _ X12 e12 Z_12 N_12 rfl
          · refine Good.aconstNull X4 hx (pc' := 79) rfl (hb hby at_78) ?_
            refine Good.astore X4 hx (pc' := 81) (Ls' := #[.val (.int fl), .val (.int xl), .val (.int xv), .val (.int ml), .val (.int mv'), .val (.int (1 : Int32)), .val (.int q2), .val (.int q3), .val (.int kx), .val (.int km), .val (.ref bx), .val .null, .unset]) rfl (hb hby at_79) rfl rfl ?_
            refine Good.iload X4 hx (pc' := 83) rfl (hb hby at_81) rfl ?_
            have J_m : ∀ (T' : State) (h' : Heap) (vm : Value) (locs : List Loc), Stand p l e room_1 s m #[.int fl, .int xl, .int xv, .int ml, .int mv'] below meth c T' locs 2 6 → T'.heap = h' → n0 ≤ h'.size → Fr n0 locs → vm.isRef = true → Good p.tables e below s G (T'.setTop (mkF m 108 #[.val (.int fl), .val (.int xl), .val (.int xv), .val (.int ml), .val (.int mv'), .val (.int (1 : Int32)), .val (.int q2), .val (.int q3), .val (.int kx), .val (.int km), .val (.ref bx), .val vm, .unset] [])) := by
              intro T5 h5 vm lc5 X5 e5 Z5 N5 hvm
              have J_o : ∀ (T' : State) (h' : Heap) (ob : Addr) (locs : List Loc), Stand p l e room_1 s m #[.int fl, .int xl, .int xv, .int ml, .int mv'] below meth c T' locs 3 8 → T'.heap = h' → Fr n0 locs → Exa Z h' ob "com/example/vetted_terms/vettedterms/feedback/DualActiveSet$Outcome" → Fld Z h' ob "com/example/vetted_terms/vettedterms/feedback/DualActiveSet$Outcome" "x" "[D" (.ref bx) → Good p.tables e below s G (T'.setTop (mkF m 153 #[.val (.int fl), .val (.int xl), .val (.int xv), .val (.int ml), .val (.int mv'), .val (.int (1 : Int32)), .val (.int q2), .val (.int q3), .val (.int kx), .val (.int km), .val (.ref bx), .val vm, .val (.ref ob)] [])) := by
                intro T6 h6 ob lc6 X6 e6 N6 E6 F6
                refine Good.aload X6 hx (pc' := 155) rfl (hb hby at_153) rfl rfl ?_
                refine Good.callV X6 hx hZ (y := ⟨"com/example/vetted_terms/vettedterms/feedback/DualActiveSet$Outcome", "feasible", "()Z"⟩) hown (hw _ (List.mem_of_getElem? (i := 18) rfl)) (hw _ (List.mem_of_getElem? (i := 19) rfl)) (hw _ (List.mem_of_getElem? (i := 21) rfl)) (hw _ (List.mem_of_getElem? (i := 20) rfl)) (hw _ (List.mem_of_getElem? (i := 2) rfl)) (hw _ (List.mem_of_getElem? (i := 22) rfl)) (by decide) e6 E6 (argsL := []) (rest := []) (c_fea l Z a0 hw ob (.ref bx) rfl h6 F6) (hdesc := pd_2) rfl (pc' := 158) rfl (by rw [hml]; rfl) rfl (hb hby at_155) (W := 0) (Nat.le_of_eq rfl) (by decide) (by decide) (by decide) (by decide) fun v31 T31 L31 X31 Q31 => ?_
                obtain ⟨rfl, hh1, rfl⟩ := Q31
                rw [List.append_nil] at X31
                refine Good.iload X31 hx (pc' := 160) rfl (hb hby at_158) rfl ?_
                refine Good.icmpNo X31 hx (pc' := 163) rfl (hb hby at_160) rfl ?_
                refine Good.aload X31 hx (pc' := 165) rfl (hb hby at_163) rfl rfl ?_
                refine Good.callV X31 hx hZ (y := ⟨"com/example/vetted_terms/vettedterms/feedback/DualActiveSet$Outcome", "x", "()[D"⟩) hown (hw _ (List.mem_of_getElem? (i := 23) rfl)) (hw _ (List.mem_of_getElem? (i := 24) rfl)) (hw _ (List.mem_of_getElem? (i := 26) rfl)) (hw _ (List.mem_of_getElem? (i := 25) rfl)) (hw _ (List.mem_of_getElem? (i := 2) rfl)) (hw _ (List.mem_of_getElem? (i := 27) rfl)) (by decide) hh1 E6 (argsL := []) (rest := []) (c_x l Z a0 hw ob (.ref bx) rfl h6 F6) (hdesc := pd_3) rfl (pc' := 168) rfl (by rw [hml]; rfl) rfl (hb hby at_165) (W := 0) (Nat.le_of_eq rfl) (by decide) (by decide) (by decide) (by decide) fun v32 T32 L32 X32 Q32 => ?_
                obtain ⟨rfl, hh2, rfl⟩ := Q32
                rw [List.append_nil] at X32
                refine Good.aload X32 hx (pc' := 170) rfl (hb hby at_168) rfl rfl ?_
                refine Good.acmpNo X32 hx (pc' := 173) rfl (hb hby at_170) rfl rfl (by simp [XT.acmp]) ?_
                refine Good.iconst X32 hx (pc' := 174) (w := (1 : Int32)) rfl (hb hby at_173) rfl ?_
                refine Good.goto X32 hx (pc' := 178) (by decide) (hb hby at_174) ?_
                exact Good.retZ X32 hx hlk hret (hb hby at_178) (Or.inr rfl) (hG _ _ _ _ _ (⟨rfl, N6⟩) (by decide) (by decide))
              refine Good.iload X5 hx (pc' := 110) rfl (hb hby at_108) rfl ?_
              refine Good.ifFork X5 hx (pc1 := 140) (pc2 := 113) (hb hby at_110) (by decide) rfl (fun hc_f => ?_) (fun hc_f => ?_)
              · refine Good.new X5 hx hZ hown (hw _ (List.mem_of_getElem? (i := 0) rfl)) (hw _ (List.mem_of_getElem? (i := 1) rfl)) (hw _ (List.mem_of_getElem? (i := 2) rfl)) e5 (pc' := 143) rfl (hb hby at_140) (by decide) (by decide) fun T21 h21 b21 g21 X21 e21 E21 A21 D21 => ?_
                have ge_b21 : n0 ≤ b21 := by rw [g21]; exact Z5
                have Z_21 := Nat.le_trans Z5 E21.1
                have F0_x_b21 := D21 (O := "com/example/vetted_terms/vettedterms/feedback/DualActiveSet$Outcome") (nm := "x") (d := "[D") (Or.inr (hw _ (List.mem_of_getElem? (i := 15) rfl))) (ty := (.array .double)) (by decide)
                have F0_multipliers_b21 := D21 (O := "com/example/vetted_terms/vettedterms/feedback/DualActiveSet$Outcome") (nm := "multipliers") (d := "[D") (Or.inr (hw _ (List.mem_of_getElem? (i := 17) rfl))) (ty := (.array .double)) (by decide)
                refine Good.dup X21 hx (pc' := 144) rfl (hb hby at_143) rfl ?_
                refine Good.aload X21 hx (pc' := 146) rfl (hb hby at_144) rfl rfl ?_
                refine Good.aload X21 hx (pc' := 148) rfl (hb hby at_146) rfl hvm ?_
                refine Good.callN X21 hx hZ (y := ⟨"com/example/vetted_terms/vettedterms/feedback/DualActiveSet$Outcome", "<init>", "([D[D)V"⟩) rfl hown (hw _ (List.mem_of_getElem? (i := 3) rfl)) (hw _ (List.mem_of_getElem? (i := 4) rfl)) (hw _ (List.mem_of_getElem? (i := 2) rfl)) (hw _ (List.mem_of_getElem? (i := 5) rfl)) (by decide) e21 (a := b21) (argsL := [(.ref bx), vm]) (rest := [(.ref b21)]) (c_init l Z a0 hw b21 (.ref bx) vm _ _ rfl hvm h21 n0 Z_21 A21 F0_x_b21 F0_multipliers_b21 ge_b21) (hdesc := pd_1) rfl (pc' := 151) rfl (by rw [hml]; rfl) rfl (hb hby at_148) (W := 1) (Nat.le_of_eq rfl) (by decide) (by decide) (by decide) (by decide) fun v22 T22 L22 X22 Q22 => ?_
                obtain ⟨rfl, Nq, Kq, Eq, Fq⟩ := Q22
                have E_b21_22 := A21.keep Kq
                have Z_22 := Nat.le_trans Z_21 Kq.1
                have N_22 := Fr.app N5 Nq
                refine Good.astore X22 hx (pc' := 153) (Ls' := #[.val (.int fl), .val (.int xl), .val (.int xv), .val (.int ml), .val (.int mv'), .val (.int (1 : Int32)), .val (.int q2), .val (.int q3), .val (.int kx), .val (.int km), .val (.ref bx), .val vm, .val (.ref b21)]) rfl (hb hby at_151) rfl rfl ?_
                exact J_o _ _ b21 _ X22 rfl N_22 Eq Fq
              · refine Good.iload X5 hx (pc' := 115) rfl (hb hby at_113) rfl ?_
                refine Good.ifNo X5 hx (pc' := 118) rfl (hb hby at_115) rfl ?_
                refine Good.aload X5 hx (pc' := 120) rfl (hb hby at_118) rfl rfl ?_
                refine Good.aload X5 hx (pc' := 122) rfl (hb hby at_120) rfl hvm ?_
                refine Good.callS X5 hx hZ (y := ⟨"com/example/vetted_terms/vettedterms/feedback/DualActiveSet$Outcome", "minimum", "([D[D)Lcom/example/vetted_terms/vettedterms/feedback/DualActiveSet$Outcome;"⟩) hown (hw _ (List.mem_of_getElem? (i := 29) rfl)) (hw _ (List.mem_of_getElem? (i := 30) rfl)) (hw _ (List.mem_of_getElem? (i := 2) rfl)) (hw _ (List.mem_of_getElem? (i := 31) rfl)) (by decide) e5 (argsL := [(.ref bx), vm]) (rest := []) (c_min l Z a0 hw (.ref bx) vm rfl hvm h5 n0 Z5) (hdesc := pd_5) rfl (pc' := 125) rfl (by rw [hml]; rfl) rfl (hb hby at_122) (W := 0) (Nat.le_of_eq rfl) (by decide) (by decide) (by decide) (by decide) fun v21 T21 L21 X21 Q21 => ?_
                obtain ⟨bq, rfl, Nq, Zq, Eq, Fq⟩ := Q21
                refine Good.astore X21 hx (pc' := 127) (Ls' := #[.val (.int fl), .val (.int xl), .val (.int xv), .val (.int ml), .val (.int mv'), .val (.int (1 : Int32)), .val (.int q2), .val (.int q3), .val (.int kx), .val (.int km), .val (.ref bx), .val vm, .val (.ref bq)]) rfl (hb hby at_125) rfl rfl ?_
                refine Good.goto X21 hx (pc' := 153) (by decide) (hb hby at_127) ?_
                exact J_o _ _ bq _ X21 rfl (Fr.app N5 Nq) Eq Fq
            refine Good.ifFork X4 hx (pc1 := 108) (pc2 := 86) (hb hby at_83) (by decide) rfl (fun hc_J_m => ?_) (fun hc_J_m => ?_)
            · exact J_m _ _ .null _ (X4.more (by decide) (by decide)) e4 Z4 N4 rfl
            · refine Good.iload X4 hx (pc' := 88) rfl (hb hby at_86) rfl ?_
              refine Good.newarray X4 hx hZ (hw _ (List.mem_of_getElem? (i := 28) rfl)) e4 (pc' := 90) rfl (hb hby at_88) km0 (cap := 3) km3 (by decide) (by decide) (by decide) fun T11 h11 k11 b11 g11 X11 e11 E11 A11 => ?_
              have ge_b11 : n0 ≤ b11 := by rw [g11]; exact Z4
              have Z_11 := Nat.le_trans Z4 E11.1
              have DA_b11 : DA Z h11 b11 nm (fun _ => 0) := DA.new A11 hnm'
              refine Good.astore X11 hx (pc' := 92) (Ls' := #[.val (.int fl), .val (.int xl), .val (.int xv), .val (.int ml), .val (.int mv'), .val (.int (1 : Int32)), .val (.int q2), .val (.int q3), .val (.int kx), .val (.int km), .val (.ref bx), .val (.ref b11), .unset]) rfl (hb hby at_90) rfl rfl ?_
              refine Good.iload X11 hx (pc' := 94) rfl (hb hby at_92) rfl ?_
              refine Good.ifFork X11 hx (pc1 := 108) (pc2 := 97) (hb hby at_94) (by decide) rfl (fun hl_J_m => ?_) (fun hl_J_m => ?_)
              · exact J_m _ _ (.ref b11) _ X11 e11 Z_11 N4 rfl
              · refine Good.aload X11 hx (pc' := 99) rfl (hb hby at_97) rfl rfl ?_
                refine Good.iconst X11 hx (pc' := 100) (w := (0 : Int32)) rfl (hb hby at_99) rfl ?_
                refine Good.iload X11 hx (pc' := 102) rfl (hb hby at_100) rfl ?_
                refine Good.sipush X11 hx (pc' := 105) (w := (255 : Int32)) rfl (hb hby at_102) rfl ?_
                refine Good.iand X11 hx (pc' := 106) rfl (hb hby at_105) ?_
                refine Good.i2d X11 hx (pc' := 107) rfl (hb hby at_106) ?_
                refine Good.dastoreF X11 hx hZ e11 DA_b11 (0) rfl (own_pos hnm' hl_J_m) (pc' := 108) rfl (hb hby at_107) fun T12 h12 X12 e12 W12 V12 => ?_
                have Z_12 : n0 ≤ h12.size := by rw [W12.size]; exact Z_11
                have N_12 := Fr.snoc X12 N4 ge_b11
                exact J_m _ _ (.ref b11) _ X12 e12 Z_12 N_12 rfl
        refine Good.ifFork X hx (pc1 := 78) (pc2 := 57) (hb hby at_54) (by decide) rfl (fun hc_J_x => ?_) (fun hc_J_x => ?_)
        · exact J_x _ _ .null _ (X.more (by decide) (by decide)) e0 Z0 N0 (Or.inl ⟨rfl, own_eq0 hc_J_x⟩)
        · refine Good.iload X hx (pc' := 59) rfl (hb hby at_57) rfl ?_
          refine Good.newarray X hx hZ (hw _ (List.mem_of_getElem? (i := 28) rfl)) e0 (pc' := 61) rfl (hb hby at_59) kx0 (cap := 3) kx3 (by decide) (by decide) (by decide) fun T1 h1 k1 b1 g1 X1 e1 E1 A1 => ?_
          have ge_b1 : n0 ≤ b1 := by rw [g1]; exact Z0
          have Z_1 := Nat.le_trans Z0 E1.1
          have DA_b1 : DA Z h1 b1 nx (fun _ => 0) := DA.new A1 hnx
          refine Good.astore X1 hx (pc' := 63) (Ls' := #[.val (.int fl), .val (.int xl), .val (.int xv), .val (.int ml), .val (.int mv'), .val (.int q1), .val (.int q2), .val (.int q3), .val (.int kx), .val (.int km), .val (.ref b1), .unset, .unset]) rfl (hb hby at_61) rfl rfl ?_
          refine Good.iload X1 hx (pc' := 65) rfl (hb hby at_63) rfl ?_
          refine Good.ifFork X1 hx (pc1 := 78) (pc2 := 68) (hb hby at_65) (by decide) rfl (fun hl_J_x => ?_) (fun hl_J_x => ?_)
          · exact J_x _ _ (.ref b1) _ X1 e1 Z_1 N0 (Or.inr ⟨_, rfl, own_eq1 h_q1 hc_J_x⟩)
          · refine Good.aload X1 hx (pc' := 70) rfl (hb hby at_68) rfl rfl ?_
            refine Good.iconst X1 hx (pc' := 71) (w := (0 : Int32)) rfl (hb hby at_70) rfl ?_
            refine Good.iloadN X1 hx (pc' := 72) rfl (hb hby at_71) rfl ?_
            refine Good.sipush X1 hx (pc' := 75) (w := (255 : Int32)) rfl (hb hby at_72) rfl ?_
            refine Good.iand X1 hx (pc' := 76) rfl (hb hby at_75) ?_
            refine Good.i2d X1 hx (pc' := 77) rfl (hb hby at_76) ?_
            refine Good.dastoreF X1 hx hZ e1 DA_b1 (0) rfl (own_pos hnx hl_J_x) (pc' := 78) rfl (hb hby at_77) fun T2 h2 X2 e2 W2 V2 => ?_
            have Z_2 : n0 ≤ h2.size := by rw [W2.size]; exact Z_1
            have N_2 := Fr.snoc X2 N0 ge_b1
            exact J_x _ _ (.ref b1) _ X2 e2 Z_2 N_2 (Or.inr ⟨_, rfl, own_eq1 h_q1 hc_J_x⟩)
      refine Good.ifFork X hx (pc1 := 36) (pc2 := 32) (hb hby at_29) (by decide) rfl (fun hc_q3 => ?_) (fun hc_q3 => ?_)
      · refine Good.iconst X hx (pc' := 37) (w := (0 : Int32)) rfl (hb hby at_36) rfl ?_
        exact J_q3 0 (Or.inl rfl)
      · refine Good.iconst X hx (pc' := 33) (w := (1 : Int32)) rfl (hb hby at_32) rfl ?_
        refine Good.goto X hx (pc' := 37) (by decide) (hb hby at_33) ?_
        exact J_q3 1 (Or.inr rfl)
    refine Good.ifFork X hx (pc1 := 23) (pc2 := 19) (hb hby at_16) (by decide) rfl (fun hc_q2 => ?_) (fun hc_q2 => ?_)
    · refine Good.iconst X hx (pc' := 24) (w := (0 : Int32)) rfl (hb hby at_23) rfl ?_
      exact J_q2 0 (Or.inl rfl)
    · refine Good.iconst X hx (pc' := 20) (w := (1 : Int32)) rfl (hb hby at_19) rfl ?_
      refine Good.goto X hx (pc' := 24) (by decide) (hb hby at_20) ?_
      exact J_q2 1 (Or.inr rfl)
  refine Good.ifFork X hx (pc1 := 10) (pc2 := 6) (hb hby at_3) (by decide) rfl (fun hc_q1 => ?_) (fun hc_q1 => ?_)
  · refine Good.iconst X hx (pc' := 11) (w := (0 : Int32)) rfl (hb hby at_10) rfl ?_
    exact J_q1 0 (Or.inl rfl)
  · refine Good.iconst X hx (pc' := 7) (w := (1 : Int32)) rfl (hb hby at_6) rfl ?_
    refine Good.goto X hx (pc' := 11) (by decide) (hb hby at_7) ?_
    exact J_q1 1 (Or.inr rfl)
set_option maxRecDepth 65536 in
set_option maxHeartbeats 40000000 in
theorem comes_1 {Post : Tables → Env → Array Value → State → Outcome → State → Prop} (hpost : ∀ tb e args s v u, (limb_1_1.after args s (.returned v) u = true ∧ limb_1_2.after args s (.returned v) u = true ∧ True) → FrameEnd s (.returned v) u (Jvm.fieldLocs frame_1_writes args s ++ Jvm.arrayLocs frame_1_arrays args s ++ Jvm.staticLocs frame_1_statics s) 16 128 → Post tb e args s (.returned v) u) :
    ArmFor flags0 classFile x code maxLocals ret World_1 tables_1 room_1 Calls_1 rest_1 Pre_1 Post := by
  intro l hfl _ _ p e ha hc hk s m args below hf hA hF happ hP
  obtain ⟨hcalls, hrest, hpre⟩ := hP
  obtain ⟨-, -, -, hnamed, -, -, -, hat⟩ := (Spec.applies_iff hf).mp happ
  obtain ⟨hg, hn⟩ := and_e (Cond.before_iff.mp (show (Jvm.Cond.and given_1 narrow_1).before args s = true from hpre))
  obtain ⟨w0, w1, w2, w3, w4, rfl⟩ : ∃ w0 w1 w2 w3 w4 : Value, args = #[w0, w1, w2, w3, w4] := by
    have hs : args.size = 5 := by
      obtain ⟨q, -⟩ := and_e hg
      simpa [Cond.value, given_1] using q
    obtain ⟨L⟩ := args
    match L, hs with
    | [w0, w1, w2, w3, w4], _ => exact ⟨w0, w1, w2, w3, w4, rfl⟩
  have hw := fun d (hd : d ∈ tables_1) => atoms_spec (ws := Jvm.Cond.code x code maxLocals ret :: tables_1) hat d (List.mem_cons_of_mem _ hd)
  obtain ⟨-, hg0⟩ := and_e hg
  obtain ⟨gi0, hg1⟩ := and_e hg0
  obtain ⟨i0, ei0⟩ := is_v gi0
  obtain rfl : w0 = (.int i0) := Option.some.inj ei0
  obtain ⟨gi1, hg2⟩ := and_e hg1
  obtain ⟨i1, ei1⟩ := is_v gi1
  obtain rfl : w1 = (.int i1) := Option.some.inj ei1
  obtain ⟨gi2, hg3⟩ := and_e hg2
  obtain ⟨i2, ei2⟩ := is_v gi2
  obtain rfl : w2 = (.int i2) := Option.some.inj ei2
  obtain ⟨gi3, hg4⟩ := and_e hg3
  obtain ⟨i3, ei3⟩ := is_v gi3
  obtain rfl : w3 = (.int i3) := Option.some.inj ei3
  obtain ⟨i4, ei4⟩ := is_v hg4
  obtain rfl : w4 = (.int i4) := Option.some.inj ei4
  have K := c_law l s _ hw i0 i1 i2 i3 i4 s.heap s.heap.size (Nat.le_refl _)
  obtain ⟨n, o, h1, h2, h3, _, L, rfl, ⟨rfl, N⟩, hq⟩ := K tables_1 p e ha hc hk s m _ below hf ((Spec.applies_iff_loose hf).mp happ).1 ⟨rfl, State.Warmed39.refl s, rfl⟩ trivial
  refine ⟨n, _, h1, h2, h3, hpost _ _ _ _ _ _ ⟨Cond.after_iff.mpr rfl, Cond.after_iff.mpr (eq_i res_at (Term.int_eval (1)) rfl), trivial⟩ ⟨hq.1, hq.2.1, (hq.2.2.sift fun y hy => Or.inr (N y hy)).mono (by decide) (by decide)⟩⟩
theorem main_1_1 : Claimed_1_1 := comes_1 fun _ _ _ _ _ _ h hF => ⟨h.1, hF⟩
theorem main_1_2 : Claimed_1_2 := comes_1 fun _ _ _ _ _ _ h hF => ⟨h.2.1, hF⟩
end Jvm.Pilot.@@N@@
namespace Jvm.Pilot.@@N@@
open Jvm Jvm.ClassFile Sem Op Lib Jvm.Free Jvm.Stand Jvm.Pilot.@@N@@.Jvm.D
/-! MADE BY PROGRAM (witnessworld.py) out of the Statement's table words and the real class files: 12 classes; the members and pool entries that the words name. The judged class is class 1, her method 1. -/
namespace start1
open Jvm.ClassFile
def u (s : String) : CpInfo := .utf8 (stringToUtf16 s)
/-- a pool by its gaps: so many unusable entries, then the entry; so many at the end -/
def gap : Nat → List CpInfo → List CpInfo
  | 0, r => r
  | n + 1, r => .unusable :: gap n r
def poolList (es : List (Nat × CpInfo)) (last : Nat) : List CpInfo := es.foldr (fun e r => gap e.1 (e.2 :: r)) (gap last [])
def pool (es : List (Nat × CpInfo)) (last : Nat) : Array CpInfo := ⟨poolList es last⟩
def fileOf (pool : Array CpInfo) (this : Nat) (attrs : Array Attribute := #[]) (ms : Array MethodInfo := #[]) (fl : Nat := 33) (sup : Nat := 0) (ifs : Array Nat := #[]) (fds : Array FieldInfo := #[]) : ClassFile where
  minorVersion := 0
  majorVersion := 65
  constantPool := pool
  accessFlags := fl
  thisClass := this
  superClass := sup
  interfaces := ifs
  fields := fds
  methods := ms
  attributes := attrs
def plain (name : String) (sup : Option ClassId) : Class where
  name := name
  kind := .ordinary
  loader := none
  accessFlags := 33
  super := sup
  interfaces := #[]
  cf := none
  fields := #[]
  methods := #[]
  instanceTypes := #[]
  staticTypes := #[]
  resolved := #[]
  callSites := []
  init := .initialized
  statics := none
  mirror := none

def pool0 : Array CpInfo := pool [(5, u "<init>"), (0, u "()V"), (1, .class_ 10), (1, u "java/lang/Object")] 113

def k0c0 : Code := { maxStack := 0, maxLocals := 1, code := object_method_1_code, exceptionTable := #[], attributes := #[] }
def k0m0 : Method := { name := "<init>", desc := "()V", sig := { parameters := [], returnType := none }, accessFlags := 1, code := some k0c0 }
/-- java/lang/Object -/
def k0 : Class := { plain "java/lang/Object" none with
  accessFlags := 33
  interfaces := #[]
  cf := some (fileOf pool0 8 #[] #[{ accessFlags := 1, nameIndex := 5, descriptorIndex := 6, attributes := #[] }] 33 0 #[] #[])
  fields := #[]
  methods := #[k0m0]
  instanceTypes := #[]
  staticTypes := #[]
  resolved := Array.replicate 124 none
  statics := none }

def pool1 : Array CpInfo := pool [(2, .class_ 4), (1, u "java/lang/Object"), (0, u "<init>"), (0, u "()V"), (0, .methodref 8 9), (0, .class_ 10), (0, .nameAndType 11 12), (0, u "com/example/vetted_terms/vettedterms/feedback/DualActiveSet$Outcome"), (0, u "minimum"), (0, u "([D[D)Lcom/example/vetted_terms/vettedterms/feedback/DualActiveSet$Outcome;"), (0, .methodref 8 14), (0, .nameAndType 15 16), (0, u "infeasible"), (0, u "([D)Lcom/example/vetted_terms/vettedterms/feedback/DualActiveSet$Outcome;"), (0, .methodref 8 18), (0, .nameAndType 5 19), (0, u "([D[D)V"), (0, .methodref 8 21), (0, .nameAndType 22 23), (0, u "feasible"), (0, u "()Z"), (0, .methodref 8 25), (0, .nameAndType 26 27), (0, u "x"), (0, u "()[D"), (0, .class_ 29), (0, u "com/example/vetted_terms/vettedterms/feedback/OutcomeFeasiblePinLaw"), (2, u "law"), (0, u "(IIIII)Z")] 9

def k1m0 : Method := { name := "<init>", desc := "()V", sig := { parameters := [], returnType := none }, accessFlags := 1, code := none }
def k1c1 : Code := { maxStack := 4, maxLocals := 13, code := code, exceptionTable := #[], attributes := #[] }
def k1m1 : Method := { name := "law", desc := "(IIIII)Z", sig := { parameters := [.int, .int, .int, .int, .int], returnType := some .boolean }, accessFlags := 9, code := some k1c1 }
/-- com/example/vetted_terms/vettedterms/feedback/OutcomeFeasiblePinLaw -/
def k1 : Class := { plain "com/example/vetted_terms/vettedterms/feedback/OutcomeFeasiblePinLaw" (some 0) with
  accessFlags := 49
  interfaces := #[]
  cf := some (fileOf pool1 28 #[] #[{ accessFlags := 1, nameIndex := 5, descriptorIndex := 6, attributes := #[] }, { accessFlags := 9, nameIndex := 32, descriptorIndex := 33, attributes := #[] }] 49 2 #[] #[])
  fields := #[]
  methods := #[k1m0, k1m1]
  instanceTypes := #[]
  staticTypes := #[]
  resolved := Array.replicate 43 none
  statics := none }

def pool2 : Array CpInfo := pool [(1, .methodref 2 3), (0, .class_ 4), (0, .nameAndType 5 6), (0, u "java/lang/Object"), (0, u "<init>"), (0, u "()V"), (0, .class_ 8), (0, u "java/lang/Record")] 13

def k2c0 : Code := { maxStack := 1, maxLocals := 1, code := jdk_30_method_1_code, exceptionTable := #[], attributes := #[] }
def k2m0 : Method := { name := "<init>", desc := "()V", sig := { parameters := [], returnType := none }, accessFlags := 4, code := some k2c0 }
/-- java/lang/Record -/
def k2 : Class := { plain "java/lang/Record" (some 0) with
  accessFlags := 1057
  interfaces := #[]
  cf := some (fileOf pool2 7 #[] #[{ accessFlags := 4, nameIndex := 5, descriptorIndex := 6, attributes := #[] }] 1057 2 #[] #[])
  fields := #[]
  methods := #[k2m0]
  instanceTypes := #[]
  staticTypes := #[]
  resolved := Array.replicate 22 none
  statics := none }

def pool3 : Array CpInfo := pool [(1, .methodref 2 3), (0, .class_ 4), (0, .nameAndType 5 6), (0, u "java/lang/Record"), (0, u "<init>"), (0, u "()V"), (0, .fieldref 8 9), (0, .class_ 10), (0, .nameAndType 11 12), (0, u "com/example/vetted_terms/vettedterms/feedback/DualActiveSet$Outcome"), (0, u "x"), (0, u "[D"), (0, .fieldref 8 14), (0, .nameAndType 15 12), (0, u "multipliers"), (0, .methodref 8 17), (0, .nameAndType 5 18), (0, u "([D[D)V"), (15, u "minimum"), (0, u "([D[D)Lcom/example/vetted_terms/vettedterms/feedback/DualActiveSet$Outcome;"), (0, u "infeasible"), (0, u "([D)Lcom/example/vetted_terms/vettedterms/feedback/DualActiveSet$Outcome;"), (0, u "feasible"), (0, u "()Z"), (4, u "()[D"), (3, .class_ 49), (0, u "com/example/vetted_terms/vettedterms/feedback/DualActiveSet")] 20

def k3c0 : Code := { maxStack := 2, maxLocals := 3, code := prog_41_method_1_code, exceptionTable := #[], attributes := #[] }
def k3m0 : Method := { name := "<init>", desc := "([D[D)V", sig := { parameters := [(.array .double), (.array .double)], returnType := none }, accessFlags := 0, code := some k3c0 }
def k3c1 : Code := { maxStack := 4, maxLocals := 2, code := prog_41_method_2_code, exceptionTable := #[], attributes := #[] }
def k3m1 : Method := { name := "minimum", desc := "([D[D)Lcom/example/vetted_terms/vettedterms/feedback/DualActiveSet$Outcome;", sig := { parameters := [(.array .double), (.array .double)], returnType := some (.object "com/example/vetted_terms/vettedterms/feedback/DualActiveSet$Outcome") }, accessFlags := 8, code := some k3c1 }
def k3c2 : Code := { maxStack := 4, maxLocals := 1, code := prog_41_method_3_code, exceptionTable := #[], attributes := #[] }
def k3m2 : Method := { name := "infeasible", desc := "([D)Lcom/example/vetted_terms/vettedterms/feedback/DualActiveSet$Outcome;", sig := { parameters := [(.array .double)], returnType := some (.object "com/example/vetted_terms/vettedterms/feedback/DualActiveSet$Outcome") }, accessFlags := 8, code := some k3c2 }
def k3c3 : Code := { maxStack := 1, maxLocals := 1, code := prog_41_method_4_code, exceptionTable := #[], attributes := #[] }
def k3m3 : Method := { name := "feasible", desc := "()Z", sig := { parameters := [], returnType := some .boolean }, accessFlags := 0, code := some k3c3 }
def k3c4 : Code := { maxStack := 1, maxLocals := 1, code := prog_41_method_8_code, exceptionTable := #[], attributes := #[] }
def k3m4 : Method := { name := "x", desc := "()[D", sig := { parameters := [], returnType := some (.array .double) }, accessFlags := 1, code := some k3c4 }
/-- com/example/vetted_terms/vettedterms/feedback/DualActiveSet$Outcome -/
def k3 : Class := { plain "com/example/vetted_terms/vettedterms/feedback/DualActiveSet$Outcome" (some 2) with
  accessFlags := 48
  interfaces := #[]
  cf := some (fileOf pool3 8 #[.nestHost 48] #[{ accessFlags := 0, nameIndex := 5, descriptorIndex := 18, attributes := #[] }, { accessFlags := 8, nameIndex := 34, descriptorIndex := 35, attributes := #[] }, { accessFlags := 8, nameIndex := 36, descriptorIndex := 37, attributes := #[] }, { accessFlags := 0, nameIndex := 38, descriptorIndex := 39, attributes := #[] }, { accessFlags := 1, nameIndex := 11, descriptorIndex := 44, attributes := #[] }] 48 2 #[] #[{ accessFlags := 18, nameIndex := 11, descriptorIndex := 12, attributes := #[] }, { accessFlags := 18, nameIndex := 15, descriptorIndex := 12, attributes := #[] }])
  fields := #[{ name := "x", type := (.array .double), accessFlags := 18, slot := 0, constantValue := 0 }, { name := "multipliers", type := (.array .double), accessFlags := 18, slot := 1, constantValue := 0 }]
  methods := #[k3m0, k3m1, k3m2, k3m3, k3m4]
  instanceTypes := #[(.array .double), (.array .double)]
  staticTypes := #[]
  resolved := Array.replicate 70 none
  statics := none }

def pool4 : Array CpInfo := pool [(1, u "java/lang/Cloneable"), (0, .class_ 1), (0, u "java/lang/Object"), (0, .class_ 3)] 3

/-- java/lang/Cloneable -/
def k4 : Class := { plain "java/lang/Cloneable" (some 0) with
  accessFlags := 1537
  interfaces := #[]
  cf := some (fileOf pool4 2 #[] #[] 1537 4 #[] #[])
  fields := #[]
  methods := #[]
  instanceTypes := #[]
  staticTypes := #[]
  resolved := Array.replicate 8 none
  statics := none }

def pool5 : Array CpInfo := pool [(1, u "java/io/Serializable"), (0, .class_ 1), (0, u "java/lang/Object"), (0, .class_ 3)] 3

/-- java/io/Serializable -/
def k5 : Class := { plain "java/io/Serializable" (some 0) with
  accessFlags := 1537
  interfaces := #[]
  cf := some (fileOf pool5 2 #[] #[] 1537 4 #[] #[])
  fields := #[]
  methods := #[]
  instanceTypes := #[]
  staticTypes := #[]
  resolved := Array.replicate 8 none
  statics := none }

/-- the primitive byte -/
def k6 : Class := { plain "byte" none with kind := .primitive 'B', accessFlags := 0x411 }
/-- [B -/
def k7 : Class := { plain "[B" (some 0) with kind := .array 6 .byte, interfaces := #[4, 5], accessFlags := 1041 }

/-- the primitive double -/
def k8 : Class := { plain "double" none with kind := .primitive 'D', accessFlags := 0x411 }
/-- [D -/
def k9 : Class := { plain "[D" (some 0) with kind := .array 8 .double, interfaces := #[4, 5], accessFlags := 1041 }

/-- the primitive int -/
def k10 : Class := { plain "int" none with kind := .primitive 'I', accessFlags := 0x411 }
/-- [I -/
def k11 : Class := { plain "[I" (some 0) with kind := .array 10 .int, interfaces := #[4, 5], accessFlags := 1041 }

def heap : Heap := #[]
def classes : Array Class := #[k0, k1, k2, k3, k4, k5, k6, k7, k8, k9, k10, k11]
def interned : List (Array UInt16 × Addr) := []
def slotsUsed : Nat := 0
def theMethod : MethodId := ⟨1, 1⟩
def args0 : Array Value := #[.int 3, .int 5, .int 7, .int 9, .int 4]
def aboutOver (below : List Frame) : State where
  vm := { classes := classes, interned := interned.toArray }
  heap := heap
  slotsUsed := slotsUsed
  threads := #[{ frames := .invoking theMethod args0 :: below }]
def below0 : List Frame := [.native { method := ⟨0, 0⟩, args := #[] }]
def about1 : State := aboutOver below0
def p0 : Program := .bare "" "" ""
def e0 : Env := launch0.env 0 0 0
theorem w_frames : about1.frames = Frame.invoking theMethod args0 :: below0 := rfl
set_option maxRecDepth 65536 in
theorem w_args : argsFit about1.vm theMethod args0 = true := by decide +kernel
set_option maxRecDepth 65536 in
theorem w_heap : heapFits about1 = true := by decide +kernel
set_option maxRecDepth 65536 in
theorem w_runnable : about1.curStatus? = some .runnable := by decide +kernel
set_option maxRecDepth 65536 in
theorem w_alone : about1.alone = true := by decide +kernel
set_option maxRecDepth 65536 in
theorem w_named : about1.methodNamed? x = some theMethod := by decide +kernel
set_option maxRecDepth 65536 in
theorem w_hears : about1.hears theMethod below0 = true := by decide +kernel
set_option maxRecDepth 65536 in
theorem w_ripe : about1.ripe theMethod args0 below0 = true := by decide +kernel
theorem w_running : about1.status = .running := rfl
set_option maxRecDepth 65536 in
theorem w_room : about1.hasRoom e0.platform room_1 = true :=
  launch0.hasRoom_least _ room_1 (by decide +kernel) (by decide +kernel) (by decide +kernel) (by decide +kernel) (by decide +kernel) (by decide +kernel)
theorem allAtoms_all (ts : List Jvm.Cond) (a : Array Jvm.Value) (st : Jvm.State) : (allAtoms ts).before a st = ts.all (fun c => c.before a st) := by
  induction ts with
  | nil => rfl
  | cons c t ih =>
    show (Jvm.Cond.and c (allAtoms t)).before a st = _
    rw [Jvm.Cond.before_and, ih, List.all_cons]
def words1 : List Jvm.Cond := Jvm.Cond.code x code maxLocals ret :: tables_1
/-- a 'code' word, met by the world's own term for the bytes: nothing is compared byte by byte -/
theorem code_word {y : MethodName} {bytes : ByteArray} {mx : Nat} {rt : Option FieldType} {a : Array Value} {s : State} {m : MethodId} {meth : Method} {c : Code} (h1 : s.methodNamed? y = some m) (h2 : s.vm.method? m = some meth) (h3 : meth.code = some c) (h4 : c.code = bytes)
    (h5 : (c.maxLocals == mx && c.exceptionTable.isEmpty && decide (c.maxStack ≤ mostOperands) && decide (meth.sig.returnType = rt) && !meth.locks && decide (parseMethodDescriptor y.desc = some meth.sig)) = true) : (Jvm.Cond.code y bytes mx rt).before a s = true := by
  simp only [Bool.and_eq_true, beq_iff_eq, Bool.not_eq_true', decide_eq_true_eq] at h5
  obtain ⟨⟨⟨⟨⟨g1, g2⟩, g3⟩, g4⟩, g5⟩, g6⟩ := h5
  simp [Cond.before, Cond.holds, Cond.value, h1, h2, h3, h4, g1, g2, g3, g4, g5, g6]
def isCode : Jvm.Cond → Bool
  | .code _ _ _ _ => true
  | _ => false
theorem all_split {L : List Jvm.Cond} {P : Jvm.Cond → Bool} (h1 : L.all (fun c => isCode c || P c) = true) (h2 : ∀ c ∈ L.filter isCode, P c = true) : L.all P = true := by
  refine List.all_eq_true.mpr fun c hc => ?_
  have h := List.all_eq_true.mp h1 c hc
  rcases Bool.eq_false_or_eq_true (isCode c) with hi | hi
  · exact h2 c (List.mem_filter.mpr ⟨hc, hi⟩)
  · simpa [hi] using h
set_option maxRecDepth 65536 in
theorem w_c0 : (Jvm.Cond.code x code maxLocals ret).before args0 about1 = true := code_word (m := ⟨1, 1⟩) (meth := k1m1) (c := k1c1) (by decide +kernel) rfl rfl rfl (by decide +kernel)
set_option maxRecDepth 65536 in
theorem w_c1 : (Jvm.Cond.code ({ cls := "com/example/vetted_terms/vettedterms/feedback/DualActiveSet$Outcome", name := "<init>", desc := "([D[D)V" } : Jvm.MethodName) prog_41_method_1_code (3 : Nat) (Option.none : Option Jvm.ClassFile.FieldType)).before args0 about1 = true := code_word (m := ⟨3, 0⟩) (meth := k3m0) (c := k3c0) (by decide +kernel) rfl rfl rfl (by decide +kernel)
set_option maxRecDepth 65536 in
theorem w_c2 : (Jvm.Cond.code ({ cls := "java/lang/Record", name := "<init>", desc := "()V" } : Jvm.MethodName) jdk_30_method_1_code (1 : Nat) (Option.none : Option Jvm.ClassFile.FieldType)).before args0 about1 = true := code_word (m := ⟨2, 0⟩) (meth := k2m0) (c := k2c0) (by decide +kernel) rfl rfl rfl (by decide +kernel)
set_option maxRecDepth 65536 in
theorem w_c3 : (Jvm.Cond.code ({ cls := "java/lang/Object", name := "<init>", desc := "()V" } : Jvm.MethodName) object_method_1_code (1 : Nat) (Option.none : Option Jvm.ClassFile.FieldType)).before args0 about1 = true := code_word (m := ⟨0, 0⟩) (meth := k0m0) (c := k0c0) (by decide +kernel) rfl rfl rfl (by decide +kernel)
set_option maxRecDepth 65536 in
theorem w_c4 : (Jvm.Cond.code ({ cls := "com/example/vetted_terms/vettedterms/feedback/DualActiveSet$Outcome", name := "feasible", desc := "()Z" } : Jvm.MethodName) prog_41_method_4_code (1 : Nat) (Option.some Jvm.ClassFile.FieldType.boolean)).before args0 about1 = true := code_word (m := ⟨3, 3⟩) (meth := k3m3) (c := k3c3) (by decide +kernel) rfl rfl rfl (by decide +kernel)
set_option maxRecDepth 65536 in
theorem w_c5 : (Jvm.Cond.code ({ cls := "com/example/vetted_terms/vettedterms/feedback/DualActiveSet$Outcome", name := "x", desc := "()[D" } : Jvm.MethodName) prog_41_method_8_code (1 : Nat) (Option.some (Jvm.ClassFile.FieldType.array Jvm.ClassFile.FieldType.double))).before args0 about1 = true := code_word (m := ⟨3, 4⟩) (meth := k3m4) (c := k3c4) (by decide +kernel) rfl rfl rfl (by decide +kernel)
set_option maxRecDepth 65536 in
theorem w_c6 : (Jvm.Cond.code ({ cls := "com/example/vetted_terms/vettedterms/feedback/DualActiveSet$Outcome", name := "minimum", desc := "([D[D)Lcom/example/vetted_terms/vettedterms/feedback/DualActiveSet$Outcome;" } : Jvm.MethodName) prog_41_method_2_code (2 : Nat) (Option.some (Jvm.ClassFile.FieldType.object "com/example/vetted_terms/vettedterms/feedback/DualActiveSet$Outcome"))).before args0 about1 = true := code_word (m := ⟨3, 1⟩) (meth := k3m1) (c := k3c1) (by decide +kernel) rfl rfl rfl (by decide +kernel)
set_option maxRecDepth 65536 in
theorem w_c7 : (Jvm.Cond.code ({ cls := "com/example/vetted_terms/vettedterms/feedback/DualActiveSet$Outcome", name := "infeasible", desc := "([D)Lcom/example/vetted_terms/vettedterms/feedback/DualActiveSet$Outcome;" } : Jvm.MethodName) prog_41_method_3_code (1 : Nat) (Option.some (Jvm.ClassFile.FieldType.object "com/example/vetted_terms/vettedterms/feedback/DualActiveSet$Outcome"))).before args0 about1 = true := code_word (m := ⟨3, 2⟩) (meth := k3m2) (c := k3c2) (by decide +kernel) rfl rfl rfl (by decide +kernel)
def codes1 : List Jvm.Cond := [Jvm.Cond.code x code maxLocals ret, Jvm.Cond.code ({ cls := "com/example/vetted_terms/vettedterms/feedback/DualActiveSet$Outcome", name := "<init>", desc := "([D[D)V" } : Jvm.MethodName) prog_41_method_1_code (3 : Nat) (Option.none : Option Jvm.ClassFile.FieldType), Jvm.Cond.code ({ cls := "java/lang/Record", name := "<init>", desc := "()V" } : Jvm.MethodName) jdk_30_method_1_code (1 : Nat) (Option.none : Option Jvm.ClassFile.FieldType), Jvm.Cond.code ({ cls := "java/lang/Object", name := "<init>", desc := "()V" } : Jvm.MethodName) object_method_1_code (1 : Nat) (Option.none : Option Jvm.ClassFile.FieldType), Jvm.Cond.code ({ cls := "com/example/vetted_terms/vettedterms/feedback/DualActiveSet$Outcome", name := "feasible", desc := "()Z" } : Jvm.MethodName) prog_41_method_4_code (1 : Nat) (Option.some Jvm.ClassFile.FieldType.boolean), Jvm.Cond.code ({ cls := "com/example/vetted_terms/vettedterms/feedback/DualActiveSet$Outcome", name := "x", desc := "()[D" } : Jvm.MethodName) prog_41_method_8_code (1 : Nat) (Option.some (Jvm.ClassFile.FieldType.array Jvm.ClassFile.FieldType.double)), Jvm.Cond.code ({ cls := "com/example/vetted_terms/vettedterms/feedback/DualActiveSet$Outcome", name := "minimum", desc := "([D[D)Lcom/example/vetted_terms/vettedterms/feedback/DualActiveSet$Outcome;" } : Jvm.MethodName) prog_41_method_2_code (2 : Nat) (Option.some (Jvm.ClassFile.FieldType.object "com/example/vetted_terms/vettedterms/feedback/DualActiveSet$Outcome")), Jvm.Cond.code ({ cls := "com/example/vetted_terms/vettedterms/feedback/DualActiveSet$Outcome", name := "infeasible", desc := "([D)Lcom/example/vetted_terms/vettedterms/feedback/DualActiveSet$Outcome;" } : Jvm.MethodName) prog_41_method_3_code (1 : Nat) (Option.some (Jvm.ClassFile.FieldType.object "com/example/vetted_terms/vettedterms/feedback/DualActiveSet$Outcome"))]
set_option maxRecDepth 65536 in
theorem codes_eq : words1.filter isCode = codes1 := rfl
theorem w_codes : ∀ c ∈ words1.filter isCode, c.before args0 about1 = true := by
  rw [codes_eq]
  intro c hc
  simp only [codes1, List.mem_cons, List.not_mem_nil, or_false] at hc
  rcases hc with rfl | rfl | rfl | rfl | rfl | rfl | rfl | rfl
  · exact w_c0
  · exact w_c1
  · exact w_c2
  · exact w_c3
  · exact w_c4
  · exact w_c5
  · exact w_c6
  · exact w_c7
set_option maxRecDepth 65536 in
theorem w_t1 : (words1.take 24).all (fun c => isCode c || c.before args0 about1) = true := by decide +kernel
set_option maxRecDepth 65536 in
theorem w_t2 : (words1.drop 24).all (fun c => isCode c || c.before args0 about1) = true := by decide +kernel
theorem w_tables : (allAtoms (Jvm.Cond.code x code maxLocals ret :: tables_1)).before args0 about1 = true := by
  rw [allAtoms_all]
  show words1.all (fun c => c.before args0 about1) = true
  refine all_split ?_ w_codes
  rw [← List.take_append_drop 24 words1, List.all_append, w_t1, w_t2]
  rfl
set_option maxRecDepth 65536 in
theorem w_case : (Jvm.Cond.and given_1 narrow_1).before args0 about1 = true := by decide +kernel
theorem w_applies : (headSpec (Jvm.Cond.code x code maxLocals ret :: tables_1) room_1).applies x e0.platform about1 = true :=
  (Spec.applies_iff w_frames).mpr ⟨w_running, w_runnable, w_alone, w_named, w_hears, w_ripe, w_room, w_tables⟩
theorem atStart : AtStart classFile x code maxLocals ret World_1 tables_1 room_1 Calls_1 rest_1 Pre_1 launch0 p0 e0 about1 theMethod args0 below0 :=
  ⟨lists_1, trivial, launch0.admits_env _ _ _, launch0.least_env, fairChoices_fair.cas, fairChoices_fair.clock, w_frames, w_args, w_heap, w_applies, trivial, trivial, w_case⟩
end start1
theorem witness_1 : WitnessClaimed_1 := ⟨start1.p0, start1.e0, start1.about1, start1.theMethod, start1.args0, start1.below0, start1.atStart⟩
end Jvm.Pilot.@@N@@
