import JvmDerived
import JvmDerived.Pilot.@@N@@Statement
import JvmDerived.Pilot.@@N@@Code
set_option linter.unusedVariables false
set_option linter.unusedSimpArgs false
namespace Jvm.OwnKit
open Sem ClassFile Op Lib Jvm.Stand Jvm.Free Jvm.LawKit Jvm.RoadKit Jvm.Free.Fl
/-- from U the run comes to a return whose value, heap, written places, new cells and slots meet G -/
def Good (tb : Tables) (e : Env) (below : List Frame) (s : State) (G : Option Value → Heap → List Loc → Nat → Nat → Prop) (U : State) : Prop :=
  ∃ (T : State) (fs : List Frame) (v : Option Value) (locs : List Loc) (cells slots : Nat), Steps tb e below U (T.setFrames fs) ∧ (T.setFrames fs).status = .running ∧ Ended (T.setFrames fs) below (.returned v) ∧ s.WarmedH (T.setFrames fs).vm ∧ s.sameButNew ({ T.setFrames fs with vm := s.vm } : State) locs cells slots ∧ G v T.heap locs cells slots
theorem Good.go {tb : Tables} {e : Env} {below : List Frame} {s : State} {G : Option Value → Heap → List Loc → Nat → Nat → Prop} {U U' : State} (st : ∀ target, Steps tb e below U' target → Steps tb e below U target) (k : Good tb e below s G U') : Good tb e below s G U := by
  obtain ⟨T, fs, v, L, a, b, q, r⟩ := k
  exact ⟨T, fs, v, L, a, b, st _ q, r⟩
section Kit
variable {p : Program} {l : Launch} {e : Env} {R : Room} {s : State} {m : MethodId} {args : Array Value} {below : List Frame} {meth : Method} {c : Code} {T : State} {locs : List Loc} {cells slots : Nat} {G : Option Value → Heap → List Loc → Nat → Nat → Prop}
theorem Good.ret (X : Stand p l e R s m args below meth c T locs cells slots) (hx : p.tables.exec = Jvm.exec) (hlk : meth.locks = false) {pc : Nat} {Ls : Array Slot} {w : Value} {t : FieldType} {i : Instr} {rest : List Value} (hret : meth.sig.returnType = some t) (hn : narrow t w = w)
    (hi : (i = .ireturn ∧ (t = .int ∨ t = .boolean ∨ t = .byte ∨ t = .char ∨ t = .short) ∧ ∃ z, w = .int z) ∨ (i = .lreturn ∧ t = .long ∧ ∃ z, w = .long z) ∨ (i = .dreturn ∧ t = .double ∧ ∃ z, w = .double z) ∨ (i = .freturn ∧ t = .float ∧ ∃ z, w = .float z) ∨ (i = .areturn ∧ t.isReference = true ∧ w.isRef = true))
    (hd : decode c.code pc = .ok (i, 1)) (hG : G (some w) T.heap locs cells slots) : Good p.tables e below s G (T.setTop (mkF m pc Ls (w :: rest))) := by
  obtain ⟨fs, hr, h1, h2, h3, h4⟩ := X.leave (v := some w) (fun q => by rw [hret] at q; cases q) hlk
  exact ⟨T, fs, some w, locs, cells, slots, retOut X hx hret hn hi hd hr, h1, h2, h3, h4, hG⟩
theorem Good.retD (X : Stand p l e R s m args below meth c T locs cells slots) (hx : p.tables.exec = Jvm.exec) (hlk : meth.locks = false) {pc : Nat} {Ls : Array Slot} {w : UInt64} {rest : List Value} (hret : meth.sig.returnType = some .double) (hd : decode c.code pc = .ok (.dreturn, 1)) (hG : G (some (.double w)) T.heap locs cells slots) : Good p.tables e below s G (T.setTop (mkF m pc Ls (.double w :: rest))) :=
  Good.ret X hx hlk hret rfl (Or.inr (Or.inr (Or.inl ⟨rfl, rfl, _, rfl⟩))) hd hG
theorem Good.retA (X : Stand p l e R s m args below meth c T locs cells slots) (hx : p.tables.exec = Jvm.exec) (hlk : meth.locks = false) {pc : Nat} {Ls : Array Slot} {w : Value} {t : FieldType} {rest : List Value} (hret : meth.sig.returnType = some t) (ht : t.isReference = true) (hw : w.isRef = true) (hd : decode c.code pc = .ok (.areturn, 1)) (hG : G (some w) T.heap locs cells slots) : Good p.tables e below s G (T.setTop (mkF m pc Ls (w :: rest))) :=
  Good.ret X hx hlk hret (by cases t <;> first | (exact Bool.noConfusion ht) | (cases w <;> first | rfl | exact Bool.noConfusion hw)) (Or.inr (Or.inr (Or.inr (Or.inr ⟨rfl, ht, hw⟩)))) hd hG
theorem Good.retI (X : Stand p l e R s m args below meth c T locs cells slots) (hx : p.tables.exec = Jvm.exec) (hlk : meth.locks = false) {pc : Nat} {Ls : Array Slot} {w : Int32} {rest : List Value} (hret : meth.sig.returnType = some .int) (hd : decode c.code pc = .ok (.ireturn, 1)) (hG : G (some (.int w)) T.heap locs cells slots) : Good p.tables e below s G (T.setTop (mkF m pc Ls (.int w :: rest))) :=
  Good.ret X hx hlk hret rfl (Or.inl ⟨rfl, Or.inl rfl, _, rfl⟩) hd hG
theorem Good.retZ (X : Stand p l e R s m args below meth c T locs cells slots) (hx : p.tables.exec = Jvm.exec) (hlk : meth.locks = false) {pc : Nat} {Ls : Array Slot} {w : Int32} {rest : List Value} (hret : meth.sig.returnType = some .boolean) (hd : decode c.code pc = .ok (.ireturn, 1)) (hw : w = 0 ∨ w = 1) (hG : G (some (.int w)) T.heap locs cells slots) : Good p.tables e below s G (T.setTop (mkF m pc Ls (.int w :: rest))) :=
  Good.ret X hx hlk hret (by rcases hw with rfl | rfl <;> rfl) (Or.inl ⟨rfl, Or.inr (Or.inl rfl), _, rfl⟩) hd hG
theorem Good.ret0 (X : Stand p l e R s m args below meth c T locs cells slots) (hx : p.tables.exec = Jvm.exec) (hlk : meth.locks = false) {pc : Nat} {Ls : Array Slot} (hret : meth.sig.returnType = none) (hd : decode c.code pc = .ok (.return_, 1)) (hG : G none T.heap locs cells slots) : Good p.tables e below s G (T.setTop (mkF m pc Ls [])) := by
  obtain ⟨fs, hr, h1, h2, h3, h4⟩ := X.leave (v := none) (fun _ => rfl) hlk
  exact ⟨T, fs, none, locs, cells, slots, X.returnOut hx hret hd hr, h1, h2, h3, h4, hG⟩

theorem Good.aloadN (X : Stand p l e R s m args below meth c T locs cells slots) (hx : p.tables.exec = Jvm.exec) {pc pc' : Nat} {Ls : Array Slot} {k : Fin 4} {v : Value} {st : List Value} (hp : pc + 1 = pc') (hd : decode c.code pc = .ok (.aload_n k, 1)) (hl : Ls[k.val]? = some (.val v)) (hv : v.isRef = true) (k : Good p.tables e below s G (T.setTop (mkF m pc' Ls (v :: st)))) : Good p.tables e below s G (T.setTop (mkF m pc Ls st)) := by
  subst hp
  exact Good.go (fun _ q => XS.aloadN X.here hx rfl hd hl hv q) k
theorem Good.aload (X : Stand p l e R s m args below meth c T locs cells slots) (hx : p.tables.exec = Jvm.exec) {pc pc' : Nat} {Ls : Array Slot} {k : Nat} {v : Value} {st : List Value} (hp : pc + 2 = pc') (hd : decode c.code pc = .ok (.aload k, 2)) (hl : Ls[k]? = some (.val v)) (hv : v.isRef = true) (k : Good p.tables e below s G (T.setTop (mkF m pc' Ls (v :: st)))) : Good p.tables e below s G (T.setTop (mkF m pc Ls st)) := by
  subst hp
  exact Good.go (fun _ q => XS.aload X.here hx rfl hd hl hv q) k
theorem Good.iloadN (X : Stand p l e R s m args below meth c T locs cells slots) (hx : p.tables.exec = Jvm.exec) {pc pc' : Nat} {Ls : Array Slot} {k : Fin 4} {v : Int32} {st : List Value} (hp : pc + 1 = pc') (hd : decode c.code pc = .ok (.iload_n k, 1)) (hl : Ls[k.val]? = some (.val (.int v))) (k : Good p.tables e below s G (T.setTop (mkF m pc' Ls (.int v :: st)))) : Good p.tables e below s G (T.setTop (mkF m pc Ls st)) := by
  subst hp
  exact Good.go (fun _ q => XS.iloadN X.here hx rfl hd hl q) k
theorem Good.iload (X : Stand p l e R s m args below meth c T locs cells slots) (hx : p.tables.exec = Jvm.exec) {pc pc' : Nat} {Ls : Array Slot} {k : Nat} {v : Int32} {st : List Value} (hp : pc + 2 = pc') (hd : decode c.code pc = .ok (.iload k, 2)) (hl : Ls[k]? = some (.val (.int v))) (k : Good p.tables e below s G (T.setTop (mkF m pc' Ls (.int v :: st)))) : Good p.tables e below s G (T.setTop (mkF m pc Ls st)) := by
  subst hp
  exact Good.go (fun _ q => XS.iload X.here hx rfl hd hl q) k
theorem Good.lloadN (X : Stand p l e R s m args below meth c T locs cells slots) (hx : p.tables.exec = Jvm.exec) {pc pc' : Nat} {Ls : Array Slot} {k : Fin 4} {v : Int64} {st : List Value} (hp : pc + 1 = pc') (hd : decode c.code pc = .ok (.lload_n k, 1)) (hl : Ls[k.val]? = some (.val (.long v))) (k : Good p.tables e below s G (T.setTop (mkF m pc' Ls (.long v :: st)))) : Good p.tables e below s G (T.setTop (mkF m pc Ls st)) := by
  subst hp
  exact Good.go (fun _ q => XT.lloadN X.here hx rfl hd hl q) k
theorem Good.lload (X : Stand p l e R s m args below meth c T locs cells slots) (hx : p.tables.exec = Jvm.exec) {pc pc' : Nat} {Ls : Array Slot} {k : Nat} {v : Int64} {st : List Value} (hp : pc + 2 = pc') (hd : decode c.code pc = .ok (.lload k, 2)) (hl : Ls[k]? = some (.val (.long v))) (k : Good p.tables e below s G (T.setTop (mkF m pc' Ls (.long v :: st)))) : Good p.tables e below s G (T.setTop (mkF m pc Ls st)) := by
  subst hp
  exact Good.go (fun _ q => XT.lload X.here hx rfl hd hl q) k
theorem Good.dloadN (X : Stand p l e R s m args below meth c T locs cells slots) (hx : p.tables.exec = Jvm.exec) {pc pc' : Nat} {Ls : Array Slot} {k : Fin 4} {v : UInt64} {st : List Value} (hp : pc + 1 = pc') (hd : decode c.code pc = .ok (.dload_n k, 1)) (hl : Ls[k.val]? = some (.val (.double v))) (k : Good p.tables e below s G (T.setTop (mkF m pc' Ls (.double v :: st)))) : Good p.tables e below s G (T.setTop (mkF m pc Ls st)) := by
  subst hp
  refine Good.go (fun _ q => ?_) k
  show Steps p.tables e below (T.setTop { method := m, pc := pc, locals := Ls, stack := st, locked := none }) _
  jvm_step X.here [X.here.top, hx, hd, hl]
  exact q
theorem Good.dload (X : Stand p l e R s m args below meth c T locs cells slots) (hx : p.tables.exec = Jvm.exec) {pc pc' : Nat} {Ls : Array Slot} {k : Nat} {v : UInt64} {st : List Value} (hp : pc + 2 = pc') (hd : decode c.code pc = .ok (.dload k, 2)) (hl : Ls[k]? = some (.val (.double v))) (k : Good p.tables e below s G (T.setTop (mkF m pc' Ls (.double v :: st)))) : Good p.tables e below s G (T.setTop (mkF m pc Ls st)) := by
  subst hp
  refine Good.go (fun _ q => ?_) k
  show Steps p.tables e below (T.setTop { method := m, pc := pc, locals := Ls, stack := st, locked := none }) _
  jvm_step X.here [X.here.top, hx, hd, hl]
  exact q
theorem Good.iconst (X : Stand p l e R s m args below meth c T locs cells slots) (hx : p.tables.exec = Jvm.exec) {pc pc' : Nat} {Ls : Array Slot} {i : Int} {w : Int32} {st : List Value} (hp : pc + 1 = pc') (hd : decode c.code pc = .ok (.iconst i, 1)) (hv : Int32.ofInt i = w) (k : Good p.tables e below s G (T.setTop (mkF m pc' Ls (.int w :: st)))) : Good p.tables e below s G (T.setTop (mkF m pc Ls st)) := by
  subst hp; subst hv
  exact Good.go (fun _ q => XS.iconst X.here hx rfl hd q) k
theorem Good.bipush (X : Stand p l e R s m args below meth c T locs cells slots) (hx : p.tables.exec = Jvm.exec) {pc pc' : Nat} {Ls : Array Slot} {i : Int} {w : Int32} {st : List Value} (hp : pc + 2 = pc') (hd : decode c.code pc = .ok (.bipush i, 2)) (hv : (Int8.ofInt i).toInt32 = w) (k : Good p.tables e below s G (T.setTop (mkF m pc' Ls (.int w :: st)))) : Good p.tables e below s G (T.setTop (mkF m pc Ls st)) := by
  subst hp; subst hv
  exact Good.go (fun _ q => XS.bipush X.here hx rfl hd q) k
theorem Good.sipush (X : Stand p l e R s m args below meth c T locs cells slots) (hx : p.tables.exec = Jvm.exec) {pc pc' : Nat} {Ls : Array Slot} {i : Int} {w : Int32} {st : List Value} (hp : pc + 3 = pc') (hd : decode c.code pc = .ok (.sipush i, 3)) (hv : (Int16.ofInt i).toInt32 = w) (k : Good p.tables e below s G (T.setTop (mkF m pc' Ls (.int w :: st)))) : Good p.tables e below s G (T.setTop (mkF m pc Ls st)) := by
  subst hp; subst hv
  exact Good.go (fun _ q => XS.sipush X.here hx rfl hd q) k
theorem Good.dconst0 (X : Stand p l e R s m args below meth c T locs cells slots) (hx : p.tables.exec = Jvm.exec) {pc pc' : Nat} {Ls : Array Slot} {st : List Value} (hp : pc + 1 = pc') (hd : decode c.code pc = .ok (.dconst 0, 1))  (k : Good p.tables e below s G (T.setTop (mkF m pc' Ls (.double FP.dconst0 :: st)))) : Good p.tables e below s G (T.setTop (mkF m pc Ls st)) := by
  subst hp
  refine Good.go (fun _ q => ?_) k
  show Steps p.tables e below (T.setTop { method := m, pc := pc, locals := Ls, stack := st, locked := none }) _
  jvm_step X.here [X.here.top, hx, hd, dconst.sem]
  exact q
theorem Good.dconst1 (X : Stand p l e R s m args below meth c T locs cells slots) (hx : p.tables.exec = Jvm.exec) {pc pc' : Nat} {Ls : Array Slot} {st : List Value} (hp : pc + 1 = pc') (hd : decode c.code pc = .ok (.dconst 1, 1))  (k : Good p.tables e below s G (T.setTop (mkF m pc' Ls (.double FP.dconst1 :: st)))) : Good p.tables e below s G (T.setTop (mkF m pc Ls st)) := by
  subst hp
  refine Good.go (fun _ q => ?_) k
  show Steps p.tables e below (T.setTop { method := m, pc := pc, locals := Ls, stack := st, locked := none }) _
  jvm_step X.here [X.here.top, hx, hd, dconst.sem]
  exact q
theorem Good.aconstNull (X : Stand p l e R s m args below meth c T locs cells slots) (hx : p.tables.exec = Jvm.exec) {pc pc' : Nat} {Ls : Array Slot} {st : List Value} (hp : pc + 1 = pc') (hd : decode c.code pc = .ok (.aconst_null, 1))  (k : Good p.tables e below s G (T.setTop (mkF m pc' Ls (.null :: st)))) : Good p.tables e below s G (T.setTop (mkF m pc Ls st)) := by
  subst hp
  exact Good.go (fun _ q => XS.aconstNull X.here hx rfl hd q) k
theorem Good.iadd (X : Stand p l e R s m args below meth c T locs cells slots) (hx : p.tables.exec = Jvm.exec) {pc pc' : Nat} {Ls : Array Slot} {x y : Int32} {st : List Value} (hp : pc + 1 = pc') (hd : decode c.code pc = .ok (.iadd, 1))  (k : Good p.tables e below s G (T.setTop (mkF m pc' Ls (.int (x + y) :: st)))) : Good p.tables e below s G (T.setTop (mkF m pc Ls (.int y :: .int x :: st))) := by
  subst hp
  exact Good.go (fun _ q => XS.iadd X.here hx rfl hd rfl q) k
theorem Good.isub (X : Stand p l e R s m args below meth c T locs cells slots) (hx : p.tables.exec = Jvm.exec) {pc pc' : Nat} {Ls : Array Slot} {x y : Int32} {st : List Value} (hp : pc + 1 = pc') (hd : decode c.code pc = .ok (.isub, 1))  (k : Good p.tables e below s G (T.setTop (mkF m pc' Ls (.int (x - y) :: st)))) : Good p.tables e below s G (T.setTop (mkF m pc Ls (.int y :: .int x :: st))) := by
  subst hp
  exact Good.go (fun _ q => XS.isub X.here hx rfl hd rfl q) k
theorem Good.iand (X : Stand p l e R s m args below meth c T locs cells slots) (hx : p.tables.exec = Jvm.exec) {pc pc' : Nat} {Ls : Array Slot} {x y : Int32} {st : List Value} (hp : pc + 1 = pc') (hd : decode c.code pc = .ok (.iand, 1))  (k : Good p.tables e below s G (T.setTop (mkF m pc' Ls (.int (x &&& y) :: st)))) : Good p.tables e below s G (T.setTop (mkF m pc Ls (.int y :: .int x :: st))) := by
  subst hp
  exact Good.go (fun _ q => XS.iand X.here hx rfl hd rfl q) k
theorem Good.imul (X : Stand p l e R s m args below meth c T locs cells slots) (hx : p.tables.exec = Jvm.exec) {pc pc' : Nat} {Ls : Array Slot} {x y : Int32} {st : List Value} (hp : pc + 1 = pc') (hd : decode c.code pc = .ok (.imul, 1))  (k : Good p.tables e below s G (T.setTop (mkF m pc' Ls (.int (x * y) :: st)))) : Good p.tables e below s G (T.setTop (mkF m pc Ls (.int y :: .int x :: st))) := by
  subst hp
  exact Good.go (fun _ q => XS.imul X.here hx rfl hd rfl q) k
theorem Good.ixor (X : Stand p l e R s m args below meth c T locs cells slots) (hx : p.tables.exec = Jvm.exec) {pc pc' : Nat} {Ls : Array Slot} {x y : Int32} {st : List Value} (hp : pc + 1 = pc') (hd : decode c.code pc = .ok (.ixor, 1))  (k : Good p.tables e below s G (T.setTop (mkF m pc' Ls (.int (x ^^^ y) :: st)))) : Good p.tables e below s G (T.setTop (mkF m pc Ls (.int y :: .int x :: st))) := by
  subst hp
  exact Good.go (fun _ q => XT.ixor X.here hx rfl hd rfl q) k
theorem Good.iushr (X : Stand p l e R s m args below meth c T locs cells slots) (hx : p.tables.exec = Jvm.exec) {pc pc' : Nat} {Ls : Array Slot} {x y : Int32} {st : List Value} (hp : pc + 1 = pc') (hd : decode c.code pc = .ok (.iushr, 1))  (k : Good p.tables e below s G (T.setTop (mkF m pc' Ls (.int (XT.ushr x y) :: st)))) : Good p.tables e below s G (T.setTop (mkF m pc Ls (.int y :: .int x :: st))) := by
  subst hp
  exact Good.go (fun _ q => XT.iushr X.here hx rfl hd rfl q) k
theorem Good.ishr (X : Stand p l e R s m args below meth c T locs cells slots) (hx : p.tables.exec = Jvm.exec) {pc pc' : Nat} {Ls : Array Slot} {x y : Int32} {st : List Value} (hp : pc + 1 = pc') (hd : decode c.code pc = .ok (.ishr, 1))  (k : Good p.tables e below s G (T.setTop (mkF m pc' Ls (.int (x >>> (y &&& 31)) :: st)))) : Good p.tables e below s G (T.setTop (mkF m pc Ls (.int y :: .int x :: st))) := by
  subst hp
  exact Good.go (fun _ q => XT.ishr X.here hx rfl hd rfl q) k
theorem Good.irem (X : Stand p l e R s m args below meth c T locs cells slots) (hx : p.tables.exec = Jvm.exec) {pc pc' : Nat} {Ls : Array Slot} {x y : Int32} {st : List Value} (hp : pc + 1 = pc') (hd : decode c.code pc = .ok (.irem, 1)) (hy : y ≠ 0) (k : Good p.tables e below s G (T.setTop (mkF m pc' Ls (.int (x % y) :: st)))) : Good p.tables e below s G (T.setTop (mkF m pc Ls (.int y :: .int x :: st))) := by
  subst hp
  exact Good.go (fun _ q => iremM X hx rfl hd rfl hy q) k
theorem Good.ladd (X : Stand p l e R s m args below meth c T locs cells slots) (hx : p.tables.exec = Jvm.exec) {pc pc' : Nat} {Ls : Array Slot} {x y : Int64} {st : List Value} (hp : pc + 1 = pc') (hd : decode c.code pc = .ok (.ladd, 1))  (k : Good p.tables e below s G (T.setTop (mkF m pc' Ls (.long (x + y) :: st)))) : Good p.tables e below s G (T.setTop (mkF m pc Ls (.long y :: .long x :: st))) := by
  subst hp
  exact Good.go (fun _ q => XT.ladd X.here hx rfl hd rfl q) k
theorem Good.lsub (X : Stand p l e R s m args below meth c T locs cells slots) (hx : p.tables.exec = Jvm.exec) {pc pc' : Nat} {Ls : Array Slot} {x y : Int64} {st : List Value} (hp : pc + 1 = pc') (hd : decode c.code pc = .ok (.lsub, 1))  (k : Good p.tables e below s G (T.setTop (mkF m pc' Ls (.long (x - y) :: st)))) : Good p.tables e below s G (T.setTop (mkF m pc Ls (.long y :: .long x :: st))) := by
  subst hp
  exact Good.go (fun _ q => XT.lsub X.here hx rfl hd rfl q) k
theorem Good.lrem (X : Stand p l e R s m args below meth c T locs cells slots) (hx : p.tables.exec = Jvm.exec) {pc pc' : Nat} {Ls : Array Slot} {x y : Int64} {st : List Value} (hp : pc + 1 = pc') (hd : decode c.code pc = .ok (.lrem, 1)) (hy : y ≠ 0) (k : Good p.tables e below s G (T.setTop (mkF m pc' Ls (.long (x - (x / y) * y) :: st)))) : Good p.tables e below s G (T.setTop (mkF m pc Ls (.long y :: .long x :: st))) := by
  subst hp
  exact Good.go (fun _ q => XT.lrem X.here hx rfl hd rfl hy q) k
theorem Good.i2l (X : Stand p l e R s m args below meth c T locs cells slots) (hx : p.tables.exec = Jvm.exec) {pc pc' : Nat} {Ls : Array Slot} {x : Int32} {st : List Value} (hp : pc + 1 = pc') (hd : decode c.code pc = .ok (.i2l, 1))  (k : Good p.tables e below s G (T.setTop (mkF m pc' Ls (.long x.toInt64 :: st)))) : Good p.tables e below s G (T.setTop (mkF m pc Ls (.int x :: st))) := by
  subst hp
  exact Good.go (fun _ q => XT.i2l X.here hx rfl hd rfl q) k
theorem Good.i2b (X : Stand p l e R s m args below meth c T locs cells slots) (hx : p.tables.exec = Jvm.exec) {pc pc' : Nat} {Ls : Array Slot} {x : Int32} {st : List Value} (hp : pc + 1 = pc') (hd : decode c.code pc = .ok (.i2b, 1))  (k : Good p.tables e below s G (T.setTop (mkF m pc' Ls (.int x.toInt8.toInt32 :: st)))) : Good p.tables e below s G (T.setTop (mkF m pc Ls (.int x :: st))) := by
  subst hp
  exact Good.go (fun _ q => XT.i2b X.here hx rfl hd rfl q) k
theorem Good.i2c (X : Stand p l e R s m args below meth c T locs cells slots) (hx : p.tables.exec = Jvm.exec) {pc pc' : Nat} {Ls : Array Slot} {x : Int32} {st : List Value} (hp : pc + 1 = pc') (hd : decode c.code pc = .ok (.i2c, 1))  (k : Good p.tables e below s G (T.setTop (mkF m pc' Ls (.int x.toUInt32.toUInt16.toUInt32.toInt32 :: st)))) : Good p.tables e below s G (T.setTop (mkF m pc Ls (.int x :: st))) := by
  subst hp
  exact Good.go (fun _ q => XT.i2c X.here hx rfl hd rfl q) k
theorem Good.l2i (X : Stand p l e R s m args below meth c T locs cells slots) (hx : p.tables.exec = Jvm.exec) {pc pc' : Nat} {Ls : Array Slot} {x : Int64} {st : List Value} (hp : pc + 1 = pc') (hd : decode c.code pc = .ok (.l2i, 1))  (k : Good p.tables e below s G (T.setTop (mkF m pc' Ls (.int x.toInt32 :: st)))) : Good p.tables e below s G (T.setTop (mkF m pc Ls (.long x :: st))) := by
  subst hp
  exact Good.go (fun _ q => XT.l2i X.here hx rfl hd rfl q) k
theorem Good.lshr (X : Stand p l e R s m args below meth c T locs cells slots) (hx : p.tables.exec = Jvm.exec) {pc pc' : Nat} {Ls : Array Slot} {x : Int64} {y : Int32} {st : List Value} (hp : pc + 1 = pc') (hd : decode c.code pc = .ok (.lshr, 1))  (k : Good p.tables e below s G (T.setTop (mkF m pc' Ls (.long (x >>> (y.toInt64 &&& 63)) :: st)))) : Good p.tables e below s G (T.setTop (mkF m pc Ls (.int y :: .long x :: st))) := by
  subst hp
  exact Good.go (fun _ q => XT.lshr X.here hx rfl hd rfl q) k
theorem Good.i2d (X : Stand p l e R s m args below meth c T locs cells slots) (hx : p.tables.exec = Jvm.exec) {pc pc' : Nat} {Ls : Array Slot} {x : Int32} {st : List Value} (hp : pc + 1 = pc') (hd : decode c.code pc = .ok (.i2d, 1))  (k : Good p.tables e below s G (T.setTop (mkF m pc' Ls (.double (FP.i2d x) :: st)))) : Good p.tables e below s G (T.setTop (mkF m pc Ls (.int x :: st))) := by
  subst hp
  refine Good.go (fun _ q => ?_) k
  show Steps p.tables e below (T.setTop { method := m, pc := pc, locals := Ls, stack := (.int x :: st), locked := none }) _
  jvm_step X.here [X.here.top, hx, hd]
  exact q
theorem Good.l2d (X : Stand p l e R s m args below meth c T locs cells slots) (hx : p.tables.exec = Jvm.exec) {pc pc' : Nat} {Ls : Array Slot} {x : Int64} {st : List Value} (hp : pc + 1 = pc') (hd : decode c.code pc = .ok (.l2d, 1))  (k : Good p.tables e below s G (T.setTop (mkF m pc' Ls (.double (FP.l2d x) :: st)))) : Good p.tables e below s G (T.setTop (mkF m pc Ls (.long x :: st))) := by
  subst hp
  refine Good.go (fun _ q => ?_) k
  show Steps p.tables e below (T.setTop { method := m, pc := pc, locals := Ls, stack := (.long x :: st), locked := none }) _
  jvm_step X.here [X.here.top, hx, hd]
  exact q
theorem Good.d2l (X : Stand p l e R s m args below meth c T locs cells slots) (hx : p.tables.exec = Jvm.exec) {pc pc' : Nat} {Ls : Array Slot} {x : UInt64} {st : List Value} (hp : pc + 1 = pc') (hd : decode c.code pc = .ok (.d2l, 1))  (k : Good p.tables e below s G (T.setTop (mkF m pc' Ls (.long (FP.d2l x) :: st)))) : Good p.tables e below s G (T.setTop (mkF m pc Ls (.double x :: st))) := by
  subst hp
  refine Good.go (fun _ q => ?_) k
  show Steps p.tables e below (T.setTop { method := m, pc := pc, locals := Ls, stack := (.double x :: st), locked := none }) _
  jvm_step X.here [X.here.top, hx, hd]
  exact q
theorem Good.dadd (X : Stand p l e R s m args below meth c T locs cells slots) (hx : p.tables.exec = Jvm.exec) {pc pc' : Nat} {Ls : Array Slot} {x y : UInt64} {st : List Value} (hp : pc + 1 = pc') (hd : decode c.code pc = .ok (.dadd, 1)) (hn : NoNaN64 (FP.dadd x y)) (k : Good p.tables e below s G (T.setTop (mkF m pc' Ls (.double (FP.dadd x y) :: st)))) : Good p.tables e below s G (T.setTop (mkF m pc Ls (.double y :: .double x :: st))) := by
  subst hp
  refine Good.go (fun _ q => ?_) k
  show Steps p.tables e below (T.setTop { method := m, pc := pc, locals := Ls, stack := (.double y :: .double x :: st), locked := none }) _
  jvm_step X.here [X.here.top, hx, hd, Op.dadd.at_number X.here.top hn]
  exact q
theorem Good.dsub (X : Stand p l e R s m args below meth c T locs cells slots) (hx : p.tables.exec = Jvm.exec) {pc pc' : Nat} {Ls : Array Slot} {x y : UInt64} {st : List Value} (hp : pc + 1 = pc') (hd : decode c.code pc = .ok (.dsub, 1)) (hn : NoNaN64 (FP.dsub x y)) (k : Good p.tables e below s G (T.setTop (mkF m pc' Ls (.double (FP.dsub x y) :: st)))) : Good p.tables e below s G (T.setTop (mkF m pc Ls (.double y :: .double x :: st))) := by
  subst hp
  refine Good.go (fun _ q => ?_) k
  show Steps p.tables e below (T.setTop { method := m, pc := pc, locals := Ls, stack := (.double y :: .double x :: st), locked := none }) _
  jvm_step X.here [X.here.top, hx, hd, Op.dsub.at_number X.here.top hn]
  exact q
theorem Good.dmul (X : Stand p l e R s m args below meth c T locs cells slots) (hx : p.tables.exec = Jvm.exec) {pc pc' : Nat} {Ls : Array Slot} {x y : UInt64} {st : List Value} (hp : pc + 1 = pc') (hd : decode c.code pc = .ok (.dmul, 1)) (hn : NoNaN64 (FP.dmul x y)) (k : Good p.tables e below s G (T.setTop (mkF m pc' Ls (.double (FP.dmul x y) :: st)))) : Good p.tables e below s G (T.setTop (mkF m pc Ls (.double y :: .double x :: st))) := by
  subst hp
  refine Good.go (fun _ q => ?_) k
  show Steps p.tables e below (T.setTop { method := m, pc := pc, locals := Ls, stack := (.double y :: .double x :: st), locked := none }) _
  jvm_step X.here [X.here.top, hx, hd, Op.dmul.at_number X.here.top hn]
  exact q
theorem Good.ddiv (X : Stand p l e R s m args below meth c T locs cells slots) (hx : p.tables.exec = Jvm.exec) {pc pc' : Nat} {Ls : Array Slot} {x y : UInt64} {st : List Value} (hp : pc + 1 = pc') (hd : decode c.code pc = .ok (.ddiv, 1)) (hn : NoNaN64 (FP.ddiv x y)) (k : Good p.tables e below s G (T.setTop (mkF m pc' Ls (.double (FP.ddiv x y) :: st)))) : Good p.tables e below s G (T.setTop (mkF m pc Ls (.double y :: .double x :: st))) := by
  subst hp
  refine Good.go (fun _ q => ?_) k
  show Steps p.tables e below (T.setTop { method := m, pc := pc, locals := Ls, stack := (.double y :: .double x :: st), locked := none }) _
  jvm_step X.here [X.here.top, hx, hd, Op.ddiv.at_number X.here.top hn]
  exact q
theorem Good.dcmp (X : Stand p l e R s m args below meth c T locs cells slots) (hx : p.tables.exec = Jvm.exec) {pc pc' : Nat} {Ls : Array Slot} {x y : UInt64} {op : CmpOp} {st : List Value} (hp : pc + 1 = pc') (hd : decode c.code pc = .ok (.dcmp op, 1))  (k : Good p.tables e below s G (T.setTop (mkF m pc' Ls (.int (cmpValue (FP.dcmp x y) op) :: st)))) : Good p.tables e below s G (T.setTop (mkF m pc Ls (.double y :: .double x :: st))) := by
  subst hp
  refine Good.go (fun _ q => ?_) k
  show Steps p.tables e below (T.setTop { method := m, pc := pc, locals := Ls, stack := (.double y :: .double x :: st), locked := none }) _
  jvm_step X.here [X.here.top, hx, hd]
  exact q
theorem Good.dup (X : Stand p l e R s m args below meth c T locs cells slots) (hx : p.tables.exec = Jvm.exec) {pc pc' : Nat} {Ls : Array Slot} {x : Value} {st : List Value} (hp : pc + 1 = pc') (hd : decode c.code pc = .ok (.dup, 1)) (hc : x.category = 1) (k : Good p.tables e below s G (T.setTop (mkF m pc' Ls (x :: x :: st)))) : Good p.tables e below s G (T.setTop (mkF m pc Ls (x :: st))) := by
  subst hp
  exact Good.go (fun _ q => XS.dup X.here hx rfl hd rfl hc q) k
theorem Good.istoreN (X : Stand p l e R s m args below meth c T locs cells slots) (hx : p.tables.exec = Jvm.exec) {pc pc' : Nat} {Ls : Array Slot} {k : Fin 4} {x : Int32} {Ls' : Array Slot} {st : List Value} (hp : pc + 1 = pc') (hd : decode c.code pc = .ok (.istore_n k, 1)) (hl : storeLocals Ls k.val (.int x) = some Ls') (k : Good p.tables e below s G (T.setTop (mkF m pc' Ls' st))) : Good p.tables e below s G (T.setTop (mkF m pc Ls (.int x :: st))) := by
  subst hp
  exact Good.go (fun _ q => XS.istoreN X.here hx rfl hd rfl hl q) k
theorem Good.istore (X : Stand p l e R s m args below meth c T locs cells slots) (hx : p.tables.exec = Jvm.exec) {pc pc' : Nat} {Ls : Array Slot} {k : Nat} {x : Int32} {Ls' : Array Slot} {st : List Value} (hp : pc + 2 = pc') (hd : decode c.code pc = .ok (.istore k, 2)) (hl : storeLocals Ls k (.int x) = some Ls') (k : Good p.tables e below s G (T.setTop (mkF m pc' Ls' st))) : Good p.tables e below s G (T.setTop (mkF m pc Ls (.int x :: st))) := by
  subst hp
  exact Good.go (fun _ q => XS.istore X.here hx rfl hd rfl hl q) k
theorem Good.astoreN (X : Stand p l e R s m args below meth c T locs cells slots) (hx : p.tables.exec = Jvm.exec) {pc pc' : Nat} {Ls : Array Slot} {k : Fin 4} {x : Value} {Ls' : Array Slot} {st : List Value} (hp : pc + 1 = pc') (hd : decode c.code pc = .ok (.astore_n k, 1)) (hv : x.isRef = true) (hl : storeLocals Ls k.val x = some Ls') (k : Good p.tables e below s G (T.setTop (mkF m pc' Ls' st))) : Good p.tables e below s G (T.setTop (mkF m pc Ls (x :: st))) := by
  subst hp
  exact Good.go (fun _ q => XS.astoreN X.here hx rfl hd rfl hv hl q) k
theorem Good.astore (X : Stand p l e R s m args below meth c T locs cells slots) (hx : p.tables.exec = Jvm.exec) {pc pc' : Nat} {Ls : Array Slot} {k : Nat} {x : Value} {Ls' : Array Slot} {st : List Value} (hp : pc + 2 = pc') (hd : decode c.code pc = .ok (.astore k, 2)) (hv : x.isRef = true) (hl : storeLocals Ls k x = some Ls') (k : Good p.tables e below s G (T.setTop (mkF m pc' Ls' st))) : Good p.tables e below s G (T.setTop (mkF m pc Ls (x :: st))) := by
  subst hp
  exact Good.go (fun _ q => XS.astore X.here hx rfl hd rfl hv hl q) k
theorem Good.lstoreN (X : Stand p l e R s m args below meth c T locs cells slots) (hx : p.tables.exec = Jvm.exec) {pc pc' : Nat} {Ls : Array Slot} {k : Fin 4} {x : Int64} {Ls' : Array Slot} {st : List Value} (hp : pc + 1 = pc') (hd : decode c.code pc = .ok (.lstore_n k, 1)) (hl : storeLocals Ls k.val (.long x) = some Ls') (k : Good p.tables e below s G (T.setTop (mkF m pc' Ls' st))) : Good p.tables e below s G (T.setTop (mkF m pc Ls (.long x :: st))) := by
  subst hp
  exact Good.go (fun _ q => XT.lstoreN X.here hx rfl hd rfl hl q) k
theorem Good.lstore (X : Stand p l e R s m args below meth c T locs cells slots) (hx : p.tables.exec = Jvm.exec) {pc pc' : Nat} {Ls : Array Slot} {k : Nat} {x : Int64} {Ls' : Array Slot} {st : List Value} (hp : pc + 2 = pc') (hd : decode c.code pc = .ok (.lstore k, 2)) (hl : storeLocals Ls k (.long x) = some Ls') (k : Good p.tables e below s G (T.setTop (mkF m pc' Ls' st))) : Good p.tables e below s G (T.setTop (mkF m pc Ls (.long x :: st))) := by
  subst hp
  exact Good.go (fun _ q => XT.lstore X.here hx rfl hd rfl hl q) k
theorem Good.dstoreN (X : Stand p l e R s m args below meth c T locs cells slots) (hx : p.tables.exec = Jvm.exec) {pc pc' : Nat} {Ls : Array Slot} {k : Fin 4} {x : UInt64} {Ls' : Array Slot} {st : List Value} (hp : pc + 1 = pc') (hd : decode c.code pc = .ok (.dstore_n k, 1)) (hl : storeLocals Ls k.val (.double x) = some Ls') (k : Good p.tables e below s G (T.setTop (mkF m pc' Ls' st))) : Good p.tables e below s G (T.setTop (mkF m pc Ls (.double x :: st))) := by
  subst hp
  refine Good.go (fun _ q => ?_) k
  show Steps p.tables e below (T.setTop { method := m, pc := pc, locals := Ls, stack := (.double x :: st), locked := none }) _
  jvm_step X.here [X.here.top, hx, hd, hl]
  exact q
theorem Good.dstore (X : Stand p l e R s m args below meth c T locs cells slots) (hx : p.tables.exec = Jvm.exec) {pc pc' : Nat} {Ls : Array Slot} {k : Nat} {x : UInt64} {Ls' : Array Slot} {st : List Value} (hp : pc + 2 = pc') (hd : decode c.code pc = .ok (.dstore k, 2)) (hl : storeLocals Ls k (.double x) = some Ls') (k : Good p.tables e below s G (T.setTop (mkF m pc' Ls' st))) : Good p.tables e below s G (T.setTop (mkF m pc Ls (.double x :: st))) := by
  subst hp
  refine Good.go (fun _ q => ?_) k
  show Steps p.tables e below (T.setTop { method := m, pc := pc, locals := Ls, stack := (.double x :: st), locked := none }) _
  jvm_step X.here [X.here.top, hx, hd, hl]
  exact q
theorem Good.iinc (X : Stand p l e R s m args below meth c T locs cells slots) (hx : p.tables.exec = Jvm.exec) {pc pc' : Nat} {Ls : Array Slot} {k : Nat} {cst : Int} {x : Int32} {w : Int32} {Ls' : Array Slot} {st : List Value} (hp : pc + 3 = pc') (hd : decode c.code pc = .ok (.iinc k cst, 3)) (hl : Ls[k]? = some (.val (.int x))) (hv : Int32.ofInt cst = w) (hl' : storeLocals Ls k (.int (x + w)) = some Ls') (k : Good p.tables e below s G (T.setTop (mkF m pc' Ls' st))) : Good p.tables e below s G (T.setTop (mkF m pc Ls st)) := by
  subst hp; subst hv
  exact Good.go (fun _ q => XS.iinc X.here hx rfl hd hl hl' q) k
theorem Good.goto (X : Stand p l e R s m args below meth c T locs cells slots) (hx : p.tables.exec = Jvm.exec) {pc pc' : Nat} {Ls : Array Slot} {st : List Value} {o : Int} (hp : (pc : Int) + o = (pc' : Int)) (hd : decode c.code pc = .ok (.goto o, 3))  (k : Good p.tables e below s G (T.setTop (mkF m pc' Ls st))) : Good p.tables e below s G (T.setTop (mkF m pc Ls st)) :=
  Good.go (fun _ q => XS.goto X.here hx rfl (pc0 := pc) (pc' := pc') rfl hd (by omega) (by omega) q) k
theorem Good.ifYes (X : Stand p l e R s m args below meth c T locs cells slots) (hx : p.tables.exec = Jvm.exec) {pc pc' : Nat} {Ls : Array Slot} {cd : ClassFile.Cond} {x : Int32} {st : List Value} {o : Int} (hp : (pc : Int) + o = (pc' : Int)) (hd : decode c.code pc = .ok (.ifCond cd o, 3)) (hc : ifCond.holds cd x = true) (k : Good p.tables e below s G (T.setTop (mkF m pc' Ls st))) : Good p.tables e below s G (T.setTop (mkF m pc Ls (.int x :: st))) :=
  Good.go (fun _ q => XS.ifYes X.here hx rfl (pc0 := pc) (pc' := pc') rfl hd rfl hc (by omega) (by omega) q) k
theorem Good.ifNo (X : Stand p l e R s m args below meth c T locs cells slots) (hx : p.tables.exec = Jvm.exec) {pc pc' : Nat} {Ls : Array Slot} {cd : ClassFile.Cond} {o : Int} {x : Int32} {st : List Value} (hp : pc + 3 = pc') (hd : decode c.code pc = .ok (.ifCond cd o, 3)) (hc : ifCond.holds cd x = false) (k : Good p.tables e below s G (T.setTop (mkF m pc' Ls st))) : Good p.tables e below s G (T.setTop (mkF m pc Ls (.int x :: st))) := by
  subst hp
  exact Good.go (fun _ q => XS.ifNo X.here hx rfl hd rfl hc q) k
theorem Good.icmpYes (X : Stand p l e R s m args below meth c T locs cells slots) (hx : p.tables.exec = Jvm.exec) {pc pc' : Nat} {Ls : Array Slot} {cd : ClassFile.Cond} {x y : Int32} {st : List Value} {o : Int} (hp : (pc : Int) + o = (pc' : Int)) (hd : decode c.code pc = .ok (.if_icmp cd o, 3)) (hc : if_icmp.holds cd x y = true) (k : Good p.tables e below s G (T.setTop (mkF m pc' Ls st))) : Good p.tables e below s G (T.setTop (mkF m pc Ls (.int y :: .int x :: st))) :=
  Good.go (fun _ q => XS.icmpYes X.here hx rfl (pc0 := pc) (pc' := pc') rfl hd rfl hc (by omega) (by omega) q) k
theorem Good.icmpNo (X : Stand p l e R s m args below meth c T locs cells slots) (hx : p.tables.exec = Jvm.exec) {pc pc' : Nat} {Ls : Array Slot} {cd : ClassFile.Cond} {o : Int} {x y : Int32} {st : List Value} (hp : pc + 3 = pc') (hd : decode c.code pc = .ok (.if_icmp cd o, 3)) (hc : if_icmp.holds cd x y = false) (k : Good p.tables e below s G (T.setTop (mkF m pc' Ls st))) : Good p.tables e below s G (T.setTop (mkF m pc Ls (.int y :: .int x :: st))) := by
  subst hp
  exact Good.go (fun _ q => XS.icmpNo X.here hx rfl hd rfl hc q) k
theorem Good.ifnullYes (X : Stand p l e R s m args below meth c T locs cells slots) (hx : p.tables.exec = Jvm.exec) {pc pc' : Nat} {Ls : Array Slot} {st : List Value} {o : Int} (hp : (pc : Int) + o = (pc' : Int)) (hd : decode c.code pc = .ok (.ifnull o, 3))  (k : Good p.tables e below s G (T.setTop (mkF m pc' Ls st))) : Good p.tables e below s G (T.setTop (mkF m pc Ls (.null :: st))) :=
  Good.go (fun _ q => XS.ifnullYes X.here hx rfl (pc0 := pc) (pc' := pc') rfl hd rfl (by omega) (by omega) q) k
theorem Good.ifnullNo (X : Stand p l e R s m args below meth c T locs cells slots) (hx : p.tables.exec = Jvm.exec) {pc pc' : Nat} {Ls : Array Slot} {o : Int} {b : Addr} {st : List Value} (hp : pc + 3 = pc') (hd : decode c.code pc = .ok (.ifnull o, 3))  (k : Good p.tables e below s G (T.setTop (mkF m pc' Ls st))) : Good p.tables e below s G (T.setTop (mkF m pc Ls (.ref b :: st))) := by
  subst hp
  exact Good.go (fun _ q => XS.ifnullNo X.here hx rfl hd rfl q) k
theorem Good.acmpYes (X : Stand p l e R s m args below meth c T locs cells slots) (hx : p.tables.exec = Jvm.exec) {pc pc' : Nat} {Ls : Array Slot} {cd : ClassFile.ACond} {x y : Value} {st : List Value} {o : Int} (hp : (pc : Int) + o = (pc' : Int)) (hd : decode c.code pc = .ok (.if_acmp cd o, 3)) (h1 : x.isRef = true) (h2 : y.isRef = true) (hc : XT.acmp cd x y = true) (k : Good p.tables e below s G (T.setTop (mkF m pc' Ls st))) : Good p.tables e below s G (T.setTop (mkF m pc Ls (y :: x :: st))) :=
  Good.go (fun _ q => XT.acmpYes X.here hx rfl (pc0 := pc) (pc' := pc') rfl hd rfl h1 h2 hc (by omega) (by omega) q) k
theorem Good.acmpNo (X : Stand p l e R s m args below meth c T locs cells slots) (hx : p.tables.exec = Jvm.exec) {pc pc' : Nat} {Ls : Array Slot} {cd : ClassFile.ACond} {o : Int} {x y : Value} {st : List Value} (hp : pc + 3 = pc') (hd : decode c.code pc = .ok (.if_acmp cd o, 3)) (h1 : x.isRef = true) (h2 : y.isRef = true) (hc : XT.acmp cd x y = false) (k : Good p.tables e below s G (T.setTop (mkF m pc' Ls st))) : Good p.tables e below s G (T.setTop (mkF m pc Ls (y :: x :: st))) := by
  subst hp
  exact Good.go (fun _ q => XT.acmpNo X.here hx rfl hd rfl h1 h2 hc q) k
theorem Good.ifFork (X : Stand p l e R s m args below meth c T locs cells slots) (hx : p.tables.exec = Jvm.exec) {pc pc1 pc2 : Nat} {Ls : Array Slot} {cd : ClassFile.Cond} {o : Int} {x : Int32} {st : List Value} (hd : decode c.code pc = .ok (.ifCond cd o, 3)) (hp1 : (pc : Int) + o = (pc1 : Int)) (hp2 : pc + 3 = pc2) (k1 : ifCond.holds cd x = true → Good p.tables e below s G (T.setTop (mkF m pc1 Ls st))) (k2 : ifCond.holds cd x = false → Good p.tables e below s G (T.setTop (mkF m pc2 Ls st))) : Good p.tables e below s G (T.setTop (mkF m pc Ls (.int x :: st))) := by
  cases hc : ifCond.holds cd x
  · exact Good.ifNo X hx hp2 hd hc (k2 hc)
  · exact Good.ifYes X hx hp1 hd hc (k1 hc)
theorem Good.icmpFork (X : Stand p l e R s m args below meth c T locs cells slots) (hx : p.tables.exec = Jvm.exec) {pc pc1 pc2 : Nat} {Ls : Array Slot} {cd : ClassFile.Cond} {o : Int} {x y : Int32} {st : List Value} (hd : decode c.code pc = .ok (.if_icmp cd o, 3)) (hp1 : (pc : Int) + o = (pc1 : Int)) (hp2 : pc + 3 = pc2) (k1 : if_icmp.holds cd x y = true → Good p.tables e below s G (T.setTop (mkF m pc1 Ls st))) (k2 : if_icmp.holds cd x y = false → Good p.tables e below s G (T.setTop (mkF m pc2 Ls st))) : Good p.tables e below s G (T.setTop (mkF m pc Ls (.int y :: .int x :: st))) := by
  cases hc : if_icmp.holds cd x y
  · exact Good.icmpNo X hx hp2 hd hc (k2 hc)
  · exact Good.icmpYes X hx hp1 hd hc (k1 hc)
variable {Z : State} {a0 : Array Value} {h : Heap}
theorem Good.ldcI (X : Stand p l e R s m args below meth c T locs cells slots) (hx : p.tables.exec = Jvm.exec) (hZ : Z.Warmed39 s.vm) {own : String} {index : Nat} {v : Int32} (hown : s.vm.findClass own = some m.cls) (w : (Cond.constant own index v).before a0 Z = true) {pc pc' : Nat} {Ls : Array Slot} {st : List Value} (hp : pc + 2 = pc') (hd : decode c.code pc = .ok (.ldc index, 2)) (k : Good p.tables e below s G (T.setTop (mkF m pc' Ls (.int v :: st)))) : Good p.tables e below s G (T.setTop (mkF m pc Ls st)) := by
  subst hp
  exact Good.go (fun _ q => X.ldcInt hx hown (mvT hZ w) (g := mkF m pc Ls st) rfl hd _ q) k
theorem Good.ldc2J (X : Stand p l e R s m args below meth c T locs cells slots) (hx : p.tables.exec = Jvm.exec) (hZ : Z.Warmed39 s.vm) {own : String} {index : Nat} {v : Int64} (hown : s.vm.findClass own = some m.cls) (w : (Cond.constantLong own index v).before a0 Z = true) {pc pc' : Nat} {Ls : Array Slot} {st : List Value} (hp : pc + 3 = pc') (hd : decode c.code pc = .ok (.ldc2_w index, 3)) (k : Good p.tables e below s G (T.setTop (mkF m pc' Ls (.long v :: st)))) : Good p.tables e below s G (T.setTop (mkF m pc Ls st)) := by
  subst hp
  exact Good.go (fun _ q => X.ldc2Long hx hown (mvT hZ w) (g := mkF m pc Ls st) rfl hd _ q) k
theorem Good.ldc2D (X : Stand p l e R s m args below meth c T locs cells slots) (hx : p.tables.exec = Jvm.exec) (hZ : Z.Warmed39 s.vm) {own : String} {index : Nat} {v : UInt64} (hown : s.vm.findClass own = some m.cls) (w : (Cond.constantDouble own index v).before a0 Z = true) {pc pc' : Nat} {Ls : Array Slot} {st : List Value} (hp : pc + 3 = pc') (hd : decode c.code pc = .ok (.ldc2_w index, 3)) (k : Good p.tables e below s G (T.setTop (mkF m pc' Ls (.double v :: st)))) : Good p.tables e below s G (T.setTop (mkF m pc Ls st)) := by
  subst hp
  exact Good.go (fun _ q => X.ldc2DoubleC hx hown (mvT hZ w) (g := mkF m pc Ls st) rfl hd _ q) k
theorem Good.daload (X : Stand p l e R s m args below meth c T locs cells slots) (hx : p.tables.exec = Jvm.exec) (hZ : Z.Warmed39 s.vm) (eT : T.heap = h) {a : Addr} {cl : Cell} {j : Int32} {v : UInt64} (A : Arr Z h a cl .double) (hin : ¬ (j < 0 ∨ cl.slots.size ≤ j.toNatClampNeg)) (hv : cl.slots[j.toNatClampNeg]? = some (.double v)) {pc pc' : Nat} {Ls : Array Slot} {st : List Value} (hp : pc + 1 = pc') (hd : decode c.code pc = .ok (.daload, 1)) (k : Good p.tables e below s G (T.setTop (mkF m pc' Ls (.double v :: st)))) : Good p.tables e below s G (T.setTop (mkF m pc Ls (.int j :: .ref a :: st))) := by
  subst hp
  exact Good.go (fun _ q => X.daload hx (by rw [eT]; exact A.1) (State.isArrayOf_alike hZ.alike A.2.1) A.2.2 hin hv (g := mkF m pc Ls (.int j :: .ref a :: st)) rfl rfl hd _ q) k
theorem stD (X : Stand p l e R s m args below meth c T locs cells slots) (hx : p.tables.exec = Jvm.exec) (hZ : Z.Warmed39 s.vm) (eT : T.heap = h) {a : Addr} {cl : Cell} (A : Arr Z h a cl .double) {j : Int32} {x : UInt64} (hj : ¬ (j < 0 ∨ cl.slots.size ≤ j.toNatClampNeg)) {g : JFrame} (hg : g.method = m) {rest : List Value} (hs : g.stack = .double x :: .int j :: .ref a :: rest) (hd : decode c.code g.pc = .ok (.dastore, 1)) :
    ∃ T' h', Stand p l e R s m args below meth c T' (locs ++ [⟨a, j.toNatClampNeg⟩]) cells slots ∧ T'.heap = h' ∧ Wr h h' a j.toNatClampNeg (.double x) ∧ ∀ target, Steps p.tables e below (T'.setTop { g with pc := g.pc + 1, stack := rest }) target → Steps p.tables e below (T.setTop g) target := by
  obtain ⟨X', st⟩ := X.dastore hx (by rw [eT]; exact A.1) (State.isArrayOf_alike hZ.alike A.2.1) A.2.2 hj hg hs hd
  exact ⟨_, _, X', rfl, ⟨cl, A.1, A.plain, Nat.lt_of_not_le fun q => hj (Or.inr q), by rw [← eT]; rfl⟩, st⟩
theorem Good.dastore (X : Stand p l e R s m args below meth c T locs cells slots) (hx : p.tables.exec = Jvm.exec) (hZ : Z.Warmed39 s.vm) (eT : T.heap = h) {a : Addr} {cl : Cell} {j : Int32} {x : UInt64} (A : Arr Z h a cl .double) (hin : ¬ (j < 0 ∨ cl.slots.size ≤ j.toNatClampNeg)) {pc pc' : Nat} {Ls : Array Slot} {st : List Value} (hp : pc + 1 = pc') (hd : decode c.code pc = .ok (.dastore, 1))
    (k : ∀ T' h', Stand p l e R s m args below meth c T' (locs ++ [⟨a, j.toNatClampNeg⟩]) cells slots → T'.heap = h' → Wr h h' a j.toNatClampNeg (.double x) → Good p.tables e below s G (T'.setTop (mkF m pc' Ls st))) : Good p.tables e below s G (T.setTop (mkF m pc Ls (.double x :: .int j :: .ref a :: st))) := by
  subst hp
  obtain ⟨T', h', X', e', W', st'⟩ := stD X hx hZ eT A hin (g := mkF m pc Ls (.double x :: .int j :: .ref a :: st)) rfl rfl hd
  exact Good.go st' (k T' h' X' e' W')
theorem Good.iastore (X : Stand p l e R s m args below meth c T locs cells slots) (hx : p.tables.exec = Jvm.exec) (hZ : Z.Warmed39 s.vm) (eT : T.heap = h) {a : Addr} {cl : Cell} {j : Int32} {x : Int32} (A : Arr Z h a cl .int) (hin : ¬ (j < 0 ∨ cl.slots.size ≤ j.toNatClampNeg)) {pc pc' : Nat} {Ls : Array Slot} {st : List Value} (hp : pc + 1 = pc') (hd : decode c.code pc = .ok (.iastore, 1))
    (k : ∀ T' h', Stand p l e R s m args below meth c T' (locs ++ [⟨a, j.toNatClampNeg⟩]) cells slots → T'.heap = h' → Wr h h' a j.toNatClampNeg (.int x) → Good p.tables e below s G (T'.setTop (mkF m pc' Ls st))) : Good p.tables e below s G (T.setTop (mkF m pc Ls (.int x :: .int j :: .ref a :: st))) := by
  subst hp
  obtain ⟨T', h', X', e', W', st'⟩ := stI X hx hZ eT A hin (g := mkF m pc Ls (.int x :: .int j :: .ref a :: st)) rfl rfl hd
  exact Good.go st' (k T' h' X' e' W')
theorem Good.arraylength (X : Stand p l e R s m args below meth c T locs cells slots) (hx : p.tables.exec = Jvm.exec) (hZ : Z.Warmed39 s.vm) (eT : T.heap = h) {a : Addr} {cl : Cell} {ty : FieldType} (A : Arr Z h a cl ty) {n : Int32} (hn : cl.slots.size = n.toNatClampNeg) (hn0 : ¬ n < 0) {pc pc' : Nat} {Ls : Array Slot} {st : List Value} (hp : pc + 1 = pc') (hd : decode c.code pc = .ok (.arraylength, 1)) (k : Good p.tables e below s G (T.setTop (mkF m pc' Ls (.int n :: st)))) : Good p.tables e below s G (T.setTop (mkF m pc Ls (.ref a :: st))) := by
  subst hp
  refine Good.go (fun t q => X.arraylength hx (by rw [eT]; exact A.1) (State.isArrayOf_alike hZ.alike A.2.1) (g := mkF m pc Ls (.ref a :: st)) rfl rfl hd t ?_) k
  rw [len_of hn hn0]; exact q
theorem Good.getfield (X : Stand p l e R s m args below meth c T locs cells slots) (hx : p.tables.exec = Jvm.exec) (hZ : Z.Warmed39 s.vm) {own R0 O n d : String} {index : Nat} (hown : s.vm.findClass own = some m.cls) (w : (Cond.fieldLink own index R0 n d).before a0 Z = true) (via : Via Z R0 O n d) (eT : T.heap = h) {a : Addr} {v : Value} (F : Fld Z h a O n d v) {pc pc' : Nat} {Ls : Array Slot} {st : List Value} (hp : pc + 3 = pc') (hd : decode c.code pc = .ok (.getfield index, 3))
    (k : ∀ T', Stand p l e R s m args below meth c T' locs cells slots → T'.heap = h → Good p.tables e below s G (T'.setTop (mkF m pc' Ls (v :: st)))) : Good p.tables e below s G (T.setTop (mkF m pc Ls (.ref a :: st))) := by
  subst hp
  obtain ⟨T', X', e', st'⟩ := getF X hx hZ hown (host := "") (Or.inl w) via eT F (g := mkF m pc Ls (.ref a :: st)) rfl rfl hd
  exact Good.go st' (k T' X' e')
theorem Good.getstatic (X : Stand p l e R s m args below meth c T locs cells slots) (hx : p.tables.exec = Jvm.exec) (hZ : Z.Warmed39 s.vm) {own R0 O n d : String} {index : Nat} (hown : s.vm.findClass own = some m.cls) (w : (Cond.fieldLink own index R0 n d).before a0 Z = true) (via : Via Z R0 O n d) (eT : T.heap = h) {v : Value} (F : Sta Z h O n d v) {pc pc' : Nat} {Ls : Array Slot} {st : List Value} (hp : pc + 3 = pc') (hd : decode c.code pc = .ok (.getstatic index, 3))
    (k : ∀ T', Stand p l e R s m args below meth c T' locs cells slots → T'.heap = h → Good p.tables e below s G (T'.setTop (mkF m pc' Ls (v :: st)))) : Good p.tables e below s G (T.setTop (mkF m pc Ls st)) := by
  subst hp
  obtain ⟨T', X', e', st'⟩ := getS2 X hx hZ hown (host := "") (Or.inl w) via eT F (g := mkF m pc Ls st) rfl hd
  exact Good.go st' (k T' X' e')
theorem Good.putfield (X : Stand p l e R s m args below meth c T locs cells slots) (hx : p.tables.exec = Jvm.exec) (hZ : Z.Warmed39 s.vm) {own R0 O n d C : String} {index kk : Nat} {ty : FieldType} (hown : s.vm.findClass own = some m.cls) (w : (Cond.fieldLink own index R0 n d).before a0 Z = true) (via : Via Z R0 O n d) (eT : T.heap = h) {a : Addr} {v old : Value} (F : Fld Z h a O n d old) (E : Exa Z h a C) (L : (Cond.lays C O n d).before a0 Z = true ∨ ((Cond.laysFinal C O n d).before a0 Z = true ∧ own = O ∧ meth.name = "<init>")) (wi : (Cond.instantiable C kk).before a0 Z = true) (hty : parseFieldDescriptor d = some ty) (hn : narrow ty v = v) (hf : fits ty v = true) {pc pc' : Nat} {Ls : Array Slot} {st : List Value} (hp : pc + 3 = pc') (hd : decode c.code pc = .ok (.putfield index, 3))
    (k : ∀ T' h', Stand p l e R s m args below meth c T' (locs ++ [⟨a, RoadKit.slotOf Z O n d⟩]) cells slots → T'.heap = h' → Wr h h' a (RoadKit.slotOf Z O n d) v → Good p.tables e below s G (T'.setTop (mkF m pc' Ls st))) : Good p.tables e below s G (T.setTop (mkF m pc Ls (v :: .ref a :: st))) := by
  subst hp
  obtain ⟨T', h', X', e', W', st'⟩ := putF X hx hZ hown (host := "") (Or.inl w) via eT F E L wi hty hn hf (g := mkF m pc Ls (v :: .ref a :: st)) rfl rfl hd
  exact Good.go st' (k T' h' X' e' W')
theorem Good.new (X : Stand p l e R s m args below meth c T locs cells slots) (hx : p.tables.exec = Jvm.exec) (hZ : Z.Warmed39 s.vm) {own C : String} {index n : Nat} (hown : s.vm.findClass own = some m.cls) (w : (Cond.classLink own index C).before a0 Z = true) (wi : (Cond.instantiable C n).before a0 Z = true) (wz : (Cond.initialized C).before a0 Z = true) (eT : T.heap = h) {pc pc' : Nat} {Ls : Array Slot} {st : List Value} (hp : pc + 3 = pc') (hd : decode c.code pc = .ok (.new index, 3)) (hc : cells + 1 ≤ R.cells) (hl : slots + n ≤ R.slots)
    (k : ∀ T' h' b, b = h.size → Stand p l e R s m args below meth c T' locs (cells + 1) (slots + n) → T'.heap = h' → Ext h h' → Exa Z h' b C → (∀ {O nm d : String} {ty : FieldType}, Laid Z a0 C O nm d → parseFieldDescriptor d = some ty → Fld Z h' b O nm d (defaultValue ty)) → Good p.tables e below s G (T'.setTop (mkF m pc' Ls (.ref b :: st)))) : Good p.tables e below s G (T.setTop (mkF m pc Ls st)) := by
  subst hp
  obtain ⟨T', h', X', e', E', A', D', -, st'⟩ := newO X hx hZ hown w wi wz eT (g := mkF m pc Ls st) rfl hd hc hl
  exact Good.go st' (k T' h' _ rfl X' e' E' A' D')
theorem Good.newarray (X : Stand p l e R s m args below meth c T locs cells slots) (hx : p.tables.exec = Jvm.exec) (hZ : Z.Warmed39 s.vm) {aty : ArrayType} (w : (Cond.arrayClass (newarray.typeOf aty)).before a0 Z = true) (eT : T.heap = h) {n : Int32} {pc pc' : Nat} {Ls : Array Slot} {st : List Value} (hp : pc + 2 = pc') (hd : decode c.code pc = .ok (.newarray aty, 2)) (hn : ¬ n < 0) {cap : Nat} (hcap : n.toNatClampNeg ≤ cap) (hb : cap * 8 ≤ 536870912) (hc : cells + 1 ≤ R.cells) (hl : slots + cap ≤ R.slots)
    (k : ∀ T' h' cA b, b = h.size → Stand p l e R s m args below meth c T' locs (cells + 1) (slots + cap) → T'.heap = h' → Ext h h' → Arr Z h' b (newA cA (newarray.typeOf aty) n) (newarray.typeOf aty) → Good p.tables e below s G (T'.setTop (mkF m pc' Ls (.ref b :: st)))) : Good p.tables e below s G (T.setTop (mkF m pc Ls (.int n :: st))) := by
  subst hp
  obtain ⟨T', h', cA, X', e', E', A', st'⟩ := newP X hx hZ w eT (g := mkF m pc Ls (.int n :: st)) rfl hd rfl hn hcap hb hc hl
  exact Good.go st' (k T' h' cA _ rfl X' e' E' A')
theorem Good.initO (X : Stand p l e R s m args below meth c T locs cells slots) (hx : p.tables.exec = Jvm.exec) (hZ : Z.Warmed39 s.vm) {own : String} {idx : Nat} (hown : s.vm.findClass own = some m.cls) (w1 : (Cond.methodLink own idx Lib.objectInit).before a0 Z = true) (w2 : (Cond.instanceMethod Lib.objectInit).before a0 Z = true) (w3 : (Cond.code Lib.objectInit ⟨#[0xb1]⟩ 1 none).before a0 Z = true) (eT : T.heap = h) {a : Addr} {pc pc' : Nat} {Ls : Array Slot} {rest : List Value} (hp : pc + 3 = pc') (hsz : Ls.size = c.maxLocals) (hd : decode c.code pc = .ok (.invokespecial idx, 3)) (hf : 1 ≤ R.frames) {W : Nat} (hW : (rest.map fun v => v.category).sum ≤ W) (hlo : W + 12 ≤ R.locals)
    (k : ∀ T', Stand p l e R s m args below meth c T' locs cells slots → T'.heap = h → Good p.tables e below s G (T'.setTop (mkF m pc' Ls rest))) : Good p.tables e below s G (T.setTop (mkF m pc Ls (.ref a :: rest))) := by
  subst hp
  obtain ⟨T', X', e', st'⟩ := Jvm.RoadKit.initO X hx hZ hown w1 w2 w3 eT (g := mkF m pc Ls (.ref a :: rest)) rfl hsz rfl hd hf (W := W) (by simpa using hW) hlo
  exact Good.go st' (k T' X' e')
/-- the contract of a body: called with these arguments on this heap it returns, and Q holds -/
def Con (l : Launch) (Z : State) (y : MethodName) (bytes : ByteArray) (maxL : Nat) (ret : Option FieldType) (rm : Room) (as' : Array Value) (h : Heap) (Q : Option Value → Heap → List Loc → Prop) : Prop :=
  ∀ ws : List Cond, MetFree l y (head1 (Cond.code y bytes maxL ret :: ws) rm) (fun a U => a = as' ∧ Z.Warmed39 U.vm ∧ U.heap = h) (fun _ _ _ _ _ => True) (fun _ U o U' => ∃ v L, o = .returned v ∧ Q v U'.heap L ∧ FrameEnd U o U' L rm.cells rm.slots)
theorem Con.body {y : MethodName} {bytes : ByteArray} {maxL : Nat} {ret : Option FieldType} {rm : Room} {as' : Array Value} {Q : Option Value → Heap → List Loc → Prop} (hpl : plainFor y = true)
    (B : ∀ G : Option Value → Heap → List Loc → Nat → Nat → Prop, (∀ v h' L k n, Q v h' L → k ≤ rm.cells → n ≤ rm.slots → G v h' L k n) → ∀ (p : Program) (e : Env) (s : State) (m : MethodId) (below : List Frame) (meth : Method) (c : Code) (T : State), Stand p l e rm s m as' below meth c T [] 0 0 → p.tables.exec = Jvm.exec → c.code = bytes → c.maxLocals = maxL → s.vm.findClass y.cls = some m.cls → meth.name = y.name → meth.sig.returnType = ret → meth.locks = false → Z.Warmed39 s.vm → T.heap = h →
      Good p.tables e below s G (T.setTop (entryFrame m as' maxL))) : Con l Z y bytes maxL ret rm as' h Q := by
  intro ws
  refine MetFree.of_bodySF hpl hisR ?_
  intro p e s m args below meth c s₁ Bd hml hP hK
  obtain ⟨rfl, hZ, hh⟩ := hP
  obtain ⟨T, fs, v, L, k, n, q, h1, h2, h3, h4, hQ, hk, hn⟩ := B (fun v h' L k n => Q v h' L ∧ k ≤ rm.cells ∧ n ≤ rm.slots) (fun _ _ _ _ _ a b c => ⟨a, b, c⟩) p e s m below meth c s₁ (Stand.of_body Bd) Bd.exec Bd.bytes hml (findClass_of_methodNamed Bd.named) (name_of_methodNamed Bd.named Bd.method).1 Bd.returns Bd.notSynchronized hZ (by rw [← hh, Bd.state]; rfl)
  exact ⟨_, _, q, h1, h2, v, L, rfl, hQ, ⟨_, rfl⟩, h3, h4.mono hk hn⟩
theorem Good.callS (X : Stand p l e R s m args below meth c T locs cells slots) (hx : p.tables.exec = Jvm.exec) (hZ : Z.Warmed39 s.vm) {own : String} {index : Nat} {y : MethodName} {bytes : ByteArray} {maxL : Nat} {ret : Option FieldType} {rm : Room} {Q : Option Value → Heap → List Loc → Prop} (hown : s.vm.findClass own = some m.cls) (w1 : (Cond.methodLink own index y).before a0 Z = true) (w2 : (Cond.static y).before a0 Z = true) (w3 : (Cond.initialized y.cls).before a0 Z = true) (w4 : (Cond.code y bytes maxL ret).before a0 Z = true) (hy : y.cls ≠ "java/lang/invoke/MethodHandle" ∧ y.cls ≠ "java/lang/invoke/VarHandle") (eT : T.heap = h) {argsL rest : List Value} (K : Con l Z y bytes maxL ret rm argsL.toArray h Q) {ps : List FieldType} {r : Option FieldType} (hdesc : parseMethodDescriptor y.desc = some ⟨ps, r⟩) (hlen : argsL.length = ps.length) {pc pc' : Nat} {Ls : Array Slot} {st : List Value} (hp : pc + 3 = pc') (hsz : Ls.size = c.maxLocals) (hs : st = argsL.reverse ++ rest) (hd : decode c.code pc = .ok (.invokestatic index, 3)) {W : Nat} (hW : (rest.map fun v => v.category).sum ≤ W) (hf : rm.frames + 1 ≤ R.frames) (hlo : W + (maxL + 11) + rm.locals ≤ R.locals) (hce : cells + rm.cells ≤ R.cells) (hsl : slots + rm.slots ≤ R.slots)
    (k : ∀ v T' L, Stand p l e R s m args below meth c T' (locs ++ L) (cells + rm.cells) (slots + rm.slots) → Q v T'.heap L → Good p.tables e below s G (T'.setTop (mkF m pc' Ls (v.toList ++ rest)))) : Good p.tables e below s G (T.setTop (mkF m pc Ls st)) := by
  subst hp hs
  obtain ⟨v, vm₁, ⟨T', L', k', n'⟩, -, X', ⟨L, hQ, l1, l2, l3⟩, st⟩ := Jvm.LawKit.callS X hx (y := y) hown (mvT hZ w1) (mvT hZ w2) (mvT hZ w3) (mvT hZ w4) hy (backOf (W := W) (K []) hZ w4 w3 hf hlo) (g := mkF m pc Ls (argsL.reverse ++ rest)) rfl hsz (argsL := argsL) (rest := rest) (lenOf hdesc hlen) rfl (by simpa using hW) hd (fun _ _ => ⟨rfl, eT, hce, hsl⟩)
  dsimp only [Pt.U, Pt.locs, Pt.cells, Pt.slots] at X' l1 l2 l3 st hQ
  subst l1 l2 l3
  exact Good.go st (k v T' L X' hQ)
theorem Good.callN (X : Stand p l e R s m args below meth c T locs cells slots) (hx : p.tables.exec = Jvm.exec) (hZ : Z.Warmed39 s.vm) {own : String} {index : Nat} {y : MethodName} {bytes : ByteArray} {maxL : Nat} {rm : Room} {Q : Option Value → Heap → List Loc → Prop} (hyn : y.name = "<init>") (hown : s.vm.findClass own = some m.cls) (w1 : (Cond.methodLink own index y).before a0 Z = true) (w2 : (Cond.instanceMethod y).before a0 Z = true) (w3 : (Cond.initialized y.cls).before a0 Z = true) (w4 : (Cond.code y bytes maxL none).before a0 Z = true) (hy : y.cls ≠ "java/lang/invoke/MethodHandle" ∧ y.cls ≠ "java/lang/invoke/VarHandle") (eT : T.heap = h) {a : Addr} {argsL rest : List Value} (K : Con l Z y bytes maxL none rm (.ref a :: argsL).toArray h Q) {ps : List FieldType} {r : Option FieldType} (hdesc : parseMethodDescriptor y.desc = some ⟨ps, r⟩) (hlen : argsL.length = ps.length) {pc pc' : Nat} {Ls : Array Slot} {st : List Value} (hp : pc + 3 = pc') (hsz : Ls.size = c.maxLocals) (hs : st = argsL.reverse ++ .ref a :: rest) (hd : decode c.code pc = .ok (.invokespecial index, 3)) {W : Nat} (hW : (rest.map fun v => v.category).sum ≤ W) (hf : rm.frames + 1 ≤ R.frames) (hlo : W + (maxL + 11) + rm.locals ≤ R.locals) (hce : cells + rm.cells ≤ R.cells) (hsl : slots + rm.slots ≤ R.slots)
    (k : ∀ v T' L, Stand p l e R s m args below meth c T' (locs ++ L) (cells + rm.cells) (slots + rm.slots) → Q v T'.heap L → Good p.tables e below s G (T'.setTop (mkF m pc' Ls (v.toList ++ rest)))) : Good p.tables e below s G (T.setTop (mkF m pc Ls st)) := by
  subst hp hs
  obtain ⟨v, vm₁, ⟨T', L', k', n'⟩, -, X', ⟨L, hQ, l1, l2, l3⟩, st⟩ := X.specialBack hx (y := y) hyn hown (mvT hZ w1) (mvT hZ w2) (mvT hZ w4) hy (backOf (W := W) (K []) hZ w4 w3 hf hlo) (g := mkF m pc Ls (argsL.reverse ++ .ref a :: rest)) rfl hsz (Steps.refl _) (a := a) (argsL := argsL) (rest := rest) (lenOf hdesc hlen) rfl (by simpa using hW) hd (fun _ _ => ⟨rfl, eT, hce, hsl⟩)
  dsimp only [Pt.U, Pt.locs, Pt.cells, Pt.slots] at X' l1 l2 l3 st hQ
  subst l1 l2 l3
  exact Good.go (fun _ q => st.trans q) (k v T' L X' hQ)
theorem Good.callV (X : Stand p l e R s m args below meth c T locs cells slots) (hx : p.tables.exec = Jvm.exec) (hZ : Z.Warmed39 s.vm) {own C : String} {index : Nat} {y : MethodName} {bytes : ByteArray} {maxL : Nat} {ret : Option FieldType} {rm : Room} {Q : Option Value → Heap → List Loc → Prop} (hown : s.vm.findClass own = some m.cls) (w1 : (Cond.methodLink own index y).before a0 Z = true) (wd : (Cond.declares y).before a0 Z = true) (ws : (Cond.selects C y y).before a0 Z = true) (w2 : (Cond.instanceMethod y).before a0 Z = true) (w3 : (Cond.initialized y.cls).before a0 Z = true) (w4 : (Cond.code y bytes maxL ret).before a0 Z = true) (hy : y.cls ≠ "java/lang/invoke/MethodHandle" ∧ y.cls ≠ "java/lang/invoke/VarHandle") (eT : T.heap = h) {a : Addr} (E : Exa Z h a C) {argsL rest : List Value} (K : Con l Z y bytes maxL ret rm (.ref a :: argsL).toArray h Q) {ps : List FieldType} {r : Option FieldType} (hdesc : parseMethodDescriptor y.desc = some ⟨ps, r⟩) (hlen : argsL.length = ps.length) {pc pc' : Nat} {Ls : Array Slot} {st : List Value} (hp : pc + 3 = pc') (hsz : Ls.size = c.maxLocals) (hs : st = argsL.reverse ++ .ref a :: rest) (hd : decode c.code pc = .ok (.invokevirtual index, 3)) {W : Nat} (hW : (rest.map fun v => v.category).sum ≤ W) (hf : rm.frames + 1 ≤ R.frames) (hlo : W + (maxL + 11) + rm.locals ≤ R.locals) (hce : cells + rm.cells ≤ R.cells) (hsl : slots + rm.slots ≤ R.slots)
    (k : ∀ v T' L, Stand p l e R s m args below meth c T' (locs ++ L) (cells + rm.cells) (slots + rm.slots) → Q v T'.heap L → Good p.tables e below s G (T'.setTop (mkF m pc' Ls (v.toList ++ rest)))) : Good p.tables e below s G (T.setTop (mkF m pc Ls st)) := by
  subst hp hs
  obtain ⟨cq, kq, q1, q2, q3⟩ := isOf hZ eT E
  obtain ⟨v, vm₁, ⟨T', L', k', n'⟩, -, X', ⟨L, hQ, l1, l2, l3⟩, st⟩ := X.virtualBack hx (y := y) (z := y) hown (mvT hZ w1) (mvT hZ wd) (notFace_of_selects (args := #[]) (mvT hZ ws)) (mvT hZ ws) (mvT hZ w2) hy (backOf (W := W) (K []) hZ w4 w3 hf hlo) q1 q3 (g := mkF m pc Ls (argsL.reverse ++ .ref a :: rest)) rfl hsz (Steps.refl _) (argsL := argsL) (rest := rest) (lenOf hdesc hlen) rfl (by simpa using hW) hd (fun _ _ => ⟨rfl, eT, hce, hsl⟩)
  dsimp only [Pt.U, Pt.locs, Pt.cells, Pt.slots] at X' l1 l2 l3 st hQ
  subst l1 l2 l3
  exact Good.go (fun _ q => st.trans q) (k v T' L X' hQ)

theorem Good.iaddN (X : Stand p l e R s m args below meth c T locs cells slots) (hx : p.tables.exec = Jvm.exec) {pc pc' : Nat} {Ls : Array Slot} {x y : Nat} {st : List Value} (hp : pc + 1 = pc') (hd : decode c.code pc = .ok (.iadd, 1)) (k : Good p.tables e below s G (T.setTop (mkF m pc' Ls (.int (Int32.ofNat (x + y)) :: st)))) : Good p.tables e below s G (T.setTop (mkF m pc Ls (.int (Int32.ofNat y) :: .int (Int32.ofNat x) :: st))) :=
  Good.iadd X hx hp hd (by rw [← Int32.ofNat_add]; exact k)
theorem Good.imulN (X : Stand p l e R s m args below meth c T locs cells slots) (hx : p.tables.exec = Jvm.exec) {pc pc' : Nat} {Ls : Array Slot} {x y : Nat} {st : List Value} (hp : pc + 1 = pc') (hd : decode c.code pc = .ok (.imul, 1)) (k : Good p.tables e below s G (T.setTop (mkF m pc' Ls (.int (Int32.ofNat (x * y)) :: st)))) : Good p.tables e below s G (T.setTop (mkF m pc Ls (.int (Int32.ofNat y) :: .int (Int32.ofNat x) :: st))) :=
  Good.imul X hx hp hd (by rw [← Int32.ofNat_mul]; exact k)
theorem Good.iincN (X : Stand p l e R s m args below meth c T locs cells slots) (hx : p.tables.exec = Jvm.exec) {pc pc' : Nat} {Ls : Array Slot} {i x w : Nat} {cst : Int} {Ls' : Array Slot} {st : List Value} (hp : pc + 3 = pc') (hd : decode c.code pc = .ok (.iinc i cst, 3)) (hl : Ls[i]? = some (.val (.int (Int32.ofNat x)))) (hv : Int32.ofInt cst = Int32.ofNat w) (hl' : storeLocals Ls i (.int (Int32.ofNat (x + w))) = some Ls') (k : Good p.tables e below s G (T.setTop (mkF m pc' Ls' st))) : Good p.tables e below s G (T.setTop (mkF m pc Ls st)) :=
  Good.iinc X hx hp hd hl hv (by rw [← Int32.ofNat_add]; exact hl') k
/-- a slot that a one-word value may be laid over -/
def One (o : Slot) : Prop := o = .unset ∨ ∃ w, o = .val w ∧ w.category = 1
/-- two slots that a double may be laid over -/
def Two (o o' : Slot) : Prop := (o = .unset ∧ o' = .unset) ∨ ∃ d, o = .val (.double d) ∧ o' = .second
theorem One.u : One .unset := Or.inl rfl
theorem One.i (x : Int32) : One (.val (.int x)) := Or.inr ⟨_, rfl, rfl⟩
theorem Two.u : Two .unset .unset := Or.inl ⟨rfl, rfl⟩
theorem Two.d (x : UInt64) : Two (.val (.double x)) .second := Or.inr ⟨_, rfl, rfl⟩
theorem store2 {l : Array Slot} {i : Nat} {x : UInt64} {o o' : Slot} (h1 : l[i]? = some o) (h2 : l[i + 1]? = some o') (ho : Two o o') : storeLocals l i (.double x) = some ((l.setIfInBounds i (.val (.double x))).setIfInBounds (i + 1) .second) := by
  obtain ⟨hi, g1⟩ := Array.getElem?_eq_some_iff.mp h1
  obtain ⟨hj, g2⟩ := Array.getElem?_eq_some_iff.mp h2
  rcases ho with ⟨rfl, rfl⟩ | ⟨d, rfl, rfl⟩
  · simp [storeLocals, storeSelf, setAt, Value.category, hi, hj, g1, g2]
  · simp [storeLocals, storeSelf, setAt, Value.category, hi, hj, g1, g2]
    apply Array.ext_getElem?
    intro j
    simp only [Array.getElem?_setIfInBounds, Array.size_setIfInBounds]
    by_cases q1 : i + 1 = j
    · simp [q1]
    · by_cases q2 : i = j <;> simp [q1, q2]
end Kit
section Arrays
variable {Z : State} {h h' : Heap} {a b : Addr} {n : Nat} {f : Nat → UInt64} {sl : Nat} {v : Value} {ws : List Addr} {ty : FieldType}
/-- a double[] of n places, place i holds f i -/
def DA (Z : State) (h : Heap) (a : Addr) (n : Nat) (f : Nat → UInt64) : Prop := ∃ cl : Cell, Arr Z h a cl .double ∧ cl.slots.size = n ∧ ∀ i, i < n → cl.slots[i]? = some (.double (f i))
def updD (f : Nat → UInt64) (j : Nat) (x : UInt64) : Nat → UInt64 := fun i => if i = j then x else f i
/-- an array of n places -/
def AR (Z : State) (h : Heap) (a : Addr) (n : Nat) (ty : FieldType) : Prop := ∃ cl : Cell, Arr Z h a cl ty ∧ cl.slots.size = n
theorem DA.lt (F : DA Z h a n f) : a < h.size := by obtain ⟨c, A, -⟩ := F; exact A.lt
theorem DA.ext (F : DA Z h a n f) (E : Ext h h') : DA Z h' a n f := by obtain ⟨c, A, r⟩ := F; exact ⟨c, A.ext E, r⟩
theorem DA.other (F : DA Z h b n f) (W : Wr h h' a sl v) (q : b ≠ a) : DA Z h' b n f := by obtain ⟨c, A, r⟩ := F; exact ⟨c, A.other W q, r⟩
theorem DA.keep (F : DA Z h a n f) (K : Keep h h' ws) (q : a ∉ ws) : DA Z h' a n f := by obtain ⟨c, A, r⟩ := F; exact ⟨c, ⟨K.2.1 a c A.1 q, A.2⟩, r⟩
theorem AR.lt (F : AR Z h a n ty) : a < h.size := by obtain ⟨c, A, -⟩ := F; exact A.lt
theorem AR.ext (F : AR Z h a n ty) (E : Ext h h') : AR Z h' a n ty := by obtain ⟨c, A, r⟩ := F; exact ⟨c, A.ext E, r⟩
theorem AR.other (F : AR Z h b n ty) (W : Wr h h' a sl v) (q : b ≠ a) : AR Z h' b n ty := by obtain ⟨c, A, r⟩ := F; exact ⟨c, A.other W q, r⟩
theorem AR.keep (F : AR Z h a n ty) (K : Keep h h' ws) (q : a ∉ ws) : AR Z h' a n ty := by obtain ⟨c, A, r⟩ := F; exact ⟨c, ⟨K.2.1 a c A.1 q, A.2⟩, r⟩
theorem clampOf {j : Int32} {i : Nat} (hj : j.toInt = (i : Int)) : j.toNatClampNeg = i := by
  show j.toInt.toNat = i
  rw [hj]; rfl
theorem inOf {j : Int32} {i m : Nat} (hj : j.toInt = (i : Int)) (hi : i < m) : ¬ (j < 0 ∨ m ≤ j.toNatClampNeg) := by
  rw [clampOf hj, Int32.lt_iff_toInt_lt, hj]
  have e0 : (0 : Int32).toInt = 0 := rfl
  omega
theorem DA.new {k : ClassId} {z : Int32} (A : Arr Z h a (newA k (newarray.typeOf .double) z) (newarray.typeOf .double)) (hz : z.toInt = (n : Int)) : DA Z h a n (fun _ => 0) :=
  ⟨_, A, by rw [sz_new, clampOf hz], fun i hi => by
    show (Array.replicate z.toNatClampNeg (defaultValue .double))[i]? = _
    rw [clampOf hz, Array.getElem?_replicate, if_pos hi]; rfl⟩
theorem AR.new {k : ClassId} {z : Int32} (A : Arr Z h a (newA k ty z) ty) (hz : z.toInt = (n : Int)) : AR Z h a n ty := ⟨_, A, by rw [sz_new, clampOf hz]⟩
theorem DA.set (F : DA Z h a n f) {j : Nat} {x : UInt64} (W : Wr h h' a j (.double x)) : DA Z h' a n (updD f j x) := by
  obtain ⟨cl, A, S, H⟩ := F
  refine ⟨_, A.same W, by rw [sz_set]; exact S, fun i hi => ?_⟩
  show (cl.slots.setIfInBounds j (.double x))[i]? = some (.double (if i = j then x else f i))
  by_cases q : i = j
  · subst q
    rw [if_pos rfl, Array.getElem?_setIfInBounds_self_of_lt (by omega)]
  · rw [if_neg q, Array.getElem?_setIfInBounds_ne (fun z => q z.symm)]; exact H i hi
theorem AR.set (F : AR Z h a n ty) (W : Wr h h' a sl v) : AR Z h' a n ty := by
  obtain ⟨cl, A, S⟩ := F
  exact ⟨_, A.same W, by rw [sz_set]; exact S⟩
theorem DA.eq (F : DA Z h a n f) {g : Nat → UInt64} (q : ∀ i, i < n → f i = g i) : DA Z h a n g := by
  obtain ⟨cl, A, S, H⟩ := F
  exact ⟨cl, A, S, fun i hi => by rw [← q i hi]; exact H i hi⟩
theorem DA.ar (F : DA Z h a n f) : AR Z h a n .double := by obtain ⟨cl, A, S, -⟩ := F; exact ⟨cl, A, S⟩
variable {p : Program} {l : Launch} {e : Env} {R : Room} {s : State} {m : MethodId} {args : Array Value} {below : List Frame} {meth : Method} {c : Code} {T : State} {locs : List Loc} {cells slots : Nat} {G : Option Value → Heap → List Loc → Nat → Nat → Prop}
theorem Good.daloadF (X : Stand p l e R s m args below meth c T locs cells slots) (hx : p.tables.exec = Jvm.exec) (hZ : Z.Warmed39 s.vm) (eT : T.heap = h) (A : DA Z h a n f) {j : Int32} (i : Nat) (hj : j.toInt = (i : Int)) (hi : i < n) {w : UInt64} (hw : f i = w) {pc pc' : Nat} {Ls : Array Slot} {st : List Value} (hp : pc + 1 = pc') (hd : decode c.code pc = .ok (.daload, 1)) (k : Good p.tables e below s G (T.setTop (mkF m pc' Ls (.double w :: st)))) : Good p.tables e below s G (T.setTop (mkF m pc Ls (.int j :: .ref a :: st))) := by
  obtain ⟨cl, A, S, H⟩ := A
  exact Good.daload X hx hZ eT A (by rw [S]; exact inOf hj hi) (by rw [clampOf hj, H i hi, hw]) hp hd k
theorem Good.dastoreF (X : Stand p l e R s m args below meth c T locs cells slots) (hx : p.tables.exec = Jvm.exec) (hZ : Z.Warmed39 s.vm) (eT : T.heap = h) (A : DA Z h a n f) {j : Int32} (i : Nat) (hj : j.toInt = (i : Int)) (hi : i < n) {x : UInt64} {pc pc' : Nat} {Ls : Array Slot} {st : List Value} (hp : pc + 1 = pc') (hd : decode c.code pc = .ok (.dastore, 1))
    (k : ∀ T' h', Stand p l e R s m args below meth c T' (locs ++ [⟨a, i⟩]) cells slots → T'.heap = h' → Wr h h' a i (.double x) → DA Z h' a n (updD f i x) → Good p.tables e below s G (T'.setTop (mkF m pc' Ls st))) : Good p.tables e below s G (T.setTop (mkF m pc Ls (.double x :: .int j :: .ref a :: st))) := by
  have A0 := A
  obtain ⟨cl, A, S, H⟩ := A
  refine Good.dastore X hx hZ eT A (by rw [S]; exact inOf hj hi) hp hd fun T' h' X' e' W' => ?_
  rw [clampOf hj] at X' W'
  exact k T' h' X' e' W' (A0.set W')
theorem Good.iastoreF (X : Stand p l e R s m args below meth c T locs cells slots) (hx : p.tables.exec = Jvm.exec) (hZ : Z.Warmed39 s.vm) (eT : T.heap = h) (A : AR Z h a n .int) {j : Int32} (i : Nat) (hj : j.toInt = (i : Int)) (hi : i < n) {x : Int32} {pc pc' : Nat} {Ls : Array Slot} {st : List Value} (hp : pc + 1 = pc') (hd : decode c.code pc = .ok (.iastore, 1))
    (k : ∀ T' h', Stand p l e R s m args below meth c T' (locs ++ [⟨a, i⟩]) cells slots → T'.heap = h' → Wr h h' a i (.int x) → AR Z h' a n .int → Good p.tables e below s G (T'.setTop (mkF m pc' Ls st))) : Good p.tables e below s G (T.setTop (mkF m pc Ls (.int x :: .int j :: .ref a :: st))) := by
  have A0 := A
  obtain ⟨cl, A, S⟩ := A
  refine Good.iastore X hx hZ eT A (by rw [S]; exact inOf hj hi) hp hd fun T' h' X' e' W' => ?_
  rw [clampOf hj] at X' W'
  exact k T' h' X' e' W' (A0.set W')
theorem Good.alenF (X : Stand p l e R s m args below meth c T locs cells slots) (hx : p.tables.exec = Jvm.exec) (hZ : Z.Warmed39 s.vm) (eT : T.heap = h) (A : DA Z h a n f) {z : Int32} (hz : z.toInt = (n : Int)) {pc pc' : Nat} {Ls : Array Slot} {st : List Value} (hp : pc + 1 = pc') (hd : decode c.code pc = .ok (.arraylength, 1)) (k : Good p.tables e below s G (T.setTop (mkF m pc' Ls (.int z :: st)))) : Good p.tables e below s G (T.setTop (mkF m pc Ls (.ref a :: st))) := by
  obtain ⟨cl, A, S, H⟩ := A
  refine Good.arraylength X hx hZ eT A (n := z) (by rw [S, clampOf hz]) ?_ hp hd k
  rw [Int32.lt_iff_toInt_lt, hz]
  have e0 : (0 : Int32).toInt = 0 := rfl
  omega
end Arrays
section Chars
variable {p : Program} {l : Launch} {e : Env} {R : Room} {s : State} {m : MethodId} {args : Array Value} {below : List Frame} {meth : Method} {c : Code} {T : State} {locs : List Loc} {cells slots : Nat} {G : Option Value → Heap → List Loc → Nat → Nat → Prop} {Z : State} {a0 : Array Value} {h : Heap}
/-- a char laid into an array of two, whose values are known -/
theorem Good.castoreV (X : Stand p l e R s m args below meth c T locs cells slots) (hx : p.tables.exec = Jvm.exec) (hZ : Z.Warmed39 s.vm) (eT : T.heap = h) {a : Addr} {kC : ClassId} {z j x : Int32} {vs : List Value} {dv : Value} (A : Arv Z h a kC .char z vs dv) (i : Nat) (hj : j.toInt = (i : Int)) (hi : (i : Int) < z.toInt) (hl : i < vs.length) {pc pc' : Nat} {Ls : Array Slot} {st : List Value} (hp : pc + 1 = pc') (hd : decode c.code pc = .ok (.castore, 1))
    (k : ∀ T' h', Stand p l e R s m args below meth c T' (locs ++ [⟨a, i⟩]) cells slots → T'.heap = h' → Wr h h' a i (.int (nar .char x)) → Arv Z h' a kC .char z (vs.set i (.int (nar .char x))) dv → Good p.tables e below s G (T'.setTop (mkF m pc' Ls st))) : Good p.tables e below s G (T.setTop (mkF m pc Ls (.int x :: .int j :: .ref a :: st))) := by
  subst hp
  obtain ⟨cl, A, q1, S, q3, H, U⟩ := A
  have hin : ¬ (j < 0 ∨ cl.slots.size ≤ j.toNatClampNeg) := by
    rw [S]
    refine inOf hj ?_
    show i < z.toInt.toNat
    omega
  obtain ⟨T', h', X', e', W', st'⟩ := stC X hx hZ eT A hin (g := mkF m pc Ls (.int x :: .int j :: .ref a :: st)) rfl rfl hd
  have V := Arv.set A q1 S q3 H U (fits_nar_char x) W' i (clampOf hj) hl
  rw [clampOf hj] at X' W'
  exact Good.go st' (k T' h' X' e' W' V)
/-- a constructor paid by a Back -/
theorem Good.callNB (X : Stand p l e R s m args below meth c T locs cells slots) (hx : p.tables.exec = Jvm.exec) (hZ : Z.Warmed39 s.vm) {own : String} {index : Nat} {y : MethodName} {bytes : ByteArray} {maxL kc ks : Nat} {Q : Option Value → Heap → List Loc → Prop} (hyn : y.name = "<init>") (hown : s.vm.findClass own = some m.cls) (w1 : (Cond.methodLink own index y).before a0 Z = true) (w2 : (Cond.instanceMethod y).before a0 Z = true) (w4 : (Cond.code y bytes maxL none).before a0 Z = true) (hy : y.cls ≠ "java/lang/invoke/MethodHandle" ∧ y.cls ≠ "java/lang/invoke/VarHandle") (eT : T.heap = h) {a : Addr} {argsL rest : List Value} {W : Nat}
    (K : Back l R p e below s args y 3 W (fun P a' => a' = (.ref a :: argsL).toArray ∧ P.U.heap = h ∧ P.cells + kc ≤ R.cells ∧ P.slots + ks ≤ R.slots) (fun P _ v B => ∃ L, Q v B.U.heap L ∧ B.locs = P.locs ++ L ∧ B.cells = P.cells + kc ∧ B.slots = P.slots + ks)) {ps : List FieldType} {r : Option FieldType} (hdesc : parseMethodDescriptor y.desc = some ⟨ps, r⟩) (hlen : argsL.length = ps.length) {pc pc' : Nat} {Ls : Array Slot} {st : List Value} (hp : pc + 3 = pc') (hsz : Ls.size = c.maxLocals) (hs : st = argsL.reverse ++ .ref a :: rest) (hd : decode c.code pc = .ok (.invokespecial index, 3)) (hW : (rest.map fun v => v.category).sum ≤ W) (hce : cells + kc ≤ R.cells) (hsl : slots + ks ≤ R.slots)
    (k : ∀ v T' L, Stand p l e R s m args below meth c T' (locs ++ L) (cells + kc) (slots + ks) → Q v T'.heap L → Good p.tables e below s G (T'.setTop (mkF m pc' Ls (v.toList ++ rest)))) : Good p.tables e below s G (T.setTop (mkF m pc Ls st)) := by
  subst hp hs
  obtain ⟨v, vm₁, ⟨T', L', k', n'⟩, -, X', ⟨L, hQ, l1, l2, l3⟩, st⟩ := X.specialBack hx (y := y) hyn hown (mvT hZ w1) (mvT hZ w2) (mvT hZ w4) hy K (g := mkF m pc Ls (argsL.reverse ++ .ref a :: rest)) rfl hsz (Steps.refl _) (a := a) (argsL := argsL) (rest := rest) (lenOf hdesc hlen) rfl (by simpa using hW) hd (fun _ _ => ⟨rfl, eT, hce, hsl⟩)
  dsimp only [Pt.U, Pt.locs, Pt.cells, Pt.slots] at X' l1 l2 l3 st hQ
  subst l1 l2 l3
  exact Good.go (fun _ q => st.trans q) (k v T' L X' hQ)
end Chars
end Jvm.OwnKit
namespace Jvm.Pilot.@@N@@
open Jvm Jvm.ClassFile Sem Op Lib Jvm.Free Jvm.Stand Jvm.LawKit Jvm.RoadKit Jvm.OwnKit Jvm.Free.Fl Bundle Jvm.Pilot.@@N@@.Jvm.D
theorem own_n32 {i : Nat} (h : i < 100) : (Int32.ofNat i).toInt = (i : Int) := Int32.toInt_ofNat_of_lt (by omega)
theorem own_lt {i n : Nat} (h : i < n) (hn : n < 100) : if_icmp.holds .ge (Int32.ofNat i) (Int32.ofNat n) = false := by
  refine (tlt ?_).2.1
  rw [Int32.lt_iff_toInt_lt, own_n32 (by omega), own_n32 hn]; omega
theorem own_ge {i n : Nat} (h : ¬ i < n) (hi : i < 100) (hn : n < 100) : if_icmp.holds .ge (Int32.ofNat i) (Int32.ofNat n) = true := by
  refine (flt ?_).2.1
  rw [Int32.lt_iff_toInt_lt, own_n32 hi, own_n32 hn]; omega
theorem own_one (i : Nat) : Int32.ofNat i + (1 : Int32) = Int32.ofNat (i + 1) := (Int32.ofNat_add i 1).symm
theorem own_and3 (x : Int32) : ∃ k : Int32, x &&& (3 : Int32) = k ∧ (k = 0 ∨ k = 1 ∨ k = 2 ∨ k = 3) := by
  refine ⟨_, rfl, ?_⟩
  have h : (x &&& (3 : Int32)).toBitVec.toNat ≤ 3 := by
    simp only [Int32.toBitVec_and, BitVec.toNat_and]
    exact Nat.and_le_right
  have e : x &&& (3 : Int32) = Int32.ofNat (x &&& (3 : Int32)).toBitVec.toNat := by
    apply Int32.toBitVec_inj.mp
    show _ = BitVec.ofNat 32 _
    rw [BitVec.ofNat_toNat]; simp
  generalize (x &&& (3 : Int32)).toBitVec.toNat = k at h e
  rw [e]
  match k, h with
  | 0, _ => exact Or.inl rfl
  | 1, _ => exact Or.inr (Or.inl rfl)
  | 2, _ => exact Or.inr (Or.inr (Or.inl rfl))
  | 3, _ => exact Or.inr (Or.inr (Or.inr rfl))
/-- a weight above 0, as the code asks it -/
def pos (x : UInt64) : Bool := ifCond.holds .gt (cmpValue (FP.dcmp x FP.dconst0) .l)
theorem pos_le (x : UInt64) : ifCond.holds .le (cmpValue (FP.dcmp x FP.dconst0) .l) = !pos x := by
  unfold pos
  generalize cmpValue (FP.dcmp x FP.dconst0) .l = z
  rw [if0, if0]
  by_cases h : (0 : Int32) < z
  · rw [(tlt h).2.2.1, (tlt h).2.2.2]; rfl
  · rw [(flt h).2.2.1, (flt h).2.2.2]; rfl
def anyP (f : Nat → UInt64) : Nat → Nat → Bool
  | 0, _ => false
  | k + 1, i => pos (f i) || anyP f k (i + 1)
theorem d1_0 : decode prog_54_method_1_code 0 = .ok (.aload_n 0, 1) := by decide +kernel
theorem d1_1 : decode prog_54_method_1_code 1 = .ok (.invokespecial 1, 3) := by decide +kernel
theorem d1_4 : decode prog_54_method_1_code 4 = .ok (.aload_n 0, 1) := by decide +kernel
theorem d1_5 : decode prog_54_method_1_code 5 = .ok (.aload_n 1, 1) := by decide +kernel
theorem d1_6 : decode prog_54_method_1_code 6 = .ok (.putfield 7, 3) := by decide +kernel
theorem d1_9 : decode prog_54_method_1_code 9 = .ok (.aload_n 0, 1) := by decide +kernel
theorem d1_10 : decode prog_54_method_1_code 10 = .ok (.aload_n 2, 1) := by decide +kernel
theorem d1_11 : decode prog_54_method_1_code 11 = .ok (.putfield 13, 3) := by decide +kernel
theorem d1_14 : decode prog_54_method_1_code 14 = .ok (.aload_n 0, 1) := by decide +kernel
theorem d1_15 : decode prog_54_method_1_code 15 = .ok (.dload_n 3, 1) := by decide +kernel
theorem d1_16 : decode prog_54_method_1_code 16 = .ok (.putfield 17, 3) := by decide +kernel
theorem d1_19 : decode prog_54_method_1_code 19 = .ok (.return_, 1) := by decide +kernel
theorem d2_0 : decode prog_54_method_2_code 0 = .ok (.aload_n 0, 1) := by decide +kernel
theorem d2_1 : decode prog_54_method_2_code 1 = .ok (.getfield 13, 3) := by decide +kernel
theorem d2_4 : decode prog_54_method_2_code 4 = .ok (.astore_n 1, 1) := by decide +kernel
theorem d2_5 : decode prog_54_method_2_code 5 = .ok (.aload_n 1, 1) := by decide +kernel
theorem d2_6 : decode prog_54_method_2_code 6 = .ok (.arraylength, 1) := by decide +kernel
theorem d2_7 : decode prog_54_method_2_code 7 = .ok (.istore_n 2, 1) := by decide +kernel
theorem d2_8 : decode prog_54_method_2_code 8 = .ok (.iconst 0, 1) := by decide +kernel
theorem d2_9 : decode prog_54_method_2_code 9 = .ok (.istore_n 3, 1) := by decide +kernel
theorem d2_10 : decode prog_54_method_2_code 10 = .ok (.iload_n 3, 1) := by decide +kernel
theorem d2_11 : decode prog_54_method_2_code 11 = .ok (.iload_n 2, 1) := by decide +kernel
theorem d2_12 : decode prog_54_method_2_code 12 = .ok (.if_icmp .ge 23, 3) := by decide +kernel
theorem d2_15 : decode prog_54_method_2_code 15 = .ok (.aload_n 1, 1) := by decide +kernel
theorem d2_16 : decode prog_54_method_2_code 16 = .ok (.iload_n 3, 1) := by decide +kernel
theorem d2_17 : decode prog_54_method_2_code 17 = .ok (.daload, 1) := by decide +kernel
theorem d2_18 : decode prog_54_method_2_code 18 = .ok (.dstore 4, 2) := by decide +kernel
theorem d2_20 : decode prog_54_method_2_code 20 = .ok (.dload 4, 2) := by decide +kernel
theorem d2_22 : decode prog_54_method_2_code 22 = .ok (.dconst 0, 1) := by decide +kernel
theorem d2_23 : decode prog_54_method_2_code 23 = .ok (.dcmp .l, 1) := by decide +kernel
theorem d2_24 : decode prog_54_method_2_code 24 = .ok (.ifCond .le 5, 3) := by decide +kernel
theorem d2_27 : decode prog_54_method_2_code 27 = .ok (.iconst 0, 1) := by decide +kernel
theorem d2_28 : decode prog_54_method_2_code 28 = .ok (.ireturn, 1) := by decide +kernel
theorem d2_29 : decode prog_54_method_2_code 29 = .ok (.iinc 3 1, 3) := by decide +kernel
theorem d2_32 : decode prog_54_method_2_code 32 = .ok (.goto (-22), 3) := by decide +kernel
theorem d2_35 : decode prog_54_method_2_code 35 = .ok (.iconst 1, 1) := by decide +kernel
theorem d2_36 : decode prog_54_method_2_code 36 = .ok (.ireturn, 1) := by decide +kernel
theorem pn_1 : plainName "com/example/vor/vor/ranking/QueryVector" = true := by first | (simp [plainName, overriddenIn]; done) | decide +kernel
theorem pn_0 : plainName "com/example/vor/vor/ranking/QueryVectorIsEmptyPinLaw" = true := by first | (simp [plainName, overriddenIn]; done) | decide +kernel
set_option maxRecDepth 65536 in
set_option maxHeartbeats 40000000 in
theorem c_init (l : Launch) (Z : State) (a0 : Array Value) (hw : ∀ d ∈ tables_1, d.before a0 Z = true) (a t w : Addr) (x : UInt64) (u1 u2 u3 : Value) (h0 : Heap) (n0 : Nat) (Z0 : n0 ≤ h0.size) (Ea : Exa Z h0 a "com/example/vor/vor/ranking/QueryVector") (F_terms : Fld Z h0 a "com/example/vor/vor/ranking/QueryVector" "terms" "[I" u1) (F_weights : Fld Z h0 a "com/example/vor/vor/ranking/QueryVector" "weights" "[D" u2) (F_normaliser : Fld Z h0 a "com/example/vor/vor/ranking/QueryVector" "normaliser" "D" u3) (ga : n0 ≤ a) :
    Con l Z (⟨"com/example/vor/vor/ranking/QueryVector", "<init>", "([I[DD)V"⟩ : MethodName) prog_54_method_1_code 5 none ({ frames := 1, cells := 0, slots := 0, locals := 12 } : Room) #[.ref a, .ref t, .ref w, .double x] h0 (fun v h L => v = none ∧ Fr n0 L ∧ Keep h0 h [a] ∧ Exa Z h a "com/example/vor/vor/ranking/QueryVector" ∧ Fld Z h a "com/example/vor/vor/ranking/QueryVector" "weights" "[D" (.ref w)) := by
  refine Con.body (plainFor_of_name pn_1) ?_
  intro G hG p e s m below meth c T X hx hby hml hown hnm hret hlk hZ e0
  rw [show entryFrame m #[.ref a, .ref t, .ref w, .double x] 5 = mkF m 0 #[.val (.ref a), .val (.ref t), .val (.ref w), .val (.double x), .second] [] from by first | rfl | (simp [entryFrame, mkF, argsToLocals, Value.category, maxLocals]; done)]
  have N0 := Fr.nil n0
  refine Good.aloadN X hx (pc' := 1) rfl (hb hby d1_0) rfl rfl ?_
  refine Good.initO X hx hZ hown (hw _ (List.mem_of_getElem? (i := 8) rfl)) (hw _ (List.mem_of_getElem? (i := 9) rfl)) (hw _ (List.mem_of_getElem? (i := 10) rfl)) e0 (pc' := 4) rfl (by rw [hml]; rfl) (hb hby d1_1) (by decide) (W := 0) (Nat.le_of_eq rfl) (by decide) fun T1 X1 e1 => ?_
  refine Good.aloadN X1 hx (pc' := 5) rfl (hb hby d1_4) rfl rfl ?_
  refine Good.aloadN X1 hx (pc' := 6) rfl (hb hby d1_5) rfl rfl ?_
  refine Good.putfield X1 hx hZ hown (hw _ (List.mem_of_getElem? (i := 11) rfl)) Via.refl e1 F_terms Ea (Or.inr ⟨(hw _ (List.mem_of_getElem? (i := 12) rfl)), rfl, hnm⟩) (hw _ (List.mem_of_getElem? (i := 3) rfl)) (ty := (.array .int)) (by decide) rfl rfl (pc' := 9) rfl (hb hby d1_6) fun T2 h2 X2 e2 W2 => ?_
  have F_a_weights_2 := F_weights.other W2 (Or.inr (slot_ne (Or.inr (hw _ (List.mem_of_getElem? (i := 14) rfl))) (Or.inr (hw _ (List.mem_of_getElem? (i := 12) rfl))) (by decide) (t := (.array .double)) (t' := (.array .int)) (by decide) (by decide)))
  have F_a_normaliser_2 := F_normaliser.other W2 (Or.inr (slot_ne (Or.inr (hw _ (List.mem_of_getElem? (i := 16) rfl))) (Or.inr (hw _ (List.mem_of_getElem? (i := 12) rfl))) (by decide) (t := .double) (t' := (.array .int)) (by decide) (by decide)))
  have E_a_2 := Ea.wr W2
  have Z_2 : n0 ≤ h2.size := by rw [W2.size]; exact Z0
  have N_2 := Fr.snoc X2 N0 ga
  have F_a_terms_2 := F_terms.same W2
  refine Good.aloadN X2 hx (pc' := 10) rfl (hb hby d1_9) rfl rfl ?_
  refine Good.aloadN X2 hx (pc' := 11) rfl (hb hby d1_10) rfl rfl ?_
  refine Good.putfield X2 hx hZ hown (hw _ (List.mem_of_getElem? (i := 13) rfl)) Via.refl e2 F_a_weights_2 E_a_2 (Or.inr ⟨(hw _ (List.mem_of_getElem? (i := 14) rfl)), rfl, hnm⟩) (hw _ (List.mem_of_getElem? (i := 3) rfl)) (ty := (.array .double)) (by decide) rfl rfl (pc' := 14) rfl (hb hby d1_11) fun T3 h3 X3 e3 W3 => ?_
  have F_a_terms_3 := F_a_terms_2.other W3 (Or.inr (slot_ne (Or.inr (hw _ (List.mem_of_getElem? (i := 12) rfl))) (Or.inr (hw _ (List.mem_of_getElem? (i := 14) rfl))) (by decide) (t := (.array .int)) (t' := (.array .double)) (by decide) (by decide)))
  have F_a_normaliser_3 := F_a_normaliser_2.other W3 (Or.inr (slot_ne (Or.inr (hw _ (List.mem_of_getElem? (i := 16) rfl))) (Or.inr (hw _ (List.mem_of_getElem? (i := 14) rfl))) (by decide) (t := .double) (t' := (.array .double)) (by decide) (by decide)))
  have E_a_3 := E_a_2.wr W3
  have Z_3 : n0 ≤ h3.size := by rw [W3.size]; exact Z_2
  have N_3 := Fr.snoc X3 N_2 ga
  have F_a_weights_3 := F_a_weights_2.same W3
  refine Good.aloadN X3 hx (pc' := 15) rfl (hb hby d1_14) rfl rfl ?_
  refine Good.dloadN X3 hx (pc' := 16) rfl (hb hby d1_15) rfl ?_
  refine Good.putfield X3 hx hZ hown (hw _ (List.mem_of_getElem? (i := 15) rfl)) Via.refl e3 F_a_normaliser_3 E_a_3 (Or.inr ⟨(hw _ (List.mem_of_getElem? (i := 16) rfl)), rfl, hnm⟩) (hw _ (List.mem_of_getElem? (i := 3) rfl)) (ty := .double) (by decide) rfl rfl (pc' := 19) rfl (hb hby d1_16) fun T4 h4 X4 e4 W4 => ?_
  have F_a_terms_4 := F_a_terms_3.other W4 (Or.inr (slot_ne (Or.inr (hw _ (List.mem_of_getElem? (i := 12) rfl))) (Or.inr (hw _ (List.mem_of_getElem? (i := 16) rfl))) (by decide) (t := (.array .int)) (t' := .double) (by decide) (by decide)))
  have F_a_weights_4 := F_a_weights_3.other W4 (Or.inr (slot_ne (Or.inr (hw _ (List.mem_of_getElem? (i := 14) rfl))) (Or.inr (hw _ (List.mem_of_getElem? (i := 16) rfl))) (by decide) (t := (.array .double)) (t' := .double) (by decide) (by decide)))
  have E_a_4 := E_a_3.wr W4
  have Z_4 : n0 ≤ h4.size := by rw [W4.size]; exact Z_3
  have N_4 := Fr.snoc X4 N_3 ga
  have F_a_normaliser_4 := F_a_normaliser_3.same W4
  exact Good.ret0 X4 hx hlk hret (hb hby d1_19) (hG _ _ _ _ _ (by rw [e4]; exact ⟨rfl, N_4, ((((Keep.refl h0 [a]).wr W2 (Or.inl (by simp))).wr W3 (Or.inl (by simp))).wr W4 (Or.inl (by simp))), E_a_4, F_a_weights_4⟩) (by decide) (by decide))
set_option maxRecDepth 65536 in
set_option maxHeartbeats 40000000 in
theorem loop2 {p : Program} {l : Launch} {e : Env} {R : Room} {s : State} {m : MethodId} {args : Array Value} {below : List Frame} {meth : Method} {c : Code} {T : State} {Z : State} {h0 : Heap} {G : Option Value → Heap → List Loc → Nat → Nat → Prop} {a w : Addr} {n : Nat} {f : Nat → UInt64} (X : Stand p l e R s m args below meth c T [] 0 0) (hx : p.tables.exec = Jvm.exec) (hby : c.code = prog_54_method_2_code) (hret : meth.sig.returnType = some .boolean) (hlk : meth.locks = false) (hZ : Z.Warmed39 s.vm) (e0 : T.heap = h0) (A : DA Z h0 w n f) (hn : n ≤ 3) :
    ∀ (k i : Nat) (s4 s5 : Slot), i + k = n → ((s4 = .unset ∧ s5 = .unset) ∨ ∃ d, s4 = .val (.double d) ∧ s5 = .second) → G (some (.int (if anyP f k i then 0 else 1))) T.heap [] 0 0 → Good p.tables e below s G (T.setTop (mkF m 10 #[.val (.ref a), .val (.ref w), .val (.int (Int32.ofNat n)), .val (.int (Int32.ofNat i)), s4, s5] [])) := by
  intro k
  induction k with
  | zero =>
    intro i s4 s5 hi hs hv
    refine Good.iloadN X hx (pc' := 11) rfl (hb hby d2_10) rfl ?_
    refine Good.iloadN X hx (pc' := 12) rfl (hb hby d2_11) rfl ?_
    refine Good.icmpYes X hx (pc' := 35) (by decide) (hb hby d2_12) (own_ge (by omega) (by omega) (by omega)) ?_
    refine Good.iconst X hx (pc' := 36) (w := (1 : Int32)) rfl (hb hby d2_35) rfl ?_
    exact Good.retZ X hx hlk hret (hb hby d2_36) (Or.inr rfl) hv
  | succ k ih =>
    intro i s4 s5 hi hs hv
    have hst : storeLocals #[.val (.ref a), .val (.ref w), .val (.int (Int32.ofNat n)), .val (.int (Int32.ofNat i)), s4, s5] 4 (.double (f i)) = some #[.val (.ref a), .val (.ref w), .val (.int (Int32.ofNat n)), .val (.int (Int32.ofNat i)), .val (.double (f i)), .second] := by rcases hs with ⟨rfl, rfl⟩ | ⟨d, rfl, rfl⟩ <;> rfl
    refine Good.iloadN X hx (pc' := 11) rfl (hb hby d2_10) rfl ?_
    refine Good.iloadN X hx (pc' := 12) rfl (hb hby d2_11) rfl ?_
    refine Good.icmpNo X hx (pc' := 15) rfl (hb hby d2_12) (own_lt (by omega) (by omega)) ?_
    refine Good.aloadN X hx (pc' := 16) rfl (hb hby d2_15) rfl rfl ?_
    refine Good.iloadN X hx (pc' := 17) rfl (hb hby d2_16) rfl ?_
    refine Good.daloadF X hx hZ e0 A (i) (own_n32 (by omega)) (by omega) (w := (f i)) rfl (pc' := 18) rfl (hb hby d2_17) ?_
    refine Good.dstore X hx (pc' := 20) (Ls' := #[.val (.ref a), .val (.ref w), .val (.int (Int32.ofNat n)), .val (.int (Int32.ofNat i)), .val (.double (f i)), .second]) rfl (hb hby d2_18) hst ?_
    refine Good.dload X hx (pc' := 22) rfl (hb hby d2_20) rfl ?_
    refine Good.dconst0 X hx (pc' := 23) rfl (hb hby d2_22) ?_
    refine Good.dcmp X hx (pc' := 24) rfl (hb hby d2_23) ?_
    refine Good.ifFork X hx (pc1 := 29) (pc2 := 27) (hb hby d2_24) (by decide) rfl (fun hc => ?_) (fun hc => ?_)
    · refine Good.iinc X hx (pc' := 32) (w := (1 : Int32)) (Ls' := #[.val (.ref a), .val (.ref w), .val (.int (Int32.ofNat n)), .val (.int ((Int32.ofNat i) + (1 : Int32))), .val (.double (f i)), .second]) rfl (hb hby d2_29) rfl rfl rfl ?_
      refine Good.goto X hx (pc' := 10) (by decide) (hb hby d2_32) ?_
      rw [own_one]
      have q : pos (f i) = false := by rw [pos_le] at hc; simpa using hc
      refine ih (i + 1) (.val (.double (f i))) .second (by omega) (Or.inr ⟨_, rfl, rfl⟩) ?_
      simpa only [anyP, q, Bool.false_or] using hv
    · have q : pos (f i) = true := by rw [pos_le] at hc; simpa using hc
      simp only [anyP, q, Bool.true_or, if_true] at hv
      refine Good.iconst X hx (pc' := 28) (w := (0 : Int32)) rfl (hb hby d2_27) rfl ?_
      exact Good.retZ X hx hlk hret (hb hby d2_28) (Or.inl rfl) hv
set_option maxRecDepth 65536 in
set_option maxHeartbeats 40000000 in
theorem c_isEmpty (l : Launch) (Z : State) (a0 : Array Value) (hw : ∀ d ∈ tables_1, d.before a0 Z = true) (a w : Addr) (n : Nat) (hn : n ≤ 3) (f : Nat → UInt64) (h0 : Heap) (Fw : Fld Z h0 a "com/example/vor/vor/ranking/QueryVector" "weights" "[D" (.ref w)) (A : DA Z h0 w n f) :
    Con l Z (⟨"com/example/vor/vor/ranking/QueryVector", "isEmpty", "()Z"⟩ : MethodName) prog_54_method_2_code 6 (some .boolean) ({ frames := 0, cells := 0, slots := 0, locals := 0 } : Room) #[.ref a] h0 (fun v h L => v = some (.int (if anyP f n 0 then 0 else 1)) ∧ h = h0 ∧ L = []) := by
  refine Con.body (plainFor_of_name pn_1) ?_
  intro G hG p e s m below meth c T X hx hby hml hown hnm hret hlk hZ e0
  rw [show entryFrame m #[.ref a] 6 = mkF m 0 #[.val (.ref a), .unset, .unset, .unset, .unset, .unset] [] from by first | rfl | (simp [entryFrame, mkF, argsToLocals, Value.category, maxLocals]; done)]
  refine Good.aloadN X hx (pc' := 1) rfl (hb hby d2_0) rfl rfl ?_
  refine Good.getfield X hx hZ hown (hw _ (List.mem_of_getElem? (i := 13) rfl)) Via.refl e0 Fw (pc' := 4) rfl (hb hby d2_1) fun T1 X1 e1 => ?_
  refine Good.astoreN X1 hx (pc' := 5) (Ls' := #[.val (.ref a), .val (.ref w), .unset, .unset, .unset, .unset]) rfl (hb hby d2_4) rfl rfl ?_
  refine Good.aloadN X1 hx (pc' := 6) rfl (hb hby d2_5) rfl rfl ?_
  refine Good.alenF X1 hx hZ e1 A (z := (Int32.ofNat n)) (own_n32 (by omega)) (pc' := 7) rfl (hb hby d2_6) ?_
  refine Good.istoreN X1 hx (pc' := 8) (Ls' := #[.val (.ref a), .val (.ref w), .val (.int (Int32.ofNat n)), .unset, .unset, .unset]) rfl (hb hby d2_7) rfl ?_
  refine Good.iconst X1 hx (pc' := 9) (w := (0 : Int32)) rfl (hb hby d2_8) rfl ?_
  refine Good.istoreN X1 hx (pc' := 10) (Ls' := #[.val (.ref a), .val (.ref w), .val (.int (Int32.ofNat n)), .val (.int (0 : Int32)), .unset, .unset]) rfl (hb hby d2_9) rfl ?_
  exact loop2 (a := a) (Z := Z) (f := f) X1 hx hby hret hlk hZ e1 A hn n 0 .unset .unset (by omega) (Or.inl ⟨rfl, rfl⟩) (hG _ _ _ _ _ ⟨rfl, e1, rfl⟩ (by decide) (by decide))
theorem pd_0 : parseMethodDescriptor "([I[DD)V" = some ⟨[(.array .int), (.array .double), .double], none⟩ := by decide +kernel
theorem pd_1 : parseMethodDescriptor "()Z" = some ⟨[], some .boolean⟩ := by decide +kernel
set_option maxRecDepth 65536 in
set_option maxHeartbeats 40000000 in
theorem c_law (l : Launch) (Z : State) (a0 : Array Value) (hw : ∀ d ∈ tables_1, d.before a0 Z = true) (n a b c' : Int32) (h0 : Heap) (n0 : Nat) (Z0 : n0 ≤ h0.size) :
    Con l Z x code maxLocals ret room_1 #[.int n, .int a, .int b, .int c'] h0 (fun v h L => v = some (.int 1) ∧ Fr n0 L) := by
  refine Con.body (plainFor_of_name pn_0) ?_
  intro G hG p e s m below meth c T X hx hby hml hown hnm hret hlk hZ e0
  rw [show entryFrame m #[.int n, .int a, .int b, .int c'] maxLocals = mkF m 0 #[.val (.int n), .val (.int a), .val (.int b), .val (.int c'), .unset, .unset, .unset, .unset, .unset, .unset, .unset, .unset, .unset, .unset, .unset] [] from by first | rfl | (simp [entryFrame, mkF, argsToLocals, Value.category, maxLocals]; done)]
  have N0 := Fr.nil n0
  obtain ⟨k, hk, hk4⟩ := own_and3 n
  refine Good.iloadN X hx (pc' := 1) rfl (hb hby at_0) rfl ?_
  refine Good.iconst X hx (pc' := 2) (w := (3 : Int32)) rfl (hb hby at_1) rfl ?_
  refine Good.iand X hx (pc' := 3) rfl (hb hby at_2) ?_
  rw [hk]
  refine Good.istore X hx (pc' := 5) (Ls' := #[.val (.int n), .val (.int a), .val (.int b), .val (.int c'), .val (.int k), .unset, .unset, .unset, .unset, .unset, .unset, .unset, .unset, .unset, .unset]) rfl (hb hby at_3) rfl ?_
  refine Good.iloadN X hx (pc' := 6) rfl (hb hby at_5) rfl ?_
  refine Good.i2b X hx (pc' := 7) rfl (hb hby at_6) ?_
  refine Good.i2d X hx (pc' := 8) rfl (hb hby at_7) ?_
  refine Good.dstore X hx (pc' := 10) (Ls' := #[.val (.int n), .val (.int a), .val (.int b), .val (.int c'), .val (.int k), .val (.double (FP.i2d (a).toInt8.toInt32)), .second, .unset, .unset, .unset, .unset, .unset, .unset, .unset, .unset]) rfl (hb hby at_8) rfl ?_
  refine Good.iloadN X hx (pc' := 11) rfl (hb hby at_10) rfl ?_
  refine Good.i2b X hx (pc' := 12) rfl (hb hby at_11) ?_
  refine Good.i2d X hx (pc' := 13) rfl (hb hby at_12) ?_
  refine Good.dstore X hx (pc' := 15) (Ls' := #[.val (.int n), .val (.int a), .val (.int b), .val (.int c'), .val (.int k), .val (.double (FP.i2d (a).toInt8.toInt32)), .second, .val (.double (FP.i2d (b).toInt8.toInt32)), .second, .unset, .unset, .unset, .unset, .unset, .unset]) rfl (hb hby at_13) rfl ?_
  refine Good.iloadN X hx (pc' := 16) rfl (hb hby at_15) rfl ?_
  refine Good.i2b X hx (pc' := 17) rfl (hb hby at_16) ?_
  refine Good.i2d X hx (pc' := 18) rfl (hb hby at_17) ?_
  refine Good.dstore X hx (pc' := 20) (Ls' := #[.val (.int n), .val (.int a), .val (.int b), .val (.int c'), .val (.int k), .val (.double (FP.i2d (a).toInt8.toInt32)), .second, .val (.double (FP.i2d (b).toInt8.toInt32)), .second, .val (.double (FP.i2d (c').toInt8.toInt32)), .second, .unset, .unset, .unset, .unset]) rfl (hb hby at_18) rfl ?_
  refine Good.iload X hx (pc' := 22) rfl (hb hby at_20) rfl ?_
  rcases hk4 with rfl | rfl | rfl | rfl
  · refine Good.newarray X hx hZ (hw _ (List.mem_of_getElem? (i := 0) rfl)) e0 (pc' := 24) rfl (hb hby at_22) (by decide) (cap := 3) (by decide) (by decide) (by decide) (by decide) fun T1 h1 k1 b1 g1 X1 e1 E1 A1 => ?_
    have ge_b1 : n0 ≤ b1 := by rw [g1]; exact Z0
    have Z_1 := Nat.le_trans Z0 E1.1
    have DA_b1 : DA Z h1 b1 0 (fun _ => 0) := DA.new A1 rfl
    refine Good.astore X1 hx (pc' := 26) (Ls' := #[.val (.int n), .val (.int a), .val (.int b), .val (.int c'), .val (.int (0 : Int32)), .val (.double (FP.i2d (a).toInt8.toInt32)), .second, .val (.double (FP.i2d (b).toInt8.toInt32)), .second, .val (.double (FP.i2d (c').toInt8.toInt32)), .second, .val (.ref b1), .unset, .unset, .unset]) rfl (hb hby at_24) rfl rfl ?_
    refine Good.iload X1 hx (pc' := 28) rfl (hb hby at_26) rfl ?_
    refine Good.newarray X1 hx hZ (hw _ (List.mem_of_getElem? (i := 1) rfl)) e1 (pc' := 30) rfl (hb hby at_28) (by decide) (cap := 3) (by decide) (by decide) (by decide) (by decide) fun T2 h2 k2 b2 g2 X2 e2 E2 A2 => ?_
    have ne_b1_b2 : b1 ≠ b2 := by rw [g2]; exact Nat.ne_of_lt DA_b1.lt
    have ge_b2 : n0 ≤ b2 := by rw [g2]; exact Z_1
    have DA_b1_2 := DA_b1.ext E2
    have Z_2 := Nat.le_trans Z_1 E2.1
    have AR_b2 : AR Z h2 b2 0 .int := AR.new A2 rfl
    refine Good.astore X2 hx (pc' := 32) (Ls' := #[.val (.int n), .val (.int a), .val (.int b), .val (.int c'), .val (.int (0 : Int32)), .val (.double (FP.i2d (a).toInt8.toInt32)), .second, .val (.double (FP.i2d (b).toInt8.toInt32)), .second, .val (.double (FP.i2d (c').toInt8.toInt32)), .second, .val (.ref b1), .val (.ref b2), .unset, .unset]) rfl (hb hby at_30) rfl rfl ?_
    refine Good.iload X2 hx (pc' := 34) rfl (hb hby at_32) rfl ?_
    refine Good.ifYes X2 hx (pc' := 48) (by decide) (hb hby at_34) rfl ?_
    refine Good.iload X2 hx (pc' := 50) rfl (hb hby at_48) rfl ?_
    refine Good.iconst X2 hx (pc' := 51) (w := (1 : Int32)) rfl (hb hby at_50) rfl ?_
    refine Good.icmpYes X2 hx (pc' := 65) (by decide) (hb hby at_51) rfl ?_
    refine Good.iload X2 hx (pc' := 67) rfl (hb hby at_65) rfl ?_
    refine Good.iconst X2 hx (pc' := 68) (w := (2 : Int32)) rfl (hb hby at_67) rfl ?_
    refine Good.icmpYes X2 hx (pc' := 82) (by decide) (hb hby at_68) rfl ?_
    refine Good.new X2 hx hZ hown (hw _ (List.mem_of_getElem? (i := 2) rfl)) (hw _ (List.mem_of_getElem? (i := 3) rfl)) (hw _ (List.mem_of_getElem? (i := 4) rfl)) e2 (pc' := 85) rfl (hb hby at_82) (by decide) (by decide) fun T3 h3 b3 g3 X3 e3 E3 A3 D3 => ?_
    have ne_b1_b3 : b1 ≠ b3 := by rw [g3]; exact Nat.ne_of_lt DA_b1_2.lt
    have ne_b2_b3 : b2 ≠ b3 := by rw [g3]; exact Nat.ne_of_lt AR_b2.lt
    have ge_b3 : n0 ≤ b3 := by rw [g3]; exact Z_2
    have DA_b1_3 := DA_b1_2.ext E3
    have AR_b2_3 := AR_b2.ext E3
    have Z_3 := Nat.le_trans Z_2 E3.1
    have F0_terms_b3 := D3 (O := "com/example/vor/vor/ranking/QueryVector") (nm := "terms") (d := "[I") (Or.inr (hw _ (List.mem_of_getElem? (i := 12) rfl))) (ty := (.array .int)) (by decide)
    have F0_weights_b3 := D3 (O := "com/example/vor/vor/ranking/QueryVector") (nm := "weights") (d := "[D") (Or.inr (hw _ (List.mem_of_getElem? (i := 14) rfl))) (ty := (.array .double)) (by decide)
    have F0_normaliser_b3 := D3 (O := "com/example/vor/vor/ranking/QueryVector") (nm := "normaliser") (d := "D") (Or.inr (hw _ (List.mem_of_getElem? (i := 16) rfl))) (ty := .double) (by decide)
    refine Good.dup X3 hx (pc' := 86) rfl (hb hby at_85) rfl ?_
    refine Good.aload X3 hx (pc' := 88) rfl (hb hby at_86) rfl rfl ?_
    refine Good.aload X3 hx (pc' := 90) rfl (hb hby at_88) rfl rfl ?_
    refine Good.dconst1 X3 hx (pc' := 91) rfl (hb hby at_90) ?_
    refine Good.callN X3 hx hZ (y := ⟨"com/example/vor/vor/ranking/QueryVector", "<init>", "([I[DD)V"⟩) rfl hown (hw _ (List.mem_of_getElem? (i := 5) rfl)) (hw _ (List.mem_of_getElem? (i := 6) rfl)) (hw _ (List.mem_of_getElem? (i := 4) rfl)) (hw _ (List.mem_of_getElem? (i := 7) rfl)) (by decide) e3 (a := b3) (argsL := [(.ref b2), (.ref b1), (.double FP.dconst1)]) (rest := [(.ref b3)]) (c_init l Z a0 hw b3 b2 b1 FP.dconst1 _ _ _ h3 n0 Z_3 A3 F0_terms_b3 F0_weights_b3 F0_normaliser_b3 ge_b3) (hdesc := pd_0) rfl (pc' := 94) rfl (by rw [hml]; rfl) rfl (hb hby at_91) (W := 1) (Nat.le_of_eq rfl) (by decide) (by decide) (by decide) (by decide) fun v4 T4 L4 X4 Q4 => ?_
    obtain ⟨rfl, Nq, Kq, Eq, Fq⟩ := Q4
    have DA_b1_4 := DA_b1_3.keep Kq (ninS ne_b1_b3 nin0)
    have AR_b2_4 := AR_b2_3.keep Kq (ninS ne_b2_b3 nin0)
    have E_b3_4 := A3.keep Kq
    have Z_4 := Nat.le_trans Z_3 Kq.1
    have N_4 := Fr.app N0 Nq
    refine Good.astore X4 hx (pc' := 96) (Ls' := #[.val (.int n), .val (.int a), .val (.int b), .val (.int c'), .val (.int (0 : Int32)), .val (.double (FP.i2d (a).toInt8.toInt32)), .second, .val (.double (FP.i2d (b).toInt8.toInt32)), .second, .val (.double (FP.i2d (c').toInt8.toInt32)), .second, .val (.ref b1), .val (.ref b2), .val (.ref b3), .unset]) rfl (hb hby at_94) rfl rfl ?_
    refine Good.iload X4 hx (pc' := 98) rfl (hb hby at_96) rfl ?_
    refine Good.ifYes X4 hx (pc' := 108) (by decide) (hb hby at_98) rfl ?_
    refine Good.iload X4 hx (pc' := 110) rfl (hb hby at_108) rfl ?_
    refine Good.iconst X4 hx (pc' := 111) (w := (1 : Int32)) rfl (hb hby at_110) rfl ?_
    refine Good.icmpYes X4 hx (pc' := 121) (by decide) (hb hby at_111) rfl ?_
    refine Good.iload X4 hx (pc' := 123) rfl (hb hby at_121) rfl ?_
    refine Good.iconst X4 hx (pc' := 124) (w := (2 : Int32)) rfl (hb hby at_123) rfl ?_
    refine Good.icmpYes X4 hx (pc' := 138) (by decide) (hb hby at_124) rfl ?_
    refine Good.iconst X4 hx (pc' := 139) (w := (0 : Int32)) rfl (hb hby at_138) rfl ?_
    refine Good.istore X4 hx (pc' := 141) (Ls' := #[.val (.int n), .val (.int a), .val (.int b), .val (.int c'), .val (.int (0 : Int32)), .val (.double (FP.i2d (a).toInt8.toInt32)), .second, .val (.double (FP.i2d (b).toInt8.toInt32)), .second, .val (.double (FP.i2d (c').toInt8.toInt32)), .second, .val (.ref b1), .val (.ref b2), .val (.ref b3), .val (.int (0 : Int32))]) rfl (hb hby at_139) rfl ?_
    refine Good.aload X4 hx (pc' := 143) rfl (hb hby at_141) rfl rfl ?_
    have q : anyP (fun _ => 0) 0 0 = false := by simp only [anyP, updD]; try simp
    refine Good.callV X4 hx hZ (y := ⟨"com/example/vor/vor/ranking/QueryVector", "isEmpty", "()Z"⟩) hown (hw _ (List.mem_of_getElem? (i := 17) rfl)) (hw _ (List.mem_of_getElem? (i := 18) rfl)) (hw _ (List.mem_of_getElem? (i := 20) rfl)) (hw _ (List.mem_of_getElem? (i := 19) rfl)) (hw _ (List.mem_of_getElem? (i := 4) rfl)) (hw _ (List.mem_of_getElem? (i := 21) rfl)) (by decide) rfl Eq (argsL := []) (rest := []) (c_isEmpty l Z a0 hw b3 b1 0 (by decide) (fun _ => 0) T4.heap Fq DA_b1_4) (hdesc := pd_1) rfl (pc' := 146) rfl (by rw [hml]; rfl) rfl (hb hby at_143) (W := 0) (Nat.le_of_eq rfl) (by decide) (by decide) (by decide) (by decide) fun v5 T5 L5 X5 Q5 => ?_
    obtain ⟨rfl, hh, rfl⟩ := Q5
    rw [q]
    refine Good.iload X5 hx (pc' := 148) rfl (hb hby at_146) rfl ?_
    refine Good.ifNo X5 hx (pc' := 151) rfl (hb hby at_148) rfl ?_
    refine Good.iconst X5 hx (pc' := 152) (w := (1 : Int32)) rfl (hb hby at_151) rfl ?_
    refine Good.goto X5 hx (pc' := 156) (by decide) (hb hby at_152) ?_
    refine Good.icmpNo X5 hx (pc' := 159) rfl (hb hby at_156) rfl ?_
    refine Good.iconst X5 hx (pc' := 160) (w := (1 : Int32)) rfl (hb hby at_159) rfl ?_
    refine Good.goto X5 hx (pc' := 164) (by decide) (hb hby at_160) ?_
    exact Good.retZ X5 hx hlk hret (hb hby at_164) (Or.inr rfl) (hG _ _ _ _ _ (⟨rfl, Fr.app N_4 (Fr.nil n0)⟩) (by decide) (by decide))
  · refine Good.newarray X hx hZ (hw _ (List.mem_of_getElem? (i := 0) rfl)) e0 (pc' := 24) rfl (hb hby at_22) (by decide) (cap := 3) (by decide) (by decide) (by decide) (by decide) fun T1 h1 k1 b1 g1 X1 e1 E1 A1 => ?_
    have ge_b1 : n0 ≤ b1 := by rw [g1]; exact Z0
    have Z_1 := Nat.le_trans Z0 E1.1
    have DA_b1 : DA Z h1 b1 1 (fun _ => 0) := DA.new A1 rfl
    refine Good.astore X1 hx (pc' := 26) (Ls' := #[.val (.int n), .val (.int a), .val (.int b), .val (.int c'), .val (.int (1 : Int32)), .val (.double (FP.i2d (a).toInt8.toInt32)), .second, .val (.double (FP.i2d (b).toInt8.toInt32)), .second, .val (.double (FP.i2d (c').toInt8.toInt32)), .second, .val (.ref b1), .unset, .unset, .unset]) rfl (hb hby at_24) rfl rfl ?_
    refine Good.iload X1 hx (pc' := 28) rfl (hb hby at_26) rfl ?_
    refine Good.newarray X1 hx hZ (hw _ (List.mem_of_getElem? (i := 1) rfl)) e1 (pc' := 30) rfl (hb hby at_28) (by decide) (cap := 3) (by decide) (by decide) (by decide) (by decide) fun T2 h2 k2 b2 g2 X2 e2 E2 A2 => ?_
    have ne_b1_b2 : b1 ≠ b2 := by rw [g2]; exact Nat.ne_of_lt DA_b1.lt
    have ge_b2 : n0 ≤ b2 := by rw [g2]; exact Z_1
    have DA_b1_2 := DA_b1.ext E2
    have Z_2 := Nat.le_trans Z_1 E2.1
    have AR_b2 : AR Z h2 b2 1 .int := AR.new A2 rfl
    refine Good.astore X2 hx (pc' := 32) (Ls' := #[.val (.int n), .val (.int a), .val (.int b), .val (.int c'), .val (.int (1 : Int32)), .val (.double (FP.i2d (a).toInt8.toInt32)), .second, .val (.double (FP.i2d (b).toInt8.toInt32)), .second, .val (.double (FP.i2d (c').toInt8.toInt32)), .second, .val (.ref b1), .val (.ref b2), .unset, .unset]) rfl (hb hby at_30) rfl rfl ?_
    refine Good.iload X2 hx (pc' := 34) rfl (hb hby at_32) rfl ?_
    refine Good.ifNo X2 hx (pc' := 37) rfl (hb hby at_34) rfl ?_
    refine Good.aload X2 hx (pc' := 39) rfl (hb hby at_37) rfl rfl ?_
    refine Good.iconst X2 hx (pc' := 40) (w := (0 : Int32)) rfl (hb hby at_39) rfl ?_
    refine Good.dload X2 hx (pc' := 42) rfl (hb hby at_40) rfl ?_
    refine Good.dastoreF X2 hx hZ e2 DA_b1_2 (0) rfl (by decide) (pc' := 43) rfl (hb hby at_42) fun T3 h3 X3 e3 W3 V3 => ?_
    have AR_b2_3 := AR_b2.other W3 ne_b1_b2.symm
    have Z_3 : n0 ≤ h3.size := by rw [W3.size]; exact Z_2
    have N_3 := Fr.snoc X3 N0 ge_b1
    refine Good.aload X3 hx (pc' := 45) rfl (hb hby at_43) rfl rfl ?_
    refine Good.iconst X3 hx (pc' := 46) (w := (0 : Int32)) rfl (hb hby at_45) rfl ?_
    refine Good.iconst X3 hx (pc' := 47) (w := (0 : Int32)) rfl (hb hby at_46) rfl ?_
    refine Good.iastoreF X3 hx hZ e3 AR_b2_3 (0) rfl (by decide) (pc' := 48) rfl (hb hby at_47) fun T4 h4 X4 e4 W4 V4 => ?_
    have DA_b1_4 := V3.other W4 ne_b1_b2
    have Z_4 : n0 ≤ h4.size := by rw [W4.size]; exact Z_3
    have N_4 := Fr.snoc X4 N_3 ge_b2
    refine Good.iload X4 hx (pc' := 50) rfl (hb hby at_48) rfl ?_
    refine Good.iconst X4 hx (pc' := 51) (w := (1 : Int32)) rfl (hb hby at_50) rfl ?_
    refine Good.icmpYes X4 hx (pc' := 65) (by decide) (hb hby at_51) rfl ?_
    refine Good.iload X4 hx (pc' := 67) rfl (hb hby at_65) rfl ?_
    refine Good.iconst X4 hx (pc' := 68) (w := (2 : Int32)) rfl (hb hby at_67) rfl ?_
    refine Good.icmpYes X4 hx (pc' := 82) (by decide) (hb hby at_68) rfl ?_
    refine Good.new X4 hx hZ hown (hw _ (List.mem_of_getElem? (i := 2) rfl)) (hw _ (List.mem_of_getElem? (i := 3) rfl)) (hw _ (List.mem_of_getElem? (i := 4) rfl)) e4 (pc' := 85) rfl (hb hby at_82) (by decide) (by decide) fun T5 h5 b5 g5 X5 e5 E5 A5 D5 => ?_
    have ne_b1_b5 : b1 ≠ b5 := by rw [g5]; exact Nat.ne_of_lt DA_b1_4.lt
    have ne_b2_b5 : b2 ≠ b5 := by rw [g5]; exact Nat.ne_of_lt V4.lt
    have ge_b5 : n0 ≤ b5 := by rw [g5]; exact Z_4
    have DA_b1_5 := DA_b1_4.ext E5
    have AR_b2_5 := V4.ext E5
    have Z_5 := Nat.le_trans Z_4 E5.1
    have F0_terms_b5 := D5 (O := "com/example/vor/vor/ranking/QueryVector") (nm := "terms") (d := "[I") (Or.inr (hw _ (List.mem_of_getElem? (i := 12) rfl))) (ty := (.array .int)) (by decide)
    have F0_weights_b5 := D5 (O := "com/example/vor/vor/ranking/QueryVector") (nm := "weights") (d := "[D") (Or.inr (hw _ (List.mem_of_getElem? (i := 14) rfl))) (ty := (.array .double)) (by decide)
    have F0_normaliser_b5 := D5 (O := "com/example/vor/vor/ranking/QueryVector") (nm := "normaliser") (d := "D") (Or.inr (hw _ (List.mem_of_getElem? (i := 16) rfl))) (ty := .double) (by decide)
    refine Good.dup X5 hx (pc' := 86) rfl (hb hby at_85) rfl ?_
    refine Good.aload X5 hx (pc' := 88) rfl (hb hby at_86) rfl rfl ?_
    refine Good.aload X5 hx (pc' := 90) rfl (hb hby at_88) rfl rfl ?_
    refine Good.dconst1 X5 hx (pc' := 91) rfl (hb hby at_90) ?_
    refine Good.callN X5 hx hZ (y := ⟨"com/example/vor/vor/ranking/QueryVector", "<init>", "([I[DD)V"⟩) rfl hown (hw _ (List.mem_of_getElem? (i := 5) rfl)) (hw _ (List.mem_of_getElem? (i := 6) rfl)) (hw _ (List.mem_of_getElem? (i := 4) rfl)) (hw _ (List.mem_of_getElem? (i := 7) rfl)) (by decide) e5 (a := b5) (argsL := [(.ref b2), (.ref b1), (.double FP.dconst1)]) (rest := [(.ref b5)]) (c_init l Z a0 hw b5 b2 b1 FP.dconst1 _ _ _ h5 n0 Z_5 A5 F0_terms_b5 F0_weights_b5 F0_normaliser_b5 ge_b5) (hdesc := pd_0) rfl (pc' := 94) rfl (by rw [hml]; rfl) rfl (hb hby at_91) (W := 1) (Nat.le_of_eq rfl) (by decide) (by decide) (by decide) (by decide) fun v6 T6 L6 X6 Q6 => ?_
    obtain ⟨rfl, Nq, Kq, Eq, Fq⟩ := Q6
    have DA_b1_6 := DA_b1_5.keep Kq (ninS ne_b1_b5 nin0)
    have AR_b2_6 := AR_b2_5.keep Kq (ninS ne_b2_b5 nin0)
    have E_b5_6 := A5.keep Kq
    have Z_6 := Nat.le_trans Z_5 Kq.1
    have N_6 := Fr.app N_4 Nq
    refine Good.astore X6 hx (pc' := 96) (Ls' := #[.val (.int n), .val (.int a), .val (.int b), .val (.int c'), .val (.int (1 : Int32)), .val (.double (FP.i2d (a).toInt8.toInt32)), .second, .val (.double (FP.i2d (b).toInt8.toInt32)), .second, .val (.double (FP.i2d (c').toInt8.toInt32)), .second, .val (.ref b1), .val (.ref b2), .val (.ref b5), .unset]) rfl (hb hby at_94) rfl rfl ?_
    refine Good.iload X6 hx (pc' := 98) rfl (hb hby at_96) rfl ?_
    refine Good.ifNo X6 hx (pc' := 101) rfl (hb hby at_98) rfl ?_
    refine Good.dload X6 hx (pc' := 103) rfl (hb hby at_101) rfl ?_
    refine Good.dconst0 X6 hx (pc' := 104) rfl (hb hby at_103) ?_
    refine Good.dcmp X6 hx (pc' := 105) rfl (hb hby at_104) ?_
    refine Good.ifFork X6 hx (pc1 := 134) (pc2 := 108) (hb hby at_105) (by decide) rfl (fun hc0 => ?_) (fun hc0 => ?_)
    · have p0 : pos (FP.i2d (a).toInt8.toInt32) = true := hc0
      refine Good.iconst X6 hx (pc' := 135) (w := (1 : Int32)) rfl (hb hby at_134) rfl ?_
      refine Good.goto X6 hx (pc' := 139) (by decide) (hb hby at_135) ?_
      refine Good.istore X6 hx (pc' := 141) (Ls' := #[.val (.int n), .val (.int a), .val (.int b), .val (.int c'), .val (.int (1 : Int32)), .val (.double (FP.i2d (a).toInt8.toInt32)), .second, .val (.double (FP.i2d (b).toInt8.toInt32)), .second, .val (.double (FP.i2d (c').toInt8.toInt32)), .second, .val (.ref b1), .val (.ref b2), .val (.ref b5), .val (.int (1 : Int32))]) rfl (hb hby at_139) rfl ?_
      refine Good.aload X6 hx (pc' := 143) rfl (hb hby at_141) rfl rfl ?_
      have q : anyP (updD (fun _ => 0) (0) (FP.i2d (a).toInt8.toInt32)) 1 0 = true := by simp only [anyP, updD]; try simp [p0]
      refine Good.callV X6 hx hZ (y := ⟨"com/example/vor/vor/ranking/QueryVector", "isEmpty", "()Z"⟩) hown (hw _ (List.mem_of_getElem? (i := 17) rfl)) (hw _ (List.mem_of_getElem? (i := 18) rfl)) (hw _ (List.mem_of_getElem? (i := 20) rfl)) (hw _ (List.mem_of_getElem? (i := 19) rfl)) (hw _ (List.mem_of_getElem? (i := 4) rfl)) (hw _ (List.mem_of_getElem? (i := 21) rfl)) (by decide) rfl Eq (argsL := []) (rest := []) (c_isEmpty l Z a0 hw b5 b1 1 (by decide) (updD (fun _ => 0) (0) (FP.i2d (a).toInt8.toInt32)) T6.heap Fq DA_b1_6) (hdesc := pd_1) rfl (pc' := 146) rfl (by rw [hml]; rfl) rfl (hb hby at_143) (W := 0) (Nat.le_of_eq rfl) (by decide) (by decide) (by decide) (by decide) fun v7 T7 L7 X7 Q7 => ?_
      obtain ⟨rfl, hh, rfl⟩ := Q7
      rw [q]
      refine Good.iload X7 hx (pc' := 148) rfl (hb hby at_146) rfl ?_
      refine Good.ifYes X7 hx (pc' := 155) (by decide) (hb hby at_148) rfl ?_
      refine Good.iconst X7 hx (pc' := 156) (w := (0 : Int32)) rfl (hb hby at_155) rfl ?_
      refine Good.icmpNo X7 hx (pc' := 159) rfl (hb hby at_156) rfl ?_
      refine Good.iconst X7 hx (pc' := 160) (w := (1 : Int32)) rfl (hb hby at_159) rfl ?_
      refine Good.goto X7 hx (pc' := 164) (by decide) (hb hby at_160) ?_
      exact Good.retZ X7 hx hlk hret (hb hby at_164) (Or.inr rfl) (hG _ _ _ _ _ (⟨rfl, Fr.app N_6 (Fr.nil n0)⟩) (by decide) (by decide))
    · have p0 : pos (FP.i2d (a).toInt8.toInt32) = false := hc0
      refine Good.iload X6 hx (pc' := 110) rfl (hb hby at_108) rfl ?_
      refine Good.iconst X6 hx (pc' := 111) (w := (1 : Int32)) rfl (hb hby at_110) rfl ?_
      refine Good.icmpYes X6 hx (pc' := 121) (by decide) (hb hby at_111) rfl ?_
      refine Good.iload X6 hx (pc' := 123) rfl (hb hby at_121) rfl ?_
      refine Good.iconst X6 hx (pc' := 124) (w := (2 : Int32)) rfl (hb hby at_123) rfl ?_
      refine Good.icmpYes X6 hx (pc' := 138) (by decide) (hb hby at_124) rfl ?_
      refine Good.iconst X6 hx (pc' := 139) (w := (0 : Int32)) rfl (hb hby at_138) rfl ?_
      refine Good.istore X6 hx (pc' := 141) (Ls' := #[.val (.int n), .val (.int a), .val (.int b), .val (.int c'), .val (.int (1 : Int32)), .val (.double (FP.i2d (a).toInt8.toInt32)), .second, .val (.double (FP.i2d (b).toInt8.toInt32)), .second, .val (.double (FP.i2d (c').toInt8.toInt32)), .second, .val (.ref b1), .val (.ref b2), .val (.ref b5), .val (.int (0 : Int32))]) rfl (hb hby at_139) rfl ?_
      refine Good.aload X6 hx (pc' := 143) rfl (hb hby at_141) rfl rfl ?_
      have q : anyP (updD (fun _ => 0) (0) (FP.i2d (a).toInt8.toInt32)) 1 0 = false := by simp only [anyP, updD]; try simp [p0]
      refine Good.callV X6 hx hZ (y := ⟨"com/example/vor/vor/ranking/QueryVector", "isEmpty", "()Z"⟩) hown (hw _ (List.mem_of_getElem? (i := 17) rfl)) (hw _ (List.mem_of_getElem? (i := 18) rfl)) (hw _ (List.mem_of_getElem? (i := 20) rfl)) (hw _ (List.mem_of_getElem? (i := 19) rfl)) (hw _ (List.mem_of_getElem? (i := 4) rfl)) (hw _ (List.mem_of_getElem? (i := 21) rfl)) (by decide) rfl Eq (argsL := []) (rest := []) (c_isEmpty l Z a0 hw b5 b1 1 (by decide) (updD (fun _ => 0) (0) (FP.i2d (a).toInt8.toInt32)) T6.heap Fq DA_b1_6) (hdesc := pd_1) rfl (pc' := 146) rfl (by rw [hml]; rfl) rfl (hb hby at_143) (W := 0) (Nat.le_of_eq rfl) (by decide) (by decide) (by decide) (by decide) fun v7 T7 L7 X7 Q7 => ?_
      obtain ⟨rfl, hh, rfl⟩ := Q7
      rw [q]
      refine Good.iload X7 hx (pc' := 148) rfl (hb hby at_146) rfl ?_
      refine Good.ifNo X7 hx (pc' := 151) rfl (hb hby at_148) rfl ?_
      refine Good.iconst X7 hx (pc' := 152) (w := (1 : Int32)) rfl (hb hby at_151) rfl ?_
      refine Good.goto X7 hx (pc' := 156) (by decide) (hb hby at_152) ?_
      refine Good.icmpNo X7 hx (pc' := 159) rfl (hb hby at_156) rfl ?_
      refine Good.iconst X7 hx (pc' := 160) (w := (1 : Int32)) rfl (hb hby at_159) rfl ?_
      refine Good.goto X7 hx (pc' := 164) (by decide) (hb hby at_160) ?_
      exact Good.retZ X7 hx hlk hret (hb hby at_164) (Or.inr rfl) (hG _ _ _ _ _ (⟨rfl, Fr.app N_6 (Fr.nil n0)⟩) (by decide) (by decide))
  · refine Good.newarray X hx hZ (hw _ (List.mem_of_getElem? (i := 0) rfl)) e0 (pc' := 24) rfl (hb hby at_22) (by decide) (cap := 3) (by decide) (by decide) (by decide) (by decide) fun T1 h1 k1 b1 g1 X1 e1 E1 A1 => ?_
    have ge_b1 : n0 ≤ b1 := by rw [g1]; exact Z0
    have Z_1 := Nat.le_trans Z0 E1.1
    have DA_b1 : DA Z h1 b1 2 (fun _ => 0) := DA.new A1 rfl
    refine Good.astore X1 hx (pc' := 26) (Ls' := #[.val (.int n), .val (.int a), .val (.int b), .val (.int c'), .val (.int (2 : Int32)), .val (.double (FP.i2d (a).toInt8.toInt32)), .second, .val (.double (FP.i2d (b).toInt8.toInt32)), .second, .val (.double (FP.i2d (c').toInt8.toInt32)), .second, .val (.ref b1), .unset, .unset, .unset]) rfl (hb hby at_24) rfl rfl ?_
    refine Good.iload X1 hx (pc' := 28) rfl (hb hby at_26) rfl ?_
    refine Good.newarray X1 hx hZ (hw _ (List.mem_of_getElem? (i := 1) rfl)) e1 (pc' := 30) rfl (hb hby at_28) (by decide) (cap := 3) (by decide) (by decide) (by decide) (by decide) fun T2 h2 k2 b2 g2 X2 e2 E2 A2 => ?_
    have ne_b1_b2 : b1 ≠ b2 := by rw [g2]; exact Nat.ne_of_lt DA_b1.lt
    have ge_b2 : n0 ≤ b2 := by rw [g2]; exact Z_1
    have DA_b1_2 := DA_b1.ext E2
    have Z_2 := Nat.le_trans Z_1 E2.1
    have AR_b2 : AR Z h2 b2 2 .int := AR.new A2 rfl
    refine Good.astore X2 hx (pc' := 32) (Ls' := #[.val (.int n), .val (.int a), .val (.int b), .val (.int c'), .val (.int (2 : Int32)), .val (.double (FP.i2d (a).toInt8.toInt32)), .second, .val (.double (FP.i2d (b).toInt8.toInt32)), .second, .val (.double (FP.i2d (c').toInt8.toInt32)), .second, .val (.ref b1), .val (.ref b2), .unset, .unset]) rfl (hb hby at_30) rfl rfl ?_
    refine Good.iload X2 hx (pc' := 34) rfl (hb hby at_32) rfl ?_
    refine Good.ifNo X2 hx (pc' := 37) rfl (hb hby at_34) rfl ?_
    refine Good.aload X2 hx (pc' := 39) rfl (hb hby at_37) rfl rfl ?_
    refine Good.iconst X2 hx (pc' := 40) (w := (0 : Int32)) rfl (hb hby at_39) rfl ?_
    refine Good.dload X2 hx (pc' := 42) rfl (hb hby at_40) rfl ?_
    refine Good.dastoreF X2 hx hZ e2 DA_b1_2 (0) rfl (by decide) (pc' := 43) rfl (hb hby at_42) fun T3 h3 X3 e3 W3 V3 => ?_
    have AR_b2_3 := AR_b2.other W3 ne_b1_b2.symm
    have Z_3 : n0 ≤ h3.size := by rw [W3.size]; exact Z_2
    have N_3 := Fr.snoc X3 N0 ge_b1
    refine Good.aload X3 hx (pc' := 45) rfl (hb hby at_43) rfl rfl ?_
    refine Good.iconst X3 hx (pc' := 46) (w := (0 : Int32)) rfl (hb hby at_45) rfl ?_
    refine Good.iconst X3 hx (pc' := 47) (w := (0 : Int32)) rfl (hb hby at_46) rfl ?_
    refine Good.iastoreF X3 hx hZ e3 AR_b2_3 (0) rfl (by decide) (pc' := 48) rfl (hb hby at_47) fun T4 h4 X4 e4 W4 V4 => ?_
    have DA_b1_4 := V3.other W4 ne_b1_b2
    have Z_4 : n0 ≤ h4.size := by rw [W4.size]; exact Z_3
    have N_4 := Fr.snoc X4 N_3 ge_b2
    refine Good.iload X4 hx (pc' := 50) rfl (hb hby at_48) rfl ?_
    refine Good.iconst X4 hx (pc' := 51) (w := (1 : Int32)) rfl (hb hby at_50) rfl ?_
    refine Good.icmpNo X4 hx (pc' := 54) rfl (hb hby at_51) rfl ?_
    refine Good.aload X4 hx (pc' := 56) rfl (hb hby at_54) rfl rfl ?_
    refine Good.iconst X4 hx (pc' := 57) (w := (1 : Int32)) rfl (hb hby at_56) rfl ?_
    refine Good.dload X4 hx (pc' := 59) rfl (hb hby at_57) rfl ?_
    refine Good.dastoreF X4 hx hZ e4 DA_b1_4 (1) rfl (by decide) (pc' := 60) rfl (hb hby at_59) fun T5 h5 X5 e5 W5 V5 => ?_
    have AR_b2_5 := V4.other W5 ne_b1_b2.symm
    have Z_5 : n0 ≤ h5.size := by rw [W5.size]; exact Z_4
    have N_5 := Fr.snoc X5 N_4 ge_b1
    refine Good.aload X5 hx (pc' := 62) rfl (hb hby at_60) rfl rfl ?_
    refine Good.iconst X5 hx (pc' := 63) (w := (1 : Int32)) rfl (hb hby at_62) rfl ?_
    refine Good.iconst X5 hx (pc' := 64) (w := (1 : Int32)) rfl (hb hby at_63) rfl ?_
    refine Good.iastoreF X5 hx hZ e5 AR_b2_5 (1) rfl (by decide) (pc' := 65) rfl (hb hby at_64) fun T6 h6 X6 e6 W6 V6 => ?_
    have DA_b1_6 := V5.other W6 ne_b1_b2
    have Z_6 : n0 ≤ h6.size := by rw [W6.size]; exact Z_5
    have N_6 := Fr.snoc X6 N_5 ge_b2
    refine Good.iload X6 hx (pc' := 67) rfl (hb hby at_65) rfl ?_
    refine Good.iconst X6 hx (pc' := 68) (w := (2 : Int32)) rfl (hb hby at_67) rfl ?_
    refine Good.icmpYes X6 hx (pc' := 82) (by decide) (hb hby at_68) rfl ?_
    refine Good.new X6 hx hZ hown (hw _ (List.mem_of_getElem? (i := 2) rfl)) (hw _ (List.mem_of_getElem? (i := 3) rfl)) (hw _ (List.mem_of_getElem? (i := 4) rfl)) e6 (pc' := 85) rfl (hb hby at_82) (by decide) (by decide) fun T7 h7 b7 g7 X7 e7 E7 A7 D7 => ?_
    have ne_b1_b7 : b1 ≠ b7 := by rw [g7]; exact Nat.ne_of_lt DA_b1_6.lt
    have ne_b2_b7 : b2 ≠ b7 := by rw [g7]; exact Nat.ne_of_lt V6.lt
    have ge_b7 : n0 ≤ b7 := by rw [g7]; exact Z_6
    have DA_b1_7 := DA_b1_6.ext E7
    have AR_b2_7 := V6.ext E7
    have Z_7 := Nat.le_trans Z_6 E7.1
    have F0_terms_b7 := D7 (O := "com/example/vor/vor/ranking/QueryVector") (nm := "terms") (d := "[I") (Or.inr (hw _ (List.mem_of_getElem? (i := 12) rfl))) (ty := (.array .int)) (by decide)
    have F0_weights_b7 := D7 (O := "com/example/vor/vor/ranking/QueryVector") (nm := "weights") (d := "[D") (Or.inr (hw _ (List.mem_of_getElem? (i := 14) rfl))) (ty := (.array .double)) (by decide)
    have F0_normaliser_b7 := D7 (O := "com/example/vor/vor/ranking/QueryVector") (nm := "normaliser") (d := "D") (Or.inr (hw _ (List.mem_of_getElem? (i := 16) rfl))) (ty := .double) (by decide)
    refine Good.dup X7 hx (pc' := 86) rfl (hb hby at_85) rfl ?_
    refine Good.aload X7 hx (pc' := 88) rfl (hb hby at_86) rfl rfl ?_
    refine Good.aload X7 hx (pc' := 90) rfl (hb hby at_88) rfl rfl ?_
    refine Good.dconst1 X7 hx (pc' := 91) rfl (hb hby at_90) ?_
    refine Good.callN X7 hx hZ (y := ⟨"com/example/vor/vor/ranking/QueryVector", "<init>", "([I[DD)V"⟩) rfl hown (hw _ (List.mem_of_getElem? (i := 5) rfl)) (hw _ (List.mem_of_getElem? (i := 6) rfl)) (hw _ (List.mem_of_getElem? (i := 4) rfl)) (hw _ (List.mem_of_getElem? (i := 7) rfl)) (by decide) e7 (a := b7) (argsL := [(.ref b2), (.ref b1), (.double FP.dconst1)]) (rest := [(.ref b7)]) (c_init l Z a0 hw b7 b2 b1 FP.dconst1 _ _ _ h7 n0 Z_7 A7 F0_terms_b7 F0_weights_b7 F0_normaliser_b7 ge_b7) (hdesc := pd_0) rfl (pc' := 94) rfl (by rw [hml]; rfl) rfl (hb hby at_91) (W := 1) (Nat.le_of_eq rfl) (by decide) (by decide) (by decide) (by decide) fun v8 T8 L8 X8 Q8 => ?_
    obtain ⟨rfl, Nq, Kq, Eq, Fq⟩ := Q8
    have DA_b1_8 := DA_b1_7.keep Kq (ninS ne_b1_b7 nin0)
    have AR_b2_8 := AR_b2_7.keep Kq (ninS ne_b2_b7 nin0)
    have E_b7_8 := A7.keep Kq
    have Z_8 := Nat.le_trans Z_7 Kq.1
    have N_8 := Fr.app N_6 Nq
    refine Good.astore X8 hx (pc' := 96) (Ls' := #[.val (.int n), .val (.int a), .val (.int b), .val (.int c'), .val (.int (2 : Int32)), .val (.double (FP.i2d (a).toInt8.toInt32)), .second, .val (.double (FP.i2d (b).toInt8.toInt32)), .second, .val (.double (FP.i2d (c').toInt8.toInt32)), .second, .val (.ref b1), .val (.ref b2), .val (.ref b7), .unset]) rfl (hb hby at_94) rfl rfl ?_
    refine Good.iload X8 hx (pc' := 98) rfl (hb hby at_96) rfl ?_
    refine Good.ifNo X8 hx (pc' := 101) rfl (hb hby at_98) rfl ?_
    refine Good.dload X8 hx (pc' := 103) rfl (hb hby at_101) rfl ?_
    refine Good.dconst0 X8 hx (pc' := 104) rfl (hb hby at_103) ?_
    refine Good.dcmp X8 hx (pc' := 105) rfl (hb hby at_104) ?_
    refine Good.ifFork X8 hx (pc1 := 134) (pc2 := 108) (hb hby at_105) (by decide) rfl (fun hc0 => ?_) (fun hc0 => ?_)
    · have p0 : pos (FP.i2d (a).toInt8.toInt32) = true := hc0
      refine Good.iconst X8 hx (pc' := 135) (w := (1 : Int32)) rfl (hb hby at_134) rfl ?_
      refine Good.goto X8 hx (pc' := 139) (by decide) (hb hby at_135) ?_
      refine Good.istore X8 hx (pc' := 141) (Ls' := #[.val (.int n), .val (.int a), .val (.int b), .val (.int c'), .val (.int (2 : Int32)), .val (.double (FP.i2d (a).toInt8.toInt32)), .second, .val (.double (FP.i2d (b).toInt8.toInt32)), .second, .val (.double (FP.i2d (c').toInt8.toInt32)), .second, .val (.ref b1), .val (.ref b2), .val (.ref b7), .val (.int (1 : Int32))]) rfl (hb hby at_139) rfl ?_
      refine Good.aload X8 hx (pc' := 143) rfl (hb hby at_141) rfl rfl ?_
      have q : anyP (updD (updD (fun _ => 0) (0) (FP.i2d (a).toInt8.toInt32)) (1) (FP.i2d (b).toInt8.toInt32)) 2 0 = true := by simp only [anyP, updD]; try simp [p0]
      refine Good.callV X8 hx hZ (y := ⟨"com/example/vor/vor/ranking/QueryVector", "isEmpty", "()Z"⟩) hown (hw _ (List.mem_of_getElem? (i := 17) rfl)) (hw _ (List.mem_of_getElem? (i := 18) rfl)) (hw _ (List.mem_of_getElem? (i := 20) rfl)) (hw _ (List.mem_of_getElem? (i := 19) rfl)) (hw _ (List.mem_of_getElem? (i := 4) rfl)) (hw _ (List.mem_of_getElem? (i := 21) rfl)) (by decide) rfl Eq (argsL := []) (rest := []) (c_isEmpty l Z a0 hw b7 b1 2 (by decide) (updD (updD (fun _ => 0) (0) (FP.i2d (a).toInt8.toInt32)) (1) (FP.i2d (b).toInt8.toInt32)) T8.heap Fq DA_b1_8) (hdesc := pd_1) rfl (pc' := 146) rfl (by rw [hml]; rfl) rfl (hb hby at_143) (W := 0) (Nat.le_of_eq rfl) (by decide) (by decide) (by decide) (by decide) fun v9 T9 L9 X9 Q9 => ?_
      obtain ⟨rfl, hh, rfl⟩ := Q9
      rw [q]
      refine Good.iload X9 hx (pc' := 148) rfl (hb hby at_146) rfl ?_
      refine Good.ifYes X9 hx (pc' := 155) (by decide) (hb hby at_148) rfl ?_
      refine Good.iconst X9 hx (pc' := 156) (w := (0 : Int32)) rfl (hb hby at_155) rfl ?_
      refine Good.icmpNo X9 hx (pc' := 159) rfl (hb hby at_156) rfl ?_
      refine Good.iconst X9 hx (pc' := 160) (w := (1 : Int32)) rfl (hb hby at_159) rfl ?_
      refine Good.goto X9 hx (pc' := 164) (by decide) (hb hby at_160) ?_
      exact Good.retZ X9 hx hlk hret (hb hby at_164) (Or.inr rfl) (hG _ _ _ _ _ (⟨rfl, Fr.app N_8 (Fr.nil n0)⟩) (by decide) (by decide))
    · have p0 : pos (FP.i2d (a).toInt8.toInt32) = false := hc0
      refine Good.iload X8 hx (pc' := 110) rfl (hb hby at_108) rfl ?_
      refine Good.iconst X8 hx (pc' := 111) (w := (1 : Int32)) rfl (hb hby at_110) rfl ?_
      refine Good.icmpNo X8 hx (pc' := 114) rfl (hb hby at_111) rfl ?_
      refine Good.dload X8 hx (pc' := 116) rfl (hb hby at_114) rfl ?_
      refine Good.dconst0 X8 hx (pc' := 117) rfl (hb hby at_116) ?_
      refine Good.dcmp X8 hx (pc' := 118) rfl (hb hby at_117) ?_
      refine Good.ifFork X8 hx (pc1 := 134) (pc2 := 121) (hb hby at_118) (by decide) rfl (fun hc1 => ?_) (fun hc1 => ?_)
      · have p1 : pos (FP.i2d (b).toInt8.toInt32) = true := hc1
        refine Good.iconst X8 hx (pc' := 135) (w := (1 : Int32)) rfl (hb hby at_134) rfl ?_
        refine Good.goto X8 hx (pc' := 139) (by decide) (hb hby at_135) ?_
        refine Good.istore X8 hx (pc' := 141) (Ls' := #[.val (.int n), .val (.int a), .val (.int b), .val (.int c'), .val (.int (2 : Int32)), .val (.double (FP.i2d (a).toInt8.toInt32)), .second, .val (.double (FP.i2d (b).toInt8.toInt32)), .second, .val (.double (FP.i2d (c').toInt8.toInt32)), .second, .val (.ref b1), .val (.ref b2), .val (.ref b7), .val (.int (1 : Int32))]) rfl (hb hby at_139) rfl ?_
        refine Good.aload X8 hx (pc' := 143) rfl (hb hby at_141) rfl rfl ?_
        have q : anyP (updD (updD (fun _ => 0) (0) (FP.i2d (a).toInt8.toInt32)) (1) (FP.i2d (b).toInt8.toInt32)) 2 0 = true := by simp only [anyP, updD]; try simp [p0, p1]
        refine Good.callV X8 hx hZ (y := ⟨"com/example/vor/vor/ranking/QueryVector", "isEmpty", "()Z"⟩) hown (hw _ (List.mem_of_getElem? (i := 17) rfl)) (hw _ (List.mem_of_getElem? (i := 18) rfl)) (hw _ (List.mem_of_getElem? (i := 20) rfl)) (hw _ (List.mem_of_getElem? (i := 19) rfl)) (hw _ (List.mem_of_getElem? (i := 4) rfl)) (hw _ (List.mem_of_getElem? (i := 21) rfl)) (by decide) rfl Eq (argsL := []) (rest := []) (c_isEmpty l Z a0 hw b7 b1 2 (by decide) (updD (updD (fun _ => 0) (0) (FP.i2d (a).toInt8.toInt32)) (1) (FP.i2d (b).toInt8.toInt32)) T8.heap Fq DA_b1_8) (hdesc := pd_1) rfl (pc' := 146) rfl (by rw [hml]; rfl) rfl (hb hby at_143) (W := 0) (Nat.le_of_eq rfl) (by decide) (by decide) (by decide) (by decide) fun v9 T9 L9 X9 Q9 => ?_
        obtain ⟨rfl, hh, rfl⟩ := Q9
        rw [q]
        refine Good.iload X9 hx (pc' := 148) rfl (hb hby at_146) rfl ?_
        refine Good.ifYes X9 hx (pc' := 155) (by decide) (hb hby at_148) rfl ?_
        refine Good.iconst X9 hx (pc' := 156) (w := (0 : Int32)) rfl (hb hby at_155) rfl ?_
        refine Good.icmpNo X9 hx (pc' := 159) rfl (hb hby at_156) rfl ?_
        refine Good.iconst X9 hx (pc' := 160) (w := (1 : Int32)) rfl (hb hby at_159) rfl ?_
        refine Good.goto X9 hx (pc' := 164) (by decide) (hb hby at_160) ?_
        exact Good.retZ X9 hx hlk hret (hb hby at_164) (Or.inr rfl) (hG _ _ _ _ _ (⟨rfl, Fr.app N_8 (Fr.nil n0)⟩) (by decide) (by decide))
      · have p1 : pos (FP.i2d (b).toInt8.toInt32) = false := hc1
        refine Good.iload X8 hx (pc' := 123) rfl (hb hby at_121) rfl ?_
        refine Good.iconst X8 hx (pc' := 124) (w := (2 : Int32)) rfl (hb hby at_123) rfl ?_
        refine Good.icmpYes X8 hx (pc' := 138) (by decide) (hb hby at_124) rfl ?_
        refine Good.iconst X8 hx (pc' := 139) (w := (0 : Int32)) rfl (hb hby at_138) rfl ?_
        refine Good.istore X8 hx (pc' := 141) (Ls' := #[.val (.int n), .val (.int a), .val (.int b), .val (.int c'), .val (.int (2 : Int32)), .val (.double (FP.i2d (a).toInt8.toInt32)), .second, .val (.double (FP.i2d (b).toInt8.toInt32)), .second, .val (.double (FP.i2d (c').toInt8.toInt32)), .second, .val (.ref b1), .val (.ref b2), .val (.ref b7), .val (.int (0 : Int32))]) rfl (hb hby at_139) rfl ?_
        refine Good.aload X8 hx (pc' := 143) rfl (hb hby at_141) rfl rfl ?_
        have q : anyP (updD (updD (fun _ => 0) (0) (FP.i2d (a).toInt8.toInt32)) (1) (FP.i2d (b).toInt8.toInt32)) 2 0 = false := by simp only [anyP, updD]; try simp [p0, p1]
        refine Good.callV X8 hx hZ (y := ⟨"com/example/vor/vor/ranking/QueryVector", "isEmpty", "()Z"⟩) hown (hw _ (List.mem_of_getElem? (i := 17) rfl)) (hw _ (List.mem_of_getElem? (i := 18) rfl)) (hw _ (List.mem_of_getElem? (i := 20) rfl)) (hw _ (List.mem_of_getElem? (i := 19) rfl)) (hw _ (List.mem_of_getElem? (i := 4) rfl)) (hw _ (List.mem_of_getElem? (i := 21) rfl)) (by decide) rfl Eq (argsL := []) (rest := []) (c_isEmpty l Z a0 hw b7 b1 2 (by decide) (updD (updD (fun _ => 0) (0) (FP.i2d (a).toInt8.toInt32)) (1) (FP.i2d (b).toInt8.toInt32)) T8.heap Fq DA_b1_8) (hdesc := pd_1) rfl (pc' := 146) rfl (by rw [hml]; rfl) rfl (hb hby at_143) (W := 0) (Nat.le_of_eq rfl) (by decide) (by decide) (by decide) (by decide) fun v9 T9 L9 X9 Q9 => ?_
        obtain ⟨rfl, hh, rfl⟩ := Q9
        rw [q]
        refine Good.iload X9 hx (pc' := 148) rfl (hb hby at_146) rfl ?_
        refine Good.ifNo X9 hx (pc' := 151) rfl (hb hby at_148) rfl ?_
        refine Good.iconst X9 hx (pc' := 152) (w := (1 : Int32)) rfl (hb hby at_151) rfl ?_
        refine Good.goto X9 hx (pc' := 156) (by decide) (hb hby at_152) ?_
        refine Good.icmpNo X9 hx (pc' := 159) rfl (hb hby at_156) rfl ?_
        refine Good.iconst X9 hx (pc' := 160) (w := (1 : Int32)) rfl (hb hby at_159) rfl ?_
        refine Good.goto X9 hx (pc' := 164) (by decide) (hb hby at_160) ?_
        exact Good.retZ X9 hx hlk hret (hb hby at_164) (Or.inr rfl) (hG _ _ _ _ _ (⟨rfl, Fr.app N_8 (Fr.nil n0)⟩) (by decide) (by decide))
  · refine Good.newarray X hx hZ (hw _ (List.mem_of_getElem? (i := 0) rfl)) e0 (pc' := 24) rfl (hb hby at_22) (by decide) (cap := 3) (by decide) (by decide) (by decide) (by decide) fun T1 h1 k1 b1 g1 X1 e1 E1 A1 => ?_
    have ge_b1 : n0 ≤ b1 := by rw [g1]; exact Z0
    have Z_1 := Nat.le_trans Z0 E1.1
    have DA_b1 : DA Z h1 b1 3 (fun _ => 0) := DA.new A1 rfl
    refine Good.astore X1 hx (pc' := 26) (Ls' := #[.val (.int n), .val (.int a), .val (.int b), .val (.int c'), .val (.int (3 : Int32)), .val (.double (FP.i2d (a).toInt8.toInt32)), .second, .val (.double (FP.i2d (b).toInt8.toInt32)), .second, .val (.double (FP.i2d (c').toInt8.toInt32)), .second, .val (.ref b1), .unset, .unset, .unset]) rfl (hb hby at_24) rfl rfl ?_
    refine Good.iload X1 hx (pc' := 28) rfl (hb hby at_26) rfl ?_
    refine Good.newarray X1 hx hZ (hw _ (List.mem_of_getElem? (i := 1) rfl)) e1 (pc' := 30) rfl (hb hby at_28) (by decide) (cap := 3) (by decide) (by decide) (by decide) (by decide) fun T2 h2 k2 b2 g2 X2 e2 E2 A2 => ?_
    have ne_b1_b2 : b1 ≠ b2 := by rw [g2]; exact Nat.ne_of_lt DA_b1.lt
    have ge_b2 : n0 ≤ b2 := by rw [g2]; exact Z_1
    have DA_b1_2 := DA_b1.ext E2
    have Z_2 := Nat.le_trans Z_1 E2.1
    have AR_b2 : AR Z h2 b2 3 .int := AR.new A2 rfl
    refine Good.astore X2 hx (pc' := 32) (Ls' := #[.val (.int n), .val (.int a), .val (.int b), .val (.int c'), .val (.int (3 : Int32)), .val (.double (FP.i2d (a).toInt8.toInt32)), .second, .val (.double (FP.i2d (b).toInt8.toInt32)), .second, .val (.double (FP.i2d (c').toInt8.toInt32)), .second, .val (.ref b1), .val (.ref b2), .unset, .unset]) rfl (hb hby at_30) rfl rfl ?_
    refine Good.iload X2 hx (pc' := 34) rfl (hb hby at_32) rfl ?_
    refine Good.ifNo X2 hx (pc' := 37) rfl (hb hby at_34) rfl ?_
    refine Good.aload X2 hx (pc' := 39) rfl (hb hby at_37) rfl rfl ?_
    refine Good.iconst X2 hx (pc' := 40) (w := (0 : Int32)) rfl (hb hby at_39) rfl ?_
    refine Good.dload X2 hx (pc' := 42) rfl (hb hby at_40) rfl ?_
    refine Good.dastoreF X2 hx hZ e2 DA_b1_2 (0) rfl (by decide) (pc' := 43) rfl (hb hby at_42) fun T3 h3 X3 e3 W3 V3 => ?_
    have AR_b2_3 := AR_b2.other W3 ne_b1_b2.symm
    have Z_3 : n0 ≤ h3.size := by rw [W3.size]; exact Z_2
    have N_3 := Fr.snoc X3 N0 ge_b1
    refine Good.aload X3 hx (pc' := 45) rfl (hb hby at_43) rfl rfl ?_
    refine Good.iconst X3 hx (pc' := 46) (w := (0 : Int32)) rfl (hb hby at_45) rfl ?_
    refine Good.iconst X3 hx (pc' := 47) (w := (0 : Int32)) rfl (hb hby at_46) rfl ?_
    refine Good.iastoreF X3 hx hZ e3 AR_b2_3 (0) rfl (by decide) (pc' := 48) rfl (hb hby at_47) fun T4 h4 X4 e4 W4 V4 => ?_
    have DA_b1_4 := V3.other W4 ne_b1_b2
    have Z_4 : n0 ≤ h4.size := by rw [W4.size]; exact Z_3
    have N_4 := Fr.snoc X4 N_3 ge_b2
    refine Good.iload X4 hx (pc' := 50) rfl (hb hby at_48) rfl ?_
    refine Good.iconst X4 hx (pc' := 51) (w := (1 : Int32)) rfl (hb hby at_50) rfl ?_
    refine Good.icmpNo X4 hx (pc' := 54) rfl (hb hby at_51) rfl ?_
    refine Good.aload X4 hx (pc' := 56) rfl (hb hby at_54) rfl rfl ?_
    refine Good.iconst X4 hx (pc' := 57) (w := (1 : Int32)) rfl (hb hby at_56) rfl ?_
    refine Good.dload X4 hx (pc' := 59) rfl (hb hby at_57) rfl ?_
    refine Good.dastoreF X4 hx hZ e4 DA_b1_4 (1) rfl (by decide) (pc' := 60) rfl (hb hby at_59) fun T5 h5 X5 e5 W5 V5 => ?_
    have AR_b2_5 := V4.other W5 ne_b1_b2.symm
    have Z_5 : n0 ≤ h5.size := by rw [W5.size]; exact Z_4
    have N_5 := Fr.snoc X5 N_4 ge_b1
    refine Good.aload X5 hx (pc' := 62) rfl (hb hby at_60) rfl rfl ?_
    refine Good.iconst X5 hx (pc' := 63) (w := (1 : Int32)) rfl (hb hby at_62) rfl ?_
    refine Good.iconst X5 hx (pc' := 64) (w := (1 : Int32)) rfl (hb hby at_63) rfl ?_
    refine Good.iastoreF X5 hx hZ e5 AR_b2_5 (1) rfl (by decide) (pc' := 65) rfl (hb hby at_64) fun T6 h6 X6 e6 W6 V6 => ?_
    have DA_b1_6 := V5.other W6 ne_b1_b2
    have Z_6 : n0 ≤ h6.size := by rw [W6.size]; exact Z_5
    have N_6 := Fr.snoc X6 N_5 ge_b2
    refine Good.iload X6 hx (pc' := 67) rfl (hb hby at_65) rfl ?_
    refine Good.iconst X6 hx (pc' := 68) (w := (2 : Int32)) rfl (hb hby at_67) rfl ?_
    refine Good.icmpNo X6 hx (pc' := 71) rfl (hb hby at_68) rfl ?_
    refine Good.aload X6 hx (pc' := 73) rfl (hb hby at_71) rfl rfl ?_
    refine Good.iconst X6 hx (pc' := 74) (w := (2 : Int32)) rfl (hb hby at_73) rfl ?_
    refine Good.dload X6 hx (pc' := 76) rfl (hb hby at_74) rfl ?_
    refine Good.dastoreF X6 hx hZ e6 DA_b1_6 (2) rfl (by decide) (pc' := 77) rfl (hb hby at_76) fun T7 h7 X7 e7 W7 V7 => ?_
    have AR_b2_7 := V6.other W7 ne_b1_b2.symm
    have Z_7 : n0 ≤ h7.size := by rw [W7.size]; exact Z_6
    have N_7 := Fr.snoc X7 N_6 ge_b1
    refine Good.aload X7 hx (pc' := 79) rfl (hb hby at_77) rfl rfl ?_
    refine Good.iconst X7 hx (pc' := 80) (w := (2 : Int32)) rfl (hb hby at_79) rfl ?_
    refine Good.iconst X7 hx (pc' := 81) (w := (2 : Int32)) rfl (hb hby at_80) rfl ?_
    refine Good.iastoreF X7 hx hZ e7 AR_b2_7 (2) rfl (by decide) (pc' := 82) rfl (hb hby at_81) fun T8 h8 X8 e8 W8 V8 => ?_
    have DA_b1_8 := V7.other W8 ne_b1_b2
    have Z_8 : n0 ≤ h8.size := by rw [W8.size]; exact Z_7
    have N_8 := Fr.snoc X8 N_7 ge_b2
    refine Good.new X8 hx hZ hown (hw _ (List.mem_of_getElem? (i := 2) rfl)) (hw _ (List.mem_of_getElem? (i := 3) rfl)) (hw _ (List.mem_of_getElem? (i := 4) rfl)) e8 (pc' := 85) rfl (hb hby at_82) (by decide) (by decide) fun T9 h9 b9 g9 X9 e9 E9 A9 D9 => ?_
    have ne_b1_b9 : b1 ≠ b9 := by rw [g9]; exact Nat.ne_of_lt DA_b1_8.lt
    have ne_b2_b9 : b2 ≠ b9 := by rw [g9]; exact Nat.ne_of_lt V8.lt
    have ge_b9 : n0 ≤ b9 := by rw [g9]; exact Z_8
    have DA_b1_9 := DA_b1_8.ext E9
    have AR_b2_9 := V8.ext E9
    have Z_9 := Nat.le_trans Z_8 E9.1
    have F0_terms_b9 := D9 (O := "com/example/vor/vor/ranking/QueryVector") (nm := "terms") (d := "[I") (Or.inr (hw _ (List.mem_of_getElem? (i := 12) rfl))) (ty := (.array .int)) (by decide)
    have F0_weights_b9 := D9 (O := "com/example/vor/vor/ranking/QueryVector") (nm := "weights") (d := "[D") (Or.inr (hw _ (List.mem_of_getElem? (i := 14) rfl))) (ty := (.array .double)) (by decide)
    have F0_normaliser_b9 := D9 (O := "com/example/vor/vor/ranking/QueryVector") (nm := "normaliser") (d := "D") (Or.inr (hw _ (List.mem_of_getElem? (i := 16) rfl))) (ty := .double) (by decide)
    refine Good.dup X9 hx (pc' := 86) rfl (hb hby at_85) rfl ?_
    refine Good.aload X9 hx (pc' := 88) rfl (hb hby at_86) rfl rfl ?_
    refine Good.aload X9 hx (pc' := 90) rfl (hb hby at_88) rfl rfl ?_
    refine Good.dconst1 X9 hx (pc' := 91) rfl (hb hby at_90) ?_
    refine Good.callN X9 hx hZ (y := ⟨"com/example/vor/vor/ranking/QueryVector", "<init>", "([I[DD)V"⟩) rfl hown (hw _ (List.mem_of_getElem? (i := 5) rfl)) (hw _ (List.mem_of_getElem? (i := 6) rfl)) (hw _ (List.mem_of_getElem? (i := 4) rfl)) (hw _ (List.mem_of_getElem? (i := 7) rfl)) (by decide) e9 (a := b9) (argsL := [(.ref b2), (.ref b1), (.double FP.dconst1)]) (rest := [(.ref b9)]) (c_init l Z a0 hw b9 b2 b1 FP.dconst1 _ _ _ h9 n0 Z_9 A9 F0_terms_b9 F0_weights_b9 F0_normaliser_b9 ge_b9) (hdesc := pd_0) rfl (pc' := 94) rfl (by rw [hml]; rfl) rfl (hb hby at_91) (W := 1) (Nat.le_of_eq rfl) (by decide) (by decide) (by decide) (by decide) fun v10 T10 L10 X10 Q10 => ?_
    obtain ⟨rfl, Nq, Kq, Eq, Fq⟩ := Q10
    have DA_b1_10 := DA_b1_9.keep Kq (ninS ne_b1_b9 nin0)
    have AR_b2_10 := AR_b2_9.keep Kq (ninS ne_b2_b9 nin0)
    have E_b9_10 := A9.keep Kq
    have Z_10 := Nat.le_trans Z_9 Kq.1
    have N_10 := Fr.app N_8 Nq
    refine Good.astore X10 hx (pc' := 96) (Ls' := #[.val (.int n), .val (.int a), .val (.int b), .val (.int c'), .val (.int (3 : Int32)), .val (.double (FP.i2d (a).toInt8.toInt32)), .second, .val (.double (FP.i2d (b).toInt8.toInt32)), .second, .val (.double (FP.i2d (c').toInt8.toInt32)), .second, .val (.ref b1), .val (.ref b2), .val (.ref b9), .unset]) rfl (hb hby at_94) rfl rfl ?_
    refine Good.iload X10 hx (pc' := 98) rfl (hb hby at_96) rfl ?_
    refine Good.ifNo X10 hx (pc' := 101) rfl (hb hby at_98) rfl ?_
    refine Good.dload X10 hx (pc' := 103) rfl (hb hby at_101) rfl ?_
    refine Good.dconst0 X10 hx (pc' := 104) rfl (hb hby at_103) ?_
    refine Good.dcmp X10 hx (pc' := 105) rfl (hb hby at_104) ?_
    refine Good.ifFork X10 hx (pc1 := 134) (pc2 := 108) (hb hby at_105) (by decide) rfl (fun hc0 => ?_) (fun hc0 => ?_)
    · have p0 : pos (FP.i2d (a).toInt8.toInt32) = true := hc0
      refine Good.iconst X10 hx (pc' := 135) (w := (1 : Int32)) rfl (hb hby at_134) rfl ?_
      refine Good.goto X10 hx (pc' := 139) (by decide) (hb hby at_135) ?_
      refine Good.istore X10 hx (pc' := 141) (Ls' := #[.val (.int n), .val (.int a), .val (.int b), .val (.int c'), .val (.int (3 : Int32)), .val (.double (FP.i2d (a).toInt8.toInt32)), .second, .val (.double (FP.i2d (b).toInt8.toInt32)), .second, .val (.double (FP.i2d (c').toInt8.toInt32)), .second, .val (.ref b1), .val (.ref b2), .val (.ref b9), .val (.int (1 : Int32))]) rfl (hb hby at_139) rfl ?_
      refine Good.aload X10 hx (pc' := 143) rfl (hb hby at_141) rfl rfl ?_
      have q : anyP (updD (updD (updD (fun _ => 0) (0) (FP.i2d (a).toInt8.toInt32)) (1) (FP.i2d (b).toInt8.toInt32)) (2) (FP.i2d (c').toInt8.toInt32)) 3 0 = true := by simp only [anyP, updD]; try simp [p0]
      refine Good.callV X10 hx hZ (y := ⟨"com/example/vor/vor/ranking/QueryVector", "isEmpty", "()Z"⟩) hown (hw _ (List.mem_of_getElem? (i := 17) rfl)) (hw _ (List.mem_of_getElem? (i := 18) rfl)) (hw _ (List.mem_of_getElem? (i := 20) rfl)) (hw _ (List.mem_of_getElem? (i := 19) rfl)) (hw _ (List.mem_of_getElem? (i := 4) rfl)) (hw _ (List.mem_of_getElem? (i := 21) rfl)) (by decide) rfl Eq (argsL := []) (rest := []) (c_isEmpty l Z a0 hw b9 b1 3 (by decide) (updD (updD (updD (fun _ => 0) (0) (FP.i2d (a).toInt8.toInt32)) (1) (FP.i2d (b).toInt8.toInt32)) (2) (FP.i2d (c').toInt8.toInt32)) T10.heap Fq DA_b1_10) (hdesc := pd_1) rfl (pc' := 146) rfl (by rw [hml]; rfl) rfl (hb hby at_143) (W := 0) (Nat.le_of_eq rfl) (by decide) (by decide) (by decide) (by decide) fun v11 T11 L11 X11 Q11 => ?_
      obtain ⟨rfl, hh, rfl⟩ := Q11
      rw [q]
      refine Good.iload X11 hx (pc' := 148) rfl (hb hby at_146) rfl ?_
      refine Good.ifYes X11 hx (pc' := 155) (by decide) (hb hby at_148) rfl ?_
      refine Good.iconst X11 hx (pc' := 156) (w := (0 : Int32)) rfl (hb hby at_155) rfl ?_
      refine Good.icmpNo X11 hx (pc' := 159) rfl (hb hby at_156) rfl ?_
      refine Good.iconst X11 hx (pc' := 160) (w := (1 : Int32)) rfl (hb hby at_159) rfl ?_
      refine Good.goto X11 hx (pc' := 164) (by decide) (hb hby at_160) ?_
      exact Good.retZ X11 hx hlk hret (hb hby at_164) (Or.inr rfl) (hG _ _ _ _ _ (⟨rfl, Fr.app N_10 (Fr.nil n0)⟩) (by decide) (by decide))
    · have p0 : pos (FP.i2d (a).toInt8.toInt32) = false := hc0
      refine Good.iload X10 hx (pc' := 110) rfl (hb hby at_108) rfl ?_
      refine Good.iconst X10 hx (pc' := 111) (w := (1 : Int32)) rfl (hb hby at_110) rfl ?_
      refine Good.icmpNo X10 hx (pc' := 114) rfl (hb hby at_111) rfl ?_
      refine Good.dload X10 hx (pc' := 116) rfl (hb hby at_114) rfl ?_
      refine Good.dconst0 X10 hx (pc' := 117) rfl (hb hby at_116) ?_
      refine Good.dcmp X10 hx (pc' := 118) rfl (hb hby at_117) ?_
      refine Good.ifFork X10 hx (pc1 := 134) (pc2 := 121) (hb hby at_118) (by decide) rfl (fun hc1 => ?_) (fun hc1 => ?_)
      · have p1 : pos (FP.i2d (b).toInt8.toInt32) = true := hc1
        refine Good.iconst X10 hx (pc' := 135) (w := (1 : Int32)) rfl (hb hby at_134) rfl ?_
        refine Good.goto X10 hx (pc' := 139) (by decide) (hb hby at_135) ?_
        refine Good.istore X10 hx (pc' := 141) (Ls' := #[.val (.int n), .val (.int a), .val (.int b), .val (.int c'), .val (.int (3 : Int32)), .val (.double (FP.i2d (a).toInt8.toInt32)), .second, .val (.double (FP.i2d (b).toInt8.toInt32)), .second, .val (.double (FP.i2d (c').toInt8.toInt32)), .second, .val (.ref b1), .val (.ref b2), .val (.ref b9), .val (.int (1 : Int32))]) rfl (hb hby at_139) rfl ?_
        refine Good.aload X10 hx (pc' := 143) rfl (hb hby at_141) rfl rfl ?_
        have q : anyP (updD (updD (updD (fun _ => 0) (0) (FP.i2d (a).toInt8.toInt32)) (1) (FP.i2d (b).toInt8.toInt32)) (2) (FP.i2d (c').toInt8.toInt32)) 3 0 = true := by simp only [anyP, updD]; try simp [p0, p1]
        refine Good.callV X10 hx hZ (y := ⟨"com/example/vor/vor/ranking/QueryVector", "isEmpty", "()Z"⟩) hown (hw _ (List.mem_of_getElem? (i := 17) rfl)) (hw _ (List.mem_of_getElem? (i := 18) rfl)) (hw _ (List.mem_of_getElem? (i := 20) rfl)) (hw _ (List.mem_of_getElem? (i := 19) rfl)) (hw _ (List.mem_of_getElem? (i := 4) rfl)) (hw _ (List.mem_of_getElem? (i := 21) rfl)) (by decide) rfl Eq (argsL := []) (rest := []) (c_isEmpty l Z a0 hw b9 b1 3 (by decide) (updD (updD (updD (fun _ => 0) (0) (FP.i2d (a).toInt8.toInt32)) (1) (FP.i2d (b).toInt8.toInt32)) (2) (FP.i2d (c').toInt8.toInt32)) T10.heap Fq DA_b1_10) (hdesc := pd_1) rfl (pc' := 146) rfl (by rw [hml]; rfl) rfl (hb hby at_143) (W := 0) (Nat.le_of_eq rfl) (by decide) (by decide) (by decide) (by decide) fun v11 T11 L11 X11 Q11 => ?_
        obtain ⟨rfl, hh, rfl⟩ := Q11
        rw [q]
        refine Good.iload X11 hx (pc' := 148) rfl (hb hby at_146) rfl ?_
        refine Good.ifYes X11 hx (pc' := 155) (by decide) (hb hby at_148) rfl ?_
        refine Good.iconst X11 hx (pc' := 156) (w := (0 : Int32)) rfl (hb hby at_155) rfl ?_
        refine Good.icmpNo X11 hx (pc' := 159) rfl (hb hby at_156) rfl ?_
        refine Good.iconst X11 hx (pc' := 160) (w := (1 : Int32)) rfl (hb hby at_159) rfl ?_
        refine Good.goto X11 hx (pc' := 164) (by decide) (hb hby at_160) ?_
        exact Good.retZ X11 hx hlk hret (hb hby at_164) (Or.inr rfl) (hG _ _ _ _ _ (⟨rfl, Fr.app N_10 (Fr.nil n0)⟩) (by decide) (by decide))
      · have p1 : pos (FP.i2d (b).toInt8.toInt32) = false := hc1
        refine Good.iload X10 hx (pc' := 123) rfl (hb hby at_121) rfl ?_
        refine Good.iconst X10 hx (pc' := 124) (w := (2 : Int32)) rfl (hb hby at_123) rfl ?_
        refine Good.icmpNo X10 hx (pc' := 127) rfl (hb hby at_124) rfl ?_
        refine Good.dload X10 hx (pc' := 129) rfl (hb hby at_127) rfl ?_
        refine Good.dconst0 X10 hx (pc' := 130) rfl (hb hby at_129) ?_
        refine Good.dcmp X10 hx (pc' := 131) rfl (hb hby at_130) ?_
        refine Good.ifFork X10 hx (pc1 := 138) (pc2 := 134) (hb hby at_131) (by decide) rfl (fun hc2 => ?_) (fun hc2 => ?_)
        · have p2 : pos (FP.i2d (c').toInt8.toInt32) = false := by rw [pos_le] at hc2; simpa using hc2
          refine Good.iconst X10 hx (pc' := 139) (w := (0 : Int32)) rfl (hb hby at_138) rfl ?_
          refine Good.istore X10 hx (pc' := 141) (Ls' := #[.val (.int n), .val (.int a), .val (.int b), .val (.int c'), .val (.int (3 : Int32)), .val (.double (FP.i2d (a).toInt8.toInt32)), .second, .val (.double (FP.i2d (b).toInt8.toInt32)), .second, .val (.double (FP.i2d (c').toInt8.toInt32)), .second, .val (.ref b1), .val (.ref b2), .val (.ref b9), .val (.int (0 : Int32))]) rfl (hb hby at_139) rfl ?_
          refine Good.aload X10 hx (pc' := 143) rfl (hb hby at_141) rfl rfl ?_
          have q : anyP (updD (updD (updD (fun _ => 0) (0) (FP.i2d (a).toInt8.toInt32)) (1) (FP.i2d (b).toInt8.toInt32)) (2) (FP.i2d (c').toInt8.toInt32)) 3 0 = false := by simp only [anyP, updD]; try simp [p0, p1, p2]
          refine Good.callV X10 hx hZ (y := ⟨"com/example/vor/vor/ranking/QueryVector", "isEmpty", "()Z"⟩) hown (hw _ (List.mem_of_getElem? (i := 17) rfl)) (hw _ (List.mem_of_getElem? (i := 18) rfl)) (hw _ (List.mem_of_getElem? (i := 20) rfl)) (hw _ (List.mem_of_getElem? (i := 19) rfl)) (hw _ (List.mem_of_getElem? (i := 4) rfl)) (hw _ (List.mem_of_getElem? (i := 21) rfl)) (by decide) rfl Eq (argsL := []) (rest := []) (c_isEmpty l Z a0 hw b9 b1 3 (by decide) (updD (updD (updD (fun _ => 0) (0) (FP.i2d (a).toInt8.toInt32)) (1) (FP.i2d (b).toInt8.toInt32)) (2) (FP.i2d (c').toInt8.toInt32)) T10.heap Fq DA_b1_10) (hdesc := pd_1) rfl (pc' := 146) rfl (by rw [hml]; rfl) rfl (hb hby at_143) (W := 0) (Nat.le_of_eq rfl) (by decide) (by decide) (by decide) (by decide) fun v11 T11 L11 X11 Q11 => ?_
          obtain ⟨rfl, hh, rfl⟩ := Q11
          rw [q]
          refine Good.iload X11 hx (pc' := 148) rfl (hb hby at_146) rfl ?_
          refine Good.ifNo X11 hx (pc' := 151) rfl (hb hby at_148) rfl ?_
          refine Good.iconst X11 hx (pc' := 152) (w := (1 : Int32)) rfl (hb hby at_151) rfl ?_
          refine Good.goto X11 hx (pc' := 156) (by decide) (hb hby at_152) ?_
          refine Good.icmpNo X11 hx (pc' := 159) rfl (hb hby at_156) rfl ?_
          refine Good.iconst X11 hx (pc' := 160) (w := (1 : Int32)) rfl (hb hby at_159) rfl ?_
          refine Good.goto X11 hx (pc' := 164) (by decide) (hb hby at_160) ?_
          exact Good.retZ X11 hx hlk hret (hb hby at_164) (Or.inr rfl) (hG _ _ _ _ _ (⟨rfl, Fr.app N_10 (Fr.nil n0)⟩) (by decide) (by decide))
        · have p2 : pos (FP.i2d (c').toInt8.toInt32) = true := by rw [pos_le] at hc2; simpa using hc2
          refine Good.iconst X10 hx (pc' := 135) (w := (1 : Int32)) rfl (hb hby at_134) rfl ?_
          refine Good.goto X10 hx (pc' := 139) (by decide) (hb hby at_135) ?_
          refine Good.istore X10 hx (pc' := 141) (Ls' := #[.val (.int n), .val (.int a), .val (.int b), .val (.int c'), .val (.int (3 : Int32)), .val (.double (FP.i2d (a).toInt8.toInt32)), .second, .val (.double (FP.i2d (b).toInt8.toInt32)), .second, .val (.double (FP.i2d (c').toInt8.toInt32)), .second, .val (.ref b1), .val (.ref b2), .val (.ref b9), .val (.int (1 : Int32))]) rfl (hb hby at_139) rfl ?_
          refine Good.aload X10 hx (pc' := 143) rfl (hb hby at_141) rfl rfl ?_
          have q : anyP (updD (updD (updD (fun _ => 0) (0) (FP.i2d (a).toInt8.toInt32)) (1) (FP.i2d (b).toInt8.toInt32)) (2) (FP.i2d (c').toInt8.toInt32)) 3 0 = true := by simp only [anyP, updD]; try simp [p0, p1, p2]
          refine Good.callV X10 hx hZ (y := ⟨"com/example/vor/vor/ranking/QueryVector", "isEmpty", "()Z"⟩) hown (hw _ (List.mem_of_getElem? (i := 17) rfl)) (hw _ (List.mem_of_getElem? (i := 18) rfl)) (hw _ (List.mem_of_getElem? (i := 20) rfl)) (hw _ (List.mem_of_getElem? (i := 19) rfl)) (hw _ (List.mem_of_getElem? (i := 4) rfl)) (hw _ (List.mem_of_getElem? (i := 21) rfl)) (by decide) rfl Eq (argsL := []) (rest := []) (c_isEmpty l Z a0 hw b9 b1 3 (by decide) (updD (updD (updD (fun _ => 0) (0) (FP.i2d (a).toInt8.toInt32)) (1) (FP.i2d (b).toInt8.toInt32)) (2) (FP.i2d (c').toInt8.toInt32)) T10.heap Fq DA_b1_10) (hdesc := pd_1) rfl (pc' := 146) rfl (by rw [hml]; rfl) rfl (hb hby at_143) (W := 0) (Nat.le_of_eq rfl) (by decide) (by decide) (by decide) (by decide) fun v11 T11 L11 X11 Q11 => ?_
          obtain ⟨rfl, hh, rfl⟩ := Q11
          rw [q]
          refine Good.iload X11 hx (pc' := 148) rfl (hb hby at_146) rfl ?_
          refine Good.ifYes X11 hx (pc' := 155) (by decide) (hb hby at_148) rfl ?_
          refine Good.iconst X11 hx (pc' := 156) (w := (0 : Int32)) rfl (hb hby at_155) rfl ?_
          refine Good.icmpNo X11 hx (pc' := 159) rfl (hb hby at_156) rfl ?_
          refine Good.iconst X11 hx (pc' := 160) (w := (1 : Int32)) rfl (hb hby at_159) rfl ?_
          refine Good.goto X11 hx (pc' := 164) (by decide) (hb hby at_160) ?_
          exact Good.retZ X11 hx hlk hret (hb hby at_164) (Or.inr rfl) (hG _ _ _ _ _ (⟨rfl, Fr.app N_10 (Fr.nil n0)⟩) (by decide) (by decide))
set_option maxRecDepth 65536 in
set_option maxHeartbeats 40000000 in
theorem comes_1 {Post : Tables → Env → Array Value → State → Outcome → State → Prop} (hpost : ∀ tb e args s v u, (limb_1_1.after args s (.returned v) u = true ∧ limb_1_2.after args s (.returned v) u = true ∧ True) → FrameEnd s (.returned v) u (Jvm.fieldLocs frame_1_writes args s ++ Jvm.arrayLocs frame_1_arrays args s ++ Jvm.staticLocs frame_1_statics s) 16 128 → Post tb e args s (.returned v) u) :
    ArmFor flags0 classFile x code maxLocals ret World_1 tables_1 room_1 Calls_1 rest_1 Pre_1 Post := by
  intro l hfl _ _ p e ha hc hk s m args below hf hA hF happ hP
  obtain ⟨hcalls, hrest, hpre⟩ := hP
  obtain ⟨-, -, -, hnamed, -, -, -, hat⟩ := (Spec.applies_iff hf).mp happ
  obtain ⟨hg, hn⟩ := and_e (Cond.before_iff.mp (show (Jvm.Cond.and given_1 narrow_1).before args s = true from hpre))
  obtain ⟨w0, w1, w2, w3, rfl⟩ : ∃ w0 w1 w2 w3 : Value, args = #[w0, w1, w2, w3] := by
    have hs : args.size = 4 := by
      obtain ⟨q, -⟩ := and_e hg
      simpa [Cond.value, given_1] using q
    obtain ⟨L⟩ := args
    match L, hs with
    | [w0, w1, w2, w3], _ => exact ⟨w0, w1, w2, w3, rfl⟩
  have hw := fun d (hd : d ∈ tables_1) => atoms_spec (ws := Jvm.Cond.code x code maxLocals ret :: tables_1) hat d (List.mem_cons_of_mem _ hd)
  obtain ⟨-, hg0⟩ := and_e hg
  obtain ⟨gi0, hg1⟩ := and_e hg0
  obtain ⟨i0, ei0⟩ := is_v gi0
  obtain rfl : w0 = (.int i0) := Option.some.inj ei0
  obtain ⟨gi1, hg2⟩ := and_e hg1
  obtain ⟨i1, ei1⟩ := is_v gi1
  obtain rfl : w1 = (.int i1) := Option.some.inj ei1
  obtain ⟨gi2, hg3⟩ := and_e hg2
  obtain ⟨i2, ei2⟩ := is_v gi2
  obtain rfl : w2 = (.int i2) := Option.some.inj ei2
  obtain ⟨i3, ei3⟩ := is_v hg3
  obtain rfl : w3 = (.int i3) := Option.some.inj ei3
  have K := c_law l s _ hw i0 i1 i2 i3 s.heap s.heap.size (Nat.le_refl _)
  obtain ⟨n, o, h1, h2, h3, _, L, rfl, ⟨rfl, N⟩, hq⟩ := K tables_1 p e ha hc hk s m _ below hf ((Spec.applies_iff_loose hf).mp happ).1 ⟨rfl, State.Warmed39.refl s, rfl⟩ trivial
  refine ⟨n, _, h1, h2, h3, hpost _ _ _ _ _ _ ⟨Cond.after_iff.mpr rfl, Cond.after_iff.mpr (eq_i res_at (Term.int_eval (1)) rfl), trivial⟩ ⟨hq.1, hq.2.1, (hq.2.2.sift fun y hy => Or.inr (N y hy)).mono (by decide) (by decide)⟩⟩
theorem main_1_1 : Claimed_1_1 := comes_1 fun _ _ _ _ _ _ h hF => ⟨h.1, hF⟩
theorem main_1_2 : Claimed_1_2 := comes_1 fun _ _ _ _ _ _ h hF => ⟨h.2.1, hF⟩
end Jvm.Pilot.@@N@@
namespace Jvm.Pilot.@@N@@
open Jvm Jvm.ClassFile Sem Op Lib Jvm.Free Jvm.Stand Jvm.Pilot.@@N@@.Jvm.D
/-! MADE BY PROGRAM (witnessworld.py) out of the Statement's table words and the real class files: 11 classes; the members and pool entries that the words name. The judged class is class 1, her method 1. -/
namespace start1
open Jvm.ClassFile
def u (s : String) : CpInfo := .utf8 (stringToUtf16 s)
/-- a pool by its gaps: so many unusable entries, then the entry; so many at the end -/
def gap : Nat → List CpInfo → List CpInfo
  | 0, r => r
  | n + 1, r => .unusable :: gap n r
def poolList (es : List (Nat × CpInfo)) (last : Nat) : List CpInfo := es.foldr (fun e r => gap e.1 (e.2 :: r)) (gap last [])
def pool (es : List (Nat × CpInfo)) (last : Nat) : Array CpInfo := ⟨poolList es last⟩
def fileOf (pool : Array CpInfo) (this : Nat) (attrs : Array Attribute := #[]) (ms : Array MethodInfo := #[]) (fl : Nat := 33) (sup : Nat := 0) (ifs : Array Nat := #[]) (fds : Array FieldInfo := #[]) : ClassFile where
  minorVersion := 0
  majorVersion := 65
  constantPool := pool
  accessFlags := fl
  thisClass := this
  superClass := sup
  interfaces := ifs
  fields := fds
  methods := ms
  attributes := attrs
def plain (name : String) (sup : Option ClassId) : Class where
  name := name
  kind := .ordinary
  loader := none
  accessFlags := 33
  super := sup
  interfaces := #[]
  cf := none
  fields := #[]
  methods := #[]
  instanceTypes := #[]
  staticTypes := #[]
  resolved := #[]
  callSites := []
  init := .initialized
  statics := none
  mirror := none

def pool0 : Array CpInfo := pool [(5, u "<init>"), (0, u "()V"), (1, .class_ 10), (1, u "java/lang/Object")] 113

def k0c0 : Code := { maxStack := 0, maxLocals := 1, code := object_method_1_code, exceptionTable := #[], attributes := #[] }
def k0m0 : Method := { name := "<init>", desc := "()V", sig := { parameters := [], returnType := none }, accessFlags := 1, code := some k0c0 }
/-- java/lang/Object -/
def k0 : Class := { plain "java/lang/Object" none with
  accessFlags := 33
  interfaces := #[]
  cf := some (fileOf pool0 8 #[] #[{ accessFlags := 1, nameIndex := 5, descriptorIndex := 6, attributes := #[] }] 33 0 #[] #[])
  fields := #[]
  methods := #[k0m0]
  instanceTypes := #[]
  staticTypes := #[]
  resolved := Array.replicate 124 none
  statics := none }

def pool1 : Array CpInfo := pool [(2, .class_ 4), (1, u "java/lang/Object"), (0, u "<init>"), (0, u "()V"), (0, .class_ 8), (0, u "com/example/vor/vor/ranking/QueryVector"), (0, .methodref 7 10), (0, .nameAndType 5 11), (0, u "([I[DD)V"), (0, .methodref 7 13), (0, .nameAndType 14 15), (0, u "isEmpty"), (0, u "()Z"), (0, .class_ 17), (0, u "com/example/vor/vor/ranking/QueryVectorIsEmptyPinLaw"), (2, u "law"), (0, u "(IIII)Z")] 7

def k1m0 : Method := { name := "<init>", desc := "()V", sig := { parameters := [], returnType := none }, accessFlags := 1, code := none }
def k1c1 : Code := { maxStack := 6, maxLocals := 15, code := code, exceptionTable := #[], attributes := #[] }
def k1m1 : Method := { name := "law", desc := "(IIII)Z", sig := { parameters := [.int, .int, .int, .int], returnType := some .boolean }, accessFlags := 9, code := some k1c1 }
/-- com/example/vor/vor/ranking/QueryVectorIsEmptyPinLaw -/
def k1 : Class := { plain "com/example/vor/vor/ranking/QueryVectorIsEmptyPinLaw" (some 0) with
  accessFlags := 49
  interfaces := #[]
  cf := some (fileOf pool1 16 #[] #[{ accessFlags := 1, nameIndex := 5, descriptorIndex := 6, attributes := #[] }, { accessFlags := 9, nameIndex := 20, descriptorIndex := 21, attributes := #[] }] 49 2 #[] #[])
  fields := #[]
  methods := #[k1m0, k1m1]
  instanceTypes := #[]
  staticTypes := #[]
  resolved := Array.replicate 29 none
  statics := none }

def pool2 : Array CpInfo := pool [(1, .methodref 2 3), (0, .class_ 4), (0, .nameAndType 5 6), (0, u "java/lang/Object"), (0, u "<init>"), (0, u "()V"), (0, .fieldref 8 9), (0, .class_ 10), (0, .nameAndType 11 12), (0, u "com/example/vor/vor/ranking/QueryVector"), (0, u "terms"), (0, u "[I"), (0, .fieldref 8 14), (0, .nameAndType 15 16), (0, u "weights"), (0, u "[D"), (0, .fieldref 8 18), (0, .nameAndType 19 20), (0, u "normaliser"), (0, u "D"), (6, u "([I[DD)V"), (2, u "isEmpty"), (0, u "()Z")] 9

def k2c0 : Code := { maxStack := 3, maxLocals := 5, code := prog_54_method_1_code, exceptionTable := #[], attributes := #[] }
def k2m0 : Method := { name := "<init>", desc := "([I[DD)V", sig := { parameters := [(.array .int), (.array .double), .double], returnType := none }, accessFlags := 0, code := some k2c0 }
def k2c1 : Code := { maxStack := 4, maxLocals := 6, code := prog_54_method_2_code, exceptionTable := #[], attributes := #[] }
def k2m1 : Method := { name := "isEmpty", desc := "()Z", sig := { parameters := [], returnType := some .boolean }, accessFlags := 1, code := some k2c1 }
/-- com/example/vor/vor/ranking/QueryVector -/
def k2 : Class := { plain "com/example/vor/vor/ranking/QueryVector" (some 0) with
  accessFlags := 33
  interfaces := #[]
  cf := some (fileOf pool2 8 #[] #[{ accessFlags := 0, nameIndex := 5, descriptorIndex := 27, attributes := #[] }, { accessFlags := 1, nameIndex := 30, descriptorIndex := 31, attributes := #[] }] 33 2 #[] #[{ accessFlags := 18, nameIndex := 11, descriptorIndex := 12, attributes := #[] }, { accessFlags := 18, nameIndex := 15, descriptorIndex := 16, attributes := #[] }, { accessFlags := 18, nameIndex := 19, descriptorIndex := 20, attributes := #[] }])
  fields := #[{ name := "terms", type := (.array .int), accessFlags := 18, slot := 0, constantValue := 0 }, { name := "weights", type := (.array .double), accessFlags := 18, slot := 1, constantValue := 0 }, { name := "normaliser", type := .double, accessFlags := 18, slot := 2, constantValue := 0 }]
  methods := #[k2m0, k2m1]
  instanceTypes := #[(.array .int), (.array .double), .double]
  staticTypes := #[]
  resolved := Array.replicate 41 none
  statics := none }

def pool3 : Array CpInfo := pool [(1, u "java/lang/Cloneable"), (0, .class_ 1), (0, u "java/lang/Object"), (0, .class_ 3)] 3

/-- java/lang/Cloneable -/
def k3 : Class := { plain "java/lang/Cloneable" (some 0) with
  accessFlags := 1537
  interfaces := #[]
  cf := some (fileOf pool3 2 #[] #[] 1537 4 #[] #[])
  fields := #[]
  methods := #[]
  instanceTypes := #[]
  staticTypes := #[]
  resolved := Array.replicate 8 none
  statics := none }

def pool4 : Array CpInfo := pool [(1, u "java/io/Serializable"), (0, .class_ 1), (0, u "java/lang/Object"), (0, .class_ 3)] 3

/-- java/io/Serializable -/
def k4 : Class := { plain "java/io/Serializable" (some 0) with
  accessFlags := 1537
  interfaces := #[]
  cf := some (fileOf pool4 2 #[] #[] 1537 4 #[] #[])
  fields := #[]
  methods := #[]
  instanceTypes := #[]
  staticTypes := #[]
  resolved := Array.replicate 8 none
  statics := none }

/-- the primitive byte -/
def k5 : Class := { plain "byte" none with kind := .primitive 'B', accessFlags := 0x411 }
/-- [B -/
def k6 : Class := { plain "[B" (some 0) with kind := .array 5 .byte, interfaces := #[3, 4], accessFlags := 1041 }

/-- the primitive double -/
def k7 : Class := { plain "double" none with kind := .primitive 'D', accessFlags := 0x411 }
/-- [D -/
def k8 : Class := { plain "[D" (some 0) with kind := .array 7 .double, interfaces := #[3, 4], accessFlags := 1041 }

/-- the primitive int -/
def k9 : Class := { plain "int" none with kind := .primitive 'I', accessFlags := 0x411 }
/-- [I -/
def k10 : Class := { plain "[I" (some 0) with kind := .array 9 .int, interfaces := #[3, 4], accessFlags := 1041 }

def heap : Heap := #[]
def classes : Array Class := #[k0, k1, k2, k3, k4, k5, k6, k7, k8, k9, k10]
def interned : List (Array UInt16 × Addr) := []
def slotsUsed : Nat := 0
def theMethod : MethodId := ⟨1, 1⟩
def args0 : Array Value := #[.int 2, .int 5, .int 7, .int 9]
def aboutOver (below : List Frame) : State where
  vm := { classes := classes, interned := interned.toArray }
  heap := heap
  slotsUsed := slotsUsed
  threads := #[{ frames := .invoking theMethod args0 :: below }]
def below0 : List Frame := [.native { method := ⟨0, 0⟩, args := #[] }]
def about1 : State := aboutOver below0
def p0 : Program := .bare "" "" ""
def e0 : Env := launch0.env 0 0 0
theorem w_frames : about1.frames = Frame.invoking theMethod args0 :: below0 := rfl
set_option maxRecDepth 65536 in
theorem w_args : argsFit about1.vm theMethod args0 = true := by decide +kernel
set_option maxRecDepth 65536 in
theorem w_heap : heapFits about1 = true := by decide +kernel
set_option maxRecDepth 65536 in
theorem w_runnable : about1.curStatus? = some .runnable := by decide +kernel
set_option maxRecDepth 65536 in
theorem w_alone : about1.alone = true := by decide +kernel
set_option maxRecDepth 65536 in
theorem w_named : about1.methodNamed? x = some theMethod := by decide +kernel
set_option maxRecDepth 65536 in
theorem w_hears : about1.hears theMethod below0 = true := by decide +kernel
set_option maxRecDepth 65536 in
theorem w_ripe : about1.ripe theMethod args0 below0 = true := by decide +kernel
theorem w_running : about1.status = .running := rfl
set_option maxRecDepth 65536 in
theorem w_room : about1.hasRoom e0.platform room_1 = true :=
  launch0.hasRoom_least _ room_1 (by decide +kernel) (by decide +kernel) (by decide +kernel) (by decide +kernel) (by decide +kernel) (by decide +kernel)
theorem allAtoms_all (ts : List Jvm.Cond) (a : Array Jvm.Value) (st : Jvm.State) : (allAtoms ts).before a st = ts.all (fun c => c.before a st) := by
  induction ts with
  | nil => rfl
  | cons c t ih =>
    show (Jvm.Cond.and c (allAtoms t)).before a st = _
    rw [Jvm.Cond.before_and, ih, List.all_cons]
def words1 : List Jvm.Cond := Jvm.Cond.code x code maxLocals ret :: tables_1
/-- a 'code' word, met by the world's own term for the bytes: nothing is compared byte by byte -/
theorem code_word {y : MethodName} {bytes : ByteArray} {mx : Nat} {rt : Option FieldType} {a : Array Value} {s : State} {m : MethodId} {meth : Method} {c : Code} (h1 : s.methodNamed? y = some m) (h2 : s.vm.method? m = some meth) (h3 : meth.code = some c) (h4 : c.code = bytes)
    (h5 : (c.maxLocals == mx && c.exceptionTable.isEmpty && decide (c.maxStack ≤ mostOperands) && decide (meth.sig.returnType = rt) && !meth.locks && decide (parseMethodDescriptor y.desc = some meth.sig)) = true) : (Jvm.Cond.code y bytes mx rt).before a s = true := by
  simp only [Bool.and_eq_true, beq_iff_eq, Bool.not_eq_true', decide_eq_true_eq] at h5
  obtain ⟨⟨⟨⟨⟨g1, g2⟩, g3⟩, g4⟩, g5⟩, g6⟩ := h5
  simp [Cond.before, Cond.holds, Cond.value, h1, h2, h3, h4, g1, g2, g3, g4, g5, g6]
def isCode : Jvm.Cond → Bool
  | .code _ _ _ _ => true
  | _ => false
theorem all_split {L : List Jvm.Cond} {P : Jvm.Cond → Bool} (h1 : L.all (fun c => isCode c || P c) = true) (h2 : ∀ c ∈ L.filter isCode, P c = true) : L.all P = true := by
  refine List.all_eq_true.mpr fun c hc => ?_
  have h := List.all_eq_true.mp h1 c hc
  rcases Bool.eq_false_or_eq_true (isCode c) with hi | hi
  · exact h2 c (List.mem_filter.mpr ⟨hc, hi⟩)
  · simpa [hi] using h
set_option maxRecDepth 65536 in
theorem w_c0 : (Jvm.Cond.code x code maxLocals ret).before args0 about1 = true := code_word (m := ⟨1, 1⟩) (meth := k1m1) (c := k1c1) (by decide +kernel) rfl rfl rfl (by decide +kernel)
set_option maxRecDepth 65536 in
theorem w_c1 : (Jvm.Cond.code ({ cls := "com/example/vor/vor/ranking/QueryVector", name := "<init>", desc := "([I[DD)V" } : Jvm.MethodName) prog_54_method_1_code (5 : Nat) (Option.none : Option Jvm.ClassFile.FieldType)).before args0 about1 = true := code_word (m := ⟨2, 0⟩) (meth := k2m0) (c := k2c0) (by decide +kernel) rfl rfl rfl (by decide +kernel)
set_option maxRecDepth 65536 in
theorem w_c2 : (Jvm.Cond.code ({ cls := "java/lang/Object", name := "<init>", desc := "()V" } : Jvm.MethodName) object_method_1_code (1 : Nat) (Option.none : Option Jvm.ClassFile.FieldType)).before args0 about1 = true := code_word (m := ⟨0, 0⟩) (meth := k0m0) (c := k0c0) (by decide +kernel) rfl rfl rfl (by decide +kernel)
set_option maxRecDepth 65536 in
theorem w_c3 : (Jvm.Cond.code ({ cls := "com/example/vor/vor/ranking/QueryVector", name := "isEmpty", desc := "()Z" } : Jvm.MethodName) prog_54_method_2_code (6 : Nat) (Option.some Jvm.ClassFile.FieldType.boolean)).before args0 about1 = true := code_word (m := ⟨2, 1⟩) (meth := k2m1) (c := k2c1) (by decide +kernel) rfl rfl rfl (by decide +kernel)
def codes1 : List Jvm.Cond := [Jvm.Cond.code x code maxLocals ret, Jvm.Cond.code ({ cls := "com/example/vor/vor/ranking/QueryVector", name := "<init>", desc := "([I[DD)V" } : Jvm.MethodName) prog_54_method_1_code (5 : Nat) (Option.none : Option Jvm.ClassFile.FieldType), Jvm.Cond.code ({ cls := "java/lang/Object", name := "<init>", desc := "()V" } : Jvm.MethodName) object_method_1_code (1 : Nat) (Option.none : Option Jvm.ClassFile.FieldType), Jvm.Cond.code ({ cls := "com/example/vor/vor/ranking/QueryVector", name := "isEmpty", desc := "()Z" } : Jvm.MethodName) prog_54_method_2_code (6 : Nat) (Option.some Jvm.ClassFile.FieldType.boolean)]
set_option maxRecDepth 65536 in
theorem codes_eq : words1.filter isCode = codes1 := rfl
theorem w_codes : ∀ c ∈ words1.filter isCode, c.before args0 about1 = true := by
  rw [codes_eq]
  intro c hc
  simp only [codes1, List.mem_cons, List.not_mem_nil, or_false] at hc
  rcases hc with rfl | rfl | rfl | rfl
  · exact w_c0
  · exact w_c1
  · exact w_c2
  · exact w_c3
set_option maxRecDepth 65536 in
theorem w_t1 : words1.all (fun c => isCode c || c.before args0 about1) = true := by decide +kernel
theorem w_tables : (allAtoms (Jvm.Cond.code x code maxLocals ret :: tables_1)).before args0 about1 = true := by
  rw [allAtoms_all]
  show words1.all (fun c => c.before args0 about1) = true
  refine all_split ?_ w_codes
  rw [w_t1]
set_option maxRecDepth 65536 in
theorem w_case : (Jvm.Cond.and given_1 narrow_1).before args0 about1 = true := by decide +kernel
theorem w_applies : (headSpec (Jvm.Cond.code x code maxLocals ret :: tables_1) room_1).applies x e0.platform about1 = true :=
  (Spec.applies_iff w_frames).mpr ⟨w_running, w_runnable, w_alone, w_named, w_hears, w_ripe, w_room, w_tables⟩
theorem atStart : AtStart classFile x code maxLocals ret World_1 tables_1 room_1 Calls_1 rest_1 Pre_1 launch0 p0 e0 about1 theMethod args0 below0 :=
  ⟨lists_1, trivial, launch0.admits_env _ _ _, launch0.least_env, fairChoices_fair.cas, fairChoices_fair.clock, w_frames, w_args, w_heap, w_applies, trivial, trivial, w_case⟩
end start1
theorem witness_1 : WitnessClaimed_1 := ⟨start1.p0, start1.e0, start1.about1, start1.theMethod, start1.args0, start1.below0, start1.atStart⟩
end Jvm.Pilot.@@N@@
