import JvmDerived
import JvmDerived.Pilot.@@N@@Statement
import JvmDerived.Pilot.@@N@@Code
set_option linter.unusedVariables false
set_option linter.unusedSimpArgs false
namespace Jvm.OwnG
open Sem ClassFile Op Lib Jvm.Stand Jvm.Free Jvm.LawKit Jvm.RoadKit
/-- from here the run comes to an end at which P holds -/
def Gd (p : Program) (e : Env) (below : List Frame) (P : State → Prop) (T : State) (g : JFrame) : Prop := ∃ t, Steps p.tables e below (T.setTop g) t ∧ P t
/-- an instruction of the code, and the pc behind it -/
def Ins1 (code : ByteArray) (pc : Nat) (i : Instr) (n pn : Nat) : Prop := decode code pc = .ok (i, n) ∧ pc + n = pn
/-- a branch: the pc behind it, the pc it goes to -/
def InsB (code : ByteArray) (pc : Nat) (i : Instr) (o : Int) (pn pt : Nat) : Prop := decode code pc = .ok (i, 3) ∧ pc + 3 = pn ∧ 0 ≤ (pc : Int) + o ∧ ((pc : Int) + o).toNat = pt
/-- what the end of a walk says -/
def Fin1 (s : State) (below : List Frame) (cells slots : Nat) (Q : Option Value → Heap → List Loc → Prop) (t : State) : Prop := ∃ o, t.status = .running ∧ Ended t below o ∧ ∃ v L, o = .returned v ∧ Q v t.heap L ∧ FrameEnd s o t L cells slots
/-- a method's contract at the arguments as', the heap h -/
def Met1 (l : Launch) (y : MethodName) (bytes : ByteArray) (maxL : Nat) (ret : Option FieldType) (ws : List Jvm.Cond) (rm : Room) (as' : Array Value) (Z : State) (h : Heap) (Q : Option Value → Heap → List Loc → Prop) : Prop :=
  MetFree l y (head1 (Jvm.Cond.code y bytes maxL ret :: ws) rm) (fun a U => a = as' ∧ Z.Warmed39 U.vm ∧ U.heap = h) (fun _ _ _ _ _ => True) (fun _ U o U' => ∃ v L, o = .returned v ∧ Q v U'.heap L ∧ FrameEnd U o U' L rm.cells rm.slots)
def RV (Q : Value → Heap → List Loc → Prop) (v : Option Value) (h : Heap) (L : List Loc) : Prop := ∃ z, v = some z ∧ Q z h L
def RN (Q : Heap → List Loc → Prop) (v : Option Value) (h : Heap) (L : List Loc) : Prop := v = none ∧ Q h L
section K
variable {p : Program} {l : Launch} {e : Env} {R : Room} {s : State} {m : MethodId} {args : Array Value} {below : List Frame} {meth : Method} {c : Code} {T : State} {locs : List Loc} {cells slots : Nat} {Z : State} {a0 : Array Value} {h : Heap} {P : State → Prop} {code : ByteArray} {pc pn pt : Nat} {Ls : Array Slot} {st : List Value}
theorem Gd.of {T' : State} {g g' : JFrame} (k : ∀ t, Steps p.tables e below (T'.setTop g') t → Steps p.tables e below (T.setTop g) t) (q : Gd p e below P T' g') : Gd p e below P T g := q.imp fun t r => ⟨k t r.1, r.2⟩
theorem Gd.cast {g g' : JFrame} (q : g = g') (k : Gd p e below P T g') : Gd p e below P T g := q ▸ k
theorem met_of {y : MethodName} {maxL : Nat} {ret : Option FieldType} {ws : List Jvm.Cond} {rm : Room} {as' : Array Value} {Q : Option Value → Heap → List Loc → Prop} (hp : plainFor y = true)
    (body : ∀ (p : Program) (e : Env) (s : State) (m : MethodId) (below : List Frame) (meth : Method) (c : Code) (T : State), Stand p l e rm s m as' below meth c T [] 0 0 → p.tables.exec = Jvm.exec → c.code = code → c.maxLocals = maxL → Z.Warmed39 s.vm → s.vm.findClass y.cls = some m.cls → meth.name = y.name → meth.sig.returnType = ret → meth.locks = false → T.heap = h → s.heap = h →
      Gd p e below (Fin1 s below rm.cells rm.slots Q) T (entryFrame m as' maxL)) : Met1 l y code maxL ret ws rm as' Z h Q := by
  refine MetFree.of_bodySF hp hisR ?_
  intro p e s m args below meth c s₁ Bd hml0 hP hK
  obtain ⟨rfl, hZ, hh⟩ := hP
  obtain ⟨t, h1, o, h2, h3, h4⟩ := body p e s m below meth c s₁ (Stand.of_body Bd) Bd.exec Bd.bytes hml0 hZ (findClass_of_methodNamed Bd.named) (name_of_methodNamed Bd.named Bd.method).1 Bd.returns Bd.notSynchronized (by rw [← hh, Bd.state]; rfl) hh
  exact ⟨t, o, h1, h2, h3, h4⟩
theorem g_iloadN (X : Stand p l e R s m args below meth c T locs cells slots) (hx : p.tables.exec = Jvm.exec) (hby : c.code = code) {k : Fin 4} {v : Int32} (hd : Ins1 code pc (.iload_n k) 1 pn) (hl : Ls[k.val]? = some (.val (.int v))) (k : Gd p e below P T (mkF m pn Ls (.int v :: st))) : Gd p e below P T (mkF m pc Ls (st)) := by
  obtain ⟨hd, rfl⟩ := hd
  exact k.imp fun t q => ⟨XS.iloadN X.here hx rfl (hb hby hd) hl q.1, q.2⟩
theorem g_iload (X : Stand p l e R s m args below meth c T locs cells slots) (hx : p.tables.exec = Jvm.exec) (hby : c.code = code) {k : Nat} {v : Int32} (hd : Ins1 code pc (.iload k) 2 pn) (hl : Ls[k]? = some (.val (.int v))) (k : Gd p e below P T (mkF m pn Ls (.int v :: st))) : Gd p e below P T (mkF m pc Ls (st)) := by
  obtain ⟨hd, rfl⟩ := hd
  exact k.imp fun t q => ⟨XS.iload X.here hx rfl (hb hby hd) hl q.1, q.2⟩
theorem g_istoreN (X : Stand p l e R s m args below meth c T locs cells slots) (hx : p.tables.exec = Jvm.exec) (hby : c.code = code) {k : Fin 4} {v : Int32} {l' : Array Slot} (hd : Ins1 code pc (.istore_n k) 1 pn) (hl : storeLocals Ls k.val (.int v) = some l') (k : Gd p e below P T (mkF m pn l' (st))) : Gd p e below P T (mkF m pc Ls (.int v :: st)) := by
  obtain ⟨hd, rfl⟩ := hd
  exact k.imp fun t q => ⟨XS.istoreN X.here hx rfl (hb hby hd) rfl hl q.1, q.2⟩
theorem g_istore (X : Stand p l e R s m args below meth c T locs cells slots) (hx : p.tables.exec = Jvm.exec) (hby : c.code = code) {k : Nat} {v : Int32} {l' : Array Slot} (hd : Ins1 code pc (.istore k) 2 pn) (hl : storeLocals Ls k (.int v) = some l') (k : Gd p e below P T (mkF m pn l' (st))) : Gd p e below P T (mkF m pc Ls (.int v :: st)) := by
  obtain ⟨hd, rfl⟩ := hd
  exact k.imp fun t q => ⟨XS.istore X.here hx rfl (hb hby hd) rfl hl q.1, q.2⟩
theorem g_lloadN (X : Stand p l e R s m args below meth c T locs cells slots) (hx : p.tables.exec = Jvm.exec) (hby : c.code = code) {k : Fin 4} {v : Int64} (hd : Ins1 code pc (.lload_n k) 1 pn) (hl : Ls[k.val]? = some (.val (.long v))) (k : Gd p e below P T (mkF m pn Ls (.long v :: st))) : Gd p e below P T (mkF m pc Ls (st)) := by
  obtain ⟨hd, rfl⟩ := hd
  exact k.imp fun t q => ⟨XS.lloadN X.here hx rfl (hb hby hd) hl q.1, q.2⟩
theorem g_lload (X : Stand p l e R s m args below meth c T locs cells slots) (hx : p.tables.exec = Jvm.exec) (hby : c.code = code) {k : Nat} {v : Int64} (hd : Ins1 code pc (.lload k) 2 pn) (hl : Ls[k]? = some (.val (.long v))) (k : Gd p e below P T (mkF m pn Ls (.long v :: st))) : Gd p e below P T (mkF m pc Ls (st)) := by
  obtain ⟨hd, rfl⟩ := hd
  exact k.imp fun t q => ⟨XS.lload X.here hx rfl (hb hby hd) hl q.1, q.2⟩
theorem g_lstoreN (X : Stand p l e R s m args below meth c T locs cells slots) (hx : p.tables.exec = Jvm.exec) (hby : c.code = code) {k : Fin 4} {v : Int64} {l' : Array Slot} (hd : Ins1 code pc (.lstore_n k) 1 pn) (hl : storeLocals Ls k.val (.long v) = some l') (k : Gd p e below P T (mkF m pn l' (st))) : Gd p e below P T (mkF m pc Ls (.long v :: st)) := by
  obtain ⟨hd, rfl⟩ := hd
  exact k.imp fun t q => ⟨XS.lstoreN X.here hx rfl (hb hby hd) rfl hl q.1, q.2⟩
theorem g_lstore (X : Stand p l e R s m args below meth c T locs cells slots) (hx : p.tables.exec = Jvm.exec) (hby : c.code = code) {k : Nat} {v : Int64} {l' : Array Slot} (hd : Ins1 code pc (.lstore k) 2 pn) (hl : storeLocals Ls k (.long v) = some l') (k : Gd p e below P T (mkF m pn l' (st))) : Gd p e below P T (mkF m pc Ls (.long v :: st)) := by
  obtain ⟨hd, rfl⟩ := hd
  exact k.imp fun t q => ⟨XS.lstore X.here hx rfl (hb hby hd) rfl hl q.1, q.2⟩
theorem g_dloadN (X : Stand p l e R s m args below meth c T locs cells slots) (hx : p.tables.exec = Jvm.exec) (hby : c.code = code) {k : Fin 4} {v : UInt64} (hd : Ins1 code pc (.dload_n k) 1 pn) (hl : Ls[k.val]? = some (.val (.double v))) (k : Gd p e below P T (mkF m pn Ls (.double v :: st))) : Gd p e below P T (mkF m pc Ls (st)) := by
  obtain ⟨hd, rfl⟩ := hd
  exact k.imp fun t q => ⟨XS.dloadN X.here hx rfl (hb hby hd) hl q.1, q.2⟩
theorem g_dload (X : Stand p l e R s m args below meth c T locs cells slots) (hx : p.tables.exec = Jvm.exec) (hby : c.code = code) {k : Nat} {v : UInt64} (hd : Ins1 code pc (.dload k) 2 pn) (hl : Ls[k]? = some (.val (.double v))) (k : Gd p e below P T (mkF m pn Ls (.double v :: st))) : Gd p e below P T (mkF m pc Ls (st)) := by
  obtain ⟨hd, rfl⟩ := hd
  exact k.imp fun t q => ⟨XS.dload X.here hx rfl (hb hby hd) hl q.1, q.2⟩
theorem g_dstoreN (X : Stand p l e R s m args below meth c T locs cells slots) (hx : p.tables.exec = Jvm.exec) (hby : c.code = code) {k : Fin 4} {v : UInt64} {l' : Array Slot} (hd : Ins1 code pc (.dstore_n k) 1 pn) (hl : storeLocals Ls k.val (.double v) = some l') (k : Gd p e below P T (mkF m pn l' (st))) : Gd p e below P T (mkF m pc Ls (.double v :: st)) := by
  obtain ⟨hd, rfl⟩ := hd
  exact k.imp fun t q => ⟨XS.dstoreN X.here hx rfl (hb hby hd) rfl hl q.1, q.2⟩
theorem g_dstore (X : Stand p l e R s m args below meth c T locs cells slots) (hx : p.tables.exec = Jvm.exec) (hby : c.code = code) {k : Nat} {v : UInt64} {l' : Array Slot} (hd : Ins1 code pc (.dstore k) 2 pn) (hl : storeLocals Ls k (.double v) = some l') (k : Gd p e below P T (mkF m pn l' (st))) : Gd p e below P T (mkF m pc Ls (.double v :: st)) := by
  obtain ⟨hd, rfl⟩ := hd
  exact k.imp fun t q => ⟨XS.dstore X.here hx rfl (hb hby hd) rfl hl q.1, q.2⟩
theorem g_aloadN (X : Stand p l e R s m args below meth c T locs cells slots) (hx : p.tables.exec = Jvm.exec) (hby : c.code = code) {k : Fin 4} {v : Value} (hd : Ins1 code pc (.aload_n k) 1 pn) (hl : Ls[k.val]? = some (.val v)) (hv : v.isRef = true) (k : Gd p e below P T (mkF m pn Ls (v :: st))) : Gd p e below P T (mkF m pc Ls (st)) := by
  obtain ⟨hd, rfl⟩ := hd
  exact k.imp fun t q => ⟨XS.aloadN X.here hx rfl (hb hby hd) hl hv q.1, q.2⟩
theorem g_aload (X : Stand p l e R s m args below meth c T locs cells slots) (hx : p.tables.exec = Jvm.exec) (hby : c.code = code) {k : Nat} {v : Value} (hd : Ins1 code pc (.aload k) 2 pn) (hl : Ls[k]? = some (.val v)) (hv : v.isRef = true) (k : Gd p e below P T (mkF m pn Ls (v :: st))) : Gd p e below P T (mkF m pc Ls (st)) := by
  obtain ⟨hd, rfl⟩ := hd
  exact k.imp fun t q => ⟨XS.aload X.here hx rfl (hb hby hd) hl hv q.1, q.2⟩
theorem g_astoreN (X : Stand p l e R s m args below meth c T locs cells slots) (hx : p.tables.exec = Jvm.exec) (hby : c.code = code) {k : Fin 4} {v : Value} {l' : Array Slot} (hd : Ins1 code pc (.astore_n k) 1 pn) (hv : v.isRef = true) (hl : storeLocals Ls k.val v = some l') (k : Gd p e below P T (mkF m pn l' (st))) : Gd p e below P T (mkF m pc Ls (v :: st)) := by
  obtain ⟨hd, rfl⟩ := hd
  exact k.imp fun t q => ⟨XS.astoreN X.here hx rfl (hb hby hd) rfl hv hl q.1, q.2⟩
theorem g_astore (X : Stand p l e R s m args below meth c T locs cells slots) (hx : p.tables.exec = Jvm.exec) (hby : c.code = code) {k : Nat} {v : Value} {l' : Array Slot} (hd : Ins1 code pc (.astore k) 2 pn) (hv : v.isRef = true) (hl : storeLocals Ls k v = some l') (k : Gd p e below P T (mkF m pn l' (st))) : Gd p e below P T (mkF m pc Ls (v :: st)) := by
  obtain ⟨hd, rfl⟩ := hd
  exact k.imp fun t q => ⟨XS.astore X.here hx rfl (hb hby hd) rfl hv hl q.1, q.2⟩
theorem g_istoreNW (X : Stand p l e R s m args below meth c T locs cells slots) (hx : p.tables.exec = Jvm.exec) (hby : c.code = code) {k : Fin 4} {v : Int32} {l' : Int32 → Array Slot} (hd : Ins1 code pc (.istore_n k) 1 pn) (hl : ∀ w, storeLocals Ls k.val (.int w) = some (l' w)) (k : ∀ w, w = v → Gd p e below P T (mkF m pn (l' w) st)) : Gd p e below P T (mkF m pc Ls (.int v :: st)) := g_istoreN X hx hby hd (hl v) (k v rfl)
theorem g_istoreW (X : Stand p l e R s m args below meth c T locs cells slots) (hx : p.tables.exec = Jvm.exec) (hby : c.code = code) {k : Nat} {v : Int32} {l' : Int32 → Array Slot} (hd : Ins1 code pc (.istore k) 2 pn) (hl : ∀ w, storeLocals Ls k (.int w) = some (l' w)) (k : ∀ w, w = v → Gd p e below P T (mkF m pn (l' w) st)) : Gd p e below P T (mkF m pc Ls (.int v :: st)) := g_istore X hx hby hd (hl v) (k v rfl)
theorem g_lstoreNW (X : Stand p l e R s m args below meth c T locs cells slots) (hx : p.tables.exec = Jvm.exec) (hby : c.code = code) {k : Fin 4} {v : Int64} {l' : Int64 → Array Slot} (hd : Ins1 code pc (.lstore_n k) 1 pn) (hl : ∀ w, storeLocals Ls k.val (.long w) = some (l' w)) (k : ∀ w, w = v → Gd p e below P T (mkF m pn (l' w) st)) : Gd p e below P T (mkF m pc Ls (.long v :: st)) := g_lstoreN X hx hby hd (hl v) (k v rfl)
theorem g_lstoreW (X : Stand p l e R s m args below meth c T locs cells slots) (hx : p.tables.exec = Jvm.exec) (hby : c.code = code) {k : Nat} {v : Int64} {l' : Int64 → Array Slot} (hd : Ins1 code pc (.lstore k) 2 pn) (hl : ∀ w, storeLocals Ls k (.long w) = some (l' w)) (k : ∀ w, w = v → Gd p e below P T (mkF m pn (l' w) st)) : Gd p e below P T (mkF m pc Ls (.long v :: st)) := g_lstore X hx hby hd (hl v) (k v rfl)
theorem g_iconst (X : Stand p l e R s m args below meth c T locs cells slots) (hx : p.tables.exec = Jvm.exec) (hby : c.code = code) {i : Int} {z : Int32} (hd : Ins1 code pc (.iconst i) 1 pn) (hz : Int32.ofInt i = z) (k : Gd p e below P T (mkF m pn Ls (.int z :: st))) : Gd p e below P T (mkF m pc Ls st) := by
  obtain ⟨hd, rfl⟩ := hd
  subst hz
  exact k.imp fun t q => ⟨XS.iconst X.here hx rfl (hb hby hd) q.1, q.2⟩
theorem g_bipush (X : Stand p l e R s m args below meth c T locs cells slots) (hx : p.tables.exec = Jvm.exec) (hby : c.code = code) {i : Int} {z : Int32} (hd : Ins1 code pc (.bipush i) 2 pn) (hz : (Int8.ofInt i).toInt32 = z) (k : Gd p e below P T (mkF m pn Ls (.int z :: st))) : Gd p e below P T (mkF m pc Ls st) := by
  obtain ⟨hd, rfl⟩ := hd
  subst hz
  exact k.imp fun t q => ⟨XS.bipush X.here hx rfl (hb hby hd) q.1, q.2⟩
theorem g_sipush (X : Stand p l e R s m args below meth c T locs cells slots) (hx : p.tables.exec = Jvm.exec) (hby : c.code = code) {i : Int} {z : Int32} (hd : Ins1 code pc (.sipush i) 3 pn) (hz : (Int16.ofInt i).toInt32 = z) (k : Gd p e below P T (mkF m pn Ls (.int z :: st))) : Gd p e below P T (mkF m pc Ls st) := by
  obtain ⟨hd, rfl⟩ := hd
  subst hz
  exact k.imp fun t q => ⟨XS.sipush X.here hx rfl (hb hby hd) q.1, q.2⟩
theorem g_lconst (X : Stand p l e R s m args below meth c T locs cells slots) (hx : p.tables.exec = Jvm.exec) (hby : c.code = code) {i : Fin 2} {z : Int64} (hd : Ins1 code pc (.lconst i) 1 pn) (hz : Int64.ofNat i = z) (k : Gd p e below P T (mkF m pn Ls (.long z :: st))) : Gd p e below P T (mkF m pc Ls st) := by
  obtain ⟨hd, rfl⟩ := hd
  subst hz
  exact k.imp fun t q => ⟨XS.lconst X.here hx rfl (hb hby hd) q.1, q.2⟩
theorem g_aconst_null (X : Stand p l e R s m args below meth c T locs cells slots) (hx : p.tables.exec = Jvm.exec) (hby : c.code = code)  (hd : Ins1 code pc (.aconst_null) 1 pn) (k : Gd p e below P T (mkF m pn Ls (.null :: st))) : Gd p e below P T (mkF m pc Ls (st)) := by
  obtain ⟨hd, rfl⟩ := hd
  exact k.imp fun t q => ⟨XS.aconstNull X.here hx rfl (hb hby hd)  q.1, q.2⟩
theorem g_iadd (X : Stand p l e R s m args below meth c T locs cells slots) (hx : p.tables.exec = Jvm.exec) (hby : c.code = code) {x y : Int32} (hd : Ins1 code pc (.iadd) 1 pn) (k : Gd p e below P T (mkF m pn Ls (.int (x + y) :: st))) : Gd p e below P T (mkF m pc Ls (.int y :: .int x :: st)) := by
  obtain ⟨hd, rfl⟩ := hd
  exact k.imp fun t q => ⟨XS.iadd X.here hx rfl (hb hby hd) rfl q.1, q.2⟩
theorem g_isub (X : Stand p l e R s m args below meth c T locs cells slots) (hx : p.tables.exec = Jvm.exec) (hby : c.code = code) {x y : Int32} (hd : Ins1 code pc (.isub) 1 pn) (k : Gd p e below P T (mkF m pn Ls (.int (x - y) :: st))) : Gd p e below P T (mkF m pc Ls (.int y :: .int x :: st)) := by
  obtain ⟨hd, rfl⟩ := hd
  exact k.imp fun t q => ⟨XS.isub X.here hx rfl (hb hby hd) rfl q.1, q.2⟩
theorem g_imul (X : Stand p l e R s m args below meth c T locs cells slots) (hx : p.tables.exec = Jvm.exec) (hby : c.code = code) {x y : Int32} (hd : Ins1 code pc (.imul) 1 pn) (k : Gd p e below P T (mkF m pn Ls (.int (x * y) :: st))) : Gd p e below P T (mkF m pc Ls (.int y :: .int x :: st)) := by
  obtain ⟨hd, rfl⟩ := hd
  exact k.imp fun t q => ⟨XS.imul X.here hx rfl (hb hby hd) rfl q.1, q.2⟩
theorem g_iand (X : Stand p l e R s m args below meth c T locs cells slots) (hx : p.tables.exec = Jvm.exec) (hby : c.code = code) {x y : Int32} (hd : Ins1 code pc (.iand) 1 pn) (k : Gd p e below P T (mkF m pn Ls (.int (x &&& y) :: st))) : Gd p e below P T (mkF m pc Ls (.int y :: .int x :: st)) := by
  obtain ⟨hd, rfl⟩ := hd
  exact k.imp fun t q => ⟨XS.iand X.here hx rfl (hb hby hd) rfl q.1, q.2⟩
theorem g_ior (X : Stand p l e R s m args below meth c T locs cells slots) (hx : p.tables.exec = Jvm.exec) (hby : c.code = code) {x y : Int32} (hd : Ins1 code pc (.ior) 1 pn) (k : Gd p e below P T (mkF m pn Ls (.int (x ||| y) :: st))) : Gd p e below P T (mkF m pc Ls (.int y :: .int x :: st)) := by
  obtain ⟨hd, rfl⟩ := hd
  exact k.imp fun t q => ⟨XS.ior X.here hx rfl (hb hby hd) rfl q.1, q.2⟩
theorem g_ixor (X : Stand p l e R s m args below meth c T locs cells slots) (hx : p.tables.exec = Jvm.exec) (hby : c.code = code) {x y : Int32} (hd : Ins1 code pc (.ixor) 1 pn) (k : Gd p e below P T (mkF m pn Ls (.int (x ^^^ y) :: st))) : Gd p e below P T (mkF m pc Ls (.int y :: .int x :: st)) := by
  obtain ⟨hd, rfl⟩ := hd
  exact k.imp fun t q => ⟨XS.ixor X.here hx rfl (hb hby hd) rfl q.1, q.2⟩
theorem g_ladd (X : Stand p l e R s m args below meth c T locs cells slots) (hx : p.tables.exec = Jvm.exec) (hby : c.code = code) {x y : Int64} (hd : Ins1 code pc (.ladd) 1 pn) (k : Gd p e below P T (mkF m pn Ls (.long (x + y) :: st))) : Gd p e below P T (mkF m pc Ls (.long y :: .long x :: st)) := by
  obtain ⟨hd, rfl⟩ := hd
  exact k.imp fun t q => ⟨XS.ladd X.here hx rfl (hb hby hd) rfl q.1, q.2⟩
theorem g_lsub (X : Stand p l e R s m args below meth c T locs cells slots) (hx : p.tables.exec = Jvm.exec) (hby : c.code = code) {x y : Int64} (hd : Ins1 code pc (.lsub) 1 pn) (k : Gd p e below P T (mkF m pn Ls (.long (x - y) :: st))) : Gd p e below P T (mkF m pc Ls (.long y :: .long x :: st)) := by
  obtain ⟨hd, rfl⟩ := hd
  exact k.imp fun t q => ⟨XS.lsub X.here hx rfl (hb hby hd) rfl q.1, q.2⟩
theorem g_lmul (X : Stand p l e R s m args below meth c T locs cells slots) (hx : p.tables.exec = Jvm.exec) (hby : c.code = code) {x y : Int64} (hd : Ins1 code pc (.lmul) 1 pn) (k : Gd p e below P T (mkF m pn Ls (.long (x * y) :: st))) : Gd p e below P T (mkF m pc Ls (.long y :: .long x :: st)) := by
  obtain ⟨hd, rfl⟩ := hd
  exact k.imp fun t q => ⟨XS.lmul X.here hx rfl (hb hby hd) rfl q.1, q.2⟩
theorem g_land (X : Stand p l e R s m args below meth c T locs cells slots) (hx : p.tables.exec = Jvm.exec) (hby : c.code = code) {x y : Int64} (hd : Ins1 code pc (.land) 1 pn) (k : Gd p e below P T (mkF m pn Ls (.long (x &&& y) :: st))) : Gd p e below P T (mkF m pc Ls (.long y :: .long x :: st)) := by
  obtain ⟨hd, rfl⟩ := hd
  exact k.imp fun t q => ⟨XS.land X.here hx rfl (hb hby hd) rfl q.1, q.2⟩
theorem g_lor (X : Stand p l e R s m args below meth c T locs cells slots) (hx : p.tables.exec = Jvm.exec) (hby : c.code = code) {x y : Int64} (hd : Ins1 code pc (.lor) 1 pn) (k : Gd p e below P T (mkF m pn Ls (.long (x ||| y) :: st))) : Gd p e below P T (mkF m pc Ls (.long y :: .long x :: st)) := by
  obtain ⟨hd, rfl⟩ := hd
  exact k.imp fun t q => ⟨XS.lor X.here hx rfl (hb hby hd) rfl q.1, q.2⟩
theorem g_lxor (X : Stand p l e R s m args below meth c T locs cells slots) (hx : p.tables.exec = Jvm.exec) (hby : c.code = code) {x y : Int64} (hd : Ins1 code pc (.lxor) 1 pn) (k : Gd p e below P T (mkF m pn Ls (.long (x ^^^ y) :: st))) : Gd p e below P T (mkF m pc Ls (.long y :: .long x :: st)) := by
  obtain ⟨hd, rfl⟩ := hd
  exact k.imp fun t q => ⟨XS.lxor X.here hx rfl (hb hby hd) rfl q.1, q.2⟩
theorem g_ishl (X : Stand p l e R s m args below meth c T locs cells slots) (hx : p.tables.exec = Jvm.exec) (hby : c.code = code) {x : Int32} {y : Int32} (hd : Ins1 code pc (.ishl) 1 pn) (k : Gd p e below P T (mkF m pn Ls (.int (x <<< (y &&& 31)) :: st))) : Gd p e below P T (mkF m pc Ls (.int y :: .int x :: st)) := by
  obtain ⟨hd, rfl⟩ := hd
  exact k.imp fun t q => ⟨XS.ishl X.here hx rfl (hb hby hd) rfl q.1, q.2⟩
theorem g_ishr (X : Stand p l e R s m args below meth c T locs cells slots) (hx : p.tables.exec = Jvm.exec) (hby : c.code = code) {x : Int32} {y : Int32} (hd : Ins1 code pc (.ishr) 1 pn) (k : Gd p e below P T (mkF m pn Ls (.int (x >>> (y &&& 31)) :: st))) : Gd p e below P T (mkF m pc Ls (.int y :: .int x :: st)) := by
  obtain ⟨hd, rfl⟩ := hd
  exact k.imp fun t q => ⟨XS.ishr X.here hx rfl (hb hby hd) rfl q.1, q.2⟩
theorem g_iushr (X : Stand p l e R s m args below meth c T locs cells slots) (hx : p.tables.exec = Jvm.exec) (hby : c.code = code) {x : Int32} {y : Int32} (hd : Ins1 code pc (.iushr) 1 pn) (k : Gd p e below P T (mkF m pn Ls (.int ((x.toUInt32 >>> (y &&& 31).toUInt32).toInt32) :: st))) : Gd p e below P T (mkF m pc Ls (.int y :: .int x :: st)) := by
  obtain ⟨hd, rfl⟩ := hd
  exact k.imp fun t q => ⟨XS.iushr X.here hx rfl (hb hby hd) rfl q.1, q.2⟩
theorem g_lshl (X : Stand p l e R s m args below meth c T locs cells slots) (hx : p.tables.exec = Jvm.exec) (hby : c.code = code) {x : Int64} {y : Int32} (hd : Ins1 code pc (.lshl) 1 pn) (k : Gd p e below P T (mkF m pn Ls (.long (x <<< (y &&& 0x3f).toInt64) :: st))) : Gd p e below P T (mkF m pc Ls (.int y :: .long x :: st)) := by
  obtain ⟨hd, rfl⟩ := hd
  exact k.imp fun t q => ⟨XS.lshl X.here hx rfl (hb hby hd) rfl q.1, q.2⟩
theorem g_lshr (X : Stand p l e R s m args below meth c T locs cells slots) (hx : p.tables.exec = Jvm.exec) (hby : c.code = code) {x : Int64} {y : Int32} (hd : Ins1 code pc (.lshr) 1 pn) (k : Gd p e below P T (mkF m pn Ls (.long (x >>> (y &&& 0x3f).toInt64) :: st))) : Gd p e below P T (mkF m pc Ls (.int y :: .long x :: st)) := by
  obtain ⟨hd, rfl⟩ := hd
  exact k.imp fun t q => ⟨XS.lshr X.here hx rfl (hb hby hd) rfl q.1, q.2⟩
theorem g_lushr (X : Stand p l e R s m args below meth c T locs cells slots) (hx : p.tables.exec = Jvm.exec) (hby : c.code = code) {x : Int64} {y : Int32} (hd : Ins1 code pc (.lushr) 1 pn) (k : Gd p e below P T (mkF m pn Ls (.long ((x.toUInt64 >>> (y &&& 0x3f).toInt64.toUInt64).toInt64) :: st))) : Gd p e below P T (mkF m pc Ls (.int y :: .long x :: st)) := by
  obtain ⟨hd, rfl⟩ := hd
  exact k.imp fun t q => ⟨XS.lushr X.here hx rfl (hb hby hd) rfl q.1, q.2⟩
theorem g_ineg (X : Stand p l e R s m args below meth c T locs cells slots) (hx : p.tables.exec = Jvm.exec) (hby : c.code = code) {x : Int32} (hd : Ins1 code pc (.ineg) 1 pn) (k : Gd p e below P T (mkF m pn Ls (.int (-x) :: st))) : Gd p e below P T (mkF m pc Ls (.int x :: st)) := by
  obtain ⟨hd, rfl⟩ := hd
  exact k.imp fun t q => ⟨XS.ineg X.here hx rfl (hb hby hd) rfl q.1, q.2⟩
theorem g_lneg (X : Stand p l e R s m args below meth c T locs cells slots) (hx : p.tables.exec = Jvm.exec) (hby : c.code = code) {x : Int64} (hd : Ins1 code pc (.lneg) 1 pn) (k : Gd p e below P T (mkF m pn Ls (.long (-x) :: st))) : Gd p e below P T (mkF m pc Ls (.long x :: st)) := by
  obtain ⟨hd, rfl⟩ := hd
  exact k.imp fun t q => ⟨XS.lneg X.here hx rfl (hb hby hd) rfl q.1, q.2⟩
theorem g_i2l (X : Stand p l e R s m args below meth c T locs cells slots) (hx : p.tables.exec = Jvm.exec) (hby : c.code = code) {x : Int32} (hd : Ins1 code pc (.i2l) 1 pn) (k : Gd p e below P T (mkF m pn Ls (.long x.toInt64 :: st))) : Gd p e below P T (mkF m pc Ls (.int x :: st)) := by
  obtain ⟨hd, rfl⟩ := hd
  exact k.imp fun t q => ⟨XS.i2l X.here hx rfl (hb hby hd) rfl q.1, q.2⟩
theorem g_l2i (X : Stand p l e R s m args below meth c T locs cells slots) (hx : p.tables.exec = Jvm.exec) (hby : c.code = code) {x : Int64} (hd : Ins1 code pc (.l2i) 1 pn) (k : Gd p e below P T (mkF m pn Ls (.int x.toInt32 :: st))) : Gd p e below P T (mkF m pc Ls (.long x :: st)) := by
  obtain ⟨hd, rfl⟩ := hd
  exact k.imp fun t q => ⟨XS.l2i X.here hx rfl (hb hby hd) rfl q.1, q.2⟩
theorem g_i2b (X : Stand p l e R s m args below meth c T locs cells slots) (hx : p.tables.exec = Jvm.exec) (hby : c.code = code) {x : Int32} (hd : Ins1 code pc (.i2b) 1 pn) (k : Gd p e below P T (mkF m pn Ls (.int x.toInt8.toInt32 :: st))) : Gd p e below P T (mkF m pc Ls (.int x :: st)) := by
  obtain ⟨hd, rfl⟩ := hd
  exact k.imp fun t q => ⟨XS.i2b X.here hx rfl (hb hby hd) rfl q.1, q.2⟩
theorem g_i2s (X : Stand p l e R s m args below meth c T locs cells slots) (hx : p.tables.exec = Jvm.exec) (hby : c.code = code) {x : Int32} (hd : Ins1 code pc (.i2s) 1 pn) (k : Gd p e below P T (mkF m pn Ls (.int x.toInt16.toInt32 :: st))) : Gd p e below P T (mkF m pc Ls (.int x :: st)) := by
  obtain ⟨hd, rfl⟩ := hd
  exact k.imp fun t q => ⟨XS.i2s X.here hx rfl (hb hby hd) rfl q.1, q.2⟩
theorem g_i2c (X : Stand p l e R s m args below meth c T locs cells slots) (hx : p.tables.exec = Jvm.exec) (hby : c.code = code) {x : Int32} (hd : Ins1 code pc (.i2c) 1 pn) (k : Gd p e below P T (mkF m pn Ls (.int x.toUInt32.toUInt16.toUInt32.toInt32 :: st))) : Gd p e below P T (mkF m pc Ls (.int x :: st)) := by
  obtain ⟨hd, rfl⟩ := hd
  exact k.imp fun t q => ⟨XS.i2c X.here hx rfl (hb hby hd) rfl q.1, q.2⟩
theorem g_idiv (X : Stand p l e R s m args below meth c T locs cells slots) (hx : p.tables.exec = Jvm.exec) (hby : c.code = code) {x y : Int32} (hd : Ins1 code pc (.idiv) 1 pn) (hy : y ≠ 0) (k : Gd p e below P T (mkF m pn Ls (.int (x / y) :: st))) : Gd p e below P T (mkF m pc Ls (.int y :: .int x :: st)) := by
  obtain ⟨hd, rfl⟩ := hd
  exact k.imp fun t q => ⟨XS.idiv X.here hx rfl (hb hby hd) rfl hy q.1, q.2⟩
theorem g_ldiv (X : Stand p l e R s m args below meth c T locs cells slots) (hx : p.tables.exec = Jvm.exec) (hby : c.code = code) {x y : Int64} (hd : Ins1 code pc (.ldiv) 1 pn) (hy : y ≠ 0) (k : Gd p e below P T (mkF m pn Ls (.long (x / y) :: st))) : Gd p e below P T (mkF m pc Ls (.long y :: .long x :: st)) := by
  obtain ⟨hd, rfl⟩ := hd
  exact k.imp fun t q => ⟨XS.ldiv X.here hx rfl (hb hby hd) rfl hy q.1, q.2⟩
theorem g_lrem (X : Stand p l e R s m args below meth c T locs cells slots) (hx : p.tables.exec = Jvm.exec) (hby : c.code = code) {x y : Int64} (hd : Ins1 code pc (.lrem) 1 pn) (hy : y ≠ 0) (k : Gd p e below P T (mkF m pn Ls (.long (x - (x / y) * y) :: st))) : Gd p e below P T (mkF m pc Ls (.long y :: .long x :: st)) := by
  obtain ⟨hd, rfl⟩ := hd
  exact k.imp fun t q => ⟨XS.lrem X.here hx rfl (hb hby hd) rfl hy q.1, q.2⟩
theorem g_irem (X : Stand p l e R s m args below meth c T locs cells slots) (hx : p.tables.exec = Jvm.exec) (hby : c.code = code) {x y : Int32} (hd : Ins1 code pc .irem 1 pn) (hy : y ≠ 0) (k : Gd p e below P T (mkF m pn Ls (.int (x % y) :: st))) : Gd p e below P T (mkF m pc Ls (.int y :: .int x :: st)) := by
  obtain ⟨hd, rfl⟩ := hd
  exact k.imp fun t q => ⟨iremM X hx rfl (hb hby hd) rfl hy q.1, q.2⟩
theorem g_iinc (X : Stand p l e R s m args below meth c T locs cells slots) (hx : p.tables.exec = Jvm.exec) (hby : c.code = code) {j : Nat} {i : Int} {x z : Int32} {l' : Array Slot} (hd : Ins1 code pc (.iinc j i) 3 pn) (hl : Ls[j]? = some (.val (.int x))) (hz : x + Int32.ofInt i = z) (hs : storeLocals Ls j (.int z) = some l') (k : Gd p e below P T (mkF m pn l' st)) : Gd p e below P T (mkF m pc Ls st) := by
  obtain ⟨hd, rfl⟩ := hd
  subst hz
  exact k.imp fun t q => ⟨XS.iinc X.here hx rfl (hb hby hd) hl hs q.1, q.2⟩
theorem g_dup (X : Stand p l e R s m args below meth c T locs cells slots) (hx : p.tables.exec = Jvm.exec) (hby : c.code = code) {x : Value} (hd : Ins1 code pc (.dup) 1 pn) (hc : x.category = 1) (k : Gd p e below P T (mkF m pn Ls (x :: x :: st))) : Gd p e below P T (mkF m pc Ls (x :: st)) := by
  obtain ⟨hd, rfl⟩ := hd
  exact k.imp fun t q => ⟨XS.dup X.here hx rfl (hb hby hd) rfl hc q.1, q.2⟩
theorem g_dup2 (X : Stand p l e R s m args below meth c T locs cells slots) (hx : p.tables.exec = Jvm.exec) (hby : c.code = code) {x y : Value} (hd : Ins1 code pc (.dup2) 1 pn) (hc : x.category = 1) (hc2 : y.category = 1) (k : Gd p e below P T (mkF m pn Ls (x :: y :: x :: y :: st))) : Gd p e below P T (mkF m pc Ls (x :: y :: st)) := by
  obtain ⟨hd, rfl⟩ := hd
  exact k.imp fun t q => ⟨XT.dup2 X.here hx rfl (hb hby hd) rfl hc hc2 q.1, q.2⟩
theorem g_dup2L (X : Stand p l e R s m args below meth c T locs cells slots) (hx : p.tables.exec = Jvm.exec) (hby : c.code = code) {x : Int64} (hd : Ins1 code pc (.dup2) 1 pn) (k : Gd p e below P T (mkF m pn Ls (.long x :: .long x :: st))) : Gd p e below P T (mkF m pc Ls (.long x :: st)) := by
  obtain ⟨hd, rfl⟩ := hd
  exact k.imp fun t q => ⟨XT.dup2L X.here hx rfl (hb hby hd) rfl q.1, q.2⟩
theorem g_pop (X : Stand p l e R s m args below meth c T locs cells slots) (hx : p.tables.exec = Jvm.exec) (hby : c.code = code) {x : Value} (hd : Ins1 code pc (.pop) 1 pn) (hc : x.category = 1) (k : Gd p e below P T (mkF m pn Ls (st))) : Gd p e below P T (mkF m pc Ls (x :: st)) := by
  obtain ⟨hd, rfl⟩ := hd
  exact k.imp fun t q => ⟨XS.pop X.here hx rfl (hb hby hd) rfl hc q.1, q.2⟩
theorem g_dup_x1 (X : Stand p l e R s m args below meth c T locs cells slots) (hx : p.tables.exec = Jvm.exec) (hby : c.code = code) {x y : Value} (hd : Ins1 code pc (.dup_x1) 1 pn) (hc : x.category = 1) (hc2 : y.category = 1) (k : Gd p e below P T (mkF m pn Ls (x :: y :: x :: st))) : Gd p e below P T (mkF m pc Ls (x :: y :: st)) := by
  obtain ⟨hd, rfl⟩ := hd
  exact k.imp fun t q => ⟨XS.dupX1 X.here hx rfl (hb hby hd) rfl hc hc2 q.1, q.2⟩
theorem g_i2d (X : Stand p l e R s m args below meth c T locs cells slots) (hx : p.tables.exec = Jvm.exec) (hby : c.code = code) {x : Int32} (hd : Ins1 code pc (.i2d) 1 pn) (k : Gd p e below P T (mkF m pn Ls (.double (FP.i2d x) :: st))) : Gd p e below P T (mkF m pc Ls (.int x :: st)) := by
  obtain ⟨hd, rfl⟩ := hd
  exact k.imp fun t q => ⟨XS.i2dS X.here hx rfl (hb hby hd) rfl rfl q.1, q.2⟩
theorem g_l2d (X : Stand p l e R s m args below meth c T locs cells slots) (hx : p.tables.exec = Jvm.exec) (hby : c.code = code) {x : Int64} (hd : Ins1 code pc (.l2d) 1 pn) (k : Gd p e below P T (mkF m pn Ls (.double (FP.l2d x) :: st))) : Gd p e below P T (mkF m pc Ls (.long x :: st)) := by
  obtain ⟨hd, rfl⟩ := hd
  exact k.imp fun t q => ⟨XS.l2dS X.here hx rfl (hb hby hd) rfl rfl q.1, q.2⟩
theorem g_ddiv (X : Stand p l e R s m args below meth c T locs cells slots) (hx : p.tables.exec = Jvm.exec) (hby : c.code = code) {x y : UInt64} (hd : Ins1 code pc (.ddiv) 1 pn) (hn : Jvm.Free.Fl.NoNaN64 (FP.ddiv x y)) (k : Gd p e below P T (mkF m pn Ls (.double (FP.ddiv x y) :: st))) : Gd p e below P T (mkF m pc Ls (.double y :: .double x :: st)) := by
  obtain ⟨hd, rfl⟩ := hd
  exact k.imp fun t q => ⟨XS.ddivS X.here hx rfl (hb hby hd) rfl hn rfl q.1, q.2⟩
theorem g_dcmp (X : Stand p l e R s m args below meth c T locs cells slots) (hx : p.tables.exec = Jvm.exec) (hby : c.code = code) {x y : UInt64} {o : CmpOp} (hd : Ins1 code pc (.dcmp o) 1 pn) (k : Gd p e below P T (mkF m pn Ls (.int (cmpValue (FP.dcmp x y) o) :: st))) : Gd p e below P T (mkF m pc Ls (.double y :: .double x :: st)) := by
  obtain ⟨hd, rfl⟩ := hd
  exact k.imp fun t q => ⟨XS.dcmpS X.here hx rfl (hb hby hd) rfl rfl q.1, q.2⟩
theorem g_dconst0 (X : Stand p l e R s m args below meth c T locs cells slots) (hx : p.tables.exec = Jvm.exec) (hby : c.code = code)  (hd : Ins1 code pc (.dconst 0) 1 pn) (k : Gd p e below P T (mkF m pn Ls (.double FP.dconst0 :: st))) : Gd p e below P T (mkF m pc Ls (st)) := by
  obtain ⟨hd, rfl⟩ := hd
  exact k.imp fun t q => ⟨XS.dconst0 X.here hx rfl (hb hby hd) rfl q.1, q.2⟩
theorem g_dconst1 (X : Stand p l e R s m args below meth c T locs cells slots) (hx : p.tables.exec = Jvm.exec) (hby : c.code = code)  (hd : Ins1 code pc (.dconst 1) 1 pn) (k : Gd p e below P T (mkF m pn Ls (.double FP.dconst1 :: st))) : Gd p e below P T (mkF m pc Ls (st)) := by
  obtain ⟨hd, rfl⟩ := hd
  exact k.imp fun t q => ⟨XS.dconst1 X.here hx rfl (hb hby hd) rfl q.1, q.2⟩
theorem g_lcmp (X : Stand p l e R s m args below meth c T locs cells slots) (hx : p.tables.exec = Jvm.exec) (hby : c.code = code) {x y : Int64} (hd : Ins1 code pc (.lcmp) 1 pn) (k : Gd p e below P T (mkF m pn Ls (.int (lcmpW x y) :: st))) : Gd p e below P T (mkF m pc Ls (.long y :: .long x :: st)) := by
  obtain ⟨hd, rfl⟩ := hd
  exact k.imp fun t q => ⟨XS.lcmp X.here hx rfl (hb hby hd) rfl q.1, q.2⟩
theorem g_goto (X : Stand p l e R s m args below meth c T locs cells slots) (hx : p.tables.exec = Jvm.exec) (hby : c.code = code) {o : Int} (hd : InsB code pc (.goto o) o pn pt) (k : Gd p e below P T (mkF m pt Ls st)) : Gd p e below P T (mkF m pc Ls st) := by
  obtain ⟨hd, -, ho, hp⟩ := hd
  exact k.imp fun t q => ⟨XS.goto X.here hx rfl rfl (hb hby hd) ho hp q.1, q.2⟩
theorem g_icmp_lt (X : Stand p l e R s m args below meth c T locs cells slots) (hx : p.tables.exec = Jvm.exec) (hby : c.code = code) {x y : Int32} {o : Int} (hd : InsB code pc (.if_icmp .lt o) o pn pt) (ky : x < y → Gd p e below P T (mkF m pt Ls st)) (kn : ¬ x < y → Gd p e below P T (mkF m pn Ls st)) : Gd p e below P T (mkF m pc Ls (.int y :: .int x :: st)) := by
  obtain ⟨hd, rfl, ho, hp⟩ := hd
  by_cases w : x < y
  · exact (ky w).imp fun t q => ⟨XS.icmpYes X.here hx rfl rfl (hb hby hd) rfl (tlt w).1 ho hp q.1, q.2⟩
  · exact (kn w).imp fun t q => ⟨XS.icmpNo X.here hx rfl (hb hby hd) rfl (flt w).1 q.1, q.2⟩
theorem g_if_lt (X : Stand p l e R s m args below meth c T locs cells slots) (hx : p.tables.exec = Jvm.exec) (hby : c.code = code) {x : Int32} {o : Int} (hd : InsB code pc (.ifCond .lt o) o pn pt) (ky : x < 0 → Gd p e below P T (mkF m pt Ls st)) (kn : ¬ x < 0 → Gd p e below P T (mkF m pn Ls st)) : Gd p e below P T (mkF m pc Ls (.int x :: st)) := by
  obtain ⟨hd, rfl, ho, hp⟩ := hd
  by_cases w : x < 0
  · exact (ky w).imp fun t q => ⟨XS.ifYes X.here hx rfl rfl (hb hby hd) rfl ((if0 _ _).trans (tlt w).1) ho hp q.1, q.2⟩
  · exact (kn w).imp fun t q => ⟨XS.ifNo X.here hx rfl (hb hby hd) rfl ((if0 _ _).trans (flt w).1) q.1, q.2⟩
theorem g_lcmp_lt (X : Stand p l e R s m args below meth c T locs cells slots) (hx : p.tables.exec = Jvm.exec) (hby : c.code = code) {x y : Int64} {o : Int} {pc1 : Nat} (hc : Ins1 code pc .lcmp 1 pc1) (hd : InsB code pc1 (.ifCond .lt o) o pn pt) (ky : x < y → Gd p e below P T (mkF m pt Ls st)) (kn : ¬ x < y → Gd p e below P T (mkF m pn Ls st)) : Gd p e below P T (mkF m pc Ls (.long y :: .long x :: st)) :=
  g_lcmp X hx hby hc (g_if_lt X hx hby hd (fun w => ky ((lw_lt x y).mp w)) (fun w => kn (fun q => w ((lw_lt x y).mpr q))))
theorem g_icmp_ge (X : Stand p l e R s m args below meth c T locs cells slots) (hx : p.tables.exec = Jvm.exec) (hby : c.code = code) {x y : Int32} {o : Int} (hd : InsB code pc (.if_icmp .ge o) o pn pt) (ky : ¬ x < y → Gd p e below P T (mkF m pt Ls st)) (kn : x < y → Gd p e below P T (mkF m pn Ls st)) : Gd p e below P T (mkF m pc Ls (.int y :: .int x :: st)) := by
  obtain ⟨hd, rfl, ho, hp⟩ := hd
  by_cases w : x < y
  · exact (kn w).imp fun t q => ⟨XS.icmpNo X.here hx rfl (hb hby hd) rfl (tlt w).2.1 q.1, q.2⟩
  · exact (ky w).imp fun t q => ⟨XS.icmpYes X.here hx rfl rfl (hb hby hd) rfl (flt w).2.1 ho hp q.1, q.2⟩
theorem g_if_ge (X : Stand p l e R s m args below meth c T locs cells slots) (hx : p.tables.exec = Jvm.exec) (hby : c.code = code) {x : Int32} {o : Int} (hd : InsB code pc (.ifCond .ge o) o pn pt) (ky : ¬ x < 0 → Gd p e below P T (mkF m pt Ls st)) (kn : x < 0 → Gd p e below P T (mkF m pn Ls st)) : Gd p e below P T (mkF m pc Ls (.int x :: st)) := by
  obtain ⟨hd, rfl, ho, hp⟩ := hd
  by_cases w : x < 0
  · exact (kn w).imp fun t q => ⟨XS.ifNo X.here hx rfl (hb hby hd) rfl ((if0 _ _).trans (tlt w).2.1) q.1, q.2⟩
  · exact (ky w).imp fun t q => ⟨XS.ifYes X.here hx rfl rfl (hb hby hd) rfl ((if0 _ _).trans (flt w).2.1) ho hp q.1, q.2⟩
theorem g_lcmp_ge (X : Stand p l e R s m args below meth c T locs cells slots) (hx : p.tables.exec = Jvm.exec) (hby : c.code = code) {x y : Int64} {o : Int} {pc1 : Nat} (hc : Ins1 code pc .lcmp 1 pc1) (hd : InsB code pc1 (.ifCond .ge o) o pn pt) (ky : ¬ x < y → Gd p e below P T (mkF m pt Ls st)) (kn : x < y → Gd p e below P T (mkF m pn Ls st)) : Gd p e below P T (mkF m pc Ls (.long y :: .long x :: st)) :=
  g_lcmp X hx hby hc (g_if_ge X hx hby hd (fun w => ky (fun q => w ((lw_lt x y).mpr q))) (fun w => kn ((lw_lt x y).mp w)))
theorem g_icmp_gt (X : Stand p l e R s m args below meth c T locs cells slots) (hx : p.tables.exec = Jvm.exec) (hby : c.code = code) {x y : Int32} {o : Int} (hd : InsB code pc (.if_icmp .gt o) o pn pt) (ky : y < x → Gd p e below P T (mkF m pt Ls st)) (kn : ¬ y < x → Gd p e below P T (mkF m pn Ls st)) : Gd p e below P T (mkF m pc Ls (.int y :: .int x :: st)) := by
  obtain ⟨hd, rfl, ho, hp⟩ := hd
  by_cases w : y < x
  · exact (ky w).imp fun t q => ⟨XS.icmpYes X.here hx rfl rfl (hb hby hd) rfl (tlt w).2.2.1 ho hp q.1, q.2⟩
  · exact (kn w).imp fun t q => ⟨XS.icmpNo X.here hx rfl (hb hby hd) rfl (flt w).2.2.1 q.1, q.2⟩
theorem g_if_gt (X : Stand p l e R s m args below meth c T locs cells slots) (hx : p.tables.exec = Jvm.exec) (hby : c.code = code) {x : Int32} {o : Int} (hd : InsB code pc (.ifCond .gt o) o pn pt) (ky : 0 < x → Gd p e below P T (mkF m pt Ls st)) (kn : ¬ 0 < x → Gd p e below P T (mkF m pn Ls st)) : Gd p e below P T (mkF m pc Ls (.int x :: st)) := by
  obtain ⟨hd, rfl, ho, hp⟩ := hd
  by_cases w : 0 < x
  · exact (ky w).imp fun t q => ⟨XS.ifYes X.here hx rfl rfl (hb hby hd) rfl ((if0 _ _).trans (tlt w).2.2.1) ho hp q.1, q.2⟩
  · exact (kn w).imp fun t q => ⟨XS.ifNo X.here hx rfl (hb hby hd) rfl ((if0 _ _).trans (flt w).2.2.1) q.1, q.2⟩
theorem g_lcmp_gt (X : Stand p l e R s m args below meth c T locs cells slots) (hx : p.tables.exec = Jvm.exec) (hby : c.code = code) {x y : Int64} {o : Int} {pc1 : Nat} (hc : Ins1 code pc .lcmp 1 pc1) (hd : InsB code pc1 (.ifCond .gt o) o pn pt) (ky : y < x → Gd p e below P T (mkF m pt Ls st)) (kn : ¬ y < x → Gd p e below P T (mkF m pn Ls st)) : Gd p e below P T (mkF m pc Ls (.long y :: .long x :: st)) :=
  g_lcmp X hx hby hc (g_if_gt X hx hby hd (fun w => ky ((lw_gt x y).mp w)) (fun w => kn (fun q => w ((lw_gt x y).mpr q))))
theorem g_icmp_le (X : Stand p l e R s m args below meth c T locs cells slots) (hx : p.tables.exec = Jvm.exec) (hby : c.code = code) {x y : Int32} {o : Int} (hd : InsB code pc (.if_icmp .le o) o pn pt) (ky : ¬ y < x → Gd p e below P T (mkF m pt Ls st)) (kn : y < x → Gd p e below P T (mkF m pn Ls st)) : Gd p e below P T (mkF m pc Ls (.int y :: .int x :: st)) := by
  obtain ⟨hd, rfl, ho, hp⟩ := hd
  by_cases w : y < x
  · exact (kn w).imp fun t q => ⟨XS.icmpNo X.here hx rfl (hb hby hd) rfl (tlt w).2.2.2 q.1, q.2⟩
  · exact (ky w).imp fun t q => ⟨XS.icmpYes X.here hx rfl rfl (hb hby hd) rfl (flt w).2.2.2 ho hp q.1, q.2⟩
theorem g_if_le (X : Stand p l e R s m args below meth c T locs cells slots) (hx : p.tables.exec = Jvm.exec) (hby : c.code = code) {x : Int32} {o : Int} (hd : InsB code pc (.ifCond .le o) o pn pt) (ky : ¬ 0 < x → Gd p e below P T (mkF m pt Ls st)) (kn : 0 < x → Gd p e below P T (mkF m pn Ls st)) : Gd p e below P T (mkF m pc Ls (.int x :: st)) := by
  obtain ⟨hd, rfl, ho, hp⟩ := hd
  by_cases w : 0 < x
  · exact (kn w).imp fun t q => ⟨XS.ifNo X.here hx rfl (hb hby hd) rfl ((if0 _ _).trans (tlt w).2.2.2) q.1, q.2⟩
  · exact (ky w).imp fun t q => ⟨XS.ifYes X.here hx rfl rfl (hb hby hd) rfl ((if0 _ _).trans (flt w).2.2.2) ho hp q.1, q.2⟩
theorem g_lcmp_le (X : Stand p l e R s m args below meth c T locs cells slots) (hx : p.tables.exec = Jvm.exec) (hby : c.code = code) {x y : Int64} {o : Int} {pc1 : Nat} (hc : Ins1 code pc .lcmp 1 pc1) (hd : InsB code pc1 (.ifCond .le o) o pn pt) (ky : ¬ y < x → Gd p e below P T (mkF m pt Ls st)) (kn : y < x → Gd p e below P T (mkF m pn Ls st)) : Gd p e below P T (mkF m pc Ls (.long y :: .long x :: st)) :=
  g_lcmp X hx hby hc (g_if_le X hx hby hd (fun w => ky (fun q => w ((lw_gt x y).mpr q))) (fun w => kn ((lw_gt x y).mp w)))
theorem g_icmp_eq (X : Stand p l e R s m args below meth c T locs cells slots) (hx : p.tables.exec = Jvm.exec) (hby : c.code = code) {x y : Int32} {o : Int} (hd : InsB code pc (.if_icmp .eq o) o pn pt) (ky : x = y → Gd p e below P T (mkF m pt Ls st)) (kn : ¬ x = y → Gd p e below P T (mkF m pn Ls st)) : Gd p e below P T (mkF m pc Ls (.int y :: .int x :: st)) := by
  obtain ⟨hd, rfl, ho, hp⟩ := hd
  by_cases w : x = y
  · exact (ky w).imp fun t q => ⟨XS.icmpYes X.here hx rfl rfl (hb hby hd) rfl (teq w).1 ho hp q.1, q.2⟩
  · exact (kn w).imp fun t q => ⟨XS.icmpNo X.here hx rfl (hb hby hd) rfl (feq w).1 q.1, q.2⟩
theorem g_if_eq (X : Stand p l e R s m args below meth c T locs cells slots) (hx : p.tables.exec = Jvm.exec) (hby : c.code = code) {x : Int32} {o : Int} (hd : InsB code pc (.ifCond .eq o) o pn pt) (ky : x = 0 → Gd p e below P T (mkF m pt Ls st)) (kn : ¬ x = 0 → Gd p e below P T (mkF m pn Ls st)) : Gd p e below P T (mkF m pc Ls (.int x :: st)) := by
  obtain ⟨hd, rfl, ho, hp⟩ := hd
  by_cases w : x = 0
  · exact (ky w).imp fun t q => ⟨XS.ifYes X.here hx rfl rfl (hb hby hd) rfl ((if0 _ _).trans (teq w).1) ho hp q.1, q.2⟩
  · exact (kn w).imp fun t q => ⟨XS.ifNo X.here hx rfl (hb hby hd) rfl ((if0 _ _).trans (feq w).1) q.1, q.2⟩
theorem g_lcmp_eq (X : Stand p l e R s m args below meth c T locs cells slots) (hx : p.tables.exec = Jvm.exec) (hby : c.code = code) {x y : Int64} {o : Int} {pc1 : Nat} (hc : Ins1 code pc .lcmp 1 pc1) (hd : InsB code pc1 (.ifCond .eq o) o pn pt) (ky : x = y → Gd p e below P T (mkF m pt Ls st)) (kn : ¬ x = y → Gd p e below P T (mkF m pn Ls st)) : Gd p e below P T (mkF m pc Ls (.long y :: .long x :: st)) :=
  g_lcmp X hx hby hc (g_if_eq X hx hby hd (fun w => ky ((lw_eq x y).mp w)) (fun w => kn (fun q => w ((lw_eq x y).mpr q))))
theorem g_icmp_ne (X : Stand p l e R s m args below meth c T locs cells slots) (hx : p.tables.exec = Jvm.exec) (hby : c.code = code) {x y : Int32} {o : Int} (hd : InsB code pc (.if_icmp .ne o) o pn pt) (ky : ¬ x = y → Gd p e below P T (mkF m pt Ls st)) (kn : x = y → Gd p e below P T (mkF m pn Ls st)) : Gd p e below P T (mkF m pc Ls (.int y :: .int x :: st)) := by
  obtain ⟨hd, rfl, ho, hp⟩ := hd
  by_cases w : x = y
  · exact (kn w).imp fun t q => ⟨XS.icmpNo X.here hx rfl (hb hby hd) rfl (teq w).2 q.1, q.2⟩
  · exact (ky w).imp fun t q => ⟨XS.icmpYes X.here hx rfl rfl (hb hby hd) rfl (feq w).2 ho hp q.1, q.2⟩
theorem g_if_ne (X : Stand p l e R s m args below meth c T locs cells slots) (hx : p.tables.exec = Jvm.exec) (hby : c.code = code) {x : Int32} {o : Int} (hd : InsB code pc (.ifCond .ne o) o pn pt) (ky : ¬ x = 0 → Gd p e below P T (mkF m pt Ls st)) (kn : x = 0 → Gd p e below P T (mkF m pn Ls st)) : Gd p e below P T (mkF m pc Ls (.int x :: st)) := by
  obtain ⟨hd, rfl, ho, hp⟩ := hd
  by_cases w : x = 0
  · exact (kn w).imp fun t q => ⟨XS.ifNo X.here hx rfl (hb hby hd) rfl ((if0 _ _).trans (teq w).2) q.1, q.2⟩
  · exact (ky w).imp fun t q => ⟨XS.ifYes X.here hx rfl rfl (hb hby hd) rfl ((if0 _ _).trans (feq w).2) ho hp q.1, q.2⟩
theorem g_lcmp_ne (X : Stand p l e R s m args below meth c T locs cells slots) (hx : p.tables.exec = Jvm.exec) (hby : c.code = code) {x y : Int64} {o : Int} {pc1 : Nat} (hc : Ins1 code pc .lcmp 1 pc1) (hd : InsB code pc1 (.ifCond .ne o) o pn pt) (ky : ¬ x = y → Gd p e below P T (mkF m pt Ls st)) (kn : x = y → Gd p e below P T (mkF m pn Ls st)) : Gd p e below P T (mkF m pc Ls (.long y :: .long x :: st)) :=
  g_lcmp X hx hby hc (g_if_ne X hx hby hd (fun w => ky (fun q => w ((lw_eq x y).mpr q))) (fun w => kn ((lw_eq x y).mp w)))
theorem g_ifnull_y (X : Stand p l e R s m args below meth c T locs cells slots) (hx : p.tables.exec = Jvm.exec) (hby : c.code = code) {o : Int} (hd : InsB code pc (.ifnull o) o pn pt) (k : Gd p e below P T (mkF m pt Ls st)) : Gd p e below P T (mkF m pc Ls (.null :: st)) := by
  obtain ⟨hd, -, ho, hp⟩ := hd
  exact k.imp fun t q => ⟨XS.ifnullYes X.here hx rfl rfl (hb hby hd) rfl ho hp q.1, q.2⟩
theorem g_ifnull_n (X : Stand p l e R s m args below meth c T locs cells slots) (hx : p.tables.exec = Jvm.exec) (hby : c.code = code) {o : Int} {b : Addr} (hd : InsB code pc (.ifnull o) o pn pt) (k : Gd p e below P T (mkF m pn Ls st)) : Gd p e below P T (mkF m pc Ls (.ref b :: st)) := by
  obtain ⟨hd, rfl, ho, hp⟩ := hd
  exact k.imp fun t q => ⟨XS.ifnullNo X.here hx rfl (hb hby hd) rfl q.1, q.2⟩
theorem g_ifnonnull_n (X : Stand p l e R s m args below meth c T locs cells slots) (hx : p.tables.exec = Jvm.exec) (hby : c.code = code) {o : Int} (hd : InsB code pc (.ifnonnull o) o pn pt) (k : Gd p e below P T (mkF m pn Ls st)) : Gd p e below P T (mkF m pc Ls (.null :: st)) := by
  obtain ⟨hd, rfl, ho, hp⟩ := hd
  exact k.imp fun t q => ⟨XS.ifnonnullNo X.here hx rfl (hb hby hd) rfl q.1, q.2⟩
theorem g_ifnonnull_y (X : Stand p l e R s m args below meth c T locs cells slots) (hx : p.tables.exec = Jvm.exec) (hby : c.code = code) {o : Int} {b : Addr} (hd : InsB code pc (.ifnonnull o) o pn pt) (k : Gd p e below P T (mkF m pt Ls st)) : Gd p e below P T (mkF m pc Ls (.ref b :: st)) := by
  obtain ⟨hd, -, ho, hp⟩ := hd
  exact k.imp fun t q => ⟨XS.ifnonnullYes X.here hx rfl rfl (hb hby hd) rfl ho hp q.1, q.2⟩
theorem g_acmp_eq (X : Stand p l e R s m args below meth c T locs cells slots) (hx : p.tables.exec = Jvm.exec) (hby : c.code = code) {o : Int} {x y : Value} (hd : InsB code pc (.if_acmp .eq o) o pn pt) (h1 : x.isRef = true) (h2 : y.isRef = true) (ky : x = y → Gd p e below P T (mkF m pt Ls st)) (kn : ¬ x = y → Gd p e below P T (mkF m pn Ls st)) : Gd p e below P T (mkF m pc Ls (y :: x :: st)) := by
  obtain ⟨hd, hn, ho, hp⟩ := hd
  by_cases w : x = y
  · exact (ky w).imp fun t q => ⟨Jvm.RoadKit.acmp (g := mkF m pc Ls (y :: x :: st)) X hx rfl h1 h2 rfl (hb hby hd) rfl (same := true) (decide_eq_true w) ho (by show _ = ((pc : Int) + o).toNat; exact hp.symm) q.1, q.2⟩
  · exact (kn w).imp fun t q => ⟨Jvm.RoadKit.acmp (g := mkF m pc Ls (y :: x :: st)) X hx rfl h1 h2 rfl (hb hby hd) rfl (same := false) (decide_eq_false w) ho (by show _ = pc + 3; exact hn.symm) q.1, q.2⟩
theorem g_acmp_ne (X : Stand p l e R s m args below meth c T locs cells slots) (hx : p.tables.exec = Jvm.exec) (hby : c.code = code) {o : Int} {x y : Value} (hd : InsB code pc (.if_acmp .ne o) o pn pt) (h1 : x.isRef = true) (h2 : y.isRef = true) (ky : ¬ x = y → Gd p e below P T (mkF m pt Ls st)) (kn : x = y → Gd p e below P T (mkF m pn Ls st)) : Gd p e below P T (mkF m pc Ls (y :: x :: st)) := by
  obtain ⟨hd, hn, ho, hp⟩ := hd
  by_cases w : x = y
  · exact (kn w).imp fun t q => ⟨Jvm.RoadKit.acmp (g := mkF m pc Ls (y :: x :: st)) X hx rfl h1 h2 rfl (hb hby hd) rfl (same := true) (decide_eq_true w) ho (by show _ = pc + 3; exact hn.symm) q.1, q.2⟩
  · exact (ky w).imp fun t q => ⟨Jvm.RoadKit.acmp (g := mkF m pc Ls (y :: x :: st)) X hx rfl h1 h2 rfl (hb hby hd) rfl (same := false) (decide_eq_false w) ho (by show _ = ((pc : Int) + o).toNat; exact hp.symm) q.1, q.2⟩
theorem g_ldcInt (X : Stand p l e R s m args below meth c T locs cells slots) (hx : p.tables.exec = Jvm.exec) (hby : c.code = code) (hZ : Z.Warmed39 s.vm) {own : String} (hown : s.vm.findClass own = some m.cls) {i : Nat} {v : Int32} (w : (Jvm.Cond.constant own i v).before a0 Z = true) (hd : Ins1 code pc (.ldc i) 2 pn) (k : Gd p e below P T (mkF m pn Ls (.int v :: st))) : Gd p e below P T (mkF m pc Ls st) := by
  obtain ⟨hd, rfl⟩ := hd
  exact k.imp fun t q => ⟨X.ldcInt hx hown (mvT hZ w) (g := mkF m pc Ls st) rfl (hb hby hd) _ q.1, q.2⟩
theorem g_ldc2Long (X : Stand p l e R s m args below meth c T locs cells slots) (hx : p.tables.exec = Jvm.exec) (hby : c.code = code) (hZ : Z.Warmed39 s.vm) {own : String} (hown : s.vm.findClass own = some m.cls) {i : Nat} {v : Int64} (w : (Jvm.Cond.constantLong own i v).before a0 Z = true) (hd : Ins1 code pc (.ldc2_w i) 3 pn) (k : Gd p e below P T (mkF m pn Ls (.long v :: st))) : Gd p e below P T (mkF m pc Ls st) := by
  obtain ⟨hd, rfl⟩ := hd
  exact k.imp fun t q => ⟨X.ldc2Long hx hown (mvT hZ w) (g := mkF m pc Ls st) rfl (hb hby hd) _ q.1, q.2⟩
theorem g_getfield (X : Stand p l e R s m args below meth c T locs cells slots) (hx : p.tables.exec = Jvm.exec) (hby : c.code = code) (hZ : Z.Warmed39 s.vm) {own R0 O n d host : String} {index : Nat} (hown : s.vm.findClass own = some m.cls) (w : (Jvm.Cond.fieldLink own index R0 n d).before a0 Z = true ∨ (Jvm.Cond.fieldLinkNest own index R0 n d host).before a0 Z = true) (via : Via Z R0 O n d) (eT : T.heap = h) {a : Addr} {v : Value} (F : Fld Z h a O n d v) (hd : Ins1 code pc (.getfield index) 3 pn)
    (k : ∀ T', Stand p l e R s m args below meth c T' locs cells slots → T'.heap = h → Gd p e below P T' (mkF m pn Ls (v :: st))) : Gd p e below P T (mkF m pc Ls (.ref a :: st)) := by
  obtain ⟨hd, rfl⟩ := hd
  obtain ⟨T', X', e', stp⟩ := getF X hx hZ hown w via eT F (g := mkF m pc Ls (.ref a :: st)) rfl rfl (hb hby hd)
  exact (k T' X' e').of stp
theorem g_getstatic (X : Stand p l e R s m args below meth c T locs cells slots) (hx : p.tables.exec = Jvm.exec) (hby : c.code = code) (hZ : Z.Warmed39 s.vm) {own R0 O n d host : String} {index : Nat} (hown : s.vm.findClass own = some m.cls) (w : (Jvm.Cond.fieldLink own index R0 n d).before a0 Z = true ∨ (Jvm.Cond.fieldLinkNest own index R0 n d host).before a0 Z = true) (via : Via Z R0 O n d) (eT : T.heap = h) {v : Value} (F : Sta Z h O n d v) (hd : Ins1 code pc (.getstatic index) 3 pn)
    (k : ∀ T', Stand p l e R s m args below meth c T' locs cells slots → T'.heap = h → Gd p e below P T' (mkF m pn Ls (v :: st))) : Gd p e below P T (mkF m pc Ls st) := by
  obtain ⟨hd, rfl⟩ := hd
  obtain ⟨T', X', e', stp⟩ := getS2 X hx hZ hown w via eT F (g := mkF m pc Ls st) rfl (hb hby hd)
  exact (k T' X' e').of stp
theorem g_putfield (X : Stand p l e R s m args below meth c T locs cells slots) (hx : p.tables.exec = Jvm.exec) (hby : c.code = code) (hZ : Z.Warmed39 s.vm) {own R0 O n d host C : String} {index kk : Nat} {ty : FieldType} (hown : s.vm.findClass own = some m.cls) (w : (Jvm.Cond.fieldLink own index R0 n d).before a0 Z = true ∨ (Jvm.Cond.fieldLinkNest own index R0 n d host).before a0 Z = true) (via : Via Z R0 O n d) (eT : T.heap = h) {a : Addr} {v old : Value} (F : Fld Z h a O n d old) (E : Exa Z h a C)
    (L : (Jvm.Cond.lays C O n d).before a0 Z = true ∨ ((Jvm.Cond.laysFinal C O n d).before a0 Z = true ∧ own = O ∧ meth.name = "<init>")) (wi : (Jvm.Cond.instantiable C kk).before a0 Z = true) (hty : parseFieldDescriptor d = some ty) (hn : narrow ty v = v) (hf : fits ty v = true) (hd : Ins1 code pc (.putfield index) 3 pn)
    (k : ∀ T' h', Stand p l e R s m args below meth c T' (locs ++ [⟨a, Jvm.RoadKit.slotOf Z O n d⟩]) cells slots → T'.heap = h' → Wr h h' a (Jvm.RoadKit.slotOf Z O n d) v → Gd p e below P T' (mkF m pn Ls st)) : Gd p e below P T (mkF m pc Ls (v :: .ref a :: st)) := by
  obtain ⟨hd, rfl⟩ := hd
  obtain ⟨T', h', X', e', W, stp⟩ := putF X hx hZ hown w via eT F E L wi hty hn hf (g := mkF m pc Ls (v :: .ref a :: st)) rfl rfl (hb hby hd)
  exact (k T' h' X' e' W).of stp
theorem g_putfieldN (X : Stand p l e R s m args below meth c T locs cells slots) (hx : p.tables.exec = Jvm.exec) (hby : c.code = code) (hZ : Z.Warmed39 s.vm) {own R0 O n d C : String} {index kk : Nat} {ty : FieldType} (hown : s.vm.findClass own = some m.cls) (w : (Jvm.Cond.fieldLink own index R0 n d).before a0 Z = true) (via : Via Z R0 O n d) (eT : T.heap = h) {a : Addr} {v v' old : Value} (F : Fld Z h a O n d old) (E : Exa Z h a C)
    (L : (Jvm.Cond.lays C O n d).before a0 Z = true ∨ ((Jvm.Cond.laysFinal C O n d).before a0 Z = true ∧ own = O ∧ meth.name = "<init>")) (wi : (Jvm.Cond.instantiable C kk).before a0 Z = true) (hty : parseFieldDescriptor d = some ty) (hn : narrow ty v = v') (hf : fits ty v' = true) (hd : Ins1 code pc (.putfield index) 3 pn)
    (k : ∀ T' h', Stand p l e R s m args below meth c T' (locs ++ [⟨a, Jvm.RoadKit.slotOf Z O n d⟩]) cells slots → T'.heap = h' → Wr h h' a (Jvm.RoadKit.slotOf Z O n d) v' → Gd p e below P T' (mkF m pn Ls st)) : Gd p e below P T (mkF m pc Ls (v :: .ref a :: st)) := by
  obtain ⟨hd, rfl⟩ := hd
  obtain ⟨T', h', X', e', W, stp⟩ := putFN X hx hZ hown w via eT F E L wi hty hn hf (g := mkF m pc Ls (v :: .ref a :: st)) rfl rfl (hb hby hd)
  exact (k T' h' X' e' W).of stp
theorem g_new (X : Stand p l e R s m args below meth c T locs cells slots) (hx : p.tables.exec = Jvm.exec) (hby : c.code = code) (hZ : Z.Warmed39 s.vm) {own C : String} {index n : Nat} (hown : s.vm.findClass own = some m.cls) (w : (Jvm.Cond.classLink own index C).before a0 Z = true) (wi : (Jvm.Cond.instantiable C n).before a0 Z = true) (wz : (Jvm.Cond.initialized C).before a0 Z = true) (eT : T.heap = h) (hd : Ins1 code pc (.new index) 3 pn) (hc : cells + 1 ≤ R.cells) (hl : slots + n ≤ R.slots)
    (k : ∀ T' h' b, Stand p l e R s m args below meth c T' locs (cells + 1) (slots + n) → T'.heap = h' → Ext h h' → b = h.size → Exa Z h' b C → (∀ {O nm d : String} {ty : FieldType}, Laid Z a0 C O nm d → parseFieldDescriptor d = some ty → Fld Z h' b O nm d (defaultValue ty)) → Gd p e below P T' (mkF m pn Ls (.ref b :: st))) : Gd p e below P T (mkF m pc Ls st) := by
  obtain ⟨hd, rfl⟩ := hd
  obtain ⟨T', h', X', e', E, A, D, -, stp⟩ := newO X hx hZ hown w wi wz eT (g := mkF m pc Ls st) rfl (hb hby hd) hc hl
  exact (k T' h' _ X' e' E rfl A D).of stp
theorem g_newarray (X : Stand p l e R s m args below meth c T locs cells slots) (hx : p.tables.exec = Jvm.exec) (hby : c.code = code) (hZ : Z.Warmed39 s.vm) {aty : ArrayType} {n : Int32} {ty : FieldType} (hty : newarray.typeOf aty = ty) (w : (Jvm.Cond.arrayClass ty).before a0 Z = true) (eT : T.heap = h) (hd : Ins1 code pc (.newarray aty) 2 pn) (hn : ¬ n < 0) (cap : Nat) (hcap : n.toNatClampNeg ≤ cap) (hb' : cap * 8 ≤ 536870912) (hc : cells + 1 ≤ R.cells) (hl : slots + cap ≤ R.slots)
    (k : ∀ T' h' b cA, Stand p l e R s m args below meth c T' locs (cells + 1) (slots + cap) → T'.heap = h' → Ext h h' → b = h.size → Arv Z h' b cA ty n [] (defaultValue ty) → Gd p e below P T' (mkF m pn Ls (.ref b :: st))) : Gd p e below P T (mkF m pc Ls (.int n :: st)) := by
  obtain ⟨hd, rfl⟩ := hd
  subst hty
  obtain ⟨T', h', cA, X', e', E, A, stp⟩ := newP X hx hZ w eT (g := mkF m pc Ls (.int n :: st)) rfl (hb hby hd) rfl hn hcap hb' hc hl
  exact (k T' h' _ cA X' e' E rfl (Arv.new A hn)).of stp
theorem g_iastore (X : Stand p l e R s m args below meth c T locs cells slots) (hx : p.tables.exec = Jvm.exec) (hby : c.code = code) (hZ : Z.Warmed39 s.vm) (eT : T.heap = h) {a : Addr} {kc : ClassId} {z j : Int32} {vs : List Value} {dv : Value} {x : Int32} (A : Arv Z h a kc .int z vs dv) {i : Nat} (hj0 : ¬ j < 0) (hj : j < z) (hji : j.toNatClampNeg = i) (hil : i < vs.length) (hd : Ins1 code pc .iastore 1 pn)
    (k : ∀ T' h', Stand p l e R s m args below meth c T' (locs ++ [⟨a, i⟩]) cells slots → T'.heap = h' → Wr h h' a i (.int x) → Arv Z h' a kc .int z (vs.set i (.int x)) dv → Gd p e below P T' (mkF m pn Ls st)) : Gd p e below P T (mkF m pc Ls (.int x :: .int j :: .ref a :: st)) := by
  obtain ⟨hd, rfl⟩ := hd
  obtain ⟨cl, Ar, q1, S, N, H, G⟩ := A
  obtain ⟨T', h', X', e', W, stp⟩ := stI X hx hZ eT Ar (j := j) (inb_of S ⟨hj0, hj⟩) (g := mkF m pc Ls (.int x :: .int j :: .ref a :: st)) rfl rfl (hb hby hd)
  have V := Arv.set Ar q1 S N H G rfl W i hji hil
  rw [hji] at X' W
  exact (k T' h' X' e' W V).of stp
theorem g_lastore (X : Stand p l e R s m args below meth c T locs cells slots) (hx : p.tables.exec = Jvm.exec) (hby : c.code = code) (hZ : Z.Warmed39 s.vm) (eT : T.heap = h) {a : Addr} {kc : ClassId} {z j : Int32} {vs : List Value} {dv : Value} {x : Int64} (A : Arv Z h a kc .long z vs dv) {i : Nat} (hj0 : ¬ j < 0) (hj : j < z) (hji : j.toNatClampNeg = i) (hil : i < vs.length) (hd : Ins1 code pc .lastore 1 pn)
    (k : ∀ T' h', Stand p l e R s m args below meth c T' (locs ++ [⟨a, i⟩]) cells slots → T'.heap = h' → Wr h h' a i (.long x) → Arv Z h' a kc .long z (vs.set i (.long x)) dv → Gd p e below P T' (mkF m pn Ls st)) : Gd p e below P T (mkF m pc Ls (.long x :: .int j :: .ref a :: st)) := by
  obtain ⟨hd, rfl⟩ := hd
  obtain ⟨cl, Ar, q1, S, N, H, G⟩ := A
  obtain ⟨T', h', X', e', W, stp⟩ := stJ X hx hZ eT Ar (j := j) (inb_of S ⟨hj0, hj⟩) (g := mkF m pc Ls (.long x :: .int j :: .ref a :: st)) rfl rfl (hb hby hd)
  have V := Arv.set Ar q1 S N H G rfl W i hji hil
  rw [hji] at X' W
  exact (k T' h' X' e' W V).of stp
theorem g_castore (X : Stand p l e R s m args below meth c T locs cells slots) (hx : p.tables.exec = Jvm.exec) (hby : c.code = code) (hZ : Z.Warmed39 s.vm) (eT : T.heap = h) {a : Addr} {kc : ClassId} {z j : Int32} {vs : List Value} {dv : Value} {x : Int32} (A : Arv Z h a kc .char z vs dv) {i : Nat} (hj0 : ¬ j < 0) (hj : j < z) (hji : j.toNatClampNeg = i) (hil : i < vs.length) (hd : Ins1 code pc .castore 1 pn)
    (k : ∀ T' h', Stand p l e R s m args below meth c T' (locs ++ [⟨a, i⟩]) cells slots → T'.heap = h' → Wr h h' a i (.int (nar .char x)) → Arv Z h' a kc .char z (vs.set i (.int (nar .char x))) dv → Gd p e below P T' (mkF m pn Ls st)) : Gd p e below P T (mkF m pc Ls (.int x :: .int j :: .ref a :: st)) := by
  obtain ⟨hd, rfl⟩ := hd
  obtain ⟨cl, Ar, q1, S, N, H, G⟩ := A
  obtain ⟨T', h', X', e', W, stp⟩ := stC X hx hZ eT Ar (j := j) (inb_of S ⟨hj0, hj⟩) (g := mkF m pc Ls (.int x :: .int j :: .ref a :: st)) rfl rfl (hb hby hd)
  have V := Arv.set Ar q1 S N H G (fits_nar_char x) W i hji hil
  rw [hji] at X' W
  exact (k T' h' X' e' W V).of stp
theorem g_sastore (X : Stand p l e R s m args below meth c T locs cells slots) (hx : p.tables.exec = Jvm.exec) (hby : c.code = code) (hZ : Z.Warmed39 s.vm) (eT : T.heap = h) {a : Addr} {kc : ClassId} {z j : Int32} {vs : List Value} {dv : Value} {x : Int32} (A : Arv Z h a kc .short z vs dv) {i : Nat} (hj0 : ¬ j < 0) (hj : j < z) (hji : j.toNatClampNeg = i) (hil : i < vs.length) (hd : Ins1 code pc .sastore 1 pn)
    (k : ∀ T' h', Stand p l e R s m args below meth c T' (locs ++ [⟨a, i⟩]) cells slots → T'.heap = h' → Wr h h' a i (.int (nar .short x)) → Arv Z h' a kc .short z (vs.set i (.int (nar .short x))) dv → Gd p e below P T' (mkF m pn Ls st)) : Gd p e below P T (mkF m pc Ls (.int x :: .int j :: .ref a :: st)) := by
  obtain ⟨hd, rfl⟩ := hd
  obtain ⟨cl, Ar, q1, S, N, H, G⟩ := A
  obtain ⟨T', h', X', e', W, stp⟩ := stS X hx hZ eT Ar (j := j) (inb_of S ⟨hj0, hj⟩) (g := mkF m pc Ls (.int x :: .int j :: .ref a :: st)) rfl rfl (hb hby hd)
  have V := Arv.set Ar q1 S N H G (fits_nar_short x) W i hji hil
  rw [hji] at X' W
  exact (k T' h' X' e' W V).of stp
theorem g_bastore (X : Stand p l e R s m args below meth c T locs cells slots) (hx : p.tables.exec = Jvm.exec) (hby : c.code = code) (hZ : Z.Warmed39 s.vm) (eT : T.heap = h) {a : Addr} {kc : ClassId} {z j : Int32} {vs : List Value} {dv : Value} {x : Int32} (A : Arv Z h a kc .byte z vs dv) {i : Nat} (hj0 : ¬ j < 0) (hj : j < z) (hji : j.toNatClampNeg = i) (hil : i < vs.length) (hd : Ins1 code pc .bastore 1 pn)
    (k : ∀ T' h', Stand p l e R s m args below meth c T' (locs ++ [⟨a, i⟩]) cells slots → T'.heap = h' → Wr h h' a i (.int (nar .byte x)) → Arv Z h' a kc .byte z (vs.set i (.int (nar .byte x))) dv → Gd p e below P T' (mkF m pn Ls st)) : Gd p e below P T (mkF m pc Ls (.int x :: .int j :: .ref a :: st)) := by
  obtain ⟨hd, rfl⟩ := hd
  obtain ⟨cl, Ar, q1, S, N, H, G⟩ := A
  obtain ⟨T', h', X', e', W, stp⟩ := stB X hx hZ eT Ar (j := j) (inb_of S ⟨hj0, hj⟩) (g := mkF m pc Ls (.int x :: .int j :: .ref a :: st)) rfl rfl (hb hby hd)
  have V := Arv.set Ar q1 S N H G (fits_nar_byte x) W i hji hil
  rw [hji] at X' W
  exact (k T' h' X' e' W V).of stp
theorem g_iaload (X : Stand p l e R s m args below meth c T locs cells slots) (hx : p.tables.exec = Jvm.exec) (hby : c.code = code) (hZ : Z.Warmed39 s.vm) (eT : T.heap = h) {a : Addr} {kc : ClassId} {z j : Int32} {vs : List Value} {dv v : Value} (A : Arv Z h a kc .int z vs dv) {i : Nat} (hj0 : ¬ j < 0) (hj : j < z) (hji : j.toNatClampNeg = i) (hv : vs.getD i dv = v) (hd : Ins1 code pc .iaload 1 pn)
    (k : Gd p e below P T (mkF m pn Ls (v :: st))) : Gd p e below P T (mkF m pc Ls (.int j :: .ref a :: st)) := by
  obtain ⟨hd, rfl⟩ := hd
  obtain ⟨cl, Ar, q1, S, N, H, G⟩ := A
  have hin := inb_of S ⟨hj0, hj⟩
  exact k.imp fun t q => ⟨X.iaload hx (j := j) (v := v) (by rw [eT]; exact Ar.1) (State.isArrayOf_alike hZ.alike Ar.2.1) Ar.2.2 hin (H.at hin (by rw [hji]; exact hv)) (g := mkF m pc Ls (.int j :: .ref a :: st)) rfl rfl (hb hby hd) _ q.1, q.2⟩
theorem g_laload (X : Stand p l e R s m args below meth c T locs cells slots) (hx : p.tables.exec = Jvm.exec) (hby : c.code = code) (hZ : Z.Warmed39 s.vm) (eT : T.heap = h) {a : Addr} {kc : ClassId} {z j : Int32} {vs : List Value} {dv v : Value} (A : Arv Z h a kc .long z vs dv) {i : Nat} (hj0 : ¬ j < 0) (hj : j < z) (hji : j.toNatClampNeg = i) (hv : vs.getD i dv = v) (hd : Ins1 code pc .laload 1 pn)
    (k : Gd p e below P T (mkF m pn Ls (v :: st))) : Gd p e below P T (mkF m pc Ls (.int j :: .ref a :: st)) := by
  obtain ⟨hd, rfl⟩ := hd
  obtain ⟨cl, Ar, q1, S, N, H, G⟩ := A
  have hin := inb_of S ⟨hj0, hj⟩
  exact k.imp fun t q => ⟨X.laload hx (j := j) (v := v) (by rw [eT]; exact Ar.1) (State.isArrayOf_alike hZ.alike Ar.2.1) Ar.2.2 hin (H.at hin (by rw [hji]; exact hv)) (g := mkF m pc Ls (.int j :: .ref a :: st)) rfl rfl (hb hby hd) _ q.1, q.2⟩
theorem g_caload (X : Stand p l e R s m args below meth c T locs cells slots) (hx : p.tables.exec = Jvm.exec) (hby : c.code = code) (hZ : Z.Warmed39 s.vm) (eT : T.heap = h) {a : Addr} {kc : ClassId} {z j : Int32} {vs : List Value} {dv v : Value} (A : Arv Z h a kc .char z vs dv) {i : Nat} (hj0 : ¬ j < 0) (hj : j < z) (hji : j.toNatClampNeg = i) (hv : vs.getD i dv = v) (hd : Ins1 code pc .caload 1 pn)
    (k : Gd p e below P T (mkF m pn Ls (v :: st))) : Gd p e below P T (mkF m pc Ls (.int j :: .ref a :: st)) := by
  obtain ⟨hd, rfl⟩ := hd
  obtain ⟨cl, Ar, q1, S, N, H, G⟩ := A
  have hin := inb_of S ⟨hj0, hj⟩
  exact k.imp fun t q => ⟨X.caload hx (j := j) (v := v) (by rw [eT]; exact Ar.1) (State.isArrayOf_alike hZ.alike Ar.2.1) Ar.2.2 hin (H.at hin (by rw [hji]; exact hv)) (g := mkF m pc Ls (.int j :: .ref a :: st)) rfl rfl (hb hby hd) _ q.1, q.2⟩
theorem g_saload (X : Stand p l e R s m args below meth c T locs cells slots) (hx : p.tables.exec = Jvm.exec) (hby : c.code = code) (hZ : Z.Warmed39 s.vm) (eT : T.heap = h) {a : Addr} {kc : ClassId} {z j : Int32} {vs : List Value} {dv v : Value} (A : Arv Z h a kc .short z vs dv) {i : Nat} (hj0 : ¬ j < 0) (hj : j < z) (hji : j.toNatClampNeg = i) (hv : vs.getD i dv = v) (hd : Ins1 code pc .saload 1 pn)
    (k : Gd p e below P T (mkF m pn Ls (v :: st))) : Gd p e below P T (mkF m pc Ls (.int j :: .ref a :: st)) := by
  obtain ⟨hd, rfl⟩ := hd
  obtain ⟨cl, Ar, q1, S, N, H, G⟩ := A
  have hin := inb_of S ⟨hj0, hj⟩
  exact k.imp fun t q => ⟨X.saload hx (j := j) (v := v) (by rw [eT]; exact Ar.1) (State.isArrayOf_alike hZ.alike Ar.2.1) Ar.2.2 hin (H.at hin (by rw [hji]; exact hv)) (g := mkF m pc Ls (.int j :: .ref a :: st)) rfl rfl (hb hby hd) _ q.1, q.2⟩
theorem g_baload (X : Stand p l e R s m args below meth c T locs cells slots) (hx : p.tables.exec = Jvm.exec) (hby : c.code = code) (hZ : Z.Warmed39 s.vm) (eT : T.heap = h) {a : Addr} {kc : ClassId} {z j : Int32} {vs : List Value} {dv v : Value} (A : Arv Z h a kc .byte z vs dv) {i : Nat} (hj0 : ¬ j < 0) (hj : j < z) (hji : j.toNatClampNeg = i) (hv : vs.getD i dv = v) (hd : Ins1 code pc .baload 1 pn)
    (k : Gd p e below P T (mkF m pn Ls (v :: st))) : Gd p e below P T (mkF m pc Ls (.int j :: .ref a :: st)) := by
  obtain ⟨hd, rfl⟩ := hd
  obtain ⟨cl, Ar, q1, S, N, H, G⟩ := A
  have hin := inb_of S ⟨hj0, hj⟩
  exact k.imp fun t q => ⟨X.baloadBytes hx (j := j) (v := v) (by rw [eT]; exact Ar.1) (State.isArrayOf_alike hZ.alike Ar.2.1) Ar.2.2 hin (H.at hin (by rw [hji]; exact hv)) (g := mkF m pc Ls (.int j :: .ref a :: st)) rfl rfl (hb hby hd) _ q.1, q.2⟩
theorem g_arraylength (X : Stand p l e R s m args below meth c T locs cells slots) (hx : p.tables.exec = Jvm.exec) (hby : c.code = code) (hZ : Z.Warmed39 s.vm) (eT : T.heap = h) {a : Addr} {kc : ClassId} {ty : FieldType} {z : Int32} {vs : List Value} {dv : Value} (A : Arv Z h a kc ty z vs dv) (hd : Ins1 code pc .arraylength 1 pn) (k : Gd p e below P T (mkF m pn Ls (.int z :: st))) : Gd p e below P T (mkF m pc Ls (.ref a :: st)) := by
  obtain ⟨hd, rfl⟩ := hd
  obtain ⟨cl, Ar, q1, S, N, H, G⟩ := A
  rw [← len_of S N] at k
  exact k.imp fun t q => ⟨X.arraylength hx (by rw [eT]; exact Ar.1) (State.isArrayOf_alike hZ.alike Ar.2.1) (g := mkF m pc Ls (.ref a :: st)) rfl rfl (hb hby hd) _ q.1, q.2⟩
theorem g_objInit (X : Stand p l e R s m args below meth c T locs cells slots) (hx : p.tables.exec = Jvm.exec) (hby : c.code = code) (hZ : Z.Warmed39 s.vm) {own : String} {idx : Nat} (hown : s.vm.findClass own = some m.cls) (w1 : (Jvm.Cond.methodLink own idx Lib.objectInit).before a0 Z = true) (w2 : (Jvm.Cond.instanceMethod Lib.objectInit).before a0 Z = true) (w3 : (Jvm.Cond.code Lib.objectInit ⟨#[0xb1]⟩ 1 none).before a0 Z = true) (eT : T.heap = h) (hsize : Ls.size = c.maxLocals) {a : Addr} (hd : Ins1 code pc (.invokespecial idx) 3 pn)
    (W : Nat) (hW : (st.map fun v => v.category).sum = W) (hf : 1 ≤ R.frames) (hl : W + 12 ≤ R.locals) (k : ∀ T', Stand p l e R s m args below meth c T' locs cells slots → T'.heap = h → Gd p e below P T' (mkF m pn Ls st)) : Gd p e below P T (mkF m pc Ls (.ref a :: st)) := by
  obtain ⟨hd, rfl⟩ := hd
  obtain ⟨T', X', e', stp⟩ := initO X hx hZ hown w1 w2 w3 eT (g := mkF m pc Ls (.ref a :: st)) rfl hsize rfl (hb hby hd) hf (W := W) (by show 2 * 0 + _ ≤ _; rw [hW]; omega) hl
  exact (k T' X' e').of stp
theorem g_callS0 (X : Stand p l e R s m args below meth c T locs cells slots) (hx : p.tables.exec = Jvm.exec) (hby : c.code = code) (hZ : Z.Warmed39 s.vm) {y : MethodName} {bytes : ByteArray} {maxL : Nat} {ret : Option FieldType} {rm : Room} {argsL rest : List Value} {Q : Option Value → Heap → List Loc → Prop} {own : String} {index : Nat} (hown : s.vm.findClass own = some m.cls) (w1 : (Jvm.Cond.methodLink own index y).before a0 Z = true) (w2 : (Jvm.Cond.static y).before a0 Z = true) (w3 : (Jvm.Cond.initialized y.cls).before a0 Z = true) (w4 : (Jvm.Cond.code y bytes maxL ret).before a0 Z = true) (hy : y.cls ≠ "java/lang/invoke/MethodHandle" ∧ y.cls ≠ "java/lang/invoke/VarHandle")
    (M : Met1 l y bytes maxL ret [] rm argsL.toArray Z h Q) (eT : T.heap = h) (hsize : Ls.size = c.maxLocals) {ps : List FieldType} {r : Option FieldType} (hpd : parseMethodDescriptor y.desc = some ⟨ps, r⟩) (hlen : argsL.length = ps.length) (hst : st = argsL.reverse ++ rest) (hd : Ins1 code pc (.invokestatic index) 3 pn) (hf : rm.frames + 1 ≤ R.frames) (W : Nat) (hW : (rest.map fun v => v.category).sum = W) (hl : W + (maxL + 11) + rm.locals ≤ R.locals) (hcl : cells + rm.cells ≤ R.cells) (hsl : slots + rm.slots ≤ R.slots)
    (k : ∀ T' v L, Stand p l e R s m args below meth c T' (locs ++ L) (cells + rm.cells) (slots + rm.slots) → Q v T'.heap L → Gd p e below P T' (mkF m pn Ls (v.toList ++ rest))) : Gd p e below P T (mkF m pc Ls st) := by
  obtain ⟨hd, rfl⟩ := hd
  obtain ⟨v, _, ⟨T', L', k', n'⟩, -, X', ⟨Lc, hQ, l1, y1, z1⟩, stp⟩ := Jvm.LawKit.callS X hx (y := y) hown (mvT hZ w1) (mvT hZ w2) (mvT hZ w3) (mvT hZ w4) hy (backOf (W := W) M hZ w4 w3 hf hl) (g := mkF m pc Ls st) rfl hsize (argsL := argsL) (rest := rest) (lenOf hpd hlen) hst (by show 2 * 0 + _ ≤ _; rw [hW]; omega) (hb hby hd) (fun _ _ => ⟨rfl, eT, hcl, hsl⟩)
  dsimp only [Pt.U, Pt.locs, Pt.cells, Pt.slots] at X' l1 y1 z1 stp hQ
  subst l1 y1 z1
  exact (k T' v Lc X' hQ).of stp
theorem g_callInit0 (X : Stand p l e R s m args below meth c T locs cells slots) (hx : p.tables.exec = Jvm.exec) (hby : c.code = code) (hZ : Z.Warmed39 s.vm) {y : MethodName} {bytes : ByteArray} {maxL : Nat} {rm : Room} {argsL rest : List Value} {Q : Option Value → Heap → List Loc → Prop} {own : String} {index : Nat} (hy1 : y.name = "<init>") (hown : s.vm.findClass own = some m.cls) (w1 : (Jvm.Cond.methodLink own index y).before a0 Z = true) (w2 : (Jvm.Cond.instanceMethod y).before a0 Z = true) (w3 : (Jvm.Cond.initialized y.cls).before a0 Z = true) (w4 : (Jvm.Cond.code y bytes maxL none).before a0 Z = true) (hy : y.cls ≠ "java/lang/invoke/MethodHandle" ∧ y.cls ≠ "java/lang/invoke/VarHandle")
    {a : Addr} (M : Met1 l y bytes maxL none [] rm (.ref a :: argsL).toArray Z h Q) (eT : T.heap = h) (hsize : Ls.size = c.maxLocals) {ps : List FieldType} {r : Option FieldType} (hpd : parseMethodDescriptor y.desc = some ⟨ps, r⟩) (hlen : argsL.length = ps.length) (hst : st = argsL.reverse ++ .ref a :: rest) (hd : Ins1 code pc (.invokespecial index) 3 pn) (hf : rm.frames + 1 ≤ R.frames) (W : Nat) (hW : (rest.map fun v => v.category).sum = W) (hl : W + (maxL + 11) + rm.locals ≤ R.locals) (hcl : cells + rm.cells ≤ R.cells) (hsl : slots + rm.slots ≤ R.slots)
    (k : ∀ T' v L, Stand p l e R s m args below meth c T' (locs ++ L) (cells + rm.cells) (slots + rm.slots) → Q v T'.heap L → Gd p e below P T' (mkF m pn Ls (v.toList ++ rest))) : Gd p e below P T (mkF m pc Ls st) := by
  obtain ⟨hd, rfl⟩ := hd
  obtain ⟨v, _, ⟨T', L', k', n'⟩, -, X', ⟨Lc, hQ, l1, y1, z1⟩, stp⟩ := X.specialBack hx (y := y) hy1 hown (mvT hZ w1) (mvT hZ w2) (mvT hZ w4) hy (backOf (W := W) M hZ w4 w3 hf hl) (g := mkF m pc Ls st) rfl hsize (Steps.refl _) (a := a) (argsL := argsL) (rest := rest) (lenOf hpd hlen) hst (by show 2 * 0 + _ ≤ _; rw [hW]; omega) (hb hby hd) (fun _ _ => ⟨rfl, eT, hcl, hsl⟩)
  dsimp only [Pt.U, Pt.locs, Pt.cells, Pt.slots] at X' l1 y1 z1 stp hQ
  subst l1 y1 z1
  exact (k T' v Lc X' hQ).of fun t q => stp.trans q
theorem g_callV0 (X : Stand p l e R s m args below meth c T locs cells slots) (hx : p.tables.exec = Jvm.exec) (hby : c.code = code) (hZ : Z.Warmed39 s.vm) {y : MethodName} {bytes : ByteArray} {maxL : Nat} {ret : Option FieldType} {rm : Room} {argsL rest : List Value} {Q : Option Value → Heap → List Loc → Prop} {own C : String} {index : Nat} {y0 : MethodName} (hown : s.vm.findClass own = some m.cls) (w1 : (Jvm.Cond.methodLink own index y0).before a0 Z = true) (w2 : (Jvm.Cond.declares y0).before a0 Z = true) (hnf : NotFace s y0) (w5 : (Jvm.Cond.selects C y0 y).before a0 Z = true) (w6 : (Jvm.Cond.instanceMethod y).before a0 Z = true) (w3 : (Jvm.Cond.initialized y.cls).before a0 Z = true) (w4 : (Jvm.Cond.code y bytes maxL ret).before a0 Z = true) (hy : y0.cls ≠ "java/lang/invoke/MethodHandle" ∧ y0.cls ≠ "java/lang/invoke/VarHandle")
    {a : Addr} (E : Exa Z h a C) (M : Met1 l y bytes maxL ret [] rm (.ref a :: argsL).toArray Z h Q) (eT : T.heap = h) (hsize : Ls.size = c.maxLocals) {ps : List FieldType} {r : Option FieldType} (hpd : parseMethodDescriptor y0.desc = some ⟨ps, r⟩) (hlen : argsL.length = ps.length) (hst : st = argsL.reverse ++ .ref a :: rest) (hd : Ins1 code pc (.invokevirtual index) 3 pn) (hf : rm.frames + 1 ≤ R.frames) (W : Nat) (hW : (rest.map fun v => v.category).sum = W) (hl : W + (maxL + 11) + rm.locals ≤ R.locals) (hcl : cells + rm.cells ≤ R.cells) (hsl : slots + rm.slots ≤ R.slots)
    (k : ∀ T' v L, Stand p l e R s m args below meth c T' (locs ++ L) (cells + rm.cells) (slots + rm.slots) → Q v T'.heap L → Gd p e below P T' (mkF m pn Ls (v.toList ++ rest))) : Gd p e below P T (mkF m pc Ls st) := by
  obtain ⟨hd, rfl⟩ := hd
  obtain ⟨cq, kq, qa, qb, qc⟩ := isOf hZ eT E
  obtain ⟨v, _, ⟨T', L', k', n'⟩, -, X', ⟨Lc, hQ, l1, y1, z1⟩, stp⟩ := X.virtualBack hx (y := y0) (z := y) hown (mvT hZ w1) (mvT hZ w2) hnf (mvT hZ w5) (mvT hZ w6) hy (backOf (W := W) M hZ w4 w3 hf hl) qa qc (g := mkF m pc Ls st) rfl hsize (Steps.refl _) (argsL := argsL) (rest := rest) (lenOf hpd hlen) hst (by show 2 * 0 + _ ≤ _; rw [hW]; omega) (hb hby hd) (fun _ _ => ⟨rfl, eT, hcl, hsl⟩)
  dsimp only [Pt.U, Pt.locs, Pt.cells, Pt.slots] at X' l1 y1 z1 stp hQ
  subst l1 y1 z1
  exact (k T' v Lc X' hQ).of fun t q => stp.trans q
theorem g_ireturn (X : Stand p l e R s m args below meth c T locs cells slots) (hx : p.tables.exec = Jvm.exec) (hby : c.code = code) (hret : meth.sig.returnType = some .int) (hlk : meth.locks = false) {z : Int32} {Q : Option Value → Heap → List Loc → Prop} {C S : Nat} (hd : Ins1 code pc .ireturn 1 pn) (hc : cells ≤ C) (hs : slots ≤ S) (hQ : Q (some (.int z)) T.heap locs) : Gd p e below (Fin1 s below C S Q) T (mkF m pc Ls (.int z :: st)) := by
  obtain ⟨fs, hr, hrun, hended, hW, hsame⟩ := X.leave (v := some (.int z)) (fun q => by rw [hret] at q; cases q) hlk
  exact ⟨_, retOut X hx (t := .int) hret rfl (Or.inl ⟨rfl, Or.inl rfl, z, rfl⟩) (hb hby hd.1) hr, _, hrun, hended, _, _, rfl, hQ, ⟨_, rfl⟩, hW, hsame.mono hc hs⟩
theorem g_ireturnN (X : Stand p l e R s m args below meth c T locs cells slots) (hx : p.tables.exec = Jvm.exec) (hby : c.code = code) {ty : FieldType} (hret : meth.sig.returnType = some ty) (hty : ty = .boolean ∨ ty = .byte ∨ ty = .char ∨ ty = .short) (hlk : meth.locks = false) {z : Int32} {Q : Option Value → Heap → List Loc → Prop} {C S : Nat} (hd : Ins1 code pc .ireturn 1 pn) (hc : cells ≤ C) (hs : slots ≤ S) (hQ : Q (some (.int (nar ty z))) T.heap locs) : Gd p e below (Fin1 s below C S Q) T (mkF m pc Ls (.int z :: st)) := by
  obtain ⟨fs, hr, hrun, hended, hW, hsame⟩ := X.leave (v := some (.int (nar ty z))) (fun q => by rw [hret] at q; cases q) hlk
  exact ⟨_, retN X hx hret hty (hb hby hd.1) hr, _, hrun, hended, _, _, rfl, hQ, ⟨_, rfl⟩, hW, hsame.mono hc hs⟩
theorem g_lreturn (X : Stand p l e R s m args below meth c T locs cells slots) (hx : p.tables.exec = Jvm.exec) (hby : c.code = code) (hret : meth.sig.returnType = some .long) (hlk : meth.locks = false) {z : Int64} {Q : Option Value → Heap → List Loc → Prop} {C S : Nat} (hd : Ins1 code pc .lreturn 1 pn) (hc : cells ≤ C) (hs : slots ≤ S) (hQ : Q (some (.long z)) T.heap locs) : Gd p e below (Fin1 s below C S Q) T (mkF m pc Ls (.long z :: st)) := by
  obtain ⟨fs, hr, hrun, hended, hW, hsame⟩ := X.leave (v := some (.long z)) (fun q => by rw [hret] at q; cases q) hlk
  exact ⟨_, retOut X hx (t := .long) hret rfl (Or.inr (Or.inl ⟨rfl, rfl, z, rfl⟩)) (hb hby hd.1) hr, _, hrun, hended, _, _, rfl, hQ, ⟨_, rfl⟩, hW, hsame.mono hc hs⟩
theorem g_dreturn (X : Stand p l e R s m args below meth c T locs cells slots) (hx : p.tables.exec = Jvm.exec) (hby : c.code = code) (hret : meth.sig.returnType = some .double) (hlk : meth.locks = false) {z : UInt64} {Q : Option Value → Heap → List Loc → Prop} {C S : Nat} (hd : Ins1 code pc .dreturn 1 pn) (hc : cells ≤ C) (hs : slots ≤ S) (hQ : Q (some (.double z)) T.heap locs) : Gd p e below (Fin1 s below C S Q) T (mkF m pc Ls (.double z :: st)) := by
  obtain ⟨fs, hr, hrun, hended, hW, hsame⟩ := X.leave (v := some (.double z)) (fun q => by rw [hret] at q; cases q) hlk
  exact ⟨_, retOut X hx (t := .double) hret rfl (Or.inr (Or.inr (Or.inl ⟨rfl, rfl, z, rfl⟩))) (hb hby hd.1) hr, _, hrun, hended, _, _, rfl, hQ, ⟨_, rfl⟩, hW, hsame.mono hc hs⟩
theorem g_areturn (X : Stand p l e R s m args below meth c T locs cells slots) (hx : p.tables.exec = Jvm.exec) (hby : c.code = code) {ty : FieldType} (hret : meth.sig.returnType = some ty) (hty : ty.isReference = true) (hn : ∀ v, narrow ty v = v) (hlk : meth.locks = false) {z : Value} (hz : z.isRef = true) {Q : Option Value → Heap → List Loc → Prop} {C S : Nat} (hd : Ins1 code pc .areturn 1 pn) (hc : cells ≤ C) (hs : slots ≤ S) (hQ : Q (some z) T.heap locs) : Gd p e below (Fin1 s below C S Q) T (mkF m pc Ls (z :: st)) := by
  obtain ⟨fs, hr, hrun, hended, hW, hsame⟩ := X.leave (v := some z) (fun q => by rw [hret] at q; cases q) hlk
  exact ⟨_, retOut X hx hret (hn z) (Or.inr (Or.inr (Or.inr (Or.inr ⟨rfl, hty, hz⟩)))) (hb hby hd.1) hr, _, hrun, hended, _, _, rfl, hQ, ⟨_, rfl⟩, hW, hsame.mono hc hs⟩
theorem g_return (X : Stand p l e R s m args below meth c T locs cells slots) (hx : p.tables.exec = Jvm.exec) (hby : c.code = code) (hret : meth.sig.returnType = none) (hlk : meth.locks = false) {Q : Option Value → Heap → List Loc → Prop} {C S : Nat} (hd : Ins1 code pc .return_ 1 pn) (hc : cells ≤ C) (hs : slots ≤ S) (hQ : Q none T.heap locs) : Gd p e below (Fin1 s below C S Q) T (mkF m pc Ls []) := by
  obtain ⟨fs, hr, hrun, hended, hW, hsame⟩ := X.leave (v := none) (fun _ => rfl) hlk
  exact ⟨_, X.returnOut hx hret (hb hby hd.1) hr, _, hrun, hended, _, _, rfl, hQ, ⟨_, rfl⟩, hW, hsame.mono hc hs⟩
theorem own_stat {C n d K : String} (hx : (Jvm.Cond.exactly (.static C n d) K).value args Z none Z [] = some true) (w1 : (Jvm.Cond.initialized C).before args Z = true) (w2 : (Jvm.Cond.laysStatic C n d).before args Z = true) : ∃ a, (Term.static C n d).eval args Z none [] Z = some (.ref a) ∧ Sta Z Z.heap C n d (.ref a) ∧ Exa Z Z.heap a K := by
  obtain ⟨a, c', cell, k, e1, -⟩ := Cond.exactly_spec (Cond.before_iff.mpr hx)
  exact ⟨a, e1, Sta.start e1 (Or.inr ⟨w1, w2⟩), Exa.start e1 hx⟩
theorem own_sfld {t : Term} {a : Addr} {C f dd : String} {n : Int32} (ev : t.eval args Z none [] Z = some (.ref a)) (q : (Jvm.Cond.eq (.field t C f dd) (.int n)).value args Z none Z [] = some true) : Fld Z Z.heap a C f dd (.int n) := Fld.start (by rw [← fld_at (C := C) (n := f) (dd := dd) ev]; exact eqv_i (Term.int_eval n) q)
end K
end Jvm.OwnG
namespace Jvm.Pilot.@@N@@
open Jvm Jvm.ClassFile Sem Op Lib Jvm.Free Jvm.Stand Jvm.LawKit Jvm.RoadKit Jvm.OwnG Bundle Jvm.Pilot.@@N@@.Jvm.D
def own_pos (c : Int64) : Int64 := (c &&& (4611686018427387903 : Int64)) + (1 : Int64)
theorem own_pos_ne (c : Int64) : ¬ ((0 : Int64) + own_pos c) = (0 : Int64) := by
  have m := c_maskL c 4611686018427387903 62 (by decide) (by decide)
  have e0 : (0 : Int64).toInt = 0 := by decide
  have e1 : (1 : Int64).toInt = 1 := by decide
  have a1 := c_ladd (c &&& 4611686018427387903) 1
  have a2 := c_ladd 0 (own_pos c)
  have r1 := rng64 (own_pos c)
  have r2 := rng64 (0 + own_pos c)
  unfold own_pos at *
  rw [← Int64.toInt_inj, e0]
  rw [e1] at a1
  rw [e0] at a2
  omega
theorem own_h (x : Int32) : x &&& (3 : Int32) = 0 ∨ x &&& (3 : Int32) = 1 ∨ x &&& (3 : Int32) = 2 ∨ x &&& (3 : Int32) = 3 := by
  have h := c_mask x 3 2 (by decide) (by decide)
  have e0 : (0 : Int32).toInt = 0 := by decide
  have e1 : (1 : Int32).toInt = 1 := by decide
  have e2 : (2 : Int32).toInt = 2 := by decide
  have e3 : (3 : Int32).toInt = 3 := by decide
  simp only [← Int32.toInt_inj, e0, e1, e2, e3]
  omega
/-- the masks of the four heights -/
theorem own_bit (x m : Int32) : (m = 1 → (x &&& m) &&& 2 = 0 ∧ (x &&& m) &&& 4 = 0 ∧ (x &&& m) &&& 8 = 0) ∧ (m = 3 → (x &&& m) &&& 4 = 0 ∧ (x &&& m) &&& 8 = 0) ∧ (m = 7 → (x &&& m) &&& 8 = 0) := by
  refine ⟨fun h => ?_, fun h => ?_, fun h => ?_⟩ <;> subst h <;> (try refine ⟨?_, ?_, ?_⟩) <;> (try refine ⟨?_, ?_⟩) <;> (rw [Int32.and_assoc]; exact Int32.and_zero)
theorem own_or (m : Int32) (h0 : 0 ≤ m.toInt) (h1 : m.toInt < 16) (h : ¬ m = 0) : ¬ m &&& 1 = 0 ∨ ¬ m &&& 2 = 0 ∨ ¬ m &&& 4 = 0 ∨ ¬ m &&& 8 = 0 := by
  have q : ∀ k : Fin 16, ¬ Int32.ofNat k.1 = 0 → ¬ Int32.ofNat k.1 &&& 1 = 0 ∨ ¬ Int32.ofNat k.1 &&& 2 = 0 ∨ ¬ Int32.ofNat k.1 &&& 4 = 0 ∨ ¬ Int32.ofNat k.1 &&& 8 = 0 := by decide
  have e : m = Int32.ofNat m.toInt.toNat := by
    apply Int32.toInt_inj.mp
    rw [Int32.toInt_ofNat_of_lt (by omega)]
    omega
  have := q ⟨m.toInt.toNat, by omega⟩
  rw [e] at h ⊢
  exact this h
/-- what the mask is worth: some bit is set, and only bits up to the height -/
def own_ok (h m : Int32) : Prop := (¬ h < 0 ∧ h < 4) ∧ (¬ m &&& 1 = 0 ∨ ¬ m &&& 2 = 0 ∨ ¬ m &&& 4 = 0 ∨ ¬ m &&& 8 = 0) ∧ (¬ m &&& 2 = 0 → 0 < h) ∧ (¬ m &&& 4 = 0 → 1 < h) ∧ (¬ m &&& 8 = 0 → 2 < h)
theorem own_ok1 {h m x y : Int32} (hh : h = x &&& (3 : Int32)) (hm : m = (y &&& (((2 : Int32) <<< (h &&& 31)) - (1 : Int32)))) (c : ¬ m = (0 : Int32)) : own_ok h m := by
  have b := own_bit y
  rcases own_h x with q | q | q | q <;> rw [q] at hh <;> subst hh
  · have e : ((2 : Int32) <<< ((0 : Int32) &&& 31)) - (1 : Int32) = 1 := by decide
    rw [e] at hm
    have k := c_mask y 1 1 (by decide) (by decide)
    rw [← hm] at k
    obtain ⟨b1, b2, b3⟩ := (b 1).1 rfl
    rw [← hm] at b1 b2 b3
    have o := own_or m (by omega) (by omega) c
    exact ⟨by decide, o, fun z => absurd b1 z, fun z => absurd b2 z, fun z => absurd b3 z⟩
  · have e : ((2 : Int32) <<< ((1 : Int32) &&& 31)) - (1 : Int32) = 3 := by decide
    rw [e] at hm
    have k := c_mask y 3 2 (by decide) (by decide)
    rw [← hm] at k
    obtain ⟨b2, b3⟩ := (b 3).2.1 rfl
    rw [← hm] at b2 b3
    have o := own_or m (by omega) (by omega) c
    exact ⟨by decide, o, fun z => by decide, fun z => absurd b2 z, fun z => absurd b3 z⟩
  · have e : ((2 : Int32) <<< ((2 : Int32) &&& 31)) - (1 : Int32) = 7 := by decide
    rw [e] at hm
    have k := c_mask y 7 3 (by decide) (by decide)
    rw [← hm] at k
    have b3 := (b 7).2.2 rfl
    rw [← hm] at b3
    have o := own_or m (by omega) (by omega) c
    exact ⟨by decide, o, fun z => by decide, fun z => by decide, fun z => absurd b3 z⟩
  · have e : ((2 : Int32) <<< ((3 : Int32) &&& 31)) - (1 : Int32) = 15 := by decide
    rw [e] at hm
    have k := c_mask y 15 4 (by decide) (by decide)
    rw [← hm] at k
    have o := own_or m (by omega) (by omega) c
    exact ⟨by decide, o, fun z => by decide, fun z => by decide, fun z => by decide⟩
theorem own_ok2 {h m x : Int32} (hh : h = x &&& (3 : Int32)) (hm : m = ((1 : Int32) <<< (h &&& 31))) : own_ok h m := by
  rcases own_h x with q | q | q | q <;> rw [q] at hh <;> subst hh <;> subst hm <;> unfold own_ok <;> decide
theorem own_z {h : Int32} (q : ¬ h < 0 ∧ h < 4) : ¬ h + (1 : Int32) < 0 ∧ (h + (1 : Int32)).toNatClampNeg ≤ 4 ∧ (0 : Int32) < h + 1 ∧ (0 < h → (1 : Int32) < h + 1) ∧ (1 < h → (2 : Int32) < h + 1) ∧ (2 < h → (3 : Int32) < h + 1) := by
  have e0 : (0 : Int32).toInt = 0 := by decide
  have e1 : (1 : Int32).toInt = 1 := by decide
  have e2 : (2 : Int32).toInt = 2 := by decide
  have e3 : (3 : Int32).toInt = 3 := by decide
  have e4 : (4 : Int32).toInt = 4 := by decide
  have a := c_iadd h 1
  have r := rng32 (h + 1)
  simp only [Int32.lt_iff_toInt_lt, e0, e1, e2, e3, e4] at q ⊢
  rw [e1] at a
  refine ⟨by omega, ?_, by omega, by omega, by omega, by omega⟩
  show (h + 1).toInt.toNat ≤ 4
  omega
theorem own_le {a b z : Int32} (h : b < z) (q : a < b) : a < z := by
  rw [Int32.lt_iff_toInt_lt] at *
  omega
theorem i1_0 : Ins1 prog_3_method_1_code 0 (.aload_n 0) 1 1 := ⟨by decide +kernel, rfl⟩
theorem i1_1 : Ins1 prog_3_method_1_code 1 (.invokespecial 1) 3 4 := ⟨by decide +kernel, rfl⟩
theorem i1_4 : Ins1 prog_3_method_1_code 4 (.aload_n 0) 1 5 := ⟨by decide +kernel, rfl⟩
theorem i1_5 : Ins1 prog_3_method_1_code 5 (.iload_n 1) 1 6 := ⟨by decide +kernel, rfl⟩
theorem i1_6 : Ins1 prog_3_method_1_code 6 (.iconst 1) 1 7 := ⟨by decide +kernel, rfl⟩
theorem i1_7 : Ins1 prog_3_method_1_code 7 (.iadd) 1 8 := ⟨by decide +kernel, rfl⟩
theorem i1_8 : Ins1 prog_3_method_1_code 8 (.newarray .long) 2 10 := ⟨by decide +kernel, rfl⟩
theorem i1_10 : Ins1 prog_3_method_1_code 10 (.putfield 7) 3 13 := ⟨by decide +kernel, rfl⟩
theorem i1_13 : Ins1 prog_3_method_1_code 13 (.return_) 1 14 := ⟨by decide +kernel, rfl⟩
theorem pn_com_example_value_generalizer_valuegeneralizer_ColumnLevels : plainName "com/example/value_generalizer/valuegeneralizer/ColumnLevels" = true := by first | (simp [plainName, overriddenIn]; done) | decide +kernel
theorem ef_1 (m : MethodId) (a0' : Addr) (p1 : Int32) : entryFrame m #[(.ref a0'), (.int p1)] 2 = mkF m 0 #[.val (.ref a0'), .val (.int p1)] [] := by first | (simp [entryFrame, mkF, argsToLocals, Value.category]; done) | rfl
set_option maxRecDepth 65536 in
set_option maxHeartbeats 40000000 in
theorem rm1 (l : Launch) (Z : State) (a0 : Array Value) (hw : ∀ d ∈ tables_1, d.before a0 Z = true) (ws : List Jvm.Cond) (a0' : Addr) (p1 : Int32)  (h0 : Heap) (n0 : Nat) (Z0 : n0 ≤ h0.size) (E_a : Exa Z h0 a0' "com/example/value_generalizer/valuegeneralizer/ColumnLevels") (F_r : Fld Z h0 a0' "com/example/value_generalizer/valuegeneralizer/ColumnLevels" "records" "[J" .null) (F_t : Fld Z h0 a0' "com/example/value_generalizer/valuegeneralizer/ColumnLevels" "total" "J" (.long 0)) (g_a0' : n0 ≤ a0') (hp : ¬ p1 < 0 ∧ p1 < 4) :
    Met1 l (⟨"com/example/value_generalizer/valuegeneralizer/ColumnLevels", "<init>", "(I)V"⟩ : MethodName) prog_3_method_1_code 2 none ws ({ frames := 1, cells := 1, slots := 4, locals := 12 } : Room) #[(.ref a0'), (.int p1)] Z h0 (RN fun h L => ∃ b kc, Keep h0 h [a0'] ∧ Exa Z h a0' "com/example/value_generalizer/valuegeneralizer/ColumnLevels" ∧ Fld Z h a0' "com/example/value_generalizer/valuegeneralizer/ColumnLevels" "records" "[J" (.ref b) ∧ Fld Z h a0' "com/example/value_generalizer/valuegeneralizer/ColumnLevels" "total" "J" (.long 0) ∧ Arv Z h b kc .long (p1 + (1 : Int32)) [(.long (0 : Int64)), (.long (0 : Int64)), (.long (0 : Int64)), (.long (0 : Int64))] (.long (0 : Int64)) ∧ n0 ≤ b ∧ h0.size ≤ b ∧ Fr n0 L) := by
  refine met_of (plainFor_of_name pn_com_example_value_generalizer_valuegeneralizer_ColumnLevels) ?_
  intro p e s m below meth c T0 X0 hx hby hml hZ hown hnm hret hlk e0 es
  have N0 := Fr.nil n0
  refine Gd.cast (ef_1 m a0' p1) ?_
  have K0 : Keep h0 h0 [a0'] := Keep.refl _ _
  refine g_aloadN X0 hx hby i1_0 rfl rfl ?_
  refine g_objInit X0 hx hby hZ hown (hw _ (List.mem_of_getElem? (i := 6) rfl)) (hw _ (List.mem_of_getElem? (i := 7) rfl)) (hw _ (List.mem_of_getElem? (i := 8) rfl)) e0 (by rw [hml]; rfl) i1_1 0 rfl (by decide) (by decide) fun T1 X1 e1 => ?_
  refine g_aloadN X1 hx hby i1_4 rfl rfl ?_
  refine g_iloadN X1 hx hby i1_5 rfl ?_
  refine g_iconst X1 hx hby i1_6 (z := (1 : Int32)) (by decide) ?_
  refine g_iadd X1 hx hby i1_7 ?_
  refine g_newarray X1 hx hby hZ (ty := .long) rfl (hw _ (List.mem_of_getElem? (i := 9) rfl)) e1 i1_8 (own_z hp).1 4 (own_z hp).2.1 (by decide) (by decide) (by decide) fun T2 h2 b2 k2 X2 e2 E2 hb2 V2 => ?_
  have ne_a0'_b2 : a0' ≠ b2 := Nat.ne_of_lt (Nat.lt_of_lt_of_le E_a.lt (Nat.le_of_eq hb2.symm))
  have g_b2 : n0 ≤ b2 := Nat.le_trans Z0 (Nat.le_of_eq hb2.symm)
  have E_a := E_a.ext E2
  have F_r := F_r.ext E2
  have F_t := F_t.ext E2
  have sz_b2 : h0.size ≤ b2 := Nat.le_trans K0.1 (Nat.le_of_eq hb2.symm)
  have K0 := K0.ext E2
  have Z0 : n0 ≤ h2.size := Nat.le_trans Z0 E2.1
  have V2 : Arv Z h2 b2 k2 .long (p1 + (1 : Int32)) [] (.long (0 : Int64)) := V2
  refine g_putfield X2 hx hby hZ hown (host := "") (Or.inl (hw _ (List.mem_of_getElem? (i := 10) rfl))) Via.refl e2 F_r E_a (Or.inr ⟨(hw _ (List.mem_of_getElem? (i := 11) rfl)), rfl, hnm⟩) (hw _ (List.mem_of_getElem? (i := 1) rfl)) (ty := (.array .long)) (by decide) rfl rfl i1_10 fun T3 h3 X3 e3 W3 => ?_
  have F_r := F_r.same W3
  have E_a := E_a.wr W3
  have F_t := F_t.other W3 (Or.inr (slot_ne (Or.inl (hw _ (List.mem_of_getElem? (i := 23) rfl))) (Or.inr (hw _ (List.mem_of_getElem? (i := 11) rfl))) (by decide) (t := .long) (t' := (.array .long)) (by decide) (by decide)))
  have V2 := V2.other W3 (Ne.symm ne_a0'_b2)
  have Z0 : n0 ≤ h3.size := Nat.le_trans Z0 (Nat.le_of_eq W3.size.symm)
  have N0 := Fr.snoc X3 N0 g_a0'
  have K0 := K0.wr W3 (Or.inl (List.mem_singleton.mpr rfl))
  refine g_return X3 hx hby hret hlk i1_13 (by decide) (by decide) ?_
  rw [e3]
  exact ⟨rfl, b2, k2, K0, E_a, F_r, F_t, V2.pad (pad_rep [] _ 4), g_b2, sz_b2, N0⟩
theorem i3_0 : Ins1 method_2_code 0 (.lload_n 0) 1 1 := ⟨by decide +kernel, rfl⟩
theorem i3_1 : Ins1 method_2_code 1 (.ldc2_w 7) 3 4 := ⟨by decide +kernel, rfl⟩
theorem i3_4 : Ins1 method_2_code 4 (.land) 1 5 := ⟨by decide +kernel, rfl⟩
theorem i3_5 : Ins1 method_2_code 5 (.lconst 1) 1 6 := ⟨by decide +kernel, rfl⟩
theorem i3_6 : Ins1 method_2_code 6 (.ladd) 1 7 := ⟨by decide +kernel, rfl⟩
theorem i3_7 : Ins1 method_2_code 7 (.lreturn) 1 8 := ⟨by decide +kernel, rfl⟩
theorem pn_com_example_value_generalizer_valuegeneralizer_ColumnLevelsLowestPinLaw : plainName "com/example/value_generalizer/valuegeneralizer/ColumnLevelsLowestPinLaw" = true := by first | (simp [plainName, overriddenIn]; done) | decide +kernel
theorem ef_3 (m : MethodId) (q0 : Int64) : entryFrame m #[(.long q0)] 2 = mkF m 0 #[.val (.long q0), .second] [] := by first | (simp [entryFrame, mkF, argsToLocals, Value.category]; done) | rfl
set_option maxRecDepth 65536 in
set_option maxHeartbeats 40000000 in
theorem rm3 (l : Launch) (Z : State) (a0 : Array Value) (hw : ∀ d ∈ tables_1, d.before a0 Z = true) (ws : List Jvm.Cond) (q0 : Int64)  (h0 : Heap) (n0 : Nat) (Z0 : n0 ≤ h0.size)  :
    Met1 l (⟨"com/example/value_generalizer/valuegeneralizer/ColumnLevelsLowestPinLaw", "pos", "(J)J"⟩ : MethodName) method_2_code 2 (some .long) ws ({ frames := 0, cells := 0, slots := 0, locals := 0 } : Room) #[(.long q0)] Z h0 (RV fun z h L => z = .long (own_pos q0) ∧ h = h0 ∧ Fr n0 L) := by
  refine met_of (plainFor_of_name pn_com_example_value_generalizer_valuegeneralizer_ColumnLevelsLowestPinLaw) ?_
  intro p e s m below meth c T0 X0 hx hby hml hZ hown hnm hret hlk e0 es
  have N0 := Fr.nil n0
  refine Gd.cast (ef_3 m q0) ?_
  refine g_lloadN X0 hx hby i3_0 rfl ?_
  refine g_ldc2Long X0 hx hby hZ hown (hw _ (List.mem_of_getElem? (i := 16) rfl)) i3_1 ?_
  refine g_land X0 hx hby i3_4 ?_
  refine g_lconst X0 hx hby i3_5 (z := (1 : Int64)) (by decide) ?_
  refine g_ladd X0 hx hby i3_6 ?_
  refine g_lreturn X0 hx hby hret hlk i3_7 (by decide) (by decide) ?_
  exact ⟨_, rfl, rfl, e0, N0⟩
theorem i4_0 : Ins1 prog_3_method_2_code 0 (.aload_n 0) 1 1 := ⟨by decide +kernel, rfl⟩
theorem i4_1 : Ins1 prog_3_method_2_code 1 (.getfield 7) 3 4 := ⟨by decide +kernel, rfl⟩
theorem i4_4 : Ins1 prog_3_method_2_code 4 (.iload_n 1) 1 5 := ⟨by decide +kernel, rfl⟩
theorem i4_5 : Ins1 prog_3_method_2_code 5 (.dup2) 1 6 := ⟨by decide +kernel, rfl⟩
theorem i4_6 : Ins1 prog_3_method_2_code 6 (.laload) 1 7 := ⟨by decide +kernel, rfl⟩
theorem i4_7 : Ins1 prog_3_method_2_code 7 (.lload_n 2) 1 8 := ⟨by decide +kernel, rfl⟩
theorem i4_8 : Ins1 prog_3_method_2_code 8 (.ladd) 1 9 := ⟨by decide +kernel, rfl⟩
theorem i4_9 : Ins1 prog_3_method_2_code 9 (.lastore) 1 10 := ⟨by decide +kernel, rfl⟩
theorem i4_10 : Ins1 prog_3_method_2_code 10 (.aload_n 0) 1 11 := ⟨by decide +kernel, rfl⟩
theorem i4_11 : Ins1 prog_3_method_2_code 11 (.dup) 1 12 := ⟨by decide +kernel, rfl⟩
theorem i4_12 : Ins1 prog_3_method_2_code 12 (.getfield 13) 3 15 := ⟨by decide +kernel, rfl⟩
theorem i4_15 : Ins1 prog_3_method_2_code 15 (.lload_n 2) 1 16 := ⟨by decide +kernel, rfl⟩
theorem i4_16 : Ins1 prog_3_method_2_code 16 (.ladd) 1 17 := ⟨by decide +kernel, rfl⟩
theorem i4_17 : Ins1 prog_3_method_2_code 17 (.putfield 13) 3 20 := ⟨by decide +kernel, rfl⟩
theorem i4_20 : Ins1 prog_3_method_2_code 20 (.return_) 1 21 := ⟨by decide +kernel, rfl⟩
theorem ef_4 (m : MethodId) (a0' : Addr) (p1 : Int32) (q2 : Int64) : entryFrame m #[(.ref a0'), (.int p1), (.long q2)] 4 = mkF m 0 #[.val (.ref a0'), .val (.int p1), .val (.long q2), .second] [] := by first | (simp [entryFrame, mkF, argsToLocals, Value.category]; done) | rfl
set_option maxRecDepth 65536 in
set_option maxHeartbeats 40000000 in
theorem rm4 (l : Launch) (Z : State) (a0 : Array Value) (hw : ∀ d ∈ tables_1, d.before a0 Z = true) (ws : List Jvm.Cond) (a0' : Addr) (p1 : Int32) (q2 : Int64) (b : Addr) (kc : ClassId) (z : Int32) (vs : List Value) (dv : Value) (i : Nat) (r t : Int64) (h0 : Heap) (n0 : Nat) (Z0 : n0 ≤ h0.size) (E_a : Exa Z h0 a0' "com/example/value_generalizer/valuegeneralizer/ColumnLevels") (F_r : Fld Z h0 a0' "com/example/value_generalizer/valuegeneralizer/ColumnLevels" "records" "[J" (.ref b)) (F_t : Fld Z h0 a0' "com/example/value_generalizer/valuegeneralizer/ColumnLevels" "total" "J" (.long t)) (V : Arv Z h0 b kc .long z vs dv) (g_a0' : n0 ≤ a0') (g_b : n0 ≤ b) (hab : a0' ≠ b) (hj0 : ¬ p1 < 0) (hj : p1 < z) (hji : p1.toNatClampNeg = i) (hil : i < vs.length) (hv : vs.getD i dv = .long r) :
    Met1 l (⟨"com/example/value_generalizer/valuegeneralizer/ColumnLevels", "add", "(IJ)V"⟩ : MethodName) prog_3_method_2_code 4 none ws ({ frames := 0, cells := 0, slots := 0, locals := 0 } : Room) #[(.ref a0'), (.int p1), (.long q2)] Z h0 (RN fun h L => Keep h0 h [a0', b] ∧ Exa Z h a0' "com/example/value_generalizer/valuegeneralizer/ColumnLevels" ∧ Fld Z h a0' "com/example/value_generalizer/valuegeneralizer/ColumnLevels" "records" "[J" (.ref b) ∧ Fld Z h a0' "com/example/value_generalizer/valuegeneralizer/ColumnLevels" "total" "J" (.long (t + q2)) ∧ Arv Z h b kc .long z (vs.set i (.long (r + q2))) dv ∧ Fr n0 L) := by
  refine met_of (plainFor_of_name pn_com_example_value_generalizer_valuegeneralizer_ColumnLevels) ?_
  intro p e s m below meth c T0 X0 hx hby hml hZ hown hnm hret hlk e0 es
  have N0 := Fr.nil n0
  refine Gd.cast (ef_4 m a0' p1 q2) ?_
  have K0 : Keep h0 h0 [a0', b] := Keep.refl _ _
  refine g_aloadN X0 hx hby i4_0 rfl rfl ?_
  refine g_getfield X0 hx hby hZ hown (host := "") (Or.inl (hw _ (List.mem_of_getElem? (i := 10) rfl))) Via.refl e0 F_r i4_1 fun T1 X1 e1 => ?_
  refine g_iloadN X1 hx hby i4_4 rfl ?_
  refine g_dup2 X1 hx hby i4_5 rfl rfl ?_
  refine g_laload X1 hx hby hZ e1 V (i := i) hj0 hj hji hv i4_6 ?_
  refine g_lloadN X1 hx hby i4_7 rfl ?_
  refine g_ladd X1 hx hby i4_8 ?_
  refine g_lastore X1 hx hby hZ e1 V (i := i) hj0 hj hji hil i4_9 fun T3 h3 X3 e3 W3 V => ?_
  have E_a := E_a.wr W3
  have F_r := F_r.other W3 (Or.inl hab)
  have F_t := F_t.other W3 (Or.inl hab)
  have Z0 : n0 ≤ h3.size := Nat.le_trans Z0 (Nat.le_of_eq W3.size.symm)
  have N0 := Fr.snoc X3 N0 g_b
  have K0 := K0.wr W3 (Or.inl (by simp))
  refine g_aloadN X3 hx hby i4_10 rfl rfl ?_
  refine g_dup X3 hx hby i4_11 rfl ?_
  refine g_getfield X3 hx hby hZ hown (host := "") (Or.inl (hw _ (List.mem_of_getElem? (i := 22) rfl))) Via.refl e3 F_t i4_12 fun T4 X4 e4 => ?_
  refine g_lloadN X4 hx hby i4_15 rfl ?_
  refine g_ladd X4 hx hby i4_16 ?_
  refine g_putfield X4 hx hby hZ hown (host := "") (Or.inl (hw _ (List.mem_of_getElem? (i := 22) rfl))) Via.refl e4 F_t E_a (Or.inl (hw _ (List.mem_of_getElem? (i := 23) rfl))) (hw _ (List.mem_of_getElem? (i := 1) rfl)) (ty := .long) (by decide) rfl rfl i4_17 fun T5 h5 X5 e5 W5 => ?_
  have F_t := F_t.same W5
  have E_a := E_a.wr W5
  have F_r := F_r.other W5 (Or.inr (slot_ne (Or.inr (hw _ (List.mem_of_getElem? (i := 11) rfl))) (Or.inl (hw _ (List.mem_of_getElem? (i := 23) rfl))) (by decide) (t := (.array .long)) (t' := .long) (by decide) (by decide)))
  have V := V.other W5 (Ne.symm hab)
  have Z0 : n0 ≤ h5.size := Nat.le_trans Z0 (Nat.le_of_eq W5.size.symm)
  have N0 := Fr.snoc X5 N0 g_a0'
  have K0 := K0.wr W5 (Or.inl (by simp))
  refine g_return X5 hx hby hret hlk i4_20 (by decide) (by decide) ?_
  rw [e5]
  exact ⟨rfl, K0, E_a, F_r, F_t, V, N0⟩
theorem i5_0 : Ins1 prog_3_method_3_code 0 (.iconst 0) 1 1 := ⟨by decide +kernel, rfl⟩
theorem i5_1 : Ins1 prog_3_method_3_code 1 (.istore_n 1) 1 2 := ⟨by decide +kernel, rfl⟩
theorem i5_2 : Ins1 prog_3_method_3_code 2 (.aload_n 0) 1 3 := ⟨by decide +kernel, rfl⟩
theorem i5_3 : Ins1 prog_3_method_3_code 3 (.getfield 7) 3 6 := ⟨by decide +kernel, rfl⟩
theorem i5_6 : Ins1 prog_3_method_3_code 6 (.iload_n 1) 1 7 := ⟨by decide +kernel, rfl⟩
theorem i5_7 : Ins1 prog_3_method_3_code 7 (.laload) 1 8 := ⟨by decide +kernel, rfl⟩
theorem i5_8 : Ins1 prog_3_method_3_code 8 (.lconst 0) 1 9 := ⟨by decide +kernel, rfl⟩
theorem i5_9 : Ins1 prog_3_method_3_code 9 (.lcmp) 1 10 := ⟨by decide +kernel, rfl⟩
theorem i5_10 : InsB prog_3_method_3_code 10 (.ifCond .ne 9) 9 13 19 := ⟨by decide +kernel, rfl, by decide, by decide⟩
theorem i5_13 : Ins1 prog_3_method_3_code 13 (.iinc 1 1) 3 16 := ⟨by decide +kernel, rfl⟩
theorem i5_16 : InsB prog_3_method_3_code 16 (.goto (-14)) (-14) 19 2 := ⟨by decide +kernel, rfl, by decide, by decide⟩
theorem i5_19 : Ins1 prog_3_method_3_code 19 (.iload_n 1) 1 20 := ⟨by decide +kernel, rfl⟩
theorem i5_20 : Ins1 prog_3_method_3_code 20 (.ireturn) 1 21 := ⟨by decide +kernel, rfl⟩
theorem ef_5_0 (m : MethodId) (a0' : Addr) : entryFrame m #[(.ref a0')] 2 = mkF m 0 #[.val (.ref a0'), .unset] [] := by first | (simp [entryFrame, mkF, argsToLocals, Value.category]; done) | rfl
set_option maxRecDepth 65536 in
set_option maxHeartbeats 40000000 in
theorem rm5_0 (l : Launch) (Z : State) (a0 : Array Value) (hw : ∀ d ∈ tables_1, d.before a0 Z = true) (ws : List Jvm.Cond) (a0' : Addr) (b : Addr) (kc : ClassId) (z : Int32) (r0 r1 r2 r3 : Int64) (h0 : Heap) (n0 : Nat) (Z0 : n0 ≤ h0.size) (F_r : Fld Z h0 a0' "com/example/value_generalizer/valuegeneralizer/ColumnLevels" "records" "[J" (.ref b)) (V : Arv Z h0 b kc .long z [(.long r0), (.long r1), (.long r2), (.long r3)] (.long (0 : Int64))) (hz : (0 : Int32) < z) (hr0 : ¬ r0 = (0 : Int64)) :
    Met1 l (⟨"com/example/value_generalizer/valuegeneralizer/ColumnLevels", "lowest", "()I"⟩ : MethodName) prog_3_method_3_code 2 (some .int) ws ({ frames := 0, cells := 0, slots := 0, locals := 0 } : Room) #[(.ref a0')] Z h0 (RV fun v h L => v = .int 0 ∧ h = h0 ∧ Fr n0 L) := by
  refine met_of (plainFor_of_name pn_com_example_value_generalizer_valuegeneralizer_ColumnLevels) ?_
  intro p e s m below meth c T0 X0 hx hby hml hZ hown hnm hret hlk e0 es
  have N0 := Fr.nil n0
  refine Gd.cast (ef_5_0 m a0') ?_
  refine g_iconst X0 hx hby i5_0 (z := (0 : Int32)) (by decide) ?_
  refine g_istoreN X0 hx hby i5_1 (l' := #[.val (.ref a0'), .val (.int (0 : Int32))]) rfl ?_
  refine g_aloadN X0 hx hby i5_2 rfl rfl ?_
  refine g_getfield X0 hx hby hZ hown (host := "") (Or.inl (hw _ (List.mem_of_getElem? (i := 10) rfl))) Via.refl e0 F_r i5_3 fun T1 X1 e1 => ?_
  refine g_iloadN X1 hx hby i5_6 rfl ?_
  refine g_laload X1 hx hby hZ e1 V (i := 0) (by decide) (show _ < z from hz) (by decide) rfl i5_7 ?_
  refine g_lconst X1 hx hby i5_8 (z := (0 : Int64)) (by decide) ?_
  refine g_lcmp_ne X1 hx hby i5_9 i5_10 (fun c9_2 => ?_) (fun c9_2 => False.elim (hr0 c9_2))
  refine g_iloadN X1 hx hby i5_19 rfl ?_
  refine g_ireturn X1 hx hby hret hlk i5_20 (by decide) (by decide) ?_
  exact ⟨_, rfl, rfl, e1, N0⟩
set_option maxRecDepth 65536 in
set_option maxHeartbeats 40000000 in
theorem rm5_1 (l : Launch) (Z : State) (a0 : Array Value) (hw : ∀ d ∈ tables_1, d.before a0 Z = true) (ws : List Jvm.Cond) (a0' : Addr) (b : Addr) (kc : ClassId) (z : Int32) (r0 r1 r2 r3 : Int64) (h0 : Heap) (n0 : Nat) (Z0 : n0 ≤ h0.size) (F_r : Fld Z h0 a0' "com/example/value_generalizer/valuegeneralizer/ColumnLevels" "records" "[J" (.ref b)) (V : Arv Z h0 b kc .long z [(.long r0), (.long r1), (.long r2), (.long r3)] (.long (0 : Int64))) (hz : (1 : Int32) < z) (hr0 : r0 = (0 : Int64)) (hr1 : ¬ r1 = (0 : Int64)) :
    Met1 l (⟨"com/example/value_generalizer/valuegeneralizer/ColumnLevels", "lowest", "()I"⟩ : MethodName) prog_3_method_3_code 2 (some .int) ws ({ frames := 0, cells := 0, slots := 0, locals := 0 } : Room) #[(.ref a0')] Z h0 (RV fun v h L => v = .int 1 ∧ h = h0 ∧ Fr n0 L) := by
  refine met_of (plainFor_of_name pn_com_example_value_generalizer_valuegeneralizer_ColumnLevels) ?_
  intro p e s m below meth c T0 X0 hx hby hml hZ hown hnm hret hlk e0 es
  have N0 := Fr.nil n0
  refine Gd.cast (ef_5_0 m a0') ?_
  refine g_iconst X0 hx hby i5_0 (z := (0 : Int32)) (by decide) ?_
  refine g_istoreN X0 hx hby i5_1 (l' := #[.val (.ref a0'), .val (.int (0 : Int32))]) rfl ?_
  refine g_aloadN X0 hx hby i5_2 rfl rfl ?_
  refine g_getfield X0 hx hby hZ hown (host := "") (Or.inl (hw _ (List.mem_of_getElem? (i := 10) rfl))) Via.refl e0 F_r i5_3 fun T1 X1 e1 => ?_
  refine g_iloadN X1 hx hby i5_6 rfl ?_
  refine g_laload X1 hx hby hZ e1 V (i := 0) (by decide) (show _ < z from own_le hz (by decide)) (by decide) rfl i5_7 ?_
  refine g_lconst X1 hx hby i5_8 (z := (0 : Int64)) (by decide) ?_
  refine g_lcmp_ne X1 hx hby i5_9 i5_10 (fun c9_2 => False.elim (c9_2 hr0)) fun c9_2 => ?_
  refine g_iinc X1 hx hby i5_13 rfl (z := ((0 : Int32) + (1 : Int32))) rfl (l' := #[.val (.ref a0'), .val (.int ((0 : Int32) + (1 : Int32)))]) rfl ?_
  refine g_goto X1 hx hby i5_16 ?_
  refine g_aloadN X1 hx hby i5_2 rfl rfl ?_
  refine g_getfield X1 hx hby hZ hown (host := "") (Or.inl (hw _ (List.mem_of_getElem? (i := 10) rfl))) Via.refl e1 F_r i5_3 fun T3 X3 e3 => ?_
  refine g_iloadN X3 hx hby i5_6 rfl ?_
  refine g_laload X3 hx hby hZ e3 V (i := 1) (by decide) (show _ < z from hz) (by decide) rfl i5_7 ?_
  refine g_lconst X3 hx hby i5_8 (z := (0 : Int64)) (by decide) ?_
  refine g_lcmp_ne X3 hx hby i5_9 i5_10 (fun c9_4 => ?_) (fun c9_4 => False.elim (hr1 c9_4))
  refine g_iloadN X3 hx hby i5_19 rfl ?_
  refine g_ireturn X3 hx hby hret hlk i5_20 (by decide) (by decide) ?_
  exact ⟨_, rfl, rfl, e3, N0⟩
set_option maxRecDepth 65536 in
set_option maxHeartbeats 40000000 in
theorem rm5_2 (l : Launch) (Z : State) (a0 : Array Value) (hw : ∀ d ∈ tables_1, d.before a0 Z = true) (ws : List Jvm.Cond) (a0' : Addr) (b : Addr) (kc : ClassId) (z : Int32) (r0 r1 r2 r3 : Int64) (h0 : Heap) (n0 : Nat) (Z0 : n0 ≤ h0.size) (F_r : Fld Z h0 a0' "com/example/value_generalizer/valuegeneralizer/ColumnLevels" "records" "[J" (.ref b)) (V : Arv Z h0 b kc .long z [(.long r0), (.long r1), (.long r2), (.long r3)] (.long (0 : Int64))) (hz : (2 : Int32) < z) (hr0 : r0 = (0 : Int64)) (hr1 : r1 = (0 : Int64)) (hr2 : ¬ r2 = (0 : Int64)) :
    Met1 l (⟨"com/example/value_generalizer/valuegeneralizer/ColumnLevels", "lowest", "()I"⟩ : MethodName) prog_3_method_3_code 2 (some .int) ws ({ frames := 0, cells := 0, slots := 0, locals := 0 } : Room) #[(.ref a0')] Z h0 (RV fun v h L => v = .int 2 ∧ h = h0 ∧ Fr n0 L) := by
  refine met_of (plainFor_of_name pn_com_example_value_generalizer_valuegeneralizer_ColumnLevels) ?_
  intro p e s m below meth c T0 X0 hx hby hml hZ hown hnm hret hlk e0 es
  have N0 := Fr.nil n0
  refine Gd.cast (ef_5_0 m a0') ?_
  refine g_iconst X0 hx hby i5_0 (z := (0 : Int32)) (by decide) ?_
  refine g_istoreN X0 hx hby i5_1 (l' := #[.val (.ref a0'), .val (.int (0 : Int32))]) rfl ?_
  refine g_aloadN X0 hx hby i5_2 rfl rfl ?_
  refine g_getfield X0 hx hby hZ hown (host := "") (Or.inl (hw _ (List.mem_of_getElem? (i := 10) rfl))) Via.refl e0 F_r i5_3 fun T1 X1 e1 => ?_
  refine g_iloadN X1 hx hby i5_6 rfl ?_
  refine g_laload X1 hx hby hZ e1 V (i := 0) (by decide) (show _ < z from own_le hz (by decide)) (by decide) rfl i5_7 ?_
  refine g_lconst X1 hx hby i5_8 (z := (0 : Int64)) (by decide) ?_
  refine g_lcmp_ne X1 hx hby i5_9 i5_10 (fun c9_2 => False.elim (c9_2 hr0)) fun c9_2 => ?_
  refine g_iinc X1 hx hby i5_13 rfl (z := ((0 : Int32) + (1 : Int32))) rfl (l' := #[.val (.ref a0'), .val (.int ((0 : Int32) + (1 : Int32)))]) rfl ?_
  refine g_goto X1 hx hby i5_16 ?_
  refine g_aloadN X1 hx hby i5_2 rfl rfl ?_
  refine g_getfield X1 hx hby hZ hown (host := "") (Or.inl (hw _ (List.mem_of_getElem? (i := 10) rfl))) Via.refl e1 F_r i5_3 fun T3 X3 e3 => ?_
  refine g_iloadN X3 hx hby i5_6 rfl ?_
  refine g_laload X3 hx hby hZ e3 V (i := 1) (by decide) (show _ < z from own_le hz (by decide)) (by decide) rfl i5_7 ?_
  refine g_lconst X3 hx hby i5_8 (z := (0 : Int64)) (by decide) ?_
  refine g_lcmp_ne X3 hx hby i5_9 i5_10 (fun c9_4 => False.elim (c9_4 hr1)) fun c9_4 => ?_
  refine g_iinc X3 hx hby i5_13 rfl (z := (((0 : Int32) + (1 : Int32)) + (1 : Int32))) rfl (l' := #[.val (.ref a0'), .val (.int (((0 : Int32) + (1 : Int32)) + (1 : Int32)))]) rfl ?_
  refine g_goto X3 hx hby i5_16 ?_
  refine g_aloadN X3 hx hby i5_2 rfl rfl ?_
  refine g_getfield X3 hx hby hZ hown (host := "") (Or.inl (hw _ (List.mem_of_getElem? (i := 10) rfl))) Via.refl e3 F_r i5_3 fun T5 X5 e5 => ?_
  refine g_iloadN X5 hx hby i5_6 rfl ?_
  refine g_laload X5 hx hby hZ e5 V (i := 2) (by decide) (show _ < z from hz) (by decide) rfl i5_7 ?_
  refine g_lconst X5 hx hby i5_8 (z := (0 : Int64)) (by decide) ?_
  refine g_lcmp_ne X5 hx hby i5_9 i5_10 (fun c9_6 => ?_) (fun c9_6 => False.elim (hr2 c9_6))
  refine g_iloadN X5 hx hby i5_19 rfl ?_
  refine g_ireturn X5 hx hby hret hlk i5_20 (by decide) (by decide) ?_
  exact ⟨_, rfl, rfl, e5, N0⟩
set_option maxRecDepth 65536 in
set_option maxHeartbeats 40000000 in
theorem rm5_3 (l : Launch) (Z : State) (a0 : Array Value) (hw : ∀ d ∈ tables_1, d.before a0 Z = true) (ws : List Jvm.Cond) (a0' : Addr) (b : Addr) (kc : ClassId) (z : Int32) (r0 r1 r2 r3 : Int64) (h0 : Heap) (n0 : Nat) (Z0 : n0 ≤ h0.size) (F_r : Fld Z h0 a0' "com/example/value_generalizer/valuegeneralizer/ColumnLevels" "records" "[J" (.ref b)) (V : Arv Z h0 b kc .long z [(.long r0), (.long r1), (.long r2), (.long r3)] (.long (0 : Int64))) (hz : (3 : Int32) < z) (hr0 : r0 = (0 : Int64)) (hr1 : r1 = (0 : Int64)) (hr2 : r2 = (0 : Int64)) (hr3 : ¬ r3 = (0 : Int64)) :
    Met1 l (⟨"com/example/value_generalizer/valuegeneralizer/ColumnLevels", "lowest", "()I"⟩ : MethodName) prog_3_method_3_code 2 (some .int) ws ({ frames := 0, cells := 0, slots := 0, locals := 0 } : Room) #[(.ref a0')] Z h0 (RV fun v h L => v = .int 3 ∧ h = h0 ∧ Fr n0 L) := by
  refine met_of (plainFor_of_name pn_com_example_value_generalizer_valuegeneralizer_ColumnLevels) ?_
  intro p e s m below meth c T0 X0 hx hby hml hZ hown hnm hret hlk e0 es
  have N0 := Fr.nil n0
  refine Gd.cast (ef_5_0 m a0') ?_
  refine g_iconst X0 hx hby i5_0 (z := (0 : Int32)) (by decide) ?_
  refine g_istoreN X0 hx hby i5_1 (l' := #[.val (.ref a0'), .val (.int (0 : Int32))]) rfl ?_
  refine g_aloadN X0 hx hby i5_2 rfl rfl ?_
  refine g_getfield X0 hx hby hZ hown (host := "") (Or.inl (hw _ (List.mem_of_getElem? (i := 10) rfl))) Via.refl e0 F_r i5_3 fun T1 X1 e1 => ?_
  refine g_iloadN X1 hx hby i5_6 rfl ?_
  refine g_laload X1 hx hby hZ e1 V (i := 0) (by decide) (show _ < z from own_le hz (by decide)) (by decide) rfl i5_7 ?_
  refine g_lconst X1 hx hby i5_8 (z := (0 : Int64)) (by decide) ?_
  refine g_lcmp_ne X1 hx hby i5_9 i5_10 (fun c9_2 => False.elim (c9_2 hr0)) fun c9_2 => ?_
  refine g_iinc X1 hx hby i5_13 rfl (z := ((0 : Int32) + (1 : Int32))) rfl (l' := #[.val (.ref a0'), .val (.int ((0 : Int32) + (1 : Int32)))]) rfl ?_
  refine g_goto X1 hx hby i5_16 ?_
  refine g_aloadN X1 hx hby i5_2 rfl rfl ?_
  refine g_getfield X1 hx hby hZ hown (host := "") (Or.inl (hw _ (List.mem_of_getElem? (i := 10) rfl))) Via.refl e1 F_r i5_3 fun T3 X3 e3 => ?_
  refine g_iloadN X3 hx hby i5_6 rfl ?_
  refine g_laload X3 hx hby hZ e3 V (i := 1) (by decide) (show _ < z from own_le hz (by decide)) (by decide) rfl i5_7 ?_
  refine g_lconst X3 hx hby i5_8 (z := (0 : Int64)) (by decide) ?_
  refine g_lcmp_ne X3 hx hby i5_9 i5_10 (fun c9_4 => False.elim (c9_4 hr1)) fun c9_4 => ?_
  refine g_iinc X3 hx hby i5_13 rfl (z := (((0 : Int32) + (1 : Int32)) + (1 : Int32))) rfl (l' := #[.val (.ref a0'), .val (.int (((0 : Int32) + (1 : Int32)) + (1 : Int32)))]) rfl ?_
  refine g_goto X3 hx hby i5_16 ?_
  refine g_aloadN X3 hx hby i5_2 rfl rfl ?_
  refine g_getfield X3 hx hby hZ hown (host := "") (Or.inl (hw _ (List.mem_of_getElem? (i := 10) rfl))) Via.refl e3 F_r i5_3 fun T5 X5 e5 => ?_
  refine g_iloadN X5 hx hby i5_6 rfl ?_
  refine g_laload X5 hx hby hZ e5 V (i := 2) (by decide) (show _ < z from own_le hz (by decide)) (by decide) rfl i5_7 ?_
  refine g_lconst X5 hx hby i5_8 (z := (0 : Int64)) (by decide) ?_
  refine g_lcmp_ne X5 hx hby i5_9 i5_10 (fun c9_6 => False.elim (c9_6 hr2)) fun c9_6 => ?_
  refine g_iinc X5 hx hby i5_13 rfl (z := ((((0 : Int32) + (1 : Int32)) + (1 : Int32)) + (1 : Int32))) rfl (l' := #[.val (.ref a0'), .val (.int ((((0 : Int32) + (1 : Int32)) + (1 : Int32)) + (1 : Int32)))]) rfl ?_
  refine g_goto X5 hx hby i5_16 ?_
  refine g_aloadN X5 hx hby i5_2 rfl rfl ?_
  refine g_getfield X5 hx hby hZ hown (host := "") (Or.inl (hw _ (List.mem_of_getElem? (i := 10) rfl))) Via.refl e5 F_r i5_3 fun T7 X7 e7 => ?_
  refine g_iloadN X7 hx hby i5_6 rfl ?_
  refine g_laload X7 hx hby hZ e7 V (i := 3) (by decide) (show _ < z from hz) (by decide) rfl i5_7 ?_
  refine g_lconst X7 hx hby i5_8 (z := (0 : Int64)) (by decide) ?_
  refine g_lcmp_ne X7 hx hby i5_9 i5_10 (fun c9_8 => ?_) (fun c9_8 => False.elim (hr3 c9_8))
  refine g_iloadN X7 hx hby i5_19 rfl ?_
  refine g_ireturn X7 hx hby hret hlk i5_20 (by decide) (by decide) ?_
  exact ⟨_, rfl, rfl, e7, N0⟩
theorem i0_0 : Ins1 code 0 (.iload_n 0) 1 1 := ⟨at_0, rfl⟩
theorem i0_1 : Ins1 code 1 (.iconst 3) 1 2 := ⟨at_1, rfl⟩
theorem i0_2 : Ins1 code 2 (.iand) 1 3 := ⟨at_2, rfl⟩
theorem i0_3 : Ins1 code 3 (.istore 10) 2 5 := ⟨at_3, rfl⟩
theorem i0_5 : Ins1 code 5 (.iload_n 1) 1 6 := ⟨at_5, rfl⟩
theorem i0_6 : Ins1 code 6 (.iconst 2) 1 7 := ⟨at_6, rfl⟩
theorem i0_7 : Ins1 code 7 (.iload 10) 2 9 := ⟨at_7, rfl⟩
theorem i0_9 : Ins1 code 9 (.ishl) 1 10 := ⟨at_9, rfl⟩
theorem i0_10 : Ins1 code 10 (.iconst 1) 1 11 := ⟨at_10, rfl⟩
theorem i0_11 : Ins1 code 11 (.isub) 1 12 := ⟨at_11, rfl⟩
theorem i0_12 : Ins1 code 12 (.iand) 1 13 := ⟨at_12, rfl⟩
theorem i0_13 : Ins1 code 13 (.istore 11) 2 15 := ⟨at_13, rfl⟩
theorem i0_15 : Ins1 code 15 (.iload 11) 2 17 := ⟨at_15, rfl⟩
theorem i0_17 : InsB code 17 (.ifCond .ne 9) 9 20 26 := ⟨at_17, rfl, by decide, by decide⟩
theorem i0_20 : Ins1 code 20 (.iconst 1) 1 21 := ⟨at_20, rfl⟩
theorem i0_21 : Ins1 code 21 (.iload 10) 2 23 := ⟨at_21, rfl⟩
theorem i0_23 : Ins1 code 23 (.ishl) 1 24 := ⟨at_23, rfl⟩
theorem i0_24 : Ins1 code 24 (.istore 11) 2 26 := ⟨at_24, rfl⟩
theorem i0_26 : Ins1 code 26 (.new 9) 3 29 := ⟨at_26, rfl⟩
theorem i0_29 : Ins1 code 29 (.dup) 1 30 := ⟨at_29, rfl⟩
theorem i0_30 : Ins1 code 30 (.iload 10) 2 32 := ⟨at_30, rfl⟩
theorem i0_32 : Ins1 code 32 (.invokespecial 11) 3 35 := ⟨at_32, rfl⟩
theorem i0_35 : Ins1 code 35 (.astore 12) 2 37 := ⟨at_35, rfl⟩
theorem i0_37 : Ins1 code 37 (.iload 11) 2 39 := ⟨at_37, rfl⟩
theorem i0_39 : Ins1 code 39 (.iconst 1) 1 40 := ⟨at_39, rfl⟩
theorem i0_40 : Ins1 code 40 (.iand) 1 41 := ⟨at_40, rfl⟩
theorem i0_41 : InsB code 41 (.ifCond .eq 13) 13 44 54 := ⟨at_41, rfl, by decide, by decide⟩
theorem i0_44 : Ins1 code 44 (.aload 12) 2 46 := ⟨at_44, rfl⟩
theorem i0_46 : Ins1 code 46 (.iconst 0) 1 47 := ⟨at_46, rfl⟩
theorem i0_47 : Ins1 code 47 (.lload_n 2) 1 48 := ⟨at_47, rfl⟩
theorem i0_48 : Ins1 code 48 (.invokestatic 14) 3 51 := ⟨at_48, rfl⟩
theorem i0_51 : Ins1 code 51 (.invokevirtual 20) 3 54 := ⟨at_51, rfl⟩
theorem i0_54 : Ins1 code 54 (.iload 11) 2 56 := ⟨at_54, rfl⟩
theorem i0_56 : Ins1 code 56 (.iconst 2) 1 57 := ⟨at_56, rfl⟩
theorem i0_57 : Ins1 code 57 (.iand) 1 58 := ⟨at_57, rfl⟩
theorem i0_58 : InsB code 58 (.ifCond .eq 14) 14 61 72 := ⟨at_58, rfl, by decide, by decide⟩
theorem i0_61 : Ins1 code 61 (.aload 12) 2 63 := ⟨at_61, rfl⟩
theorem i0_63 : Ins1 code 63 (.iconst 1) 1 64 := ⟨at_63, rfl⟩
theorem i0_64 : Ins1 code 64 (.lload 4) 2 66 := ⟨at_64, rfl⟩
theorem i0_66 : Ins1 code 66 (.invokestatic 14) 3 69 := ⟨at_66, rfl⟩
theorem i0_69 : Ins1 code 69 (.invokevirtual 20) 3 72 := ⟨at_69, rfl⟩
theorem i0_72 : Ins1 code 72 (.iload 11) 2 74 := ⟨at_72, rfl⟩
theorem i0_74 : Ins1 code 74 (.iconst 4) 1 75 := ⟨at_74, rfl⟩
theorem i0_75 : Ins1 code 75 (.iand) 1 76 := ⟨at_75, rfl⟩
theorem i0_76 : InsB code 76 (.ifCond .eq 14) 14 79 90 := ⟨at_76, rfl, by decide, by decide⟩
theorem i0_79 : Ins1 code 79 (.aload 12) 2 81 := ⟨at_79, rfl⟩
theorem i0_81 : Ins1 code 81 (.iconst 2) 1 82 := ⟨at_81, rfl⟩
theorem i0_82 : Ins1 code 82 (.lload 6) 2 84 := ⟨at_82, rfl⟩
theorem i0_84 : Ins1 code 84 (.invokestatic 14) 3 87 := ⟨at_84, rfl⟩
theorem i0_87 : Ins1 code 87 (.invokevirtual 20) 3 90 := ⟨at_87, rfl⟩
theorem i0_90 : Ins1 code 90 (.iload 11) 2 92 := ⟨at_90, rfl⟩
theorem i0_92 : Ins1 code 92 (.bipush 8) 2 94 := ⟨at_92, rfl⟩
theorem i0_94 : Ins1 code 94 (.iand) 1 95 := ⟨at_94, rfl⟩
theorem i0_95 : InsB code 95 (.ifCond .eq 14) 14 98 109 := ⟨at_95, rfl, by decide, by decide⟩
theorem i0_98 : Ins1 code 98 (.aload 12) 2 100 := ⟨at_98, rfl⟩
theorem i0_100 : Ins1 code 100 (.iconst 3) 1 101 := ⟨at_100, rfl⟩
theorem i0_101 : Ins1 code 101 (.lload 8) 2 103 := ⟨at_101, rfl⟩
theorem i0_103 : Ins1 code 103 (.invokestatic 14) 3 106 := ⟨at_103, rfl⟩
theorem i0_106 : Ins1 code 106 (.invokevirtual 20) 3 109 := ⟨at_106, rfl⟩
theorem i0_109 : Ins1 code 109 (.iload 11) 2 111 := ⟨at_109, rfl⟩
theorem i0_111 : Ins1 code 111 (.iconst 1) 1 112 := ⟨at_111, rfl⟩
theorem i0_112 : Ins1 code 112 (.iand) 1 113 := ⟨at_112, rfl⟩
theorem i0_113 : InsB code 113 (.ifCond .eq 9) 9 116 122 := ⟨at_113, rfl, by decide, by decide⟩
theorem i0_116 : Ins1 code 116 (.iconst 0) 1 117 := ⟨at_116, rfl⟩
theorem i0_117 : Ins1 code 117 (.istore 13) 2 119 := ⟨at_117, rfl⟩
theorem i0_119 : InsB code 119 (.goto 32) 32 122 151 := ⟨at_119, rfl, by decide, by decide⟩
theorem i0_122 : Ins1 code 122 (.iload 11) 2 124 := ⟨at_122, rfl⟩
theorem i0_124 : Ins1 code 124 (.iconst 2) 1 125 := ⟨at_124, rfl⟩
theorem i0_125 : Ins1 code 125 (.iand) 1 126 := ⟨at_125, rfl⟩
theorem i0_126 : InsB code 126 (.ifCond .eq 9) 9 129 135 := ⟨at_126, rfl, by decide, by decide⟩
theorem i0_129 : Ins1 code 129 (.iconst 1) 1 130 := ⟨at_129, rfl⟩
theorem i0_130 : Ins1 code 130 (.istore 13) 2 132 := ⟨at_130, rfl⟩
theorem i0_132 : InsB code 132 (.goto 19) 19 135 151 := ⟨at_132, rfl, by decide, by decide⟩
theorem i0_135 : Ins1 code 135 (.iload 11) 2 137 := ⟨at_135, rfl⟩
theorem i0_137 : Ins1 code 137 (.iconst 4) 1 138 := ⟨at_137, rfl⟩
theorem i0_138 : Ins1 code 138 (.iand) 1 139 := ⟨at_138, rfl⟩
theorem i0_139 : InsB code 139 (.ifCond .eq 9) 9 142 148 := ⟨at_139, rfl, by decide, by decide⟩
theorem i0_142 : Ins1 code 142 (.iconst 2) 1 143 := ⟨at_142, rfl⟩
theorem i0_143 : Ins1 code 143 (.istore 13) 2 145 := ⟨at_143, rfl⟩
theorem i0_145 : InsB code 145 (.goto 6) 6 148 151 := ⟨at_145, rfl, by decide, by decide⟩
theorem i0_148 : Ins1 code 148 (.iconst 3) 1 149 := ⟨at_148, rfl⟩
theorem i0_149 : Ins1 code 149 (.istore 13) 2 151 := ⟨at_149, rfl⟩
theorem i0_151 : Ins1 code 151 (.aload 12) 2 153 := ⟨at_151, rfl⟩
theorem i0_153 : Ins1 code 153 (.invokevirtual 24) 3 156 := ⟨at_153, rfl⟩
theorem i0_156 : Ins1 code 156 (.iload 13) 2 158 := ⟨at_156, rfl⟩
theorem i0_158 : InsB code 158 (.if_icmp .ne 7) 7 161 165 := ⟨at_158, rfl, by decide, by decide⟩
theorem i0_161 : Ins1 code 161 (.iconst 1) 1 162 := ⟨at_161, rfl⟩
theorem i0_162 : InsB code 162 (.goto 4) 4 165 166 := ⟨at_162, rfl, by decide, by decide⟩
theorem i0_165 : Ins1 code 165 (.iconst 0) 1 166 := ⟨at_165, rfl⟩
theorem i0_166 : Ins1 code 166 (.ireturn) 1 167 := ⟨at_166, rfl⟩
theorem ef_0 (m : MethodId) (p0 : Int32) (p1 : Int32) (q2 : Int64) (q3 : Int64) (q4 : Int64) (q5 : Int64) : entryFrame m #[(.int p0), (.int p1), (.long q2), (.long q3), (.long q4), (.long q5)] maxLocals = mkF m 0 #[.val (.int p0), .val (.int p1), .val (.long q2), .second, .val (.long q3), .second, .val (.long q4), .second, .val (.long q5), .second, .unset, .unset, .unset, .unset] [] := by first | (simp [entryFrame, mkF, argsToLocals, Value.category, maxLocals]; done) | rfl
theorem pd_0 : parseMethodDescriptor "(I)V" = some ⟨[.int], none⟩ := by decide +kernel
theorem pd_1 : parseMethodDescriptor "(J)J" = some ⟨[.long], some .long⟩ := by decide +kernel
theorem pd_2 : parseMethodDescriptor "(IJ)V" = some ⟨[.int, .long], none⟩ := by decide +kernel
theorem pd_3 : parseMethodDescriptor "()I" = some ⟨[], some .int⟩ := by decide +kernel
set_option maxRecDepth 65536 in
set_option maxHeartbeats 40000000 in
theorem rm0 (l : Launch) (Z : State) (a0 : Array Value) (hw : ∀ d ∈ tables_1, d.before a0 Z = true) (ws : List Jvm.Cond) (p0 : Int32) (p1 : Int32) (q2 : Int64) (q3 : Int64) (q4 : Int64) (q5 : Int64)  (h0 : Heap) (n0 : Nat) (Z0 : n0 ≤ h0.size)  :
    Met1 l x code maxLocals ret ws room_1 #[(.int p0), (.int p1), (.long q2), (.long q3), (.long q4), (.long q5)] Z h0 (RV fun z _ L => z = .int 1 ∧ Fr n0 L) := by
  refine met_of (plainFor_of_name pn_com_example_value_generalizer_valuegeneralizer_ColumnLevelsLowestPinLaw) ?_
  intro p e s m below meth c T0 X0 hx hby hml hZ hown hnm hret hlk e0 es
  have N0 := Fr.nil n0
  refine Gd.cast (ef_0 m p0 p1 q2 q3 q4 q5) ?_
  replace hown : s.vm.findClass "com/example/value_generalizer/valuegeneralizer/ColumnLevelsLowestPinLaw" = some m.cls := hown
  refine g_iloadN X0 hx hby i0_0 rfl ?_
  refine g_iconst X0 hx hby i0_1 (z := (3 : Int32)) (by decide) ?_
  refine g_iand X0 hx hby i0_2 ?_
  refine g_istoreW X0 hx hby i0_3 (l' := fun v1 => #[.val (.int p0), .val (.int p1), .val (.long q2), .second, .val (.long q3), .second, .val (.long q4), .second, .val (.long q5), .second, .val (.int v1), .unset, .unset, .unset]) (fun _ => rfl) fun v1 hv1 => ?_
  refine g_iloadN X0 hx hby i0_5 rfl ?_
  refine g_iconst X0 hx hby i0_6 (z := (2 : Int32)) (by decide) ?_
  refine g_iload X0 hx hby i0_7 rfl ?_
  refine g_ishl X0 hx hby i0_9 ?_
  refine g_iconst X0 hx hby i0_10 (z := (1 : Int32)) (by decide) ?_
  refine g_isub X0 hx hby i0_11 ?_
  refine g_iand X0 hx hby i0_12 ?_
  refine g_istoreW X0 hx hby i0_13 (l' := fun v2 => #[.val (.int p0), .val (.int p1), .val (.long q2), .second, .val (.long q3), .second, .val (.long q4), .second, .val (.long q5), .second, .val (.int v1), .val (.int v2), .unset, .unset]) (fun _ => rfl) fun v2 hv2 => ?_
  refine g_iload X0 hx hby i0_15 rfl ?_
  refine g_if_ne X0 hx hby i0_17 (fun c17_3 => ?_) (fun c17_3 => ?_)
  · refine g_new X0 hx hby hZ hown (hw _ (List.mem_of_getElem? (i := 0) rfl)) (hw _ (List.mem_of_getElem? (i := 1) rfl)) (hw _ (List.mem_of_getElem? (i := 2) rfl)) e0 i0_26 (by decide) (by decide) fun T4 h4 b4 X4 e4 E4 hb4 A4 D4 => ?_
    have g_b4 : n0 ≤ b4 := Nat.le_trans Z0 (Nat.le_of_eq hb4.symm)
    have Z0 : n0 ≤ h4.size := Nat.le_trans Z0 E4.1
    have F4_records : Fld Z h4 b4 "com/example/value_generalizer/valuegeneralizer/ColumnLevels" "records" "[J" .null := D4 (Or.inr (hw _ (List.mem_of_getElem? (i := 11) rfl))) (ty := (.array .long)) (by decide)
    have F4_total : Fld Z h4 b4 "com/example/value_generalizer/valuegeneralizer/ColumnLevels" "total" "J" (.long (0 : Int64)) := D4 (Or.inl (hw _ (List.mem_of_getElem? (i := 23) rfl))) (ty := .long) (by decide)
    refine g_dup X4 hx hby i0_29 rfl ?_
    refine g_iload X4 hx hby i0_30 rfl ?_
    have ok : own_ok v1 v2 := own_ok1 hv1 hv2 c17_3
    obtain ⟨okh, oka, ok2, ok4, ok8⟩ := ok
    refine g_callInit0 X4 hx hby hZ (y := (⟨"com/example/value_generalizer/valuegeneralizer/ColumnLevels", "<init>", "(I)V"⟩ : MethodName)) (argsL := [(.int v1)]) (rest := [(.ref b4)]) rfl hown (hw _ (List.mem_of_getElem? (i := 3) rfl)) (hw _ (List.mem_of_getElem? (i := 4) rfl)) (hw _ (List.mem_of_getElem? (i := 2) rfl)) (hw _ (List.mem_of_getElem? (i := 5) rfl)) (by decide) (a := b4) (rm1 l Z a0 hw [] b4 v1 h4 n0 Z0 A4 F4_records F4_total g_b4 okh) e4 (by rw [hml]; rfl) pd_0 rfl rfl i0_32 (by decide) 1 rfl (by decide) (by decide) (by decide) fun T5 v5 L5 X5 q5 => ?_
    obtain ⟨rfl, b5, k5, K5, E5, F5_r, F5_t, V5, g_b5, s5, N5⟩ := q5
    have N0 := Fr.app N0 N5
    have ne_b4_b5 : b4 ≠ b5 := Nat.ne_of_lt (Nat.lt_of_lt_of_le A4.lt s5)
    have A4 := A4.keep K5
    have Z0 : n0 ≤ T5.heap.size := Nat.le_trans Z0 K5.1
    have F_r := F5_r
    have F_t := F5_t
    have V := V5
    show Gd p e below _ T5 (mkF m 35 #[.val (.int p0), .val (.int p1), .val (.long q2), .second, .val (.long q3), .second, .val (.long q4), .second, .val (.long q5), .second, .val (.int v1), .val (.int v2), .unset, .unset] [(.ref b4)])
    refine g_astore X5 hx hby i0_35 rfl (l' := #[.val (.int p0), .val (.int p1), .val (.long q2), .second, .val (.long q3), .second, .val (.long q4), .second, .val (.long q5), .second, .val (.int v1), .val (.int v2), .val (.ref b4), .unset]) rfl ?_
    refine g_iload X5 hx hby i0_37 rfl ?_
    refine g_iconst X5 hx hby i0_39 (z := (1 : Int32)) (by decide) ?_
    refine g_iand X5 hx hby i0_40 ?_
    refine g_if_eq X5 hx hby i0_41 (fun c41_6 => ?_) (fun c41_6 => ?_)
    · refine g_iload X5 hx hby i0_54 rfl ?_
      refine g_iconst X5 hx hby i0_56 (z := (2 : Int32)) (by decide) ?_
      refine g_iand X5 hx hby i0_57 ?_
      refine g_if_eq X5 hx hby i0_58 (fun c58_7 => ?_) (fun c58_7 => ?_)
      · refine g_iload X5 hx hby i0_72 rfl ?_
        refine g_iconst X5 hx hby i0_74 (z := (4 : Int32)) (by decide) ?_
        refine g_iand X5 hx hby i0_75 ?_
        refine g_if_eq X5 hx hby i0_76 (fun c76_8 => ?_) (fun c76_8 => ?_)
        · refine g_iload X5 hx hby i0_90 rfl ?_
          refine g_bipush X5 hx hby i0_92 (z := (8 : Int32)) (by decide) ?_
          refine g_iand X5 hx hby i0_94 ?_
          refine g_if_eq X5 hx hby i0_95 (fun c95_9 => ?_) (fun c95_9 => ?_)
          · refine g_iload X5 hx hby i0_109 rfl ?_
            refine g_iconst X5 hx hby i0_111 (z := (1 : Int32)) (by decide) ?_
            refine g_iand X5 hx hby i0_112 ?_
            refine g_if_eq X5 hx hby i0_113 (fun c113_10 => ?_) (fun c113_10 => False.elim (c113_10 c41_6))
            refine g_iload X5 hx hby i0_122 rfl ?_
            refine g_iconst X5 hx hby i0_124 (z := (2 : Int32)) (by decide) ?_
            refine g_iand X5 hx hby i0_125 ?_
            refine g_if_eq X5 hx hby i0_126 (fun c126_11 => ?_) (fun c126_11 => False.elim (c126_11 c58_7))
            refine g_iload X5 hx hby i0_135 rfl ?_
            refine g_iconst X5 hx hby i0_137 (z := (4 : Int32)) (by decide) ?_
            refine g_iand X5 hx hby i0_138 ?_
            refine g_if_eq X5 hx hby i0_139 (fun c139_12 => ?_) (fun c139_12 => False.elim (c139_12 c76_8))
            exact absurd oka (by simp [c41_6, c58_7, c76_8, c95_9])
          · refine g_aload X5 hx hby i0_98 rfl rfl ?_
            refine g_iconst X5 hx hby i0_100 (z := (3 : Int32)) (by decide) ?_
            refine g_lload X5 hx hby i0_101 rfl ?_
            refine g_callS0 X5 hx hby hZ (y := (⟨"com/example/value_generalizer/valuegeneralizer/ColumnLevelsLowestPinLaw", "pos", "(J)J"⟩ : MethodName)) (argsL := [(.long q5)]) (rest := [(.int (3 : Int32)), (.ref b4)]) hown (hw _ (List.mem_of_getElem? (i := 12) rfl)) (hw _ (List.mem_of_getElem? (i := 13) rfl)) (hw _ (List.mem_of_getElem? (i := 14) rfl)) (hw _ (List.mem_of_getElem? (i := 15) rfl)) (by decide) (rm3 l Z a0 hw [] q5 T5.heap n0 Z0) rfl (by rw [hml]; rfl) pd_1 rfl rfl i0_103 (by decide) 2 rfl (by decide) (by decide) (by decide) fun T13 v13 L13 X13 q13 => ?_
            obtain ⟨_, rfl, rfl, e13, N13⟩ := q13
            have N0 := Fr.app N0 N13
            show Gd p e below _ T13 (mkF m 106 #[.val (.int p0), .val (.int p1), .val (.long q2), .second, .val (.long q3), .second, .val (.long q4), .second, .val (.long q5), .second, .val (.int v1), .val (.int v2), .val (.ref b4), .unset] [(.long (own_pos q5)), (.int (3 : Int32)), (.ref b4)])
            refine g_callV0 X13 hx hby hZ (y0 := (⟨"com/example/value_generalizer/valuegeneralizer/ColumnLevels", "add", "(IJ)V"⟩ : MethodName)) (y := (⟨"com/example/value_generalizer/valuegeneralizer/ColumnLevels", "add", "(IJ)V"⟩ : MethodName)) (argsL := [(.int (3 : Int32)), (.long (own_pos q5))]) (rest := []) hown (hw _ (List.mem_of_getElem? (i := 17) rfl)) (hw _ (List.mem_of_getElem? (i := 18) rfl)) (notFace_of_selects (args := #[]) (mvT hZ (hw _ (List.mem_of_getElem? (i := 20) rfl)))) (hw _ (List.mem_of_getElem? (i := 20) rfl)) (hw _ (List.mem_of_getElem? (i := 19) rfl)) (hw _ (List.mem_of_getElem? (i := 2) rfl)) (hw _ (List.mem_of_getElem? (i := 21) rfl)) (by decide) (a := b4) A4 (rm4 l Z a0 hw [] b4 (3 : Int32) (own_pos q5) b5 k5 (v1 + (1 : Int32)) [(.long (0 : Int64)), (.long (0 : Int64)), (.long (0 : Int64)), (.long (0 : Int64))] (.long (0 : Int64)) 3 (0 : Int64) (0 : Int64) T5.heap n0 Z0 A4 F_r F_t V g_b4 g_b5 ne_b4_b5 (by decide) ((own_z okh).2.2.2.2.2 (ok8 c95_9)) (by decide) (by simp) rfl) e13 (by rw [hml]; rfl) pd_2 rfl rfl i0_106 (by decide) 0 rfl (by decide) (by decide) (by decide) fun T14 v14 L14 X14 q14 => ?_
            obtain ⟨rfl, K14, -, F_r, F_t, V, N14⟩ := q14
            have N0 := Fr.app N0 N14
            have A4 := A4.keep K14
            have Z0 : n0 ≤ T14.heap.size := Nat.le_trans Z0 K14.1
            have V : Arv Z T14.heap b5 k5 .long (v1 + (1 : Int32)) [(.long (0 : Int64)), (.long (0 : Int64)), (.long (0 : Int64)), (.long ((0 : Int64) + (own_pos q5)))] (.long (0 : Int64)) := V
            show Gd p e below _ T14 (mkF m 109 #[.val (.int p0), .val (.int p1), .val (.long q2), .second, .val (.long q3), .second, .val (.long q4), .second, .val (.long q5), .second, .val (.int v1), .val (.int v2), .val (.ref b4), .unset] [])
            refine g_iload X14 hx hby i0_109 rfl ?_
            refine g_iconst X14 hx hby i0_111 (z := (1 : Int32)) (by decide) ?_
            refine g_iand X14 hx hby i0_112 ?_
            refine g_if_eq X14 hx hby i0_113 (fun c113_15 => ?_) (fun c113_15 => False.elim (c113_15 c41_6))
            refine g_iload X14 hx hby i0_122 rfl ?_
            refine g_iconst X14 hx hby i0_124 (z := (2 : Int32)) (by decide) ?_
            refine g_iand X14 hx hby i0_125 ?_
            refine g_if_eq X14 hx hby i0_126 (fun c126_16 => ?_) (fun c126_16 => False.elim (c126_16 c58_7))
            refine g_iload X14 hx hby i0_135 rfl ?_
            refine g_iconst X14 hx hby i0_137 (z := (4 : Int32)) (by decide) ?_
            refine g_iand X14 hx hby i0_138 ?_
            refine g_if_eq X14 hx hby i0_139 (fun c139_17 => ?_) (fun c139_17 => False.elim (c139_17 c76_8))
            refine g_iconst X14 hx hby i0_148 (z := (3 : Int32)) (by decide) ?_
            refine g_istore X14 hx hby i0_149 (l' := #[.val (.int p0), .val (.int p1), .val (.long q2), .second, .val (.long q3), .second, .val (.long q4), .second, .val (.long q5), .second, .val (.int v1), .val (.int v2), .val (.ref b4), .val (.int (3 : Int32))]) rfl ?_
            refine g_aload X14 hx hby i0_151 rfl rfl ?_
            refine g_callV0 X14 hx hby hZ (y0 := (⟨"com/example/value_generalizer/valuegeneralizer/ColumnLevels", "lowest", "()I"⟩ : MethodName)) (y := (⟨"com/example/value_generalizer/valuegeneralizer/ColumnLevels", "lowest", "()I"⟩ : MethodName)) (argsL := []) (rest := []) hown (hw _ (List.mem_of_getElem? (i := 24) rfl)) (hw _ (List.mem_of_getElem? (i := 25) rfl)) (notFace_of_selects (args := #[]) (mvT hZ (hw _ (List.mem_of_getElem? (i := 27) rfl)))) (hw _ (List.mem_of_getElem? (i := 27) rfl)) (hw _ (List.mem_of_getElem? (i := 26) rfl)) (hw _ (List.mem_of_getElem? (i := 2) rfl)) (hw _ (List.mem_of_getElem? (i := 28) rfl)) (by decide) (a := b4) A4 (rm5_3 l Z a0 hw [] b4 b5 k5 (v1 + (1 : Int32)) (0 : Int64) (0 : Int64) (0 : Int64) ((0 : Int64) + (own_pos q5)) T14.heap n0 Z0 F_r V ((own_z okh).2.2.2.2.2 (ok8 c95_9)) rfl rfl rfl (own_pos_ne _)) rfl (by rw [hml]; rfl) pd_3 rfl rfl i0_153 (by decide) 0 rfl (by decide) (by decide) (by decide) fun T18 v18 L18 X18 q18 => ?_
            obtain ⟨_, rfl, rfl, e18, N18⟩ := q18
            have N0 := Fr.app N0 N18
            show Gd p e below _ T18 (mkF m 156 #[.val (.int p0), .val (.int p1), .val (.long q2), .second, .val (.long q3), .second, .val (.long q4), .second, .val (.long q5), .second, .val (.int v1), .val (.int v2), .val (.ref b4), .val (.int (3 : Int32))] [(.int (3 : Int32))])
            refine g_iload X18 hx hby i0_156 rfl ?_
            refine g_icmp_ne X18 hx hby i0_158 (fun c158_19 => False.elim (absurd c158_19 (by decide))) fun c158_19 => ?_
            refine g_iconst X18 hx hby i0_161 (z := (1 : Int32)) (by decide) ?_
            refine g_goto X18 hx hby i0_162 ?_
            refine g_ireturnN X18 hx hby (ty := .boolean) hret (by simp) hlk i0_166 (by decide) (by decide) ?_
            exact ⟨_, rfl, rfl, N0⟩
        · refine g_aload X5 hx hby i0_79 rfl rfl ?_
          refine g_iconst X5 hx hby i0_81 (z := (2 : Int32)) (by decide) ?_
          refine g_lload X5 hx hby i0_82 rfl ?_
          refine g_callS0 X5 hx hby hZ (y := (⟨"com/example/value_generalizer/valuegeneralizer/ColumnLevelsLowestPinLaw", "pos", "(J)J"⟩ : MethodName)) (argsL := [(.long q4)]) (rest := [(.int (2 : Int32)), (.ref b4)]) hown (hw _ (List.mem_of_getElem? (i := 12) rfl)) (hw _ (List.mem_of_getElem? (i := 13) rfl)) (hw _ (List.mem_of_getElem? (i := 14) rfl)) (hw _ (List.mem_of_getElem? (i := 15) rfl)) (by decide) (rm3 l Z a0 hw [] q4 T5.heap n0 Z0) rfl (by rw [hml]; rfl) pd_1 rfl rfl i0_84 (by decide) 2 rfl (by decide) (by decide) (by decide) fun T20 v20 L20 X20 q20 => ?_
          obtain ⟨_, rfl, rfl, e20, N20⟩ := q20
          have N0 := Fr.app N0 N20
          show Gd p e below _ T20 (mkF m 87 #[.val (.int p0), .val (.int p1), .val (.long q2), .second, .val (.long q3), .second, .val (.long q4), .second, .val (.long q5), .second, .val (.int v1), .val (.int v2), .val (.ref b4), .unset] [(.long (own_pos q4)), (.int (2 : Int32)), (.ref b4)])
          refine g_callV0 X20 hx hby hZ (y0 := (⟨"com/example/value_generalizer/valuegeneralizer/ColumnLevels", "add", "(IJ)V"⟩ : MethodName)) (y := (⟨"com/example/value_generalizer/valuegeneralizer/ColumnLevels", "add", "(IJ)V"⟩ : MethodName)) (argsL := [(.int (2 : Int32)), (.long (own_pos q4))]) (rest := []) hown (hw _ (List.mem_of_getElem? (i := 17) rfl)) (hw _ (List.mem_of_getElem? (i := 18) rfl)) (notFace_of_selects (args := #[]) (mvT hZ (hw _ (List.mem_of_getElem? (i := 20) rfl)))) (hw _ (List.mem_of_getElem? (i := 20) rfl)) (hw _ (List.mem_of_getElem? (i := 19) rfl)) (hw _ (List.mem_of_getElem? (i := 2) rfl)) (hw _ (List.mem_of_getElem? (i := 21) rfl)) (by decide) (a := b4) A4 (rm4 l Z a0 hw [] b4 (2 : Int32) (own_pos q4) b5 k5 (v1 + (1 : Int32)) [(.long (0 : Int64)), (.long (0 : Int64)), (.long (0 : Int64)), (.long (0 : Int64))] (.long (0 : Int64)) 2 (0 : Int64) (0 : Int64) T5.heap n0 Z0 A4 F_r F_t V g_b4 g_b5 ne_b4_b5 (by decide) ((own_z okh).2.2.2.2.1 (ok4 c76_8)) (by decide) (by simp) rfl) e20 (by rw [hml]; rfl) pd_2 rfl rfl i0_87 (by decide) 0 rfl (by decide) (by decide) (by decide) fun T21 v21 L21 X21 q21 => ?_
          obtain ⟨rfl, K21, -, F_r, F_t, V, N21⟩ := q21
          have N0 := Fr.app N0 N21
          have A4 := A4.keep K21
          have Z0 : n0 ≤ T21.heap.size := Nat.le_trans Z0 K21.1
          have V : Arv Z T21.heap b5 k5 .long (v1 + (1 : Int32)) [(.long (0 : Int64)), (.long (0 : Int64)), (.long ((0 : Int64) + (own_pos q4))), (.long (0 : Int64))] (.long (0 : Int64)) := V
          show Gd p e below _ T21 (mkF m 90 #[.val (.int p0), .val (.int p1), .val (.long q2), .second, .val (.long q3), .second, .val (.long q4), .second, .val (.long q5), .second, .val (.int v1), .val (.int v2), .val (.ref b4), .unset] [])
          refine g_iload X21 hx hby i0_90 rfl ?_
          refine g_bipush X21 hx hby i0_92 (z := (8 : Int32)) (by decide) ?_
          refine g_iand X21 hx hby i0_94 ?_
          refine g_if_eq X21 hx hby i0_95 (fun c95_22 => ?_) (fun c95_22 => ?_)
          · refine g_iload X21 hx hby i0_109 rfl ?_
            refine g_iconst X21 hx hby i0_111 (z := (1 : Int32)) (by decide) ?_
            refine g_iand X21 hx hby i0_112 ?_
            refine g_if_eq X21 hx hby i0_113 (fun c113_23 => ?_) (fun c113_23 => False.elim (c113_23 c41_6))
            refine g_iload X21 hx hby i0_122 rfl ?_
            refine g_iconst X21 hx hby i0_124 (z := (2 : Int32)) (by decide) ?_
            refine g_iand X21 hx hby i0_125 ?_
            refine g_if_eq X21 hx hby i0_126 (fun c126_24 => ?_) (fun c126_24 => False.elim (c126_24 c58_7))
            refine g_iload X21 hx hby i0_135 rfl ?_
            refine g_iconst X21 hx hby i0_137 (z := (4 : Int32)) (by decide) ?_
            refine g_iand X21 hx hby i0_138 ?_
            refine g_if_eq X21 hx hby i0_139 (fun c139_25 => False.elim (c76_8 c139_25)) fun c139_25 => ?_
            refine g_iconst X21 hx hby i0_142 (z := (2 : Int32)) (by decide) ?_
            refine g_istore X21 hx hby i0_143 (l' := #[.val (.int p0), .val (.int p1), .val (.long q2), .second, .val (.long q3), .second, .val (.long q4), .second, .val (.long q5), .second, .val (.int v1), .val (.int v2), .val (.ref b4), .val (.int (2 : Int32))]) rfl ?_
            refine g_goto X21 hx hby i0_145 ?_
            refine g_aload X21 hx hby i0_151 rfl rfl ?_
            refine g_callV0 X21 hx hby hZ (y0 := (⟨"com/example/value_generalizer/valuegeneralizer/ColumnLevels", "lowest", "()I"⟩ : MethodName)) (y := (⟨"com/example/value_generalizer/valuegeneralizer/ColumnLevels", "lowest", "()I"⟩ : MethodName)) (argsL := []) (rest := []) hown (hw _ (List.mem_of_getElem? (i := 24) rfl)) (hw _ (List.mem_of_getElem? (i := 25) rfl)) (notFace_of_selects (args := #[]) (mvT hZ (hw _ (List.mem_of_getElem? (i := 27) rfl)))) (hw _ (List.mem_of_getElem? (i := 27) rfl)) (hw _ (List.mem_of_getElem? (i := 26) rfl)) (hw _ (List.mem_of_getElem? (i := 2) rfl)) (hw _ (List.mem_of_getElem? (i := 28) rfl)) (by decide) (a := b4) A4 (rm5_2 l Z a0 hw [] b4 b5 k5 (v1 + (1 : Int32)) (0 : Int64) (0 : Int64) ((0 : Int64) + (own_pos q4)) (0 : Int64) T21.heap n0 Z0 F_r V ((own_z okh).2.2.2.2.1 (ok4 c76_8)) rfl rfl (own_pos_ne _)) rfl (by rw [hml]; rfl) pd_3 rfl rfl i0_153 (by decide) 0 rfl (by decide) (by decide) (by decide) fun T26 v26 L26 X26 q26 => ?_
            obtain ⟨_, rfl, rfl, e26, N26⟩ := q26
            have N0 := Fr.app N0 N26
            show Gd p e below _ T26 (mkF m 156 #[.val (.int p0), .val (.int p1), .val (.long q2), .second, .val (.long q3), .second, .val (.long q4), .second, .val (.long q5), .second, .val (.int v1), .val (.int v2), .val (.ref b4), .val (.int (2 : Int32))] [(.int (2 : Int32))])
            refine g_iload X26 hx hby i0_156 rfl ?_
            refine g_icmp_ne X26 hx hby i0_158 (fun c158_27 => False.elim (absurd c158_27 (by decide))) fun c158_27 => ?_
            refine g_iconst X26 hx hby i0_161 (z := (1 : Int32)) (by decide) ?_
            refine g_goto X26 hx hby i0_162 ?_
            refine g_ireturnN X26 hx hby (ty := .boolean) hret (by simp) hlk i0_166 (by decide) (by decide) ?_
            exact ⟨_, rfl, rfl, N0⟩
          · refine g_aload X21 hx hby i0_98 rfl rfl ?_
            refine g_iconst X21 hx hby i0_100 (z := (3 : Int32)) (by decide) ?_
            refine g_lload X21 hx hby i0_101 rfl ?_
            refine g_callS0 X21 hx hby hZ (y := (⟨"com/example/value_generalizer/valuegeneralizer/ColumnLevelsLowestPinLaw", "pos", "(J)J"⟩ : MethodName)) (argsL := [(.long q5)]) (rest := [(.int (3 : Int32)), (.ref b4)]) hown (hw _ (List.mem_of_getElem? (i := 12) rfl)) (hw _ (List.mem_of_getElem? (i := 13) rfl)) (hw _ (List.mem_of_getElem? (i := 14) rfl)) (hw _ (List.mem_of_getElem? (i := 15) rfl)) (by decide) (rm3 l Z a0 hw [] q5 T21.heap n0 Z0) rfl (by rw [hml]; rfl) pd_1 rfl rfl i0_103 (by decide) 2 rfl (by decide) (by decide) (by decide) fun T28 v28 L28 X28 q28 => ?_
            obtain ⟨_, rfl, rfl, e28, N28⟩ := q28
            have N0 := Fr.app N0 N28
            show Gd p e below _ T28 (mkF m 106 #[.val (.int p0), .val (.int p1), .val (.long q2), .second, .val (.long q3), .second, .val (.long q4), .second, .val (.long q5), .second, .val (.int v1), .val (.int v2), .val (.ref b4), .unset] [(.long (own_pos q5)), (.int (3 : Int32)), (.ref b4)])
            refine g_callV0 X28 hx hby hZ (y0 := (⟨"com/example/value_generalizer/valuegeneralizer/ColumnLevels", "add", "(IJ)V"⟩ : MethodName)) (y := (⟨"com/example/value_generalizer/valuegeneralizer/ColumnLevels", "add", "(IJ)V"⟩ : MethodName)) (argsL := [(.int (3 : Int32)), (.long (own_pos q5))]) (rest := []) hown (hw _ (List.mem_of_getElem? (i := 17) rfl)) (hw _ (List.mem_of_getElem? (i := 18) rfl)) (notFace_of_selects (args := #[]) (mvT hZ (hw _ (List.mem_of_getElem? (i := 20) rfl)))) (hw _ (List.mem_of_getElem? (i := 20) rfl)) (hw _ (List.mem_of_getElem? (i := 19) rfl)) (hw _ (List.mem_of_getElem? (i := 2) rfl)) (hw _ (List.mem_of_getElem? (i := 21) rfl)) (by decide) (a := b4) A4 (rm4 l Z a0 hw [] b4 (3 : Int32) (own_pos q5) b5 k5 (v1 + (1 : Int32)) [(.long (0 : Int64)), (.long (0 : Int64)), (.long ((0 : Int64) + (own_pos q4))), (.long (0 : Int64))] (.long (0 : Int64)) 3 (0 : Int64) ((0 : Int64) + (own_pos q4)) T21.heap n0 Z0 A4 F_r F_t V g_b4 g_b5 ne_b4_b5 (by decide) ((own_z okh).2.2.2.2.2 (ok8 c95_22)) (by decide) (by simp) rfl) e28 (by rw [hml]; rfl) pd_2 rfl rfl i0_106 (by decide) 0 rfl (by decide) (by decide) (by decide) fun T29 v29 L29 X29 q29 => ?_
            obtain ⟨rfl, K29, -, F_r, F_t, V, N29⟩ := q29
            have N0 := Fr.app N0 N29
            have A4 := A4.keep K29
            have Z0 : n0 ≤ T29.heap.size := Nat.le_trans Z0 K29.1
            have V : Arv Z T29.heap b5 k5 .long (v1 + (1 : Int32)) [(.long (0 : Int64)), (.long (0 : Int64)), (.long ((0 : Int64) + (own_pos q4))), (.long ((0 : Int64) + (own_pos q5)))] (.long (0 : Int64)) := V
            show Gd p e below _ T29 (mkF m 109 #[.val (.int p0), .val (.int p1), .val (.long q2), .second, .val (.long q3), .second, .val (.long q4), .second, .val (.long q5), .second, .val (.int v1), .val (.int v2), .val (.ref b4), .unset] [])
            refine g_iload X29 hx hby i0_109 rfl ?_
            refine g_iconst X29 hx hby i0_111 (z := (1 : Int32)) (by decide) ?_
            refine g_iand X29 hx hby i0_112 ?_
            refine g_if_eq X29 hx hby i0_113 (fun c113_30 => ?_) (fun c113_30 => False.elim (c113_30 c41_6))
            refine g_iload X29 hx hby i0_122 rfl ?_
            refine g_iconst X29 hx hby i0_124 (z := (2 : Int32)) (by decide) ?_
            refine g_iand X29 hx hby i0_125 ?_
            refine g_if_eq X29 hx hby i0_126 (fun c126_31 => ?_) (fun c126_31 => False.elim (c126_31 c58_7))
            refine g_iload X29 hx hby i0_135 rfl ?_
            refine g_iconst X29 hx hby i0_137 (z := (4 : Int32)) (by decide) ?_
            refine g_iand X29 hx hby i0_138 ?_
            refine g_if_eq X29 hx hby i0_139 (fun c139_32 => False.elim (c76_8 c139_32)) fun c139_32 => ?_
            refine g_iconst X29 hx hby i0_142 (z := (2 : Int32)) (by decide) ?_
            refine g_istore X29 hx hby i0_143 (l' := #[.val (.int p0), .val (.int p1), .val (.long q2), .second, .val (.long q3), .second, .val (.long q4), .second, .val (.long q5), .second, .val (.int v1), .val (.int v2), .val (.ref b4), .val (.int (2 : Int32))]) rfl ?_
            refine g_goto X29 hx hby i0_145 ?_
            refine g_aload X29 hx hby i0_151 rfl rfl ?_
            refine g_callV0 X29 hx hby hZ (y0 := (⟨"com/example/value_generalizer/valuegeneralizer/ColumnLevels", "lowest", "()I"⟩ : MethodName)) (y := (⟨"com/example/value_generalizer/valuegeneralizer/ColumnLevels", "lowest", "()I"⟩ : MethodName)) (argsL := []) (rest := []) hown (hw _ (List.mem_of_getElem? (i := 24) rfl)) (hw _ (List.mem_of_getElem? (i := 25) rfl)) (notFace_of_selects (args := #[]) (mvT hZ (hw _ (List.mem_of_getElem? (i := 27) rfl)))) (hw _ (List.mem_of_getElem? (i := 27) rfl)) (hw _ (List.mem_of_getElem? (i := 26) rfl)) (hw _ (List.mem_of_getElem? (i := 2) rfl)) (hw _ (List.mem_of_getElem? (i := 28) rfl)) (by decide) (a := b4) A4 (rm5_2 l Z a0 hw [] b4 b5 k5 (v1 + (1 : Int32)) (0 : Int64) (0 : Int64) ((0 : Int64) + (own_pos q4)) ((0 : Int64) + (own_pos q5)) T29.heap n0 Z0 F_r V ((own_z okh).2.2.2.2.1 (ok4 c76_8)) rfl rfl (own_pos_ne _)) rfl (by rw [hml]; rfl) pd_3 rfl rfl i0_153 (by decide) 0 rfl (by decide) (by decide) (by decide) fun T33 v33 L33 X33 q33 => ?_
            obtain ⟨_, rfl, rfl, e33, N33⟩ := q33
            have N0 := Fr.app N0 N33
            show Gd p e below _ T33 (mkF m 156 #[.val (.int p0), .val (.int p1), .val (.long q2), .second, .val (.long q3), .second, .val (.long q4), .second, .val (.long q5), .second, .val (.int v1), .val (.int v2), .val (.ref b4), .val (.int (2 : Int32))] [(.int (2 : Int32))])
            refine g_iload X33 hx hby i0_156 rfl ?_
            refine g_icmp_ne X33 hx hby i0_158 (fun c158_34 => False.elim (absurd c158_34 (by decide))) fun c158_34 => ?_
            refine g_iconst X33 hx hby i0_161 (z := (1 : Int32)) (by decide) ?_
            refine g_goto X33 hx hby i0_162 ?_
            refine g_ireturnN X33 hx hby (ty := .boolean) hret (by simp) hlk i0_166 (by decide) (by decide) ?_
            exact ⟨_, rfl, rfl, N0⟩
      · refine g_aload X5 hx hby i0_61 rfl rfl ?_
        refine g_iconst X5 hx hby i0_63 (z := (1 : Int32)) (by decide) ?_
        refine g_lload X5 hx hby i0_64 rfl ?_
        refine g_callS0 X5 hx hby hZ (y := (⟨"com/example/value_generalizer/valuegeneralizer/ColumnLevelsLowestPinLaw", "pos", "(J)J"⟩ : MethodName)) (argsL := [(.long q3)]) (rest := [(.int (1 : Int32)), (.ref b4)]) hown (hw _ (List.mem_of_getElem? (i := 12) rfl)) (hw _ (List.mem_of_getElem? (i := 13) rfl)) (hw _ (List.mem_of_getElem? (i := 14) rfl)) (hw _ (List.mem_of_getElem? (i := 15) rfl)) (by decide) (rm3 l Z a0 hw [] q3 T5.heap n0 Z0) rfl (by rw [hml]; rfl) pd_1 rfl rfl i0_66 (by decide) 2 rfl (by decide) (by decide) (by decide) fun T35 v35 L35 X35 q35 => ?_
        obtain ⟨_, rfl, rfl, e35, N35⟩ := q35
        have N0 := Fr.app N0 N35
        show Gd p e below _ T35 (mkF m 69 #[.val (.int p0), .val (.int p1), .val (.long q2), .second, .val (.long q3), .second, .val (.long q4), .second, .val (.long q5), .second, .val (.int v1), .val (.int v2), .val (.ref b4), .unset] [(.long (own_pos q3)), (.int (1 : Int32)), (.ref b4)])
        refine g_callV0 X35 hx hby hZ (y0 := (⟨"com/example/value_generalizer/valuegeneralizer/ColumnLevels", "add", "(IJ)V"⟩ : MethodName)) (y := (⟨"com/example/value_generalizer/valuegeneralizer/ColumnLevels", "add", "(IJ)V"⟩ : MethodName)) (argsL := [(.int (1 : Int32)), (.long (own_pos q3))]) (rest := []) hown (hw _ (List.mem_of_getElem? (i := 17) rfl)) (hw _ (List.mem_of_getElem? (i := 18) rfl)) (notFace_of_selects (args := #[]) (mvT hZ (hw _ (List.mem_of_getElem? (i := 20) rfl)))) (hw _ (List.mem_of_getElem? (i := 20) rfl)) (hw _ (List.mem_of_getElem? (i := 19) rfl)) (hw _ (List.mem_of_getElem? (i := 2) rfl)) (hw _ (List.mem_of_getElem? (i := 21) rfl)) (by decide) (a := b4) A4 (rm4 l Z a0 hw [] b4 (1 : Int32) (own_pos q3) b5 k5 (v1 + (1 : Int32)) [(.long (0 : Int64)), (.long (0 : Int64)), (.long (0 : Int64)), (.long (0 : Int64))] (.long (0 : Int64)) 1 (0 : Int64) (0 : Int64) T5.heap n0 Z0 A4 F_r F_t V g_b4 g_b5 ne_b4_b5 (by decide) ((own_z okh).2.2.2.1 (ok2 c58_7)) (by decide) (by simp) rfl) e35 (by rw [hml]; rfl) pd_2 rfl rfl i0_69 (by decide) 0 rfl (by decide) (by decide) (by decide) fun T36 v36 L36 X36 q36 => ?_
        obtain ⟨rfl, K36, -, F_r, F_t, V, N36⟩ := q36
        have N0 := Fr.app N0 N36
        have A4 := A4.keep K36
        have Z0 : n0 ≤ T36.heap.size := Nat.le_trans Z0 K36.1
        have V : Arv Z T36.heap b5 k5 .long (v1 + (1 : Int32)) [(.long (0 : Int64)), (.long ((0 : Int64) + (own_pos q3))), (.long (0 : Int64)), (.long (0 : Int64))] (.long (0 : Int64)) := V
        show Gd p e below _ T36 (mkF m 72 #[.val (.int p0), .val (.int p1), .val (.long q2), .second, .val (.long q3), .second, .val (.long q4), .second, .val (.long q5), .second, .val (.int v1), .val (.int v2), .val (.ref b4), .unset] [])
        refine g_iload X36 hx hby i0_72 rfl ?_
        refine g_iconst X36 hx hby i0_74 (z := (4 : Int32)) (by decide) ?_
        refine g_iand X36 hx hby i0_75 ?_
        refine g_if_eq X36 hx hby i0_76 (fun c76_37 => ?_) (fun c76_37 => ?_)
        · refine g_iload X36 hx hby i0_90 rfl ?_
          refine g_bipush X36 hx hby i0_92 (z := (8 : Int32)) (by decide) ?_
          refine g_iand X36 hx hby i0_94 ?_
          refine g_if_eq X36 hx hby i0_95 (fun c95_38 => ?_) (fun c95_38 => ?_)
          · refine g_iload X36 hx hby i0_109 rfl ?_
            refine g_iconst X36 hx hby i0_111 (z := (1 : Int32)) (by decide) ?_
            refine g_iand X36 hx hby i0_112 ?_
            refine g_if_eq X36 hx hby i0_113 (fun c113_39 => ?_) (fun c113_39 => False.elim (c113_39 c41_6))
            refine g_iload X36 hx hby i0_122 rfl ?_
            refine g_iconst X36 hx hby i0_124 (z := (2 : Int32)) (by decide) ?_
            refine g_iand X36 hx hby i0_125 ?_
            refine g_if_eq X36 hx hby i0_126 (fun c126_40 => False.elim (c58_7 c126_40)) fun c126_40 => ?_
            refine g_iconst X36 hx hby i0_129 (z := (1 : Int32)) (by decide) ?_
            refine g_istore X36 hx hby i0_130 (l' := #[.val (.int p0), .val (.int p1), .val (.long q2), .second, .val (.long q3), .second, .val (.long q4), .second, .val (.long q5), .second, .val (.int v1), .val (.int v2), .val (.ref b4), .val (.int (1 : Int32))]) rfl ?_
            refine g_goto X36 hx hby i0_132 ?_
            refine g_aload X36 hx hby i0_151 rfl rfl ?_
            refine g_callV0 X36 hx hby hZ (y0 := (⟨"com/example/value_generalizer/valuegeneralizer/ColumnLevels", "lowest", "()I"⟩ : MethodName)) (y := (⟨"com/example/value_generalizer/valuegeneralizer/ColumnLevels", "lowest", "()I"⟩ : MethodName)) (argsL := []) (rest := []) hown (hw _ (List.mem_of_getElem? (i := 24) rfl)) (hw _ (List.mem_of_getElem? (i := 25) rfl)) (notFace_of_selects (args := #[]) (mvT hZ (hw _ (List.mem_of_getElem? (i := 27) rfl)))) (hw _ (List.mem_of_getElem? (i := 27) rfl)) (hw _ (List.mem_of_getElem? (i := 26) rfl)) (hw _ (List.mem_of_getElem? (i := 2) rfl)) (hw _ (List.mem_of_getElem? (i := 28) rfl)) (by decide) (a := b4) A4 (rm5_1 l Z a0 hw [] b4 b5 k5 (v1 + (1 : Int32)) (0 : Int64) ((0 : Int64) + (own_pos q3)) (0 : Int64) (0 : Int64) T36.heap n0 Z0 F_r V ((own_z okh).2.2.2.1 (ok2 c58_7)) rfl (own_pos_ne _)) rfl (by rw [hml]; rfl) pd_3 rfl rfl i0_153 (by decide) 0 rfl (by decide) (by decide) (by decide) fun T41 v41 L41 X41 q41 => ?_
            obtain ⟨_, rfl, rfl, e41, N41⟩ := q41
            have N0 := Fr.app N0 N41
            show Gd p e below _ T41 (mkF m 156 #[.val (.int p0), .val (.int p1), .val (.long q2), .second, .val (.long q3), .second, .val (.long q4), .second, .val (.long q5), .second, .val (.int v1), .val (.int v2), .val (.ref b4), .val (.int (1 : Int32))] [(.int (1 : Int32))])
            refine g_iload X41 hx hby i0_156 rfl ?_
            refine g_icmp_ne X41 hx hby i0_158 (fun c158_42 => False.elim (absurd c158_42 (by decide))) fun c158_42 => ?_
            refine g_iconst X41 hx hby i0_161 (z := (1 : Int32)) (by decide) ?_
            refine g_goto X41 hx hby i0_162 ?_
            refine g_ireturnN X41 hx hby (ty := .boolean) hret (by simp) hlk i0_166 (by decide) (by decide) ?_
            exact ⟨_, rfl, rfl, N0⟩
          · refine g_aload X36 hx hby i0_98 rfl rfl ?_
            refine g_iconst X36 hx hby i0_100 (z := (3 : Int32)) (by decide) ?_
            refine g_lload X36 hx hby i0_101 rfl ?_
            refine g_callS0 X36 hx hby hZ (y := (⟨"com/example/value_generalizer/valuegeneralizer/ColumnLevelsLowestPinLaw", "pos", "(J)J"⟩ : MethodName)) (argsL := [(.long q5)]) (rest := [(.int (3 : Int32)), (.ref b4)]) hown (hw _ (List.mem_of_getElem? (i := 12) rfl)) (hw _ (List.mem_of_getElem? (i := 13) rfl)) (hw _ (List.mem_of_getElem? (i := 14) rfl)) (hw _ (List.mem_of_getElem? (i := 15) rfl)) (by decide) (rm3 l Z a0 hw [] q5 T36.heap n0 Z0) rfl (by rw [hml]; rfl) pd_1 rfl rfl i0_103 (by decide) 2 rfl (by decide) (by decide) (by decide) fun T43 v43 L43 X43 q43 => ?_
            obtain ⟨_, rfl, rfl, e43, N43⟩ := q43
            have N0 := Fr.app N0 N43
            show Gd p e below _ T43 (mkF m 106 #[.val (.int p0), .val (.int p1), .val (.long q2), .second, .val (.long q3), .second, .val (.long q4), .second, .val (.long q5), .second, .val (.int v1), .val (.int v2), .val (.ref b4), .unset] [(.long (own_pos q5)), (.int (3 : Int32)), (.ref b4)])
            refine g_callV0 X43 hx hby hZ (y0 := (⟨"com/example/value_generalizer/valuegeneralizer/ColumnLevels", "add", "(IJ)V"⟩ : MethodName)) (y := (⟨"com/example/value_generalizer/valuegeneralizer/ColumnLevels", "add", "(IJ)V"⟩ : MethodName)) (argsL := [(.int (3 : Int32)), (.long (own_pos q5))]) (rest := []) hown (hw _ (List.mem_of_getElem? (i := 17) rfl)) (hw _ (List.mem_of_getElem? (i := 18) rfl)) (notFace_of_selects (args := #[]) (mvT hZ (hw _ (List.mem_of_getElem? (i := 20) rfl)))) (hw _ (List.mem_of_getElem? (i := 20) rfl)) (hw _ (List.mem_of_getElem? (i := 19) rfl)) (hw _ (List.mem_of_getElem? (i := 2) rfl)) (hw _ (List.mem_of_getElem? (i := 21) rfl)) (by decide) (a := b4) A4 (rm4 l Z a0 hw [] b4 (3 : Int32) (own_pos q5) b5 k5 (v1 + (1 : Int32)) [(.long (0 : Int64)), (.long ((0 : Int64) + (own_pos q3))), (.long (0 : Int64)), (.long (0 : Int64))] (.long (0 : Int64)) 3 (0 : Int64) ((0 : Int64) + (own_pos q3)) T36.heap n0 Z0 A4 F_r F_t V g_b4 g_b5 ne_b4_b5 (by decide) ((own_z okh).2.2.2.2.2 (ok8 c95_38)) (by decide) (by simp) rfl) e43 (by rw [hml]; rfl) pd_2 rfl rfl i0_106 (by decide) 0 rfl (by decide) (by decide) (by decide) fun T44 v44 L44 X44 q44 => ?_
            obtain ⟨rfl, K44, -, F_r, F_t, V, N44⟩ := q44
            have N0 := Fr.app N0 N44
            have A4 := A4.keep K44
            have Z0 : n0 ≤ T44.heap.size := Nat.le_trans Z0 K44.1
            have V : Arv Z T44.heap b5 k5 .long (v1 + (1 : Int32)) [(.long (0 : Int64)), (.long ((0 : Int64) + (own_pos q3))), (.long (0 : Int64)), (.long ((0 : Int64) + (own_pos q5)))] (.long (0 : Int64)) := V
            show Gd p e below _ T44 (mkF m 109 #[.val (.int p0), .val (.int p1), .val (.long q2), .second, .val (.long q3), .second, .val (.long q4), .second, .val (.long q5), .second, .val (.int v1), .val (.int v2), .val (.ref b4), .unset] [])
            refine g_iload X44 hx hby i0_109 rfl ?_
            refine g_iconst X44 hx hby i0_111 (z := (1 : Int32)) (by decide) ?_
            refine g_iand X44 hx hby i0_112 ?_
            refine g_if_eq X44 hx hby i0_113 (fun c113_45 => ?_) (fun c113_45 => False.elim (c113_45 c41_6))
            refine g_iload X44 hx hby i0_122 rfl ?_
            refine g_iconst X44 hx hby i0_124 (z := (2 : Int32)) (by decide) ?_
            refine g_iand X44 hx hby i0_125 ?_
            refine g_if_eq X44 hx hby i0_126 (fun c126_46 => False.elim (c58_7 c126_46)) fun c126_46 => ?_
            refine g_iconst X44 hx hby i0_129 (z := (1 : Int32)) (by decide) ?_
            refine g_istore X44 hx hby i0_130 (l' := #[.val (.int p0), .val (.int p1), .val (.long q2), .second, .val (.long q3), .second, .val (.long q4), .second, .val (.long q5), .second, .val (.int v1), .val (.int v2), .val (.ref b4), .val (.int (1 : Int32))]) rfl ?_
            refine g_goto X44 hx hby i0_132 ?_
            refine g_aload X44 hx hby i0_151 rfl rfl ?_
            refine g_callV0 X44 hx hby hZ (y0 := (⟨"com/example/value_generalizer/valuegeneralizer/ColumnLevels", "lowest", "()I"⟩ : MethodName)) (y := (⟨"com/example/value_generalizer/valuegeneralizer/ColumnLevels", "lowest", "()I"⟩ : MethodName)) (argsL := []) (rest := []) hown (hw _ (List.mem_of_getElem? (i := 24) rfl)) (hw _ (List.mem_of_getElem? (i := 25) rfl)) (notFace_of_selects (args := #[]) (mvT hZ (hw _ (List.mem_of_getElem? (i := 27) rfl)))) (hw _ (List.mem_of_getElem? (i := 27) rfl)) (hw _ (List.mem_of_getElem? (i := 26) rfl)) (hw _ (List.mem_of_getElem? (i := 2) rfl)) (hw _ (List.mem_of_getElem? (i := 28) rfl)) (by decide) (a := b4) A4 (rm5_1 l Z a0 hw [] b4 b5 k5 (v1 + (1 : Int32)) (0 : Int64) ((0 : Int64) + (own_pos q3)) (0 : Int64) ((0 : Int64) + (own_pos q5)) T44.heap n0 Z0 F_r V ((own_z okh).2.2.2.1 (ok2 c58_7)) rfl (own_pos_ne _)) rfl (by rw [hml]; rfl) pd_3 rfl rfl i0_153 (by decide) 0 rfl (by decide) (by decide) (by decide) fun T47 v47 L47 X47 q47 => ?_
            obtain ⟨_, rfl, rfl, e47, N47⟩ := q47
            have N0 := Fr.app N0 N47
            show Gd p e below _ T47 (mkF m 156 #[.val (.int p0), .val (.int p1), .val (.long q2), .second, .val (.long q3), .second, .val (.long q4), .second, .val (.long q5), .second, .val (.int v1), .val (.int v2), .val (.ref b4), .val (.int (1 : Int32))] [(.int (1 : Int32))])
            refine g_iload X47 hx hby i0_156 rfl ?_
            refine g_icmp_ne X47 hx hby i0_158 (fun c158_48 => False.elim (absurd c158_48 (by decide))) fun c158_48 => ?_
            refine g_iconst X47 hx hby i0_161 (z := (1 : Int32)) (by decide) ?_
            refine g_goto X47 hx hby i0_162 ?_
            refine g_ireturnN X47 hx hby (ty := .boolean) hret (by simp) hlk i0_166 (by decide) (by decide) ?_
            exact ⟨_, rfl, rfl, N0⟩
        · refine g_aload X36 hx hby i0_79 rfl rfl ?_
          refine g_iconst X36 hx hby i0_81 (z := (2 : Int32)) (by decide) ?_
          refine g_lload X36 hx hby i0_82 rfl ?_
          refine g_callS0 X36 hx hby hZ (y := (⟨"com/example/value_generalizer/valuegeneralizer/ColumnLevelsLowestPinLaw", "pos", "(J)J"⟩ : MethodName)) (argsL := [(.long q4)]) (rest := [(.int (2 : Int32)), (.ref b4)]) hown (hw _ (List.mem_of_getElem? (i := 12) rfl)) (hw _ (List.mem_of_getElem? (i := 13) rfl)) (hw _ (List.mem_of_getElem? (i := 14) rfl)) (hw _ (List.mem_of_getElem? (i := 15) rfl)) (by decide) (rm3 l Z a0 hw [] q4 T36.heap n0 Z0) rfl (by rw [hml]; rfl) pd_1 rfl rfl i0_84 (by decide) 2 rfl (by decide) (by decide) (by decide) fun T49 v49 L49 X49 q49 => ?_
          obtain ⟨_, rfl, rfl, e49, N49⟩ := q49
          have N0 := Fr.app N0 N49
          show Gd p e below _ T49 (mkF m 87 #[.val (.int p0), .val (.int p1), .val (.long q2), .second, .val (.long q3), .second, .val (.long q4), .second, .val (.long q5), .second, .val (.int v1), .val (.int v2), .val (.ref b4), .unset] [(.long (own_pos q4)), (.int (2 : Int32)), (.ref b4)])
          refine g_callV0 X49 hx hby hZ (y0 := (⟨"com/example/value_generalizer/valuegeneralizer/ColumnLevels", "add", "(IJ)V"⟩ : MethodName)) (y := (⟨"com/example/value_generalizer/valuegeneralizer/ColumnLevels", "add", "(IJ)V"⟩ : MethodName)) (argsL := [(.int (2 : Int32)), (.long (own_pos q4))]) (rest := []) hown (hw _ (List.mem_of_getElem? (i := 17) rfl)) (hw _ (List.mem_of_getElem? (i := 18) rfl)) (notFace_of_selects (args := #[]) (mvT hZ (hw _ (List.mem_of_getElem? (i := 20) rfl)))) (hw _ (List.mem_of_getElem? (i := 20) rfl)) (hw _ (List.mem_of_getElem? (i := 19) rfl)) (hw _ (List.mem_of_getElem? (i := 2) rfl)) (hw _ (List.mem_of_getElem? (i := 21) rfl)) (by decide) (a := b4) A4 (rm4 l Z a0 hw [] b4 (2 : Int32) (own_pos q4) b5 k5 (v1 + (1 : Int32)) [(.long (0 : Int64)), (.long ((0 : Int64) + (own_pos q3))), (.long (0 : Int64)), (.long (0 : Int64))] (.long (0 : Int64)) 2 (0 : Int64) ((0 : Int64) + (own_pos q3)) T36.heap n0 Z0 A4 F_r F_t V g_b4 g_b5 ne_b4_b5 (by decide) ((own_z okh).2.2.2.2.1 (ok4 c76_37)) (by decide) (by simp) rfl) e49 (by rw [hml]; rfl) pd_2 rfl rfl i0_87 (by decide) 0 rfl (by decide) (by decide) (by decide) fun T50 v50 L50 X50 q50 => ?_
          obtain ⟨rfl, K50, -, F_r, F_t, V, N50⟩ := q50
          have N0 := Fr.app N0 N50
          have A4 := A4.keep K50
          have Z0 : n0 ≤ T50.heap.size := Nat.le_trans Z0 K50.1
          have V : Arv Z T50.heap b5 k5 .long (v1 + (1 : Int32)) [(.long (0 : Int64)), (.long ((0 : Int64) + (own_pos q3))), (.long ((0 : Int64) + (own_pos q4))), (.long (0 : Int64))] (.long (0 : Int64)) := V
          show Gd p e below _ T50 (mkF m 90 #[.val (.int p0), .val (.int p1), .val (.long q2), .second, .val (.long q3), .second, .val (.long q4), .second, .val (.long q5), .second, .val (.int v1), .val (.int v2), .val (.ref b4), .unset] [])
          refine g_iload X50 hx hby i0_90 rfl ?_
          refine g_bipush X50 hx hby i0_92 (z := (8 : Int32)) (by decide) ?_
          refine g_iand X50 hx hby i0_94 ?_
          refine g_if_eq X50 hx hby i0_95 (fun c95_51 => ?_) (fun c95_51 => ?_)
          · refine g_iload X50 hx hby i0_109 rfl ?_
            refine g_iconst X50 hx hby i0_111 (z := (1 : Int32)) (by decide) ?_
            refine g_iand X50 hx hby i0_112 ?_
            refine g_if_eq X50 hx hby i0_113 (fun c113_52 => ?_) (fun c113_52 => False.elim (c113_52 c41_6))
            refine g_iload X50 hx hby i0_122 rfl ?_
            refine g_iconst X50 hx hby i0_124 (z := (2 : Int32)) (by decide) ?_
            refine g_iand X50 hx hby i0_125 ?_
            refine g_if_eq X50 hx hby i0_126 (fun c126_53 => False.elim (c58_7 c126_53)) fun c126_53 => ?_
            refine g_iconst X50 hx hby i0_129 (z := (1 : Int32)) (by decide) ?_
            refine g_istore X50 hx hby i0_130 (l' := #[.val (.int p0), .val (.int p1), .val (.long q2), .second, .val (.long q3), .second, .val (.long q4), .second, .val (.long q5), .second, .val (.int v1), .val (.int v2), .val (.ref b4), .val (.int (1 : Int32))]) rfl ?_
            refine g_goto X50 hx hby i0_132 ?_
            refine g_aload X50 hx hby i0_151 rfl rfl ?_
            refine g_callV0 X50 hx hby hZ (y0 := (⟨"com/example/value_generalizer/valuegeneralizer/ColumnLevels", "lowest", "()I"⟩ : MethodName)) (y := (⟨"com/example/value_generalizer/valuegeneralizer/ColumnLevels", "lowest", "()I"⟩ : MethodName)) (argsL := []) (rest := []) hown (hw _ (List.mem_of_getElem? (i := 24) rfl)) (hw _ (List.mem_of_getElem? (i := 25) rfl)) (notFace_of_selects (args := #[]) (mvT hZ (hw _ (List.mem_of_getElem? (i := 27) rfl)))) (hw _ (List.mem_of_getElem? (i := 27) rfl)) (hw _ (List.mem_of_getElem? (i := 26) rfl)) (hw _ (List.mem_of_getElem? (i := 2) rfl)) (hw _ (List.mem_of_getElem? (i := 28) rfl)) (by decide) (a := b4) A4 (rm5_1 l Z a0 hw [] b4 b5 k5 (v1 + (1 : Int32)) (0 : Int64) ((0 : Int64) + (own_pos q3)) ((0 : Int64) + (own_pos q4)) (0 : Int64) T50.heap n0 Z0 F_r V ((own_z okh).2.2.2.1 (ok2 c58_7)) rfl (own_pos_ne _)) rfl (by rw [hml]; rfl) pd_3 rfl rfl i0_153 (by decide) 0 rfl (by decide) (by decide) (by decide) fun T54 v54 L54 X54 q54 => ?_
            obtain ⟨_, rfl, rfl, e54, N54⟩ := q54
            have N0 := Fr.app N0 N54
            show Gd p e below _ T54 (mkF m 156 #[.val (.int p0), .val (.int p1), .val (.long q2), .second, .val (.long q3), .second, .val (.long q4), .second, .val (.long q5), .second, .val (.int v1), .val (.int v2), .val (.ref b4), .val (.int (1 : Int32))] [(.int (1 : Int32))])
            refine g_iload X54 hx hby i0_156 rfl ?_
            refine g_icmp_ne X54 hx hby i0_158 (fun c158_55 => False.elim (absurd c158_55 (by decide))) fun c158_55 => ?_
            refine g_iconst X54 hx hby i0_161 (z := (1 : Int32)) (by decide) ?_
            refine g_goto X54 hx hby i0_162 ?_
            refine g_ireturnN X54 hx hby (ty := .boolean) hret (by simp) hlk i0_166 (by decide) (by decide) ?_
            exact ⟨_, rfl, rfl, N0⟩
          · refine g_aload X50 hx hby i0_98 rfl rfl ?_
            refine g_iconst X50 hx hby i0_100 (z := (3 : Int32)) (by decide) ?_
            refine g_lload X50 hx hby i0_101 rfl ?_
            refine g_callS0 X50 hx hby hZ (y := (⟨"com/example/value_generalizer/valuegeneralizer/ColumnLevelsLowestPinLaw", "pos", "(J)J"⟩ : MethodName)) (argsL := [(.long q5)]) (rest := [(.int (3 : Int32)), (.ref b4)]) hown (hw _ (List.mem_of_getElem? (i := 12) rfl)) (hw _ (List.mem_of_getElem? (i := 13) rfl)) (hw _ (List.mem_of_getElem? (i := 14) rfl)) (hw _ (List.mem_of_getElem? (i := 15) rfl)) (by decide) (rm3 l Z a0 hw [] q5 T50.heap n0 Z0) rfl (by rw [hml]; rfl) pd_1 rfl rfl i0_103 (by decide) 2 rfl (by decide) (by decide) (by decide) fun T56 v56 L56 X56 q56 => ?_
            obtain ⟨_, rfl, rfl, e56, N56⟩ := q56
            have N0 := Fr.app N0 N56
            show Gd p e below _ T56 (mkF m 106 #[.val (.int p0), .val (.int p1), .val (.long q2), .second, .val (.long q3), .second, .val (.long q4), .second, .val (.long q5), .second, .val (.int v1), .val (.int v2), .val (.ref b4), .unset] [(.long (own_pos q5)), (.int (3 : Int32)), (.ref b4)])
            refine g_callV0 X56 hx hby hZ (y0 := (⟨"com/example/value_generalizer/valuegeneralizer/ColumnLevels", "add", "(IJ)V"⟩ : MethodName)) (y := (⟨"com/example/value_generalizer/valuegeneralizer/ColumnLevels", "add", "(IJ)V"⟩ : MethodName)) (argsL := [(.int (3 : Int32)), (.long (own_pos q5))]) (rest := []) hown (hw _ (List.mem_of_getElem? (i := 17) rfl)) (hw _ (List.mem_of_getElem? (i := 18) rfl)) (notFace_of_selects (args := #[]) (mvT hZ (hw _ (List.mem_of_getElem? (i := 20) rfl)))) (hw _ (List.mem_of_getElem? (i := 20) rfl)) (hw _ (List.mem_of_getElem? (i := 19) rfl)) (hw _ (List.mem_of_getElem? (i := 2) rfl)) (hw _ (List.mem_of_getElem? (i := 21) rfl)) (by decide) (a := b4) A4 (rm4 l Z a0 hw [] b4 (3 : Int32) (own_pos q5) b5 k5 (v1 + (1 : Int32)) [(.long (0 : Int64)), (.long ((0 : Int64) + (own_pos q3))), (.long ((0 : Int64) + (own_pos q4))), (.long (0 : Int64))] (.long (0 : Int64)) 3 (0 : Int64) (((0 : Int64) + (own_pos q3)) + (own_pos q4)) T50.heap n0 Z0 A4 F_r F_t V g_b4 g_b5 ne_b4_b5 (by decide) ((own_z okh).2.2.2.2.2 (ok8 c95_51)) (by decide) (by simp) rfl) e56 (by rw [hml]; rfl) pd_2 rfl rfl i0_106 (by decide) 0 rfl (by decide) (by decide) (by decide) fun T57 v57 L57 X57 q57 => ?_
            obtain ⟨rfl, K57, -, F_r, F_t, V, N57⟩ := q57
            have N0 := Fr.app N0 N57
            have A4 := A4.keep K57
            have Z0 : n0 ≤ T57.heap.size := Nat.le_trans Z0 K57.1
            have V : Arv Z T57.heap b5 k5 .long (v1 + (1 : Int32)) [(.long (0 : Int64)), (.long ((0 : Int64) + (own_pos q3))), (.long ((0 : Int64) + (own_pos q4))), (.long ((0 : Int64) + (own_pos q5)))] (.long (0 : Int64)) := V
            show Gd p e below _ T57 (mkF m 109 #[.val (.int p0), .val (.int p1), .val (.long q2), .second, .val (.long q3), .second, .val (.long q4), .second, .val (.long q5), .second, .val (.int v1), .val (.int v2), .val (.ref b4), .unset] [])
            refine g_iload X57 hx hby i0_109 rfl ?_
            refine g_iconst X57 hx hby i0_111 (z := (1 : Int32)) (by decide) ?_
            refine g_iand X57 hx hby i0_112 ?_
            refine g_if_eq X57 hx hby i0_113 (fun c113_58 => ?_) (fun c113_58 => False.elim (c113_58 c41_6))
            refine g_iload X57 hx hby i0_122 rfl ?_
            refine g_iconst X57 hx hby i0_124 (z := (2 : Int32)) (by decide) ?_
            refine g_iand X57 hx hby i0_125 ?_
            refine g_if_eq X57 hx hby i0_126 (fun c126_59 => False.elim (c58_7 c126_59)) fun c126_59 => ?_
            refine g_iconst X57 hx hby i0_129 (z := (1 : Int32)) (by decide) ?_
            refine g_istore X57 hx hby i0_130 (l' := #[.val (.int p0), .val (.int p1), .val (.long q2), .second, .val (.long q3), .second, .val (.long q4), .second, .val (.long q5), .second, .val (.int v1), .val (.int v2), .val (.ref b4), .val (.int (1 : Int32))]) rfl ?_
            refine g_goto X57 hx hby i0_132 ?_
            refine g_aload X57 hx hby i0_151 rfl rfl ?_
            refine g_callV0 X57 hx hby hZ (y0 := (⟨"com/example/value_generalizer/valuegeneralizer/ColumnLevels", "lowest", "()I"⟩ : MethodName)) (y := (⟨"com/example/value_generalizer/valuegeneralizer/ColumnLevels", "lowest", "()I"⟩ : MethodName)) (argsL := []) (rest := []) hown (hw _ (List.mem_of_getElem? (i := 24) rfl)) (hw _ (List.mem_of_getElem? (i := 25) rfl)) (notFace_of_selects (args := #[]) (mvT hZ (hw _ (List.mem_of_getElem? (i := 27) rfl)))) (hw _ (List.mem_of_getElem? (i := 27) rfl)) (hw _ (List.mem_of_getElem? (i := 26) rfl)) (hw _ (List.mem_of_getElem? (i := 2) rfl)) (hw _ (List.mem_of_getElem? (i := 28) rfl)) (by decide) (a := b4) A4 (rm5_1 l Z a0 hw [] b4 b5 k5 (v1 + (1 : Int32)) (0 : Int64) ((0 : Int64) + (own_pos q3)) ((0 : Int64) + (own_pos q4)) ((0 : Int64) + (own_pos q5)) T57.heap n0 Z0 F_r V ((own_z okh).2.2.2.1 (ok2 c58_7)) rfl (own_pos_ne _)) rfl (by rw [hml]; rfl) pd_3 rfl rfl i0_153 (by decide) 0 rfl (by decide) (by decide) (by decide) fun T60 v60 L60 X60 q60 => ?_
            obtain ⟨_, rfl, rfl, e60, N60⟩ := q60
            have N0 := Fr.app N0 N60
            show Gd p e below _ T60 (mkF m 156 #[.val (.int p0), .val (.int p1), .val (.long q2), .second, .val (.long q3), .second, .val (.long q4), .second, .val (.long q5), .second, .val (.int v1), .val (.int v2), .val (.ref b4), .val (.int (1 : Int32))] [(.int (1 : Int32))])
            refine g_iload X60 hx hby i0_156 rfl ?_
            refine g_icmp_ne X60 hx hby i0_158 (fun c158_61 => False.elim (absurd c158_61 (by decide))) fun c158_61 => ?_
            refine g_iconst X60 hx hby i0_161 (z := (1 : Int32)) (by decide) ?_
            refine g_goto X60 hx hby i0_162 ?_
            refine g_ireturnN X60 hx hby (ty := .boolean) hret (by simp) hlk i0_166 (by decide) (by decide) ?_
            exact ⟨_, rfl, rfl, N0⟩
    · refine g_aload X5 hx hby i0_44 rfl rfl ?_
      refine g_iconst X5 hx hby i0_46 (z := (0 : Int32)) (by decide) ?_
      refine g_lloadN X5 hx hby i0_47 rfl ?_
      refine g_callS0 X5 hx hby hZ (y := (⟨"com/example/value_generalizer/valuegeneralizer/ColumnLevelsLowestPinLaw", "pos", "(J)J"⟩ : MethodName)) (argsL := [(.long q2)]) (rest := [(.int (0 : Int32)), (.ref b4)]) hown (hw _ (List.mem_of_getElem? (i := 12) rfl)) (hw _ (List.mem_of_getElem? (i := 13) rfl)) (hw _ (List.mem_of_getElem? (i := 14) rfl)) (hw _ (List.mem_of_getElem? (i := 15) rfl)) (by decide) (rm3 l Z a0 hw [] q2 T5.heap n0 Z0) rfl (by rw [hml]; rfl) pd_1 rfl rfl i0_48 (by decide) 2 rfl (by decide) (by decide) (by decide) fun T62 v62 L62 X62 q62 => ?_
      obtain ⟨_, rfl, rfl, e62, N62⟩ := q62
      have N0 := Fr.app N0 N62
      show Gd p e below _ T62 (mkF m 51 #[.val (.int p0), .val (.int p1), .val (.long q2), .second, .val (.long q3), .second, .val (.long q4), .second, .val (.long q5), .second, .val (.int v1), .val (.int v2), .val (.ref b4), .unset] [(.long (own_pos q2)), (.int (0 : Int32)), (.ref b4)])
      refine g_callV0 X62 hx hby hZ (y0 := (⟨"com/example/value_generalizer/valuegeneralizer/ColumnLevels", "add", "(IJ)V"⟩ : MethodName)) (y := (⟨"com/example/value_generalizer/valuegeneralizer/ColumnLevels", "add", "(IJ)V"⟩ : MethodName)) (argsL := [(.int (0 : Int32)), (.long (own_pos q2))]) (rest := []) hown (hw _ (List.mem_of_getElem? (i := 17) rfl)) (hw _ (List.mem_of_getElem? (i := 18) rfl)) (notFace_of_selects (args := #[]) (mvT hZ (hw _ (List.mem_of_getElem? (i := 20) rfl)))) (hw _ (List.mem_of_getElem? (i := 20) rfl)) (hw _ (List.mem_of_getElem? (i := 19) rfl)) (hw _ (List.mem_of_getElem? (i := 2) rfl)) (hw _ (List.mem_of_getElem? (i := 21) rfl)) (by decide) (a := b4) A4 (rm4 l Z a0 hw [] b4 (0 : Int32) (own_pos q2) b5 k5 (v1 + (1 : Int32)) [(.long (0 : Int64)), (.long (0 : Int64)), (.long (0 : Int64)), (.long (0 : Int64))] (.long (0 : Int64)) 0 (0 : Int64) (0 : Int64) T5.heap n0 Z0 A4 F_r F_t V g_b4 g_b5 ne_b4_b5 (by decide) (own_z okh).2.2.1 (by decide) (by simp) rfl) e62 (by rw [hml]; rfl) pd_2 rfl rfl i0_51 (by decide) 0 rfl (by decide) (by decide) (by decide) fun T63 v63 L63 X63 q63 => ?_
      obtain ⟨rfl, K63, -, F_r, F_t, V, N63⟩ := q63
      have N0 := Fr.app N0 N63
      have A4 := A4.keep K63
      have Z0 : n0 ≤ T63.heap.size := Nat.le_trans Z0 K63.1
      have V : Arv Z T63.heap b5 k5 .long (v1 + (1 : Int32)) [(.long ((0 : Int64) + (own_pos q2))), (.long (0 : Int64)), (.long (0 : Int64)), (.long (0 : Int64))] (.long (0 : Int64)) := V
      show Gd p e below _ T63 (mkF m 54 #[.val (.int p0), .val (.int p1), .val (.long q2), .second, .val (.long q3), .second, .val (.long q4), .second, .val (.long q5), .second, .val (.int v1), .val (.int v2), .val (.ref b4), .unset] [])
      refine g_iload X63 hx hby i0_54 rfl ?_
      refine g_iconst X63 hx hby i0_56 (z := (2 : Int32)) (by decide) ?_
      refine g_iand X63 hx hby i0_57 ?_
      refine g_if_eq X63 hx hby i0_58 (fun c58_64 => ?_) (fun c58_64 => ?_)
      · refine g_iload X63 hx hby i0_72 rfl ?_
        refine g_iconst X63 hx hby i0_74 (z := (4 : Int32)) (by decide) ?_
        refine g_iand X63 hx hby i0_75 ?_
        refine g_if_eq X63 hx hby i0_76 (fun c76_65 => ?_) (fun c76_65 => ?_)
        · refine g_iload X63 hx hby i0_90 rfl ?_
          refine g_bipush X63 hx hby i0_92 (z := (8 : Int32)) (by decide) ?_
          refine g_iand X63 hx hby i0_94 ?_
          refine g_if_eq X63 hx hby i0_95 (fun c95_66 => ?_) (fun c95_66 => ?_)
          · refine g_iload X63 hx hby i0_109 rfl ?_
            refine g_iconst X63 hx hby i0_111 (z := (1 : Int32)) (by decide) ?_
            refine g_iand X63 hx hby i0_112 ?_
            refine g_if_eq X63 hx hby i0_113 (fun c113_67 => False.elim (c41_6 c113_67)) fun c113_67 => ?_
            refine g_iconst X63 hx hby i0_116 (z := (0 : Int32)) (by decide) ?_
            refine g_istore X63 hx hby i0_117 (l' := #[.val (.int p0), .val (.int p1), .val (.long q2), .second, .val (.long q3), .second, .val (.long q4), .second, .val (.long q5), .second, .val (.int v1), .val (.int v2), .val (.ref b4), .val (.int (0 : Int32))]) rfl ?_
            refine g_goto X63 hx hby i0_119 ?_
            refine g_aload X63 hx hby i0_151 rfl rfl ?_
            refine g_callV0 X63 hx hby hZ (y0 := (⟨"com/example/value_generalizer/valuegeneralizer/ColumnLevels", "lowest", "()I"⟩ : MethodName)) (y := (⟨"com/example/value_generalizer/valuegeneralizer/ColumnLevels", "lowest", "()I"⟩ : MethodName)) (argsL := []) (rest := []) hown (hw _ (List.mem_of_getElem? (i := 24) rfl)) (hw _ (List.mem_of_getElem? (i := 25) rfl)) (notFace_of_selects (args := #[]) (mvT hZ (hw _ (List.mem_of_getElem? (i := 27) rfl)))) (hw _ (List.mem_of_getElem? (i := 27) rfl)) (hw _ (List.mem_of_getElem? (i := 26) rfl)) (hw _ (List.mem_of_getElem? (i := 2) rfl)) (hw _ (List.mem_of_getElem? (i := 28) rfl)) (by decide) (a := b4) A4 (rm5_0 l Z a0 hw [] b4 b5 k5 (v1 + (1 : Int32)) ((0 : Int64) + (own_pos q2)) (0 : Int64) (0 : Int64) (0 : Int64) T63.heap n0 Z0 F_r V (own_z okh).2.2.1 (own_pos_ne _)) rfl (by rw [hml]; rfl) pd_3 rfl rfl i0_153 (by decide) 0 rfl (by decide) (by decide) (by decide) fun T68 v68 L68 X68 q68 => ?_
            obtain ⟨_, rfl, rfl, e68, N68⟩ := q68
            have N0 := Fr.app N0 N68
            show Gd p e below _ T68 (mkF m 156 #[.val (.int p0), .val (.int p1), .val (.long q2), .second, .val (.long q3), .second, .val (.long q4), .second, .val (.long q5), .second, .val (.int v1), .val (.int v2), .val (.ref b4), .val (.int (0 : Int32))] [(.int (0 : Int32))])
            refine g_iload X68 hx hby i0_156 rfl ?_
            refine g_icmp_ne X68 hx hby i0_158 (fun c158_69 => False.elim (absurd c158_69 (by decide))) fun c158_69 => ?_
            refine g_iconst X68 hx hby i0_161 (z := (1 : Int32)) (by decide) ?_
            refine g_goto X68 hx hby i0_162 ?_
            refine g_ireturnN X68 hx hby (ty := .boolean) hret (by simp) hlk i0_166 (by decide) (by decide) ?_
            exact ⟨_, rfl, rfl, N0⟩
          · refine g_aload X63 hx hby i0_98 rfl rfl ?_
            refine g_iconst X63 hx hby i0_100 (z := (3 : Int32)) (by decide) ?_
            refine g_lload X63 hx hby i0_101 rfl ?_
            refine g_callS0 X63 hx hby hZ (y := (⟨"com/example/value_generalizer/valuegeneralizer/ColumnLevelsLowestPinLaw", "pos", "(J)J"⟩ : MethodName)) (argsL := [(.long q5)]) (rest := [(.int (3 : Int32)), (.ref b4)]) hown (hw _ (List.mem_of_getElem? (i := 12) rfl)) (hw _ (List.mem_of_getElem? (i := 13) rfl)) (hw _ (List.mem_of_getElem? (i := 14) rfl)) (hw _ (List.mem_of_getElem? (i := 15) rfl)) (by decide) (rm3 l Z a0 hw [] q5 T63.heap n0 Z0) rfl (by rw [hml]; rfl) pd_1 rfl rfl i0_103 (by decide) 2 rfl (by decide) (by decide) (by decide) fun T70 v70 L70 X70 q70 => ?_
            obtain ⟨_, rfl, rfl, e70, N70⟩ := q70
            have N0 := Fr.app N0 N70
            show Gd p e below _ T70 (mkF m 106 #[.val (.int p0), .val (.int p1), .val (.long q2), .second, .val (.long q3), .second, .val (.long q4), .second, .val (.long q5), .second, .val (.int v1), .val (.int v2), .val (.ref b4), .unset] [(.long (own_pos q5)), (.int (3 : Int32)), (.ref b4)])
            refine g_callV0 X70 hx hby hZ (y0 := (⟨"com/example/value_generalizer/valuegeneralizer/ColumnLevels", "add", "(IJ)V"⟩ : MethodName)) (y := (⟨"com/example/value_generalizer/valuegeneralizer/ColumnLevels", "add", "(IJ)V"⟩ : MethodName)) (argsL := [(.int (3 : Int32)), (.long (own_pos q5))]) (rest := []) hown (hw _ (List.mem_of_getElem? (i := 17) rfl)) (hw _ (List.mem_of_getElem? (i := 18) rfl)) (notFace_of_selects (args := #[]) (mvT hZ (hw _ (List.mem_of_getElem? (i := 20) rfl)))) (hw _ (List.mem_of_getElem? (i := 20) rfl)) (hw _ (List.mem_of_getElem? (i := 19) rfl)) (hw _ (List.mem_of_getElem? (i := 2) rfl)) (hw _ (List.mem_of_getElem? (i := 21) rfl)) (by decide) (a := b4) A4 (rm4 l Z a0 hw [] b4 (3 : Int32) (own_pos q5) b5 k5 (v1 + (1 : Int32)) [(.long ((0 : Int64) + (own_pos q2))), (.long (0 : Int64)), (.long (0 : Int64)), (.long (0 : Int64))] (.long (0 : Int64)) 3 (0 : Int64) ((0 : Int64) + (own_pos q2)) T63.heap n0 Z0 A4 F_r F_t V g_b4 g_b5 ne_b4_b5 (by decide) ((own_z okh).2.2.2.2.2 (ok8 c95_66)) (by decide) (by simp) rfl) e70 (by rw [hml]; rfl) pd_2 rfl rfl i0_106 (by decide) 0 rfl (by decide) (by decide) (by decide) fun T71 v71 L71 X71 q71 => ?_
            obtain ⟨rfl, K71, -, F_r, F_t, V, N71⟩ := q71
            have N0 := Fr.app N0 N71
            have A4 := A4.keep K71
            have Z0 : n0 ≤ T71.heap.size := Nat.le_trans Z0 K71.1
            have V : Arv Z T71.heap b5 k5 .long (v1 + (1 : Int32)) [(.long ((0 : Int64) + (own_pos q2))), (.long (0 : Int64)), (.long (0 : Int64)), (.long ((0 : Int64) + (own_pos q5)))] (.long (0 : Int64)) := V
            show Gd p e below _ T71 (mkF m 109 #[.val (.int p0), .val (.int p1), .val (.long q2), .second, .val (.long q3), .second, .val (.long q4), .second, .val (.long q5), .second, .val (.int v1), .val (.int v2), .val (.ref b4), .unset] [])
            refine g_iload X71 hx hby i0_109 rfl ?_
            refine g_iconst X71 hx hby i0_111 (z := (1 : Int32)) (by decide) ?_
            refine g_iand X71 hx hby i0_112 ?_
            refine g_if_eq X71 hx hby i0_113 (fun c113_72 => False.elim (c41_6 c113_72)) fun c113_72 => ?_
            refine g_iconst X71 hx hby i0_116 (z := (0 : Int32)) (by decide) ?_
            refine g_istore X71 hx hby i0_117 (l' := #[.val (.int p0), .val (.int p1), .val (.long q2), .second, .val (.long q3), .second, .val (.long q4), .second, .val (.long q5), .second, .val (.int v1), .val (.int v2), .val (.ref b4), .val (.int (0 : Int32))]) rfl ?_
            refine g_goto X71 hx hby i0_119 ?_
            refine g_aload X71 hx hby i0_151 rfl rfl ?_
            refine g_callV0 X71 hx hby hZ (y0 := (⟨"com/example/value_generalizer/valuegeneralizer/ColumnLevels", "lowest", "()I"⟩ : MethodName)) (y := (⟨"com/example/value_generalizer/valuegeneralizer/ColumnLevels", "lowest", "()I"⟩ : MethodName)) (argsL := []) (rest := []) hown (hw _ (List.mem_of_getElem? (i := 24) rfl)) (hw _ (List.mem_of_getElem? (i := 25) rfl)) (notFace_of_selects (args := #[]) (mvT hZ (hw _ (List.mem_of_getElem? (i := 27) rfl)))) (hw _ (List.mem_of_getElem? (i := 27) rfl)) (hw _ (List.mem_of_getElem? (i := 26) rfl)) (hw _ (List.mem_of_getElem? (i := 2) rfl)) (hw _ (List.mem_of_getElem? (i := 28) rfl)) (by decide) (a := b4) A4 (rm5_0 l Z a0 hw [] b4 b5 k5 (v1 + (1 : Int32)) ((0 : Int64) + (own_pos q2)) (0 : Int64) (0 : Int64) ((0 : Int64) + (own_pos q5)) T71.heap n0 Z0 F_r V (own_z okh).2.2.1 (own_pos_ne _)) rfl (by rw [hml]; rfl) pd_3 rfl rfl i0_153 (by decide) 0 rfl (by decide) (by decide) (by decide) fun T73 v73 L73 X73 q73 => ?_
            obtain ⟨_, rfl, rfl, e73, N73⟩ := q73
            have N0 := Fr.app N0 N73
            show Gd p e below _ T73 (mkF m 156 #[.val (.int p0), .val (.int p1), .val (.long q2), .second, .val (.long q3), .second, .val (.long q4), .second, .val (.long q5), .second, .val (.int v1), .val (.int v2), .val (.ref b4), .val (.int (0 : Int32))] [(.int (0 : Int32))])
            refine g_iload X73 hx hby i0_156 rfl ?_
            refine g_icmp_ne X73 hx hby i0_158 (fun c158_74 => False.elim (absurd c158_74 (by decide))) fun c158_74 => ?_
            refine g_iconst X73 hx hby i0_161 (z := (1 : Int32)) (by decide) ?_
            refine g_goto X73 hx hby i0_162 ?_
            refine g_ireturnN X73 hx hby (ty := .boolean) hret (by simp) hlk i0_166 (by decide) (by decide) ?_
            exact ⟨_, rfl, rfl, N0⟩
        · refine g_aload X63 hx hby i0_79 rfl rfl ?_
          refine g_iconst X63 hx hby i0_81 (z := (2 : Int32)) (by decide) ?_
          refine g_lload X63 hx hby i0_82 rfl ?_
          refine g_callS0 X63 hx hby hZ (y := (⟨"com/example/value_generalizer/valuegeneralizer/ColumnLevelsLowestPinLaw", "pos", "(J)J"⟩ : MethodName)) (argsL := [(.long q4)]) (rest := [(.int (2 : Int32)), (.ref b4)]) hown (hw _ (List.mem_of_getElem? (i := 12) rfl)) (hw _ (List.mem_of_getElem? (i := 13) rfl)) (hw _ (List.mem_of_getElem? (i := 14) rfl)) (hw _ (List.mem_of_getElem? (i := 15) rfl)) (by decide) (rm3 l Z a0 hw [] q4 T63.heap n0 Z0) rfl (by rw [hml]; rfl) pd_1 rfl rfl i0_84 (by decide) 2 rfl (by decide) (by decide) (by decide) fun T75 v75 L75 X75 q75 => ?_
          obtain ⟨_, rfl, rfl, e75, N75⟩ := q75
          have N0 := Fr.app N0 N75
          show Gd p e below _ T75 (mkF m 87 #[.val (.int p0), .val (.int p1), .val (.long q2), .second, .val (.long q3), .second, .val (.long q4), .second, .val (.long q5), .second, .val (.int v1), .val (.int v2), .val (.ref b4), .unset] [(.long (own_pos q4)), (.int (2 : Int32)), (.ref b4)])
          refine g_callV0 X75 hx hby hZ (y0 := (⟨"com/example/value_generalizer/valuegeneralizer/ColumnLevels", "add", "(IJ)V"⟩ : MethodName)) (y := (⟨"com/example/value_generalizer/valuegeneralizer/ColumnLevels", "add", "(IJ)V"⟩ : MethodName)) (argsL := [(.int (2 : Int32)), (.long (own_pos q4))]) (rest := []) hown (hw _ (List.mem_of_getElem? (i := 17) rfl)) (hw _ (List.mem_of_getElem? (i := 18) rfl)) (notFace_of_selects (args := #[]) (mvT hZ (hw _ (List.mem_of_getElem? (i := 20) rfl)))) (hw _ (List.mem_of_getElem? (i := 20) rfl)) (hw _ (List.mem_of_getElem? (i := 19) rfl)) (hw _ (List.mem_of_getElem? (i := 2) rfl)) (hw _ (List.mem_of_getElem? (i := 21) rfl)) (by decide) (a := b4) A4 (rm4 l Z a0 hw [] b4 (2 : Int32) (own_pos q4) b5 k5 (v1 + (1 : Int32)) [(.long ((0 : Int64) + (own_pos q2))), (.long (0 : Int64)), (.long (0 : Int64)), (.long (0 : Int64))] (.long (0 : Int64)) 2 (0 : Int64) ((0 : Int64) + (own_pos q2)) T63.heap n0 Z0 A4 F_r F_t V g_b4 g_b5 ne_b4_b5 (by decide) ((own_z okh).2.2.2.2.1 (ok4 c76_65)) (by decide) (by simp) rfl) e75 (by rw [hml]; rfl) pd_2 rfl rfl i0_87 (by decide) 0 rfl (by decide) (by decide) (by decide) fun T76 v76 L76 X76 q76 => ?_
          obtain ⟨rfl, K76, -, F_r, F_t, V, N76⟩ := q76
          have N0 := Fr.app N0 N76
          have A4 := A4.keep K76
          have Z0 : n0 ≤ T76.heap.size := Nat.le_trans Z0 K76.1
          have V : Arv Z T76.heap b5 k5 .long (v1 + (1 : Int32)) [(.long ((0 : Int64) + (own_pos q2))), (.long (0 : Int64)), (.long ((0 : Int64) + (own_pos q4))), (.long (0 : Int64))] (.long (0 : Int64)) := V
          show Gd p e below _ T76 (mkF m 90 #[.val (.int p0), .val (.int p1), .val (.long q2), .second, .val (.long q3), .second, .val (.long q4), .second, .val (.long q5), .second, .val (.int v1), .val (.int v2), .val (.ref b4), .unset] [])
          refine g_iload X76 hx hby i0_90 rfl ?_
          refine g_bipush X76 hx hby i0_92 (z := (8 : Int32)) (by decide) ?_
          refine g_iand X76 hx hby i0_94 ?_
          refine g_if_eq X76 hx hby i0_95 (fun c95_77 => ?_) (fun c95_77 => ?_)
          · refine g_iload X76 hx hby i0_109 rfl ?_
            refine g_iconst X76 hx hby i0_111 (z := (1 : Int32)) (by decide) ?_
            refine g_iand X76 hx hby i0_112 ?_
            refine g_if_eq X76 hx hby i0_113 (fun c113_78 => False.elim (c41_6 c113_78)) fun c113_78 => ?_
            refine g_iconst X76 hx hby i0_116 (z := (0 : Int32)) (by decide) ?_
            refine g_istore X76 hx hby i0_117 (l' := #[.val (.int p0), .val (.int p1), .val (.long q2), .second, .val (.long q3), .second, .val (.long q4), .second, .val (.long q5), .second, .val (.int v1), .val (.int v2), .val (.ref b4), .val (.int (0 : Int32))]) rfl ?_
            refine g_goto X76 hx hby i0_119 ?_
            refine g_aload X76 hx hby i0_151 rfl rfl ?_
            refine g_callV0 X76 hx hby hZ (y0 := (⟨"com/example/value_generalizer/valuegeneralizer/ColumnLevels", "lowest", "()I"⟩ : MethodName)) (y := (⟨"com/example/value_generalizer/valuegeneralizer/ColumnLevels", "lowest", "()I"⟩ : MethodName)) (argsL := []) (rest := []) hown (hw _ (List.mem_of_getElem? (i := 24) rfl)) (hw _ (List.mem_of_getElem? (i := 25) rfl)) (notFace_of_selects (args := #[]) (mvT hZ (hw _ (List.mem_of_getElem? (i := 27) rfl)))) (hw _ (List.mem_of_getElem? (i := 27) rfl)) (hw _ (List.mem_of_getElem? (i := 26) rfl)) (hw _ (List.mem_of_getElem? (i := 2) rfl)) (hw _ (List.mem_of_getElem? (i := 28) rfl)) (by decide) (a := b4) A4 (rm5_0 l Z a0 hw [] b4 b5 k5 (v1 + (1 : Int32)) ((0 : Int64) + (own_pos q2)) (0 : Int64) ((0 : Int64) + (own_pos q4)) (0 : Int64) T76.heap n0 Z0 F_r V (own_z okh).2.2.1 (own_pos_ne _)) rfl (by rw [hml]; rfl) pd_3 rfl rfl i0_153 (by decide) 0 rfl (by decide) (by decide) (by decide) fun T79 v79 L79 X79 q79 => ?_
            obtain ⟨_, rfl, rfl, e79, N79⟩ := q79
            have N0 := Fr.app N0 N79
            show Gd p e below _ T79 (mkF m 156 #[.val (.int p0), .val (.int p1), .val (.long q2), .second, .val (.long q3), .second, .val (.long q4), .second, .val (.long q5), .second, .val (.int v1), .val (.int v2), .val (.ref b4), .val (.int (0 : Int32))] [(.int (0 : Int32))])
            refine g_iload X79 hx hby i0_156 rfl ?_
            refine g_icmp_ne X79 hx hby i0_158 (fun c158_80 => False.elim (absurd c158_80 (by decide))) fun c158_80 => ?_
            refine g_iconst X79 hx hby i0_161 (z := (1 : Int32)) (by decide) ?_
            refine g_goto X79 hx hby i0_162 ?_
            refine g_ireturnN X79 hx hby (ty := .boolean) hret (by simp) hlk i0_166 (by decide) (by decide) ?_
            exact ⟨_, rfl, rfl, N0⟩
          · refine g_aload X76 hx hby i0_98 rfl rfl ?_
            refine g_iconst X76 hx hby i0_100 (z := (3 : Int32)) (by decide) ?_
            refine g_lload X76 hx hby i0_101 rfl ?_
            refine g_callS0 X76 hx hby hZ (y := (⟨"com/example/value_generalizer/valuegeneralizer/ColumnLevelsLowestPinLaw", "pos", "(J)J"⟩ : MethodName)) (argsL := [(.long q5)]) (rest := [(.int (3 : Int32)), (.ref b4)]) hown (hw _ (List.mem_of_getElem? (i := 12) rfl)) (hw _ (List.mem_of_getElem? (i := 13) rfl)) (hw _ (List.mem_of_getElem? (i := 14) rfl)) (hw _ (List.mem_of_getElem? (i := 15) rfl)) (by decide) (rm3 l Z a0 hw [] q5 T76.heap n0 Z0) rfl (by rw [hml]; rfl) pd_1 rfl rfl i0_103 (by decide) 2 rfl (by decide) (by decide) (by decide) fun T81 v81 L81 X81 q81 => ?_
            obtain ⟨_, rfl, rfl, e81, N81⟩ := q81
            have N0 := Fr.app N0 N81
            show Gd p e below _ T81 (mkF m 106 #[.val (.int p0), .val (.int p1), .val (.long q2), .second, .val (.long q3), .second, .val (.long q4), .second, .val (.long q5), .second, .val (.int v1), .val (.int v2), .val (.ref b4), .unset] [(.long (own_pos q5)), (.int (3 : Int32)), (.ref b4)])
            refine g_callV0 X81 hx hby hZ (y0 := (⟨"com/example/value_generalizer/valuegeneralizer/ColumnLevels", "add", "(IJ)V"⟩ : MethodName)) (y := (⟨"com/example/value_generalizer/valuegeneralizer/ColumnLevels", "add", "(IJ)V"⟩ : MethodName)) (argsL := [(.int (3 : Int32)), (.long (own_pos q5))]) (rest := []) hown (hw _ (List.mem_of_getElem? (i := 17) rfl)) (hw _ (List.mem_of_getElem? (i := 18) rfl)) (notFace_of_selects (args := #[]) (mvT hZ (hw _ (List.mem_of_getElem? (i := 20) rfl)))) (hw _ (List.mem_of_getElem? (i := 20) rfl)) (hw _ (List.mem_of_getElem? (i := 19) rfl)) (hw _ (List.mem_of_getElem? (i := 2) rfl)) (hw _ (List.mem_of_getElem? (i := 21) rfl)) (by decide) (a := b4) A4 (rm4 l Z a0 hw [] b4 (3 : Int32) (own_pos q5) b5 k5 (v1 + (1 : Int32)) [(.long ((0 : Int64) + (own_pos q2))), (.long (0 : Int64)), (.long ((0 : Int64) + (own_pos q4))), (.long (0 : Int64))] (.long (0 : Int64)) 3 (0 : Int64) (((0 : Int64) + (own_pos q2)) + (own_pos q4)) T76.heap n0 Z0 A4 F_r F_t V g_b4 g_b5 ne_b4_b5 (by decide) ((own_z okh).2.2.2.2.2 (ok8 c95_77)) (by decide) (by simp) rfl) e81 (by rw [hml]; rfl) pd_2 rfl rfl i0_106 (by decide) 0 rfl (by decide) (by decide) (by decide) fun T82 v82 L82 X82 q82 => ?_
            obtain ⟨rfl, K82, -, F_r, F_t, V, N82⟩ := q82
            have N0 := Fr.app N0 N82
            have A4 := A4.keep K82
            have Z0 : n0 ≤ T82.heap.size := Nat.le_trans Z0 K82.1
            have V : Arv Z T82.heap b5 k5 .long (v1 + (1 : Int32)) [(.long ((0 : Int64) + (own_pos q2))), (.long (0 : Int64)), (.long ((0 : Int64) + (own_pos q4))), (.long ((0 : Int64) + (own_pos q5)))] (.long (0 : Int64)) := V
            show Gd p e below _ T82 (mkF m 109 #[.val (.int p0), .val (.int p1), .val (.long q2), .second, .val (.long q3), .second, .val (.long q4), .second, .val (.long q5), .second, .val (.int v1), .val (.int v2), .val (.ref b4), .unset] [])
            refine g_iload X82 hx hby i0_109 rfl ?_
            refine g_iconst X82 hx hby i0_111 (z := (1 : Int32)) (by decide) ?_
            refine g_iand X82 hx hby i0_112 ?_
            refine g_if_eq X82 hx hby i0_113 (fun c113_83 => False.elim (c41_6 c113_83)) fun c113_83 => ?_
            refine g_iconst X82 hx hby i0_116 (z := (0 : Int32)) (by decide) ?_
            refine g_istore X82 hx hby i0_117 (l' := #[.val (.int p0), .val (.int p1), .val (.long q2), .second, .val (.long q3), .second, .val (.long q4), .second, .val (.long q5), .second, .val (.int v1), .val (.int v2), .val (.ref b4), .val (.int (0 : Int32))]) rfl ?_
            refine g_goto X82 hx hby i0_119 ?_
            refine g_aload X82 hx hby i0_151 rfl rfl ?_
            refine g_callV0 X82 hx hby hZ (y0 := (⟨"com/example/value_generalizer/valuegeneralizer/ColumnLevels", "lowest", "()I"⟩ : MethodName)) (y := (⟨"com/example/value_generalizer/valuegeneralizer/ColumnLevels", "lowest", "()I"⟩ : MethodName)) (argsL := []) (rest := []) hown (hw _ (List.mem_of_getElem? (i := 24) rfl)) (hw _ (List.mem_of_getElem? (i := 25) rfl)) (notFace_of_selects (args := #[]) (mvT hZ (hw _ (List.mem_of_getElem? (i := 27) rfl)))) (hw _ (List.mem_of_getElem? (i := 27) rfl)) (hw _ (List.mem_of_getElem? (i := 26) rfl)) (hw _ (List.mem_of_getElem? (i := 2) rfl)) (hw _ (List.mem_of_getElem? (i := 28) rfl)) (by decide) (a := b4) A4 (rm5_0 l Z a0 hw [] b4 b5 k5 (v1 + (1 : Int32)) ((0 : Int64) + (own_pos q2)) (0 : Int64) ((0 : Int64) + (own_pos q4)) ((0 : Int64) + (own_pos q5)) T82.heap n0 Z0 F_r V (own_z okh).2.2.1 (own_pos_ne _)) rfl (by rw [hml]; rfl) pd_3 rfl rfl i0_153 (by decide) 0 rfl (by decide) (by decide) (by decide) fun T84 v84 L84 X84 q84 => ?_
            obtain ⟨_, rfl, rfl, e84, N84⟩ := q84
            have N0 := Fr.app N0 N84
            show Gd p e below _ T84 (mkF m 156 #[.val (.int p0), .val (.int p1), .val (.long q2), .second, .val (.long q3), .second, .val (.long q4), .second, .val (.long q5), .second, .val (.int v1), .val (.int v2), .val (.ref b4), .val (.int (0 : Int32))] [(.int (0 : Int32))])
            refine g_iload X84 hx hby i0_156 rfl ?_
            refine g_icmp_ne X84 hx hby i0_158 (fun c158_85 => False.elim (absurd c158_85 (by decide))) fun c158_85 => ?_
            refine g_iconst X84 hx hby i0_161 (z := (1 : Int32)) (by decide) ?_
            refine g_goto X84 hx hby i0_162 ?_
            refine g_ireturnN X84 hx hby (ty := .boolean) hret (by simp) hlk i0_166 (by decide) (by decide) ?_
            exact ⟨_, rfl, rfl, N0⟩
      · refine g_aload X63 hx hby i0_61 rfl rfl ?_
        refine g_iconst X63 hx hby i0_63 (z := (1 : Int32)) (by decide) ?_
        refine g_lload X63 hx hby i0_64 rfl ?_
        refine g_callS0 X63 hx hby hZ (y := (⟨"com/example/value_generalizer/valuegeneralizer/ColumnLevelsLowestPinLaw", "pos", "(J)J"⟩ : MethodName)) (argsL := [(.long q3)]) (rest := [(.int (1 : Int32)), (.ref b4)]) hown (hw _ (List.mem_of_getElem? (i := 12) rfl)) (hw _ (List.mem_of_getElem? (i := 13) rfl)) (hw _ (List.mem_of_getElem? (i := 14) rfl)) (hw _ (List.mem_of_getElem? (i := 15) rfl)) (by decide) (rm3 l Z a0 hw [] q3 T63.heap n0 Z0) rfl (by rw [hml]; rfl) pd_1 rfl rfl i0_66 (by decide) 2 rfl (by decide) (by decide) (by decide) fun T86 v86 L86 X86 q86 => ?_
        obtain ⟨_, rfl, rfl, e86, N86⟩ := q86
        have N0 := Fr.app N0 N86
        show Gd p e below _ T86 (mkF m 69 #[.val (.int p0), .val (.int p1), .val (.long q2), .second, .val (.long q3), .second, .val (.long q4), .second, .val (.long q5), .second, .val (.int v1), .val (.int v2), .val (.ref b4), .unset] [(.long (own_pos q3)), (.int (1 : Int32)), (.ref b4)])
        refine g_callV0 X86 hx hby hZ (y0 := (⟨"com/example/value_generalizer/valuegeneralizer/ColumnLevels", "add", "(IJ)V"⟩ : MethodName)) (y := (⟨"com/example/value_generalizer/valuegeneralizer/ColumnLevels", "add", "(IJ)V"⟩ : MethodName)) (argsL := [(.int (1 : Int32)), (.long (own_pos q3))]) (rest := []) hown (hw _ (List.mem_of_getElem? (i := 17) rfl)) (hw _ (List.mem_of_getElem? (i := 18) rfl)) (notFace_of_selects (args := #[]) (mvT hZ (hw _ (List.mem_of_getElem? (i := 20) rfl)))) (hw _ (List.mem_of_getElem? (i := 20) rfl)) (hw _ (List.mem_of_getElem? (i := 19) rfl)) (hw _ (List.mem_of_getElem? (i := 2) rfl)) (hw _ (List.mem_of_getElem? (i := 21) rfl)) (by decide) (a := b4) A4 (rm4 l Z a0 hw [] b4 (1 : Int32) (own_pos q3) b5 k5 (v1 + (1 : Int32)) [(.long ((0 : Int64) + (own_pos q2))), (.long (0 : Int64)), (.long (0 : Int64)), (.long (0 : Int64))] (.long (0 : Int64)) 1 (0 : Int64) ((0 : Int64) + (own_pos q2)) T63.heap n0 Z0 A4 F_r F_t V g_b4 g_b5 ne_b4_b5 (by decide) ((own_z okh).2.2.2.1 (ok2 c58_64)) (by decide) (by simp) rfl) e86 (by rw [hml]; rfl) pd_2 rfl rfl i0_69 (by decide) 0 rfl (by decide) (by decide) (by decide) fun T87 v87 L87 X87 q87 => ?_
        obtain ⟨rfl, K87, -, F_r, F_t, V, N87⟩ := q87
        have N0 := Fr.app N0 N87
        have A4 := A4.keep K87
        have Z0 : n0 ≤ T87.heap.size := Nat.le_trans Z0 K87.1
        have V : Arv Z T87.heap b5 k5 .long (v1 + (1 : Int32)) [(.long ((0 : Int64) + (own_pos q2))), (.long ((0 : Int64) + (own_pos q3))), (.long (0 : Int64)), (.long (0 : Int64))] (.long (0 : Int64)) := V
        show Gd p e below _ T87 (mkF m 72 #[.val (.int p0), .val (.int p1), .val (.long q2), .second, .val (.long q3), .second, .val (.long q4), .second, .val (.long q5), .second, .val (.int v1), .val (.int v2), .val (.ref b4), .unset] [])
        refine g_iload X87 hx hby i0_72 rfl ?_
        refine g_iconst X87 hx hby i0_74 (z := (4 : Int32)) (by decide) ?_
        refine g_iand X87 hx hby i0_75 ?_
        refine g_if_eq X87 hx hby i0_76 (fun c76_88 => ?_) (fun c76_88 => ?_)
        · refine g_iload X87 hx hby i0_90 rfl ?_
          refine g_bipush X87 hx hby i0_92 (z := (8 : Int32)) (by decide) ?_
          refine g_iand X87 hx hby i0_94 ?_
          refine g_if_eq X87 hx hby i0_95 (fun c95_89 => ?_) (fun c95_89 => ?_)
          · refine g_iload X87 hx hby i0_109 rfl ?_
            refine g_iconst X87 hx hby i0_111 (z := (1 : Int32)) (by decide) ?_
            refine g_iand X87 hx hby i0_112 ?_
            refine g_if_eq X87 hx hby i0_113 (fun c113_90 => False.elim (c41_6 c113_90)) fun c113_90 => ?_
            refine g_iconst X87 hx hby i0_116 (z := (0 : Int32)) (by decide) ?_
            refine g_istore X87 hx hby i0_117 (l' := #[.val (.int p0), .val (.int p1), .val (.long q2), .second, .val (.long q3), .second, .val (.long q4), .second, .val (.long q5), .second, .val (.int v1), .val (.int v2), .val (.ref b4), .val (.int (0 : Int32))]) rfl ?_
            refine g_goto X87 hx hby i0_119 ?_
            refine g_aload X87 hx hby i0_151 rfl rfl ?_
            refine g_callV0 X87 hx hby hZ (y0 := (⟨"com/example/value_generalizer/valuegeneralizer/ColumnLevels", "lowest", "()I"⟩ : MethodName)) (y := (⟨"com/example/value_generalizer/valuegeneralizer/ColumnLevels", "lowest", "()I"⟩ : MethodName)) (argsL := []) (rest := []) hown (hw _ (List.mem_of_getElem? (i := 24) rfl)) (hw _ (List.mem_of_getElem? (i := 25) rfl)) (notFace_of_selects (args := #[]) (mvT hZ (hw _ (List.mem_of_getElem? (i := 27) rfl)))) (hw _ (List.mem_of_getElem? (i := 27) rfl)) (hw _ (List.mem_of_getElem? (i := 26) rfl)) (hw _ (List.mem_of_getElem? (i := 2) rfl)) (hw _ (List.mem_of_getElem? (i := 28) rfl)) (by decide) (a := b4) A4 (rm5_0 l Z a0 hw [] b4 b5 k5 (v1 + (1 : Int32)) ((0 : Int64) + (own_pos q2)) ((0 : Int64) + (own_pos q3)) (0 : Int64) (0 : Int64) T87.heap n0 Z0 F_r V (own_z okh).2.2.1 (own_pos_ne _)) rfl (by rw [hml]; rfl) pd_3 rfl rfl i0_153 (by decide) 0 rfl (by decide) (by decide) (by decide) fun T91 v91 L91 X91 q91 => ?_
            obtain ⟨_, rfl, rfl, e91, N91⟩ := q91
            have N0 := Fr.app N0 N91
            show Gd p e below _ T91 (mkF m 156 #[.val (.int p0), .val (.int p1), .val (.long q2), .second, .val (.long q3), .second, .val (.long q4), .second, .val (.long q5), .second, .val (.int v1), .val (.int v2), .val (.ref b4), .val (.int (0 : Int32))] [(.int (0 : Int32))])
            refine g_iload X91 hx hby i0_156 rfl ?_
            refine g_icmp_ne X91 hx hby i0_158 (fun c158_92 => False.elim (absurd c158_92 (by decide))) fun c158_92 => ?_
            refine g_iconst X91 hx hby i0_161 (z := (1 : Int32)) (by decide) ?_
            refine g_goto X91 hx hby i0_162 ?_
            refine g_ireturnN X91 hx hby (ty := .boolean) hret (by simp) hlk i0_166 (by decide) (by decide) ?_
            exact ⟨_, rfl, rfl, N0⟩
          · refine g_aload X87 hx hby i0_98 rfl rfl ?_
            refine g_iconst X87 hx hby i0_100 (z := (3 : Int32)) (by decide) ?_
            refine g_lload X87 hx hby i0_101 rfl ?_
            refine g_callS0 X87 hx hby hZ (y := (⟨"com/example/value_generalizer/valuegeneralizer/ColumnLevelsLowestPinLaw", "pos", "(J)J"⟩ : MethodName)) (argsL := [(.long q5)]) (rest := [(.int (3 : Int32)), (.ref b4)]) hown (hw _ (List.mem_of_getElem? (i := 12) rfl)) (hw _ (List.mem_of_getElem? (i := 13) rfl)) (hw _ (List.mem_of_getElem? (i := 14) rfl)) (hw _ (List.mem_of_getElem? (i := 15) rfl)) (by decide) (rm3 l Z a0 hw [] q5 T87.heap n0 Z0) rfl (by rw [hml]; rfl) pd_1 rfl rfl i0_103 (by decide) 2 rfl (by decide) (by decide) (by decide) fun T93 v93 L93 X93 q93 => ?_
            obtain ⟨_, rfl, rfl, e93, N93⟩ := q93
            have N0 := Fr.app N0 N93
            show Gd p e below _ T93 (mkF m 106 #[.val (.int p0), .val (.int p1), .val (.long q2), .second, .val (.long q3), .second, .val (.long q4), .second, .val (.long q5), .second, .val (.int v1), .val (.int v2), .val (.ref b4), .unset] [(.long (own_pos q5)), (.int (3 : Int32)), (.ref b4)])
            refine g_callV0 X93 hx hby hZ (y0 := (⟨"com/example/value_generalizer/valuegeneralizer/ColumnLevels", "add", "(IJ)V"⟩ : MethodName)) (y := (⟨"com/example/value_generalizer/valuegeneralizer/ColumnLevels", "add", "(IJ)V"⟩ : MethodName)) (argsL := [(.int (3 : Int32)), (.long (own_pos q5))]) (rest := []) hown (hw _ (List.mem_of_getElem? (i := 17) rfl)) (hw _ (List.mem_of_getElem? (i := 18) rfl)) (notFace_of_selects (args := #[]) (mvT hZ (hw _ (List.mem_of_getElem? (i := 20) rfl)))) (hw _ (List.mem_of_getElem? (i := 20) rfl)) (hw _ (List.mem_of_getElem? (i := 19) rfl)) (hw _ (List.mem_of_getElem? (i := 2) rfl)) (hw _ (List.mem_of_getElem? (i := 21) rfl)) (by decide) (a := b4) A4 (rm4 l Z a0 hw [] b4 (3 : Int32) (own_pos q5) b5 k5 (v1 + (1 : Int32)) [(.long ((0 : Int64) + (own_pos q2))), (.long ((0 : Int64) + (own_pos q3))), (.long (0 : Int64)), (.long (0 : Int64))] (.long (0 : Int64)) 3 (0 : Int64) (((0 : Int64) + (own_pos q2)) + (own_pos q3)) T87.heap n0 Z0 A4 F_r F_t V g_b4 g_b5 ne_b4_b5 (by decide) ((own_z okh).2.2.2.2.2 (ok8 c95_89)) (by decide) (by simp) rfl) e93 (by rw [hml]; rfl) pd_2 rfl rfl i0_106 (by decide) 0 rfl (by decide) (by decide) (by decide) fun T94 v94 L94 X94 q94 => ?_
            obtain ⟨rfl, K94, -, F_r, F_t, V, N94⟩ := q94
            have N0 := Fr.app N0 N94
            have A4 := A4.keep K94
            have Z0 : n0 ≤ T94.heap.size := Nat.le_trans Z0 K94.1
            have V : Arv Z T94.heap b5 k5 .long (v1 + (1 : Int32)) [(.long ((0 : Int64) + (own_pos q2))), (.long ((0 : Int64) + (own_pos q3))), (.long (0 : Int64)), (.long ((0 : Int64) + (own_pos q5)))] (.long (0 : Int64)) := V
            show Gd p e below _ T94 (mkF m 109 #[.val (.int p0), .val (.int p1), .val (.long q2), .second, .val (.long q3), .second, .val (.long q4), .second, .val (.long q5), .second, .val (.int v1), .val (.int v2), .val (.ref b4), .unset] [])
            refine g_iload X94 hx hby i0_109 rfl ?_
            refine g_iconst X94 hx hby i0_111 (z := (1 : Int32)) (by decide) ?_
            refine g_iand X94 hx hby i0_112 ?_
            refine g_if_eq X94 hx hby i0_113 (fun c113_95 => False.elim (c41_6 c113_95)) fun c113_95 => ?_
            refine g_iconst X94 hx hby i0_116 (z := (0 : Int32)) (by decide) ?_
            refine g_istore X94 hx hby i0_117 (l' := #[.val (.int p0), .val (.int p1), .val (.long q2), .second, .val (.long q3), .second, .val (.long q4), .second, .val (.long q5), .second, .val (.int v1), .val (.int v2), .val (.ref b4), .val (.int (0 : Int32))]) rfl ?_
            refine g_goto X94 hx hby i0_119 ?_
            refine g_aload X94 hx hby i0_151 rfl rfl ?_
            refine g_callV0 X94 hx hby hZ (y0 := (⟨"com/example/value_generalizer/valuegeneralizer/ColumnLevels", "lowest", "()I"⟩ : MethodName)) (y := (⟨"com/example/value_generalizer/valuegeneralizer/ColumnLevels", "lowest", "()I"⟩ : MethodName)) (argsL := []) (rest := []) hown (hw _ (List.mem_of_getElem? (i := 24) rfl)) (hw _ (List.mem_of_getElem? (i := 25) rfl)) (notFace_of_selects (args := #[]) (mvT hZ (hw _ (List.mem_of_getElem? (i := 27) rfl)))) (hw _ (List.mem_of_getElem? (i := 27) rfl)) (hw _ (List.mem_of_getElem? (i := 26) rfl)) (hw _ (List.mem_of_getElem? (i := 2) rfl)) (hw _ (List.mem_of_getElem? (i := 28) rfl)) (by decide) (a := b4) A4 (rm5_0 l Z a0 hw [] b4 b5 k5 (v1 + (1 : Int32)) ((0 : Int64) + (own_pos q2)) ((0 : Int64) + (own_pos q3)) (0 : Int64) ((0 : Int64) + (own_pos q5)) T94.heap n0 Z0 F_r V (own_z okh).2.2.1 (own_pos_ne _)) rfl (by rw [hml]; rfl) pd_3 rfl rfl i0_153 (by decide) 0 rfl (by decide) (by decide) (by decide) fun T96 v96 L96 X96 q96 => ?_
            obtain ⟨_, rfl, rfl, e96, N96⟩ := q96
            have N0 := Fr.app N0 N96
            show Gd p e below _ T96 (mkF m 156 #[.val (.int p0), .val (.int p1), .val (.long q2), .second, .val (.long q3), .second, .val (.long q4), .second, .val (.long q5), .second, .val (.int v1), .val (.int v2), .val (.ref b4), .val (.int (0 : Int32))] [(.int (0 : Int32))])
            refine g_iload X96 hx hby i0_156 rfl ?_
            refine g_icmp_ne X96 hx hby i0_158 (fun c158_97 => False.elim (absurd c158_97 (by decide))) fun c158_97 => ?_
            refine g_iconst X96 hx hby i0_161 (z := (1 : Int32)) (by decide) ?_
            refine g_goto X96 hx hby i0_162 ?_
            refine g_ireturnN X96 hx hby (ty := .boolean) hret (by simp) hlk i0_166 (by decide) (by decide) ?_
            exact ⟨_, rfl, rfl, N0⟩
        · refine g_aload X87 hx hby i0_79 rfl rfl ?_
          refine g_iconst X87 hx hby i0_81 (z := (2 : Int32)) (by decide) ?_
          refine g_lload X87 hx hby i0_82 rfl ?_
          refine g_callS0 X87 hx hby hZ (y := (⟨"com/example/value_generalizer/valuegeneralizer/ColumnLevelsLowestPinLaw", "pos", "(J)J"⟩ : MethodName)) (argsL := [(.long q4)]) (rest := [(.int (2 : Int32)), (.ref b4)]) hown (hw _ (List.mem_of_getElem? (i := 12) rfl)) (hw _ (List.mem_of_getElem? (i := 13) rfl)) (hw _ (List.mem_of_getElem? (i := 14) rfl)) (hw _ (List.mem_of_getElem? (i := 15) rfl)) (by decide) (rm3 l Z a0 hw [] q4 T87.heap n0 Z0) rfl (by rw [hml]; rfl) pd_1 rfl rfl i0_84 (by decide) 2 rfl (by decide) (by decide) (by decide) fun T98 v98 L98 X98 q98 => ?_
          obtain ⟨_, rfl, rfl, e98, N98⟩ := q98
          have N0 := Fr.app N0 N98
          show Gd p e below _ T98 (mkF m 87 #[.val (.int p0), .val (.int p1), .val (.long q2), .second, .val (.long q3), .second, .val (.long q4), .second, .val (.long q5), .second, .val (.int v1), .val (.int v2), .val (.ref b4), .unset] [(.long (own_pos q4)), (.int (2 : Int32)), (.ref b4)])
          refine g_callV0 X98 hx hby hZ (y0 := (⟨"com/example/value_generalizer/valuegeneralizer/ColumnLevels", "add", "(IJ)V"⟩ : MethodName)) (y := (⟨"com/example/value_generalizer/valuegeneralizer/ColumnLevels", "add", "(IJ)V"⟩ : MethodName)) (argsL := [(.int (2 : Int32)), (.long (own_pos q4))]) (rest := []) hown (hw _ (List.mem_of_getElem? (i := 17) rfl)) (hw _ (List.mem_of_getElem? (i := 18) rfl)) (notFace_of_selects (args := #[]) (mvT hZ (hw _ (List.mem_of_getElem? (i := 20) rfl)))) (hw _ (List.mem_of_getElem? (i := 20) rfl)) (hw _ (List.mem_of_getElem? (i := 19) rfl)) (hw _ (List.mem_of_getElem? (i := 2) rfl)) (hw _ (List.mem_of_getElem? (i := 21) rfl)) (by decide) (a := b4) A4 (rm4 l Z a0 hw [] b4 (2 : Int32) (own_pos q4) b5 k5 (v1 + (1 : Int32)) [(.long ((0 : Int64) + (own_pos q2))), (.long ((0 : Int64) + (own_pos q3))), (.long (0 : Int64)), (.long (0 : Int64))] (.long (0 : Int64)) 2 (0 : Int64) (((0 : Int64) + (own_pos q2)) + (own_pos q3)) T87.heap n0 Z0 A4 F_r F_t V g_b4 g_b5 ne_b4_b5 (by decide) ((own_z okh).2.2.2.2.1 (ok4 c76_88)) (by decide) (by simp) rfl) e98 (by rw [hml]; rfl) pd_2 rfl rfl i0_87 (by decide) 0 rfl (by decide) (by decide) (by decide) fun T99 v99 L99 X99 q99 => ?_
          obtain ⟨rfl, K99, -, F_r, F_t, V, N99⟩ := q99
          have N0 := Fr.app N0 N99
          have A4 := A4.keep K99
          have Z0 : n0 ≤ T99.heap.size := Nat.le_trans Z0 K99.1
          have V : Arv Z T99.heap b5 k5 .long (v1 + (1 : Int32)) [(.long ((0 : Int64) + (own_pos q2))), (.long ((0 : Int64) + (own_pos q3))), (.long ((0 : Int64) + (own_pos q4))), (.long (0 : Int64))] (.long (0 : Int64)) := V
          show Gd p e below _ T99 (mkF m 90 #[.val (.int p0), .val (.int p1), .val (.long q2), .second, .val (.long q3), .second, .val (.long q4), .second, .val (.long q5), .second, .val (.int v1), .val (.int v2), .val (.ref b4), .unset] [])
          refine g_iload X99 hx hby i0_90 rfl ?_
          refine g_bipush X99 hx hby i0_92 (z := (8 : Int32)) (by decide) ?_
          refine g_iand X99 hx hby i0_94 ?_
          refine g_if_eq X99 hx hby i0_95 (fun c95_100 => ?_) (fun c95_100 => ?_)
          · refine g_iload X99 hx hby i0_109 rfl ?_
            refine g_iconst X99 hx hby i0_111 (z := (1 : Int32)) (by decide) ?_
            refine g_iand X99 hx hby i0_112 ?_
            refine g_if_eq X99 hx hby i0_113 (fun c113_101 => False.elim (c41_6 c113_101)) fun c113_101 => ?_
            refine g_iconst X99 hx hby i0_116 (z := (0 : Int32)) (by decide) ?_
            refine g_istore X99 hx hby i0_117 (l' := #[.val (.int p0), .val (.int p1), .val (.long q2), .second, .val (.long q3), .second, .val (.long q4), .second, .val (.long q5), .second, .val (.int v1), .val (.int v2), .val (.ref b4), .val (.int (0 : Int32))]) rfl ?_
            refine g_goto X99 hx hby i0_119 ?_
            refine g_aload X99 hx hby i0_151 rfl rfl ?_
            refine g_callV0 X99 hx hby hZ (y0 := (⟨"com/example/value_generalizer/valuegeneralizer/ColumnLevels", "lowest", "()I"⟩ : MethodName)) (y := (⟨"com/example/value_generalizer/valuegeneralizer/ColumnLevels", "lowest", "()I"⟩ : MethodName)) (argsL := []) (rest := []) hown (hw _ (List.mem_of_getElem? (i := 24) rfl)) (hw _ (List.mem_of_getElem? (i := 25) rfl)) (notFace_of_selects (args := #[]) (mvT hZ (hw _ (List.mem_of_getElem? (i := 27) rfl)))) (hw _ (List.mem_of_getElem? (i := 27) rfl)) (hw _ (List.mem_of_getElem? (i := 26) rfl)) (hw _ (List.mem_of_getElem? (i := 2) rfl)) (hw _ (List.mem_of_getElem? (i := 28) rfl)) (by decide) (a := b4) A4 (rm5_0 l Z a0 hw [] b4 b5 k5 (v1 + (1 : Int32)) ((0 : Int64) + (own_pos q2)) ((0 : Int64) + (own_pos q3)) ((0 : Int64) + (own_pos q4)) (0 : Int64) T99.heap n0 Z0 F_r V (own_z okh).2.2.1 (own_pos_ne _)) rfl (by rw [hml]; rfl) pd_3 rfl rfl i0_153 (by decide) 0 rfl (by decide) (by decide) (by decide) fun T102 v102 L102 X102 q102 => ?_
            obtain ⟨_, rfl, rfl, e102, N102⟩ := q102
            have N0 := Fr.app N0 N102
            show Gd p e below _ T102 (mkF m 156 #[.val (.int p0), .val (.int p1), .val (.long q2), .second, .val (.long q3), .second, .val (.long q4), .second, .val (.long q5), .second, .val (.int v1), .val (.int v2), .val (.ref b4), .val (.int (0 : Int32))] [(.int (0 : Int32))])
            refine g_iload X102 hx hby i0_156 rfl ?_
            refine g_icmp_ne X102 hx hby i0_158 (fun c158_103 => False.elim (absurd c158_103 (by decide))) fun c158_103 => ?_
            refine g_iconst X102 hx hby i0_161 (z := (1 : Int32)) (by decide) ?_
            refine g_goto X102 hx hby i0_162 ?_
            refine g_ireturnN X102 hx hby (ty := .boolean) hret (by simp) hlk i0_166 (by decide) (by decide) ?_
            exact ⟨_, rfl, rfl, N0⟩
          · refine g_aload X99 hx hby i0_98 rfl rfl ?_
            refine g_iconst X99 hx hby i0_100 (z := (3 : Int32)) (by decide) ?_
            refine g_lload X99 hx hby i0_101 rfl ?_
            refine g_callS0 X99 hx hby hZ (y := (⟨"com/example/value_generalizer/valuegeneralizer/ColumnLevelsLowestPinLaw", "pos", "(J)J"⟩ : MethodName)) (argsL := [(.long q5)]) (rest := [(.int (3 : Int32)), (.ref b4)]) hown (hw _ (List.mem_of_getElem? (i := 12) rfl)) (hw _ (List.mem_of_getElem? (i := 13) rfl)) (hw _ (List.mem_of_getElem? (i := 14) rfl)) (hw _ (List.mem_of_getElem? (i := 15) rfl)) (by decide) (rm3 l Z a0 hw [] q5 T99.heap n0 Z0) rfl (by rw [hml]; rfl) pd_1 rfl rfl i0_103 (by decide) 2 rfl (by decide) (by decide) (by decide) fun T104 v104 L104 X104 q104 => ?_
            obtain ⟨_, rfl, rfl, e104, N104⟩ := q104
            have N0 := Fr.app N0 N104
            show Gd p e below _ T104 (mkF m 106 #[.val (.int p0), .val (.int p1), .val (.long q2), .second, .val (.long q3), .second, .val (.long q4), .second, .val (.long q5), .second, .val (.int v1), .val (.int v2), .val (.ref b4), .unset] [(.long (own_pos q5)), (.int (3 : Int32)), (.ref b4)])
            refine g_callV0 X104 hx hby hZ (y0 := (⟨"com/example/value_generalizer/valuegeneralizer/ColumnLevels", "add", "(IJ)V"⟩ : MethodName)) (y := (⟨"com/example/value_generalizer/valuegeneralizer/ColumnLevels", "add", "(IJ)V"⟩ : MethodName)) (argsL := [(.int (3 : Int32)), (.long (own_pos q5))]) (rest := []) hown (hw _ (List.mem_of_getElem? (i := 17) rfl)) (hw _ (List.mem_of_getElem? (i := 18) rfl)) (notFace_of_selects (args := #[]) (mvT hZ (hw _ (List.mem_of_getElem? (i := 20) rfl)))) (hw _ (List.mem_of_getElem? (i := 20) rfl)) (hw _ (List.mem_of_getElem? (i := 19) rfl)) (hw _ (List.mem_of_getElem? (i := 2) rfl)) (hw _ (List.mem_of_getElem? (i := 21) rfl)) (by decide) (a := b4) A4 (rm4 l Z a0 hw [] b4 (3 : Int32) (own_pos q5) b5 k5 (v1 + (1 : Int32)) [(.long ((0 : Int64) + (own_pos q2))), (.long ((0 : Int64) + (own_pos q3))), (.long ((0 : Int64) + (own_pos q4))), (.long (0 : Int64))] (.long (0 : Int64)) 3 (0 : Int64) ((((0 : Int64) + (own_pos q2)) + (own_pos q3)) + (own_pos q4)) T99.heap n0 Z0 A4 F_r F_t V g_b4 g_b5 ne_b4_b5 (by decide) ((own_z okh).2.2.2.2.2 (ok8 c95_100)) (by decide) (by simp) rfl) e104 (by rw [hml]; rfl) pd_2 rfl rfl i0_106 (by decide) 0 rfl (by decide) (by decide) (by decide) fun T105 v105 L105 X105 q105 => ?_
            obtain ⟨rfl, K105, -, F_r, F_t, V, N105⟩ := q105
            have N0 := Fr.app N0 N105
            have A4 := A4.keep K105
            have Z0 : n0 ≤ T105.heap.size := Nat.le_trans Z0 K105.1
            have V : Arv Z T105.heap b5 k5 .long (v1 + (1 : Int32)) [(.long ((0 : Int64) + (own_pos q2))), (.long ((0 : Int64) + (own_pos q3))), (.long ((0 : Int64) + (own_pos q4))), (.long ((0 : Int64) + (own_pos q5)))] (.long (0 : Int64)) := V
            show Gd p e below _ T105 (mkF m 109 #[.val (.int p0), .val (.int p1), .val (.long q2), .second, .val (.long q3), .second, .val (.long q4), .second, .val (.long q5), .second, .val (.int v1), .val (.int v2), .val (.ref b4), .unset] [])
            refine g_iload X105 hx hby i0_109 rfl ?_
            refine g_iconst X105 hx hby i0_111 (z := (1 : Int32)) (by decide) ?_
            refine g_iand X105 hx hby i0_112 ?_
            refine g_if_eq X105 hx hby i0_113 (fun c113_106 => False.elim (c41_6 c113_106)) fun c113_106 => ?_
            refine g_iconst X105 hx hby i0_116 (z := (0 : Int32)) (by decide) ?_
            refine g_istore X105 hx hby i0_117 (l' := #[.val (.int p0), .val (.int p1), .val (.long q2), .second, .val (.long q3), .second, .val (.long q4), .second, .val (.long q5), .second, .val (.int v1), .val (.int v2), .val (.ref b4), .val (.int (0 : Int32))]) rfl ?_
            refine g_goto X105 hx hby i0_119 ?_
            refine g_aload X105 hx hby i0_151 rfl rfl ?_
            refine g_callV0 X105 hx hby hZ (y0 := (⟨"com/example/value_generalizer/valuegeneralizer/ColumnLevels", "lowest", "()I"⟩ : MethodName)) (y := (⟨"com/example/value_generalizer/valuegeneralizer/ColumnLevels", "lowest", "()I"⟩ : MethodName)) (argsL := []) (rest := []) hown (hw _ (List.mem_of_getElem? (i := 24) rfl)) (hw _ (List.mem_of_getElem? (i := 25) rfl)) (notFace_of_selects (args := #[]) (mvT hZ (hw _ (List.mem_of_getElem? (i := 27) rfl)))) (hw _ (List.mem_of_getElem? (i := 27) rfl)) (hw _ (List.mem_of_getElem? (i := 26) rfl)) (hw _ (List.mem_of_getElem? (i := 2) rfl)) (hw _ (List.mem_of_getElem? (i := 28) rfl)) (by decide) (a := b4) A4 (rm5_0 l Z a0 hw [] b4 b5 k5 (v1 + (1 : Int32)) ((0 : Int64) + (own_pos q2)) ((0 : Int64) + (own_pos q3)) ((0 : Int64) + (own_pos q4)) ((0 : Int64) + (own_pos q5)) T105.heap n0 Z0 F_r V (own_z okh).2.2.1 (own_pos_ne _)) rfl (by rw [hml]; rfl) pd_3 rfl rfl i0_153 (by decide) 0 rfl (by decide) (by decide) (by decide) fun T107 v107 L107 X107 q107 => ?_
            obtain ⟨_, rfl, rfl, e107, N107⟩ := q107
            have N0 := Fr.app N0 N107
            show Gd p e below _ T107 (mkF m 156 #[.val (.int p0), .val (.int p1), .val (.long q2), .second, .val (.long q3), .second, .val (.long q4), .second, .val (.long q5), .second, .val (.int v1), .val (.int v2), .val (.ref b4), .val (.int (0 : Int32))] [(.int (0 : Int32))])
            refine g_iload X107 hx hby i0_156 rfl ?_
            refine g_icmp_ne X107 hx hby i0_158 (fun c158_108 => False.elim (absurd c158_108 (by decide))) fun c158_108 => ?_
            refine g_iconst X107 hx hby i0_161 (z := (1 : Int32)) (by decide) ?_
            refine g_goto X107 hx hby i0_162 ?_
            refine g_ireturnN X107 hx hby (ty := .boolean) hret (by simp) hlk i0_166 (by decide) (by decide) ?_
            exact ⟨_, rfl, rfl, N0⟩
  · refine g_iconst X0 hx hby i0_20 (z := (1 : Int32)) (by decide) ?_
    refine g_iload X0 hx hby i0_21 rfl ?_
    refine g_ishl X0 hx hby i0_23 ?_
    refine g_istoreW X0 hx hby i0_24 (l' := fun v109 => #[.val (.int p0), .val (.int p1), .val (.long q2), .second, .val (.long q3), .second, .val (.long q4), .second, .val (.long q5), .second, .val (.int v1), .val (.int v109), .unset, .unset]) (fun _ => rfl) fun v109 hv109 => ?_
    refine g_new X0 hx hby hZ hown (hw _ (List.mem_of_getElem? (i := 0) rfl)) (hw _ (List.mem_of_getElem? (i := 1) rfl)) (hw _ (List.mem_of_getElem? (i := 2) rfl)) e0 i0_26 (by decide) (by decide) fun T110 h110 b110 X110 e110 E110 hb110 A110 D110 => ?_
    have g_b110 : n0 ≤ b110 := Nat.le_trans Z0 (Nat.le_of_eq hb110.symm)
    have Z0 : n0 ≤ h110.size := Nat.le_trans Z0 E110.1
    have F110_records : Fld Z h110 b110 "com/example/value_generalizer/valuegeneralizer/ColumnLevels" "records" "[J" .null := D110 (Or.inr (hw _ (List.mem_of_getElem? (i := 11) rfl))) (ty := (.array .long)) (by decide)
    have F110_total : Fld Z h110 b110 "com/example/value_generalizer/valuegeneralizer/ColumnLevels" "total" "J" (.long (0 : Int64)) := D110 (Or.inl (hw _ (List.mem_of_getElem? (i := 23) rfl))) (ty := .long) (by decide)
    refine g_dup X110 hx hby i0_29 rfl ?_
    refine g_iload X110 hx hby i0_30 rfl ?_
    have ok : own_ok v1 v109 := own_ok2 hv1 hv109
    obtain ⟨okh, oka, ok2, ok4, ok8⟩ := ok
    refine g_callInit0 X110 hx hby hZ (y := (⟨"com/example/value_generalizer/valuegeneralizer/ColumnLevels", "<init>", "(I)V"⟩ : MethodName)) (argsL := [(.int v1)]) (rest := [(.ref b110)]) rfl hown (hw _ (List.mem_of_getElem? (i := 3) rfl)) (hw _ (List.mem_of_getElem? (i := 4) rfl)) (hw _ (List.mem_of_getElem? (i := 2) rfl)) (hw _ (List.mem_of_getElem? (i := 5) rfl)) (by decide) (a := b110) (rm1 l Z a0 hw [] b110 v1 h110 n0 Z0 A110 F110_records F110_total g_b110 okh) e110 (by rw [hml]; rfl) pd_0 rfl rfl i0_32 (by decide) 1 rfl (by decide) (by decide) (by decide) fun T111 v111 L111 X111 q111 => ?_
    obtain ⟨rfl, b111, k111, K111, E111, F111_r, F111_t, V111, g_b111, s111, N111⟩ := q111
    have N0 := Fr.app N0 N111
    have ne_b110_b111 : b110 ≠ b111 := Nat.ne_of_lt (Nat.lt_of_lt_of_le A110.lt s111)
    have A110 := A110.keep K111
    have Z0 : n0 ≤ T111.heap.size := Nat.le_trans Z0 K111.1
    have F_r := F111_r
    have F_t := F111_t
    have V := V111
    show Gd p e below _ T111 (mkF m 35 #[.val (.int p0), .val (.int p1), .val (.long q2), .second, .val (.long q3), .second, .val (.long q4), .second, .val (.long q5), .second, .val (.int v1), .val (.int v109), .unset, .unset] [(.ref b110)])
    refine g_astore X111 hx hby i0_35 rfl (l' := #[.val (.int p0), .val (.int p1), .val (.long q2), .second, .val (.long q3), .second, .val (.long q4), .second, .val (.long q5), .second, .val (.int v1), .val (.int v109), .val (.ref b110), .unset]) rfl ?_
    refine g_iload X111 hx hby i0_37 rfl ?_
    refine g_iconst X111 hx hby i0_39 (z := (1 : Int32)) (by decide) ?_
    refine g_iand X111 hx hby i0_40 ?_
    refine g_if_eq X111 hx hby i0_41 (fun c41_112 => ?_) (fun c41_112 => ?_)
    · refine g_iload X111 hx hby i0_54 rfl ?_
      refine g_iconst X111 hx hby i0_56 (z := (2 : Int32)) (by decide) ?_
      refine g_iand X111 hx hby i0_57 ?_
      refine g_if_eq X111 hx hby i0_58 (fun c58_113 => ?_) (fun c58_113 => ?_)
      · refine g_iload X111 hx hby i0_72 rfl ?_
        refine g_iconst X111 hx hby i0_74 (z := (4 : Int32)) (by decide) ?_
        refine g_iand X111 hx hby i0_75 ?_
        refine g_if_eq X111 hx hby i0_76 (fun c76_114 => ?_) (fun c76_114 => ?_)
        · refine g_iload X111 hx hby i0_90 rfl ?_
          refine g_bipush X111 hx hby i0_92 (z := (8 : Int32)) (by decide) ?_
          refine g_iand X111 hx hby i0_94 ?_
          refine g_if_eq X111 hx hby i0_95 (fun c95_115 => ?_) (fun c95_115 => ?_)
          · refine g_iload X111 hx hby i0_109 rfl ?_
            refine g_iconst X111 hx hby i0_111 (z := (1 : Int32)) (by decide) ?_
            refine g_iand X111 hx hby i0_112 ?_
            refine g_if_eq X111 hx hby i0_113 (fun c113_116 => ?_) (fun c113_116 => False.elim (c113_116 c41_112))
            refine g_iload X111 hx hby i0_122 rfl ?_
            refine g_iconst X111 hx hby i0_124 (z := (2 : Int32)) (by decide) ?_
            refine g_iand X111 hx hby i0_125 ?_
            refine g_if_eq X111 hx hby i0_126 (fun c126_117 => ?_) (fun c126_117 => False.elim (c126_117 c58_113))
            refine g_iload X111 hx hby i0_135 rfl ?_
            refine g_iconst X111 hx hby i0_137 (z := (4 : Int32)) (by decide) ?_
            refine g_iand X111 hx hby i0_138 ?_
            refine g_if_eq X111 hx hby i0_139 (fun c139_118 => ?_) (fun c139_118 => False.elim (c139_118 c76_114))
            exact absurd oka (by simp [c41_112, c58_113, c76_114, c95_115])
          · refine g_aload X111 hx hby i0_98 rfl rfl ?_
            refine g_iconst X111 hx hby i0_100 (z := (3 : Int32)) (by decide) ?_
            refine g_lload X111 hx hby i0_101 rfl ?_
            refine g_callS0 X111 hx hby hZ (y := (⟨"com/example/value_generalizer/valuegeneralizer/ColumnLevelsLowestPinLaw", "pos", "(J)J"⟩ : MethodName)) (argsL := [(.long q5)]) (rest := [(.int (3 : Int32)), (.ref b110)]) hown (hw _ (List.mem_of_getElem? (i := 12) rfl)) (hw _ (List.mem_of_getElem? (i := 13) rfl)) (hw _ (List.mem_of_getElem? (i := 14) rfl)) (hw _ (List.mem_of_getElem? (i := 15) rfl)) (by decide) (rm3 l Z a0 hw [] q5 T111.heap n0 Z0) rfl (by rw [hml]; rfl) pd_1 rfl rfl i0_103 (by decide) 2 rfl (by decide) (by decide) (by decide) fun T119 v119 L119 X119 q119 => ?_
            obtain ⟨_, rfl, rfl, e119, N119⟩ := q119
            have N0 := Fr.app N0 N119
            show Gd p e below _ T119 (mkF m 106 #[.val (.int p0), .val (.int p1), .val (.long q2), .second, .val (.long q3), .second, .val (.long q4), .second, .val (.long q5), .second, .val (.int v1), .val (.int v109), .val (.ref b110), .unset] [(.long (own_pos q5)), (.int (3 : Int32)), (.ref b110)])
            refine g_callV0 X119 hx hby hZ (y0 := (⟨"com/example/value_generalizer/valuegeneralizer/ColumnLevels", "add", "(IJ)V"⟩ : MethodName)) (y := (⟨"com/example/value_generalizer/valuegeneralizer/ColumnLevels", "add", "(IJ)V"⟩ : MethodName)) (argsL := [(.int (3 : Int32)), (.long (own_pos q5))]) (rest := []) hown (hw _ (List.mem_of_getElem? (i := 17) rfl)) (hw _ (List.mem_of_getElem? (i := 18) rfl)) (notFace_of_selects (args := #[]) (mvT hZ (hw _ (List.mem_of_getElem? (i := 20) rfl)))) (hw _ (List.mem_of_getElem? (i := 20) rfl)) (hw _ (List.mem_of_getElem? (i := 19) rfl)) (hw _ (List.mem_of_getElem? (i := 2) rfl)) (hw _ (List.mem_of_getElem? (i := 21) rfl)) (by decide) (a := b110) A110 (rm4 l Z a0 hw [] b110 (3 : Int32) (own_pos q5) b111 k111 (v1 + (1 : Int32)) [(.long (0 : Int64)), (.long (0 : Int64)), (.long (0 : Int64)), (.long (0 : Int64))] (.long (0 : Int64)) 3 (0 : Int64) (0 : Int64) T111.heap n0 Z0 A110 F_r F_t V g_b110 g_b111 ne_b110_b111 (by decide) ((own_z okh).2.2.2.2.2 (ok8 c95_115)) (by decide) (by simp) rfl) e119 (by rw [hml]; rfl) pd_2 rfl rfl i0_106 (by decide) 0 rfl (by decide) (by decide) (by decide) fun T120 v120 L120 X120 q120 => ?_
            obtain ⟨rfl, K120, -, F_r, F_t, V, N120⟩ := q120
            have N0 := Fr.app N0 N120
            have A110 := A110.keep K120
            have Z0 : n0 ≤ T120.heap.size := Nat.le_trans Z0 K120.1
            have V : Arv Z T120.heap b111 k111 .long (v1 + (1 : Int32)) [(.long (0 : Int64)), (.long (0 : Int64)), (.long (0 : Int64)), (.long ((0 : Int64) + (own_pos q5)))] (.long (0 : Int64)) := V
            show Gd p e below _ T120 (mkF m 109 #[.val (.int p0), .val (.int p1), .val (.long q2), .second, .val (.long q3), .second, .val (.long q4), .second, .val (.long q5), .second, .val (.int v1), .val (.int v109), .val (.ref b110), .unset] [])
            refine g_iload X120 hx hby i0_109 rfl ?_
            refine g_iconst X120 hx hby i0_111 (z := (1 : Int32)) (by decide) ?_
            refine g_iand X120 hx hby i0_112 ?_
            refine g_if_eq X120 hx hby i0_113 (fun c113_121 => ?_) (fun c113_121 => False.elim (c113_121 c41_112))
            refine g_iload X120 hx hby i0_122 rfl ?_
            refine g_iconst X120 hx hby i0_124 (z := (2 : Int32)) (by decide) ?_
            refine g_iand X120 hx hby i0_125 ?_
            refine g_if_eq X120 hx hby i0_126 (fun c126_122 => ?_) (fun c126_122 => False.elim (c126_122 c58_113))
            refine g_iload X120 hx hby i0_135 rfl ?_
            refine g_iconst X120 hx hby i0_137 (z := (4 : Int32)) (by decide) ?_
            refine g_iand X120 hx hby i0_138 ?_
            refine g_if_eq X120 hx hby i0_139 (fun c139_123 => ?_) (fun c139_123 => False.elim (c139_123 c76_114))
            refine g_iconst X120 hx hby i0_148 (z := (3 : Int32)) (by decide) ?_
            refine g_istore X120 hx hby i0_149 (l' := #[.val (.int p0), .val (.int p1), .val (.long q2), .second, .val (.long q3), .second, .val (.long q4), .second, .val (.long q5), .second, .val (.int v1), .val (.int v109), .val (.ref b110), .val (.int (3 : Int32))]) rfl ?_
            refine g_aload X120 hx hby i0_151 rfl rfl ?_
            refine g_callV0 X120 hx hby hZ (y0 := (⟨"com/example/value_generalizer/valuegeneralizer/ColumnLevels", "lowest", "()I"⟩ : MethodName)) (y := (⟨"com/example/value_generalizer/valuegeneralizer/ColumnLevels", "lowest", "()I"⟩ : MethodName)) (argsL := []) (rest := []) hown (hw _ (List.mem_of_getElem? (i := 24) rfl)) (hw _ (List.mem_of_getElem? (i := 25) rfl)) (notFace_of_selects (args := #[]) (mvT hZ (hw _ (List.mem_of_getElem? (i := 27) rfl)))) (hw _ (List.mem_of_getElem? (i := 27) rfl)) (hw _ (List.mem_of_getElem? (i := 26) rfl)) (hw _ (List.mem_of_getElem? (i := 2) rfl)) (hw _ (List.mem_of_getElem? (i := 28) rfl)) (by decide) (a := b110) A110 (rm5_3 l Z a0 hw [] b110 b111 k111 (v1 + (1 : Int32)) (0 : Int64) (0 : Int64) (0 : Int64) ((0 : Int64) + (own_pos q5)) T120.heap n0 Z0 F_r V ((own_z okh).2.2.2.2.2 (ok8 c95_115)) rfl rfl rfl (own_pos_ne _)) rfl (by rw [hml]; rfl) pd_3 rfl rfl i0_153 (by decide) 0 rfl (by decide) (by decide) (by decide) fun T124 v124 L124 X124 q124 => ?_
            obtain ⟨_, rfl, rfl, e124, N124⟩ := q124
            have N0 := Fr.app N0 N124
            show Gd p e below _ T124 (mkF m 156 #[.val (.int p0), .val (.int p1), .val (.long q2), .second, .val (.long q3), .second, .val (.long q4), .second, .val (.long q5), .second, .val (.int v1), .val (.int v109), .val (.ref b110), .val (.int (3 : Int32))] [(.int (3 : Int32))])
            refine g_iload X124 hx hby i0_156 rfl ?_
            refine g_icmp_ne X124 hx hby i0_158 (fun c158_125 => False.elim (absurd c158_125 (by decide))) fun c158_125 => ?_
            refine g_iconst X124 hx hby i0_161 (z := (1 : Int32)) (by decide) ?_
            refine g_goto X124 hx hby i0_162 ?_
            refine g_ireturnN X124 hx hby (ty := .boolean) hret (by simp) hlk i0_166 (by decide) (by decide) ?_
            exact ⟨_, rfl, rfl, N0⟩
        · refine g_aload X111 hx hby i0_79 rfl rfl ?_
          refine g_iconst X111 hx hby i0_81 (z := (2 : Int32)) (by decide) ?_
          refine g_lload X111 hx hby i0_82 rfl ?_
          refine g_callS0 X111 hx hby hZ (y := (⟨"com/example/value_generalizer/valuegeneralizer/ColumnLevelsLowestPinLaw", "pos", "(J)J"⟩ : MethodName)) (argsL := [(.long q4)]) (rest := [(.int (2 : Int32)), (.ref b110)]) hown (hw _ (List.mem_of_getElem? (i := 12) rfl)) (hw _ (List.mem_of_getElem? (i := 13) rfl)) (hw _ (List.mem_of_getElem? (i := 14) rfl)) (hw _ (List.mem_of_getElem? (i := 15) rfl)) (by decide) (rm3 l Z a0 hw [] q4 T111.heap n0 Z0) rfl (by rw [hml]; rfl) pd_1 rfl rfl i0_84 (by decide) 2 rfl (by decide) (by decide) (by decide) fun T126 v126 L126 X126 q126 => ?_
          obtain ⟨_, rfl, rfl, e126, N126⟩ := q126
          have N0 := Fr.app N0 N126
          show Gd p e below _ T126 (mkF m 87 #[.val (.int p0), .val (.int p1), .val (.long q2), .second, .val (.long q3), .second, .val (.long q4), .second, .val (.long q5), .second, .val (.int v1), .val (.int v109), .val (.ref b110), .unset] [(.long (own_pos q4)), (.int (2 : Int32)), (.ref b110)])
          refine g_callV0 X126 hx hby hZ (y0 := (⟨"com/example/value_generalizer/valuegeneralizer/ColumnLevels", "add", "(IJ)V"⟩ : MethodName)) (y := (⟨"com/example/value_generalizer/valuegeneralizer/ColumnLevels", "add", "(IJ)V"⟩ : MethodName)) (argsL := [(.int (2 : Int32)), (.long (own_pos q4))]) (rest := []) hown (hw _ (List.mem_of_getElem? (i := 17) rfl)) (hw _ (List.mem_of_getElem? (i := 18) rfl)) (notFace_of_selects (args := #[]) (mvT hZ (hw _ (List.mem_of_getElem? (i := 20) rfl)))) (hw _ (List.mem_of_getElem? (i := 20) rfl)) (hw _ (List.mem_of_getElem? (i := 19) rfl)) (hw _ (List.mem_of_getElem? (i := 2) rfl)) (hw _ (List.mem_of_getElem? (i := 21) rfl)) (by decide) (a := b110) A110 (rm4 l Z a0 hw [] b110 (2 : Int32) (own_pos q4) b111 k111 (v1 + (1 : Int32)) [(.long (0 : Int64)), (.long (0 : Int64)), (.long (0 : Int64)), (.long (0 : Int64))] (.long (0 : Int64)) 2 (0 : Int64) (0 : Int64) T111.heap n0 Z0 A110 F_r F_t V g_b110 g_b111 ne_b110_b111 (by decide) ((own_z okh).2.2.2.2.1 (ok4 c76_114)) (by decide) (by simp) rfl) e126 (by rw [hml]; rfl) pd_2 rfl rfl i0_87 (by decide) 0 rfl (by decide) (by decide) (by decide) fun T127 v127 L127 X127 q127 => ?_
          obtain ⟨rfl, K127, -, F_r, F_t, V, N127⟩ := q127
          have N0 := Fr.app N0 N127
          have A110 := A110.keep K127
          have Z0 : n0 ≤ T127.heap.size := Nat.le_trans Z0 K127.1
          have V : Arv Z T127.heap b111 k111 .long (v1 + (1 : Int32)) [(.long (0 : Int64)), (.long (0 : Int64)), (.long ((0 : Int64) + (own_pos q4))), (.long (0 : Int64))] (.long (0 : Int64)) := V
          show Gd p e below _ T127 (mkF m 90 #[.val (.int p0), .val (.int p1), .val (.long q2), .second, .val (.long q3), .second, .val (.long q4), .second, .val (.long q5), .second, .val (.int v1), .val (.int v109), .val (.ref b110), .unset] [])
          refine g_iload X127 hx hby i0_90 rfl ?_
          refine g_bipush X127 hx hby i0_92 (z := (8 : Int32)) (by decide) ?_
          refine g_iand X127 hx hby i0_94 ?_
          refine g_if_eq X127 hx hby i0_95 (fun c95_128 => ?_) (fun c95_128 => ?_)
          · refine g_iload X127 hx hby i0_109 rfl ?_
            refine g_iconst X127 hx hby i0_111 (z := (1 : Int32)) (by decide) ?_
            refine g_iand X127 hx hby i0_112 ?_
            refine g_if_eq X127 hx hby i0_113 (fun c113_129 => ?_) (fun c113_129 => False.elim (c113_129 c41_112))
            refine g_iload X127 hx hby i0_122 rfl ?_
            refine g_iconst X127 hx hby i0_124 (z := (2 : Int32)) (by decide) ?_
            refine g_iand X127 hx hby i0_125 ?_
            refine g_if_eq X127 hx hby i0_126 (fun c126_130 => ?_) (fun c126_130 => False.elim (c126_130 c58_113))
            refine g_iload X127 hx hby i0_135 rfl ?_
            refine g_iconst X127 hx hby i0_137 (z := (4 : Int32)) (by decide) ?_
            refine g_iand X127 hx hby i0_138 ?_
            refine g_if_eq X127 hx hby i0_139 (fun c139_131 => False.elim (c76_114 c139_131)) fun c139_131 => ?_
            refine g_iconst X127 hx hby i0_142 (z := (2 : Int32)) (by decide) ?_
            refine g_istore X127 hx hby i0_143 (l' := #[.val (.int p0), .val (.int p1), .val (.long q2), .second, .val (.long q3), .second, .val (.long q4), .second, .val (.long q5), .second, .val (.int v1), .val (.int v109), .val (.ref b110), .val (.int (2 : Int32))]) rfl ?_
            refine g_goto X127 hx hby i0_145 ?_
            refine g_aload X127 hx hby i0_151 rfl rfl ?_
            refine g_callV0 X127 hx hby hZ (y0 := (⟨"com/example/value_generalizer/valuegeneralizer/ColumnLevels", "lowest", "()I"⟩ : MethodName)) (y := (⟨"com/example/value_generalizer/valuegeneralizer/ColumnLevels", "lowest", "()I"⟩ : MethodName)) (argsL := []) (rest := []) hown (hw _ (List.mem_of_getElem? (i := 24) rfl)) (hw _ (List.mem_of_getElem? (i := 25) rfl)) (notFace_of_selects (args := #[]) (mvT hZ (hw _ (List.mem_of_getElem? (i := 27) rfl)))) (hw _ (List.mem_of_getElem? (i := 27) rfl)) (hw _ (List.mem_of_getElem? (i := 26) rfl)) (hw _ (List.mem_of_getElem? (i := 2) rfl)) (hw _ (List.mem_of_getElem? (i := 28) rfl)) (by decide) (a := b110) A110 (rm5_2 l Z a0 hw [] b110 b111 k111 (v1 + (1 : Int32)) (0 : Int64) (0 : Int64) ((0 : Int64) + (own_pos q4)) (0 : Int64) T127.heap n0 Z0 F_r V ((own_z okh).2.2.2.2.1 (ok4 c76_114)) rfl rfl (own_pos_ne _)) rfl (by rw [hml]; rfl) pd_3 rfl rfl i0_153 (by decide) 0 rfl (by decide) (by decide) (by decide) fun T132 v132 L132 X132 q132 => ?_
            obtain ⟨_, rfl, rfl, e132, N132⟩ := q132
            have N0 := Fr.app N0 N132
            show Gd p e below _ T132 (mkF m 156 #[.val (.int p0), .val (.int p1), .val (.long q2), .second, .val (.long q3), .second, .val (.long q4), .second, .val (.long q5), .second, .val (.int v1), .val (.int v109), .val (.ref b110), .val (.int (2 : Int32))] [(.int (2 : Int32))])
            refine g_iload X132 hx hby i0_156 rfl ?_
            refine g_icmp_ne X132 hx hby i0_158 (fun c158_133 => False.elim (absurd c158_133 (by decide))) fun c158_133 => ?_
            refine g_iconst X132 hx hby i0_161 (z := (1 : Int32)) (by decide) ?_
            refine g_goto X132 hx hby i0_162 ?_
            refine g_ireturnN X132 hx hby (ty := .boolean) hret (by simp) hlk i0_166 (by decide) (by decide) ?_
            exact ⟨_, rfl, rfl, N0⟩
          · refine g_aload X127 hx hby i0_98 rfl rfl ?_
            refine g_iconst X127 hx hby i0_100 (z := (3 : Int32)) (by decide) ?_
            refine g_lload X127 hx hby i0_101 rfl ?_
            refine g_callS0 X127 hx hby hZ (y := (⟨"com/example/value_generalizer/valuegeneralizer/ColumnLevelsLowestPinLaw", "pos", "(J)J"⟩ : MethodName)) (argsL := [(.long q5)]) (rest := [(.int (3 : Int32)), (.ref b110)]) hown (hw _ (List.mem_of_getElem? (i := 12) rfl)) (hw _ (List.mem_of_getElem? (i := 13) rfl)) (hw _ (List.mem_of_getElem? (i := 14) rfl)) (hw _ (List.mem_of_getElem? (i := 15) rfl)) (by decide) (rm3 l Z a0 hw [] q5 T127.heap n0 Z0) rfl (by rw [hml]; rfl) pd_1 rfl rfl i0_103 (by decide) 2 rfl (by decide) (by decide) (by decide) fun T134 v134 L134 X134 q134 => ?_
            obtain ⟨_, rfl, rfl, e134, N134⟩ := q134
            have N0 := Fr.app N0 N134
            show Gd p e below _ T134 (mkF m 106 #[.val (.int p0), .val (.int p1), .val (.long q2), .second, .val (.long q3), .second, .val (.long q4), .second, .val (.long q5), .second, .val (.int v1), .val (.int v109), .val (.ref b110), .unset] [(.long (own_pos q5)), (.int (3 : Int32)), (.ref b110)])
            refine g_callV0 X134 hx hby hZ (y0 := (⟨"com/example/value_generalizer/valuegeneralizer/ColumnLevels", "add", "(IJ)V"⟩ : MethodName)) (y := (⟨"com/example/value_generalizer/valuegeneralizer/ColumnLevels", "add", "(IJ)V"⟩ : MethodName)) (argsL := [(.int (3 : Int32)), (.long (own_pos q5))]) (rest := []) hown (hw _ (List.mem_of_getElem? (i := 17) rfl)) (hw _ (List.mem_of_getElem? (i := 18) rfl)) (notFace_of_selects (args := #[]) (mvT hZ (hw _ (List.mem_of_getElem? (i := 20) rfl)))) (hw _ (List.mem_of_getElem? (i := 20) rfl)) (hw _ (List.mem_of_getElem? (i := 19) rfl)) (hw _ (List.mem_of_getElem? (i := 2) rfl)) (hw _ (List.mem_of_getElem? (i := 21) rfl)) (by decide) (a := b110) A110 (rm4 l Z a0 hw [] b110 (3 : Int32) (own_pos q5) b111 k111 (v1 + (1 : Int32)) [(.long (0 : Int64)), (.long (0 : Int64)), (.long ((0 : Int64) + (own_pos q4))), (.long (0 : Int64))] (.long (0 : Int64)) 3 (0 : Int64) ((0 : Int64) + (own_pos q4)) T127.heap n0 Z0 A110 F_r F_t V g_b110 g_b111 ne_b110_b111 (by decide) ((own_z okh).2.2.2.2.2 (ok8 c95_128)) (by decide) (by simp) rfl) e134 (by rw [hml]; rfl) pd_2 rfl rfl i0_106 (by decide) 0 rfl (by decide) (by decide) (by decide) fun T135 v135 L135 X135 q135 => ?_
            obtain ⟨rfl, K135, -, F_r, F_t, V, N135⟩ := q135
            have N0 := Fr.app N0 N135
            have A110 := A110.keep K135
            have Z0 : n0 ≤ T135.heap.size := Nat.le_trans Z0 K135.1
            have V : Arv Z T135.heap b111 k111 .long (v1 + (1 : Int32)) [(.long (0 : Int64)), (.long (0 : Int64)), (.long ((0 : Int64) + (own_pos q4))), (.long ((0 : Int64) + (own_pos q5)))] (.long (0 : Int64)) := V
            show Gd p e below _ T135 (mkF m 109 #[.val (.int p0), .val (.int p1), .val (.long q2), .second, .val (.long q3), .second, .val (.long q4), .second, .val (.long q5), .second, .val (.int v1), .val (.int v109), .val (.ref b110), .unset] [])
            refine g_iload X135 hx hby i0_109 rfl ?_
            refine g_iconst X135 hx hby i0_111 (z := (1 : Int32)) (by decide) ?_
            refine g_iand X135 hx hby i0_112 ?_
            refine g_if_eq X135 hx hby i0_113 (fun c113_136 => ?_) (fun c113_136 => False.elim (c113_136 c41_112))
            refine g_iload X135 hx hby i0_122 rfl ?_
            refine g_iconst X135 hx hby i0_124 (z := (2 : Int32)) (by decide) ?_
            refine g_iand X135 hx hby i0_125 ?_
            refine g_if_eq X135 hx hby i0_126 (fun c126_137 => ?_) (fun c126_137 => False.elim (c126_137 c58_113))
            refine g_iload X135 hx hby i0_135 rfl ?_
            refine g_iconst X135 hx hby i0_137 (z := (4 : Int32)) (by decide) ?_
            refine g_iand X135 hx hby i0_138 ?_
            refine g_if_eq X135 hx hby i0_139 (fun c139_138 => False.elim (c76_114 c139_138)) fun c139_138 => ?_
            refine g_iconst X135 hx hby i0_142 (z := (2 : Int32)) (by decide) ?_
            refine g_istore X135 hx hby i0_143 (l' := #[.val (.int p0), .val (.int p1), .val (.long q2), .second, .val (.long q3), .second, .val (.long q4), .second, .val (.long q5), .second, .val (.int v1), .val (.int v109), .val (.ref b110), .val (.int (2 : Int32))]) rfl ?_
            refine g_goto X135 hx hby i0_145 ?_
            refine g_aload X135 hx hby i0_151 rfl rfl ?_
            refine g_callV0 X135 hx hby hZ (y0 := (⟨"com/example/value_generalizer/valuegeneralizer/ColumnLevels", "lowest", "()I"⟩ : MethodName)) (y := (⟨"com/example/value_generalizer/valuegeneralizer/ColumnLevels", "lowest", "()I"⟩ : MethodName)) (argsL := []) (rest := []) hown (hw _ (List.mem_of_getElem? (i := 24) rfl)) (hw _ (List.mem_of_getElem? (i := 25) rfl)) (notFace_of_selects (args := #[]) (mvT hZ (hw _ (List.mem_of_getElem? (i := 27) rfl)))) (hw _ (List.mem_of_getElem? (i := 27) rfl)) (hw _ (List.mem_of_getElem? (i := 26) rfl)) (hw _ (List.mem_of_getElem? (i := 2) rfl)) (hw _ (List.mem_of_getElem? (i := 28) rfl)) (by decide) (a := b110) A110 (rm5_2 l Z a0 hw [] b110 b111 k111 (v1 + (1 : Int32)) (0 : Int64) (0 : Int64) ((0 : Int64) + (own_pos q4)) ((0 : Int64) + (own_pos q5)) T135.heap n0 Z0 F_r V ((own_z okh).2.2.2.2.1 (ok4 c76_114)) rfl rfl (own_pos_ne _)) rfl (by rw [hml]; rfl) pd_3 rfl rfl i0_153 (by decide) 0 rfl (by decide) (by decide) (by decide) fun T139 v139 L139 X139 q139 => ?_
            obtain ⟨_, rfl, rfl, e139, N139⟩ := q139
            have N0 := Fr.app N0 N139
            show Gd p e below _ T139 (mkF m 156 #[.val (.int p0), .val (.int p1), .val (.long q2), .second, .val (.long q3), .second, .val (.long q4), .second, .val (.long q5), .second, .val (.int v1), .val (.int v109), .val (.ref b110), .val (.int (2 : Int32))] [(.int (2 : Int32))])
            refine g_iload X139 hx hby i0_156 rfl ?_
            refine g_icmp_ne X139 hx hby i0_158 (fun c158_140 => False.elim (absurd c158_140 (by decide))) fun c158_140 => ?_
            refine g_iconst X139 hx hby i0_161 (z := (1 : Int32)) (by decide) ?_
            refine g_goto X139 hx hby i0_162 ?_
            refine g_ireturnN X139 hx hby (ty := .boolean) hret (by simp) hlk i0_166 (by decide) (by decide) ?_
            exact ⟨_, rfl, rfl, N0⟩
      · refine g_aload X111 hx hby i0_61 rfl rfl ?_
        refine g_iconst X111 hx hby i0_63 (z := (1 : Int32)) (by decide) ?_
        refine g_lload X111 hx hby i0_64 rfl ?_
        refine g_callS0 X111 hx hby hZ (y := (⟨"com/example/value_generalizer/valuegeneralizer/ColumnLevelsLowestPinLaw", "pos", "(J)J"⟩ : MethodName)) (argsL := [(.long q3)]) (rest := [(.int (1 : Int32)), (.ref b110)]) hown (hw _ (List.mem_of_getElem? (i := 12) rfl)) (hw _ (List.mem_of_getElem? (i := 13) rfl)) (hw _ (List.mem_of_getElem? (i := 14) rfl)) (hw _ (List.mem_of_getElem? (i := 15) rfl)) (by decide) (rm3 l Z a0 hw [] q3 T111.heap n0 Z0) rfl (by rw [hml]; rfl) pd_1 rfl rfl i0_66 (by decide) 2 rfl (by decide) (by decide) (by decide) fun T141 v141 L141 X141 q141 => ?_
        obtain ⟨_, rfl, rfl, e141, N141⟩ := q141
        have N0 := Fr.app N0 N141
        show Gd p e below _ T141 (mkF m 69 #[.val (.int p0), .val (.int p1), .val (.long q2), .second, .val (.long q3), .second, .val (.long q4), .second, .val (.long q5), .second, .val (.int v1), .val (.int v109), .val (.ref b110), .unset] [(.long (own_pos q3)), (.int (1 : Int32)), (.ref b110)])
        refine g_callV0 X141 hx hby hZ (y0 := (⟨"com/example/value_generalizer/valuegeneralizer/ColumnLevels", "add", "(IJ)V"⟩ : MethodName)) (y := (⟨"com/example/value_generalizer/valuegeneralizer/ColumnLevels", "add", "(IJ)V"⟩ : MethodName)) (argsL := [(.int (1 : Int32)), (.long (own_pos q3))]) (rest := []) hown (hw _ (List.mem_of_getElem? (i := 17) rfl)) (hw _ (List.mem_of_getElem? (i := 18) rfl)) (notFace_of_selects (args := #[]) (mvT hZ (hw _ (List.mem_of_getElem? (i := 20) rfl)))) (hw _ (List.mem_of_getElem? (i := 20) rfl)) (hw _ (List.mem_of_getElem? (i := 19) rfl)) (hw _ (List.mem_of_getElem? (i := 2) rfl)) (hw _ (List.mem_of_getElem? (i := 21) rfl)) (by decide) (a := b110) A110 (rm4 l Z a0 hw [] b110 (1 : Int32) (own_pos q3) b111 k111 (v1 + (1 : Int32)) [(.long (0 : Int64)), (.long (0 : Int64)), (.long (0 : Int64)), (.long (0 : Int64))] (.long (0 : Int64)) 1 (0 : Int64) (0 : Int64) T111.heap n0 Z0 A110 F_r F_t V g_b110 g_b111 ne_b110_b111 (by decide) ((own_z okh).2.2.2.1 (ok2 c58_113)) (by decide) (by simp) rfl) e141 (by rw [hml]; rfl) pd_2 rfl rfl i0_69 (by decide) 0 rfl (by decide) (by decide) (by decide) fun T142 v142 L142 X142 q142 => ?_
        obtain ⟨rfl, K142, -, F_r, F_t, V, N142⟩ := q142
        have N0 := Fr.app N0 N142
        have A110 := A110.keep K142
        have Z0 : n0 ≤ T142.heap.size := Nat.le_trans Z0 K142.1
        have V : Arv Z T142.heap b111 k111 .long (v1 + (1 : Int32)) [(.long (0 : Int64)), (.long ((0 : Int64) + (own_pos q3))), (.long (0 : Int64)), (.long (0 : Int64))] (.long (0 : Int64)) := V
        show Gd p e below _ T142 (mkF m 72 #[.val (.int p0), .val (.int p1), .val (.long q2), .second, .val (.long q3), .second, .val (.long q4), .second, .val (.long q5), .second, .val (.int v1), .val (.int v109), .val (.ref b110), .unset] [])
        refine g_iload X142 hx hby i0_72 rfl ?_
        refine g_iconst X142 hx hby i0_74 (z := (4 : Int32)) (by decide) ?_
        refine g_iand X142 hx hby i0_75 ?_
        refine g_if_eq X142 hx hby i0_76 (fun c76_143 => ?_) (fun c76_143 => ?_)
        · refine g_iload X142 hx hby i0_90 rfl ?_
          refine g_bipush X142 hx hby i0_92 (z := (8 : Int32)) (by decide) ?_
          refine g_iand X142 hx hby i0_94 ?_
          refine g_if_eq X142 hx hby i0_95 (fun c95_144 => ?_) (fun c95_144 => ?_)
          · refine g_iload X142 hx hby i0_109 rfl ?_
            refine g_iconst X142 hx hby i0_111 (z := (1 : Int32)) (by decide) ?_
            refine g_iand X142 hx hby i0_112 ?_
            refine g_if_eq X142 hx hby i0_113 (fun c113_145 => ?_) (fun c113_145 => False.elim (c113_145 c41_112))
            refine g_iload X142 hx hby i0_122 rfl ?_
            refine g_iconst X142 hx hby i0_124 (z := (2 : Int32)) (by decide) ?_
            refine g_iand X142 hx hby i0_125 ?_
            refine g_if_eq X142 hx hby i0_126 (fun c126_146 => False.elim (c58_113 c126_146)) fun c126_146 => ?_
            refine g_iconst X142 hx hby i0_129 (z := (1 : Int32)) (by decide) ?_
            refine g_istore X142 hx hby i0_130 (l' := #[.val (.int p0), .val (.int p1), .val (.long q2), .second, .val (.long q3), .second, .val (.long q4), .second, .val (.long q5), .second, .val (.int v1), .val (.int v109), .val (.ref b110), .val (.int (1 : Int32))]) rfl ?_
            refine g_goto X142 hx hby i0_132 ?_
            refine g_aload X142 hx hby i0_151 rfl rfl ?_
            refine g_callV0 X142 hx hby hZ (y0 := (⟨"com/example/value_generalizer/valuegeneralizer/ColumnLevels", "lowest", "()I"⟩ : MethodName)) (y := (⟨"com/example/value_generalizer/valuegeneralizer/ColumnLevels", "lowest", "()I"⟩ : MethodName)) (argsL := []) (rest := []) hown (hw _ (List.mem_of_getElem? (i := 24) rfl)) (hw _ (List.mem_of_getElem? (i := 25) rfl)) (notFace_of_selects (args := #[]) (mvT hZ (hw _ (List.mem_of_getElem? (i := 27) rfl)))) (hw _ (List.mem_of_getElem? (i := 27) rfl)) (hw _ (List.mem_of_getElem? (i := 26) rfl)) (hw _ (List.mem_of_getElem? (i := 2) rfl)) (hw _ (List.mem_of_getElem? (i := 28) rfl)) (by decide) (a := b110) A110 (rm5_1 l Z a0 hw [] b110 b111 k111 (v1 + (1 : Int32)) (0 : Int64) ((0 : Int64) + (own_pos q3)) (0 : Int64) (0 : Int64) T142.heap n0 Z0 F_r V ((own_z okh).2.2.2.1 (ok2 c58_113)) rfl (own_pos_ne _)) rfl (by rw [hml]; rfl) pd_3 rfl rfl i0_153 (by decide) 0 rfl (by decide) (by decide) (by decide) fun T147 v147 L147 X147 q147 => ?_
            obtain ⟨_, rfl, rfl, e147, N147⟩ := q147
            have N0 := Fr.app N0 N147
            show Gd p e below _ T147 (mkF m 156 #[.val (.int p0), .val (.int p1), .val (.long q2), .second, .val (.long q3), .second, .val (.long q4), .second, .val (.long q5), .second, .val (.int v1), .val (.int v109), .val (.ref b110), .val (.int (1 : Int32))] [(.int (1 : Int32))])
            refine g_iload X147 hx hby i0_156 rfl ?_
            refine g_icmp_ne X147 hx hby i0_158 (fun c158_148 => False.elim (absurd c158_148 (by decide))) fun c158_148 => ?_
            refine g_iconst X147 hx hby i0_161 (z := (1 : Int32)) (by decide) ?_
            refine g_goto X147 hx hby i0_162 ?_
            refine g_ireturnN X147 hx hby (ty := .boolean) hret (by simp) hlk i0_166 (by decide) (by decide) ?_
            exact ⟨_, rfl, rfl, N0⟩
          · refine g_aload X142 hx hby i0_98 rfl rfl ?_
            refine g_iconst X142 hx hby i0_100 (z := (3 : Int32)) (by decide) ?_
            refine g_lload X142 hx hby i0_101 rfl ?_
            refine g_callS0 X142 hx hby hZ (y := (⟨"com/example/value_generalizer/valuegeneralizer/ColumnLevelsLowestPinLaw", "pos", "(J)J"⟩ : MethodName)) (argsL := [(.long q5)]) (rest := [(.int (3 : Int32)), (.ref b110)]) hown (hw _ (List.mem_of_getElem? (i := 12) rfl)) (hw _ (List.mem_of_getElem? (i := 13) rfl)) (hw _ (List.mem_of_getElem? (i := 14) rfl)) (hw _ (List.mem_of_getElem? (i := 15) rfl)) (by decide) (rm3 l Z a0 hw [] q5 T142.heap n0 Z0) rfl (by rw [hml]; rfl) pd_1 rfl rfl i0_103 (by decide) 2 rfl (by decide) (by decide) (by decide) fun T149 v149 L149 X149 q149 => ?_
            obtain ⟨_, rfl, rfl, e149, N149⟩ := q149
            have N0 := Fr.app N0 N149
            show Gd p e below _ T149 (mkF m 106 #[.val (.int p0), .val (.int p1), .val (.long q2), .second, .val (.long q3), .second, .val (.long q4), .second, .val (.long q5), .second, .val (.int v1), .val (.int v109), .val (.ref b110), .unset] [(.long (own_pos q5)), (.int (3 : Int32)), (.ref b110)])
            refine g_callV0 X149 hx hby hZ (y0 := (⟨"com/example/value_generalizer/valuegeneralizer/ColumnLevels", "add", "(IJ)V"⟩ : MethodName)) (y := (⟨"com/example/value_generalizer/valuegeneralizer/ColumnLevels", "add", "(IJ)V"⟩ : MethodName)) (argsL := [(.int (3 : Int32)), (.long (own_pos q5))]) (rest := []) hown (hw _ (List.mem_of_getElem? (i := 17) rfl)) (hw _ (List.mem_of_getElem? (i := 18) rfl)) (notFace_of_selects (args := #[]) (mvT hZ (hw _ (List.mem_of_getElem? (i := 20) rfl)))) (hw _ (List.mem_of_getElem? (i := 20) rfl)) (hw _ (List.mem_of_getElem? (i := 19) rfl)) (hw _ (List.mem_of_getElem? (i := 2) rfl)) (hw _ (List.mem_of_getElem? (i := 21) rfl)) (by decide) (a := b110) A110 (rm4 l Z a0 hw [] b110 (3 : Int32) (own_pos q5) b111 k111 (v1 + (1 : Int32)) [(.long (0 : Int64)), (.long ((0 : Int64) + (own_pos q3))), (.long (0 : Int64)), (.long (0 : Int64))] (.long (0 : Int64)) 3 (0 : Int64) ((0 : Int64) + (own_pos q3)) T142.heap n0 Z0 A110 F_r F_t V g_b110 g_b111 ne_b110_b111 (by decide) ((own_z okh).2.2.2.2.2 (ok8 c95_144)) (by decide) (by simp) rfl) e149 (by rw [hml]; rfl) pd_2 rfl rfl i0_106 (by decide) 0 rfl (by decide) (by decide) (by decide) fun T150 v150 L150 X150 q150 => ?_
            obtain ⟨rfl, K150, -, F_r, F_t, V, N150⟩ := q150
            have N0 := Fr.app N0 N150
            have A110 := A110.keep K150
            have Z0 : n0 ≤ T150.heap.size := Nat.le_trans Z0 K150.1
            have V : Arv Z T150.heap b111 k111 .long (v1 + (1 : Int32)) [(.long (0 : Int64)), (.long ((0 : Int64) + (own_pos q3))), (.long (0 : Int64)), (.long ((0 : Int64) + (own_pos q5)))] (.long (0 : Int64)) := V
            show Gd p e below _ T150 (mkF m 109 #[.val (.int p0), .val (.int p1), .val (.long q2), .second, .val (.long q3), .second, .val (.long q4), .second, .val (.long q5), .second, .val (.int v1), .val (.int v109), .val (.ref b110), .unset] [])
            refine g_iload X150 hx hby i0_109 rfl ?_
            refine g_iconst X150 hx hby i0_111 (z := (1 : Int32)) (by decide) ?_
            refine g_iand X150 hx hby i0_112 ?_
            refine g_if_eq X150 hx hby i0_113 (fun c113_151 => ?_) (fun c113_151 => False.elim (c113_151 c41_112))
            refine g_iload X150 hx hby i0_122 rfl ?_
            refine g_iconst X150 hx hby i0_124 (z := (2 : Int32)) (by decide) ?_
            refine g_iand X150 hx hby i0_125 ?_
            refine g_if_eq X150 hx hby i0_126 (fun c126_152 => False.elim (c58_113 c126_152)) fun c126_152 => ?_
            refine g_iconst X150 hx hby i0_129 (z := (1 : Int32)) (by decide) ?_
            refine g_istore X150 hx hby i0_130 (l' := #[.val (.int p0), .val (.int p1), .val (.long q2), .second, .val (.long q3), .second, .val (.long q4), .second, .val (.long q5), .second, .val (.int v1), .val (.int v109), .val (.ref b110), .val (.int (1 : Int32))]) rfl ?_
            refine g_goto X150 hx hby i0_132 ?_
            refine g_aload X150 hx hby i0_151 rfl rfl ?_
            refine g_callV0 X150 hx hby hZ (y0 := (⟨"com/example/value_generalizer/valuegeneralizer/ColumnLevels", "lowest", "()I"⟩ : MethodName)) (y := (⟨"com/example/value_generalizer/valuegeneralizer/ColumnLevels", "lowest", "()I"⟩ : MethodName)) (argsL := []) (rest := []) hown (hw _ (List.mem_of_getElem? (i := 24) rfl)) (hw _ (List.mem_of_getElem? (i := 25) rfl)) (notFace_of_selects (args := #[]) (mvT hZ (hw _ (List.mem_of_getElem? (i := 27) rfl)))) (hw _ (List.mem_of_getElem? (i := 27) rfl)) (hw _ (List.mem_of_getElem? (i := 26) rfl)) (hw _ (List.mem_of_getElem? (i := 2) rfl)) (hw _ (List.mem_of_getElem? (i := 28) rfl)) (by decide) (a := b110) A110 (rm5_1 l Z a0 hw [] b110 b111 k111 (v1 + (1 : Int32)) (0 : Int64) ((0 : Int64) + (own_pos q3)) (0 : Int64) ((0 : Int64) + (own_pos q5)) T150.heap n0 Z0 F_r V ((own_z okh).2.2.2.1 (ok2 c58_113)) rfl (own_pos_ne _)) rfl (by rw [hml]; rfl) pd_3 rfl rfl i0_153 (by decide) 0 rfl (by decide) (by decide) (by decide) fun T153 v153 L153 X153 q153 => ?_
            obtain ⟨_, rfl, rfl, e153, N153⟩ := q153
            have N0 := Fr.app N0 N153
            show Gd p e below _ T153 (mkF m 156 #[.val (.int p0), .val (.int p1), .val (.long q2), .second, .val (.long q3), .second, .val (.long q4), .second, .val (.long q5), .second, .val (.int v1), .val (.int v109), .val (.ref b110), .val (.int (1 : Int32))] [(.int (1 : Int32))])
            refine g_iload X153 hx hby i0_156 rfl ?_
            refine g_icmp_ne X153 hx hby i0_158 (fun c158_154 => False.elim (absurd c158_154 (by decide))) fun c158_154 => ?_
            refine g_iconst X153 hx hby i0_161 (z := (1 : Int32)) (by decide) ?_
            refine g_goto X153 hx hby i0_162 ?_
            refine g_ireturnN X153 hx hby (ty := .boolean) hret (by simp) hlk i0_166 (by decide) (by decide) ?_
            exact ⟨_, rfl, rfl, N0⟩
        · refine g_aload X142 hx hby i0_79 rfl rfl ?_
          refine g_iconst X142 hx hby i0_81 (z := (2 : Int32)) (by decide) ?_
          refine g_lload X142 hx hby i0_82 rfl ?_
          refine g_callS0 X142 hx hby hZ (y := (⟨"com/example/value_generalizer/valuegeneralizer/ColumnLevelsLowestPinLaw", "pos", "(J)J"⟩ : MethodName)) (argsL := [(.long q4)]) (rest := [(.int (2 : Int32)), (.ref b110)]) hown (hw _ (List.mem_of_getElem? (i := 12) rfl)) (hw _ (List.mem_of_getElem? (i := 13) rfl)) (hw _ (List.mem_of_getElem? (i := 14) rfl)) (hw _ (List.mem_of_getElem? (i := 15) rfl)) (by decide) (rm3 l Z a0 hw [] q4 T142.heap n0 Z0) rfl (by rw [hml]; rfl) pd_1 rfl rfl i0_84 (by decide) 2 rfl (by decide) (by decide) (by decide) fun T155 v155 L155 X155 q155 => ?_
          obtain ⟨_, rfl, rfl, e155, N155⟩ := q155
          have N0 := Fr.app N0 N155
          show Gd p e below _ T155 (mkF m 87 #[.val (.int p0), .val (.int p1), .val (.long q2), .second, .val (.long q3), .second, .val (.long q4), .second, .val (.long q5), .second, .val (.int v1), .val (.int v109), .val (.ref b110), .unset] [(.long (own_pos q4)), (.int (2 : Int32)), (.ref b110)])
          refine g_callV0 X155 hx hby hZ (y0 := (⟨"com/example/value_generalizer/valuegeneralizer/ColumnLevels", "add", "(IJ)V"⟩ : MethodName)) (y := (⟨"com/example/value_generalizer/valuegeneralizer/ColumnLevels", "add", "(IJ)V"⟩ : MethodName)) (argsL := [(.int (2 : Int32)), (.long (own_pos q4))]) (rest := []) hown (hw _ (List.mem_of_getElem? (i := 17) rfl)) (hw _ (List.mem_of_getElem? (i := 18) rfl)) (notFace_of_selects (args := #[]) (mvT hZ (hw _ (List.mem_of_getElem? (i := 20) rfl)))) (hw _ (List.mem_of_getElem? (i := 20) rfl)) (hw _ (List.mem_of_getElem? (i := 19) rfl)) (hw _ (List.mem_of_getElem? (i := 2) rfl)) (hw _ (List.mem_of_getElem? (i := 21) rfl)) (by decide) (a := b110) A110 (rm4 l Z a0 hw [] b110 (2 : Int32) (own_pos q4) b111 k111 (v1 + (1 : Int32)) [(.long (0 : Int64)), (.long ((0 : Int64) + (own_pos q3))), (.long (0 : Int64)), (.long (0 : Int64))] (.long (0 : Int64)) 2 (0 : Int64) ((0 : Int64) + (own_pos q3)) T142.heap n0 Z0 A110 F_r F_t V g_b110 g_b111 ne_b110_b111 (by decide) ((own_z okh).2.2.2.2.1 (ok4 c76_143)) (by decide) (by simp) rfl) e155 (by rw [hml]; rfl) pd_2 rfl rfl i0_87 (by decide) 0 rfl (by decide) (by decide) (by decide) fun T156 v156 L156 X156 q156 => ?_
          obtain ⟨rfl, K156, -, F_r, F_t, V, N156⟩ := q156
          have N0 := Fr.app N0 N156
          have A110 := A110.keep K156
          have Z0 : n0 ≤ T156.heap.size := Nat.le_trans Z0 K156.1
          have V : Arv Z T156.heap b111 k111 .long (v1 + (1 : Int32)) [(.long (0 : Int64)), (.long ((0 : Int64) + (own_pos q3))), (.long ((0 : Int64) + (own_pos q4))), (.long (0 : Int64))] (.long (0 : Int64)) := V
          show Gd p e below _ T156 (mkF m 90 #[.val (.int p0), .val (.int p1), .val (.long q2), .second, .val (.long q3), .second, .val (.long q4), .second, .val (.long q5), .second, .val (.int v1), .val (.int v109), .val (.ref b110), .unset] [])
          refine g_iload X156 hx hby i0_90 rfl ?_
          refine g_bipush X156 hx hby i0_92 (z := (8 : Int32)) (by decide) ?_
          refine g_iand X156 hx hby i0_94 ?_
          refine g_if_eq X156 hx hby i0_95 (fun c95_157 => ?_) (fun c95_157 => ?_)
          · refine g_iload X156 hx hby i0_109 rfl ?_
            refine g_iconst X156 hx hby i0_111 (z := (1 : Int32)) (by decide) ?_
            refine g_iand X156 hx hby i0_112 ?_
            refine g_if_eq X156 hx hby i0_113 (fun c113_158 => ?_) (fun c113_158 => False.elim (c113_158 c41_112))
            refine g_iload X156 hx hby i0_122 rfl ?_
            refine g_iconst X156 hx hby i0_124 (z := (2 : Int32)) (by decide) ?_
            refine g_iand X156 hx hby i0_125 ?_
            refine g_if_eq X156 hx hby i0_126 (fun c126_159 => False.elim (c58_113 c126_159)) fun c126_159 => ?_
            refine g_iconst X156 hx hby i0_129 (z := (1 : Int32)) (by decide) ?_
            refine g_istore X156 hx hby i0_130 (l' := #[.val (.int p0), .val (.int p1), .val (.long q2), .second, .val (.long q3), .second, .val (.long q4), .second, .val (.long q5), .second, .val (.int v1), .val (.int v109), .val (.ref b110), .val (.int (1 : Int32))]) rfl ?_
            refine g_goto X156 hx hby i0_132 ?_
            refine g_aload X156 hx hby i0_151 rfl rfl ?_
            refine g_callV0 X156 hx hby hZ (y0 := (⟨"com/example/value_generalizer/valuegeneralizer/ColumnLevels", "lowest", "()I"⟩ : MethodName)) (y := (⟨"com/example/value_generalizer/valuegeneralizer/ColumnLevels", "lowest", "()I"⟩ : MethodName)) (argsL := []) (rest := []) hown (hw _ (List.mem_of_getElem? (i := 24) rfl)) (hw _ (List.mem_of_getElem? (i := 25) rfl)) (notFace_of_selects (args := #[]) (mvT hZ (hw _ (List.mem_of_getElem? (i := 27) rfl)))) (hw _ (List.mem_of_getElem? (i := 27) rfl)) (hw _ (List.mem_of_getElem? (i := 26) rfl)) (hw _ (List.mem_of_getElem? (i := 2) rfl)) (hw _ (List.mem_of_getElem? (i := 28) rfl)) (by decide) (a := b110) A110 (rm5_1 l Z a0 hw [] b110 b111 k111 (v1 + (1 : Int32)) (0 : Int64) ((0 : Int64) + (own_pos q3)) ((0 : Int64) + (own_pos q4)) (0 : Int64) T156.heap n0 Z0 F_r V ((own_z okh).2.2.2.1 (ok2 c58_113)) rfl (own_pos_ne _)) rfl (by rw [hml]; rfl) pd_3 rfl rfl i0_153 (by decide) 0 rfl (by decide) (by decide) (by decide) fun T160 v160 L160 X160 q160 => ?_
            obtain ⟨_, rfl, rfl, e160, N160⟩ := q160
            have N0 := Fr.app N0 N160
            show Gd p e below _ T160 (mkF m 156 #[.val (.int p0), .val (.int p1), .val (.long q2), .second, .val (.long q3), .second, .val (.long q4), .second, .val (.long q5), .second, .val (.int v1), .val (.int v109), .val (.ref b110), .val (.int (1 : Int32))] [(.int (1 : Int32))])
            refine g_iload X160 hx hby i0_156 rfl ?_
            refine g_icmp_ne X160 hx hby i0_158 (fun c158_161 => False.elim (absurd c158_161 (by decide))) fun c158_161 => ?_
            refine g_iconst X160 hx hby i0_161 (z := (1 : Int32)) (by decide) ?_
            refine g_goto X160 hx hby i0_162 ?_
            refine g_ireturnN X160 hx hby (ty := .boolean) hret (by simp) hlk i0_166 (by decide) (by decide) ?_
            exact ⟨_, rfl, rfl, N0⟩
          · refine g_aload X156 hx hby i0_98 rfl rfl ?_
            refine g_iconst X156 hx hby i0_100 (z := (3 : Int32)) (by decide) ?_
            refine g_lload X156 hx hby i0_101 rfl ?_
            refine g_callS0 X156 hx hby hZ (y := (⟨"com/example/value_generalizer/valuegeneralizer/ColumnLevelsLowestPinLaw", "pos", "(J)J"⟩ : MethodName)) (argsL := [(.long q5)]) (rest := [(.int (3 : Int32)), (.ref b110)]) hown (hw _ (List.mem_of_getElem? (i := 12) rfl)) (hw _ (List.mem_of_getElem? (i := 13) rfl)) (hw _ (List.mem_of_getElem? (i := 14) rfl)) (hw _ (List.mem_of_getElem? (i := 15) rfl)) (by decide) (rm3 l Z a0 hw [] q5 T156.heap n0 Z0) rfl (by rw [hml]; rfl) pd_1 rfl rfl i0_103 (by decide) 2 rfl (by decide) (by decide) (by decide) fun T162 v162 L162 X162 q162 => ?_
            obtain ⟨_, rfl, rfl, e162, N162⟩ := q162
            have N0 := Fr.app N0 N162
            show Gd p e below _ T162 (mkF m 106 #[.val (.int p0), .val (.int p1), .val (.long q2), .second, .val (.long q3), .second, .val (.long q4), .second, .val (.long q5), .second, .val (.int v1), .val (.int v109), .val (.ref b110), .unset] [(.long (own_pos q5)), (.int (3 : Int32)), (.ref b110)])
            refine g_callV0 X162 hx hby hZ (y0 := (⟨"com/example/value_generalizer/valuegeneralizer/ColumnLevels", "add", "(IJ)V"⟩ : MethodName)) (y := (⟨"com/example/value_generalizer/valuegeneralizer/ColumnLevels", "add", "(IJ)V"⟩ : MethodName)) (argsL := [(.int (3 : Int32)), (.long (own_pos q5))]) (rest := []) hown (hw _ (List.mem_of_getElem? (i := 17) rfl)) (hw _ (List.mem_of_getElem? (i := 18) rfl)) (notFace_of_selects (args := #[]) (mvT hZ (hw _ (List.mem_of_getElem? (i := 20) rfl)))) (hw _ (List.mem_of_getElem? (i := 20) rfl)) (hw _ (List.mem_of_getElem? (i := 19) rfl)) (hw _ (List.mem_of_getElem? (i := 2) rfl)) (hw _ (List.mem_of_getElem? (i := 21) rfl)) (by decide) (a := b110) A110 (rm4 l Z a0 hw [] b110 (3 : Int32) (own_pos q5) b111 k111 (v1 + (1 : Int32)) [(.long (0 : Int64)), (.long ((0 : Int64) + (own_pos q3))), (.long ((0 : Int64) + (own_pos q4))), (.long (0 : Int64))] (.long (0 : Int64)) 3 (0 : Int64) (((0 : Int64) + (own_pos q3)) + (own_pos q4)) T156.heap n0 Z0 A110 F_r F_t V g_b110 g_b111 ne_b110_b111 (by decide) ((own_z okh).2.2.2.2.2 (ok8 c95_157)) (by decide) (by simp) rfl) e162 (by rw [hml]; rfl) pd_2 rfl rfl i0_106 (by decide) 0 rfl (by decide) (by decide) (by decide) fun T163 v163 L163 X163 q163 => ?_
            obtain ⟨rfl, K163, -, F_r, F_t, V, N163⟩ := q163
            have N0 := Fr.app N0 N163
            have A110 := A110.keep K163
            have Z0 : n0 ≤ T163.heap.size := Nat.le_trans Z0 K163.1
            have V : Arv Z T163.heap b111 k111 .long (v1 + (1 : Int32)) [(.long (0 : Int64)), (.long ((0 : Int64) + (own_pos q3))), (.long ((0 : Int64) + (own_pos q4))), (.long ((0 : Int64) + (own_pos q5)))] (.long (0 : Int64)) := V
            show Gd p e below _ T163 (mkF m 109 #[.val (.int p0), .val (.int p1), .val (.long q2), .second, .val (.long q3), .second, .val (.long q4), .second, .val (.long q5), .second, .val (.int v1), .val (.int v109), .val (.ref b110), .unset] [])
            refine g_iload X163 hx hby i0_109 rfl ?_
            refine g_iconst X163 hx hby i0_111 (z := (1 : Int32)) (by decide) ?_
            refine g_iand X163 hx hby i0_112 ?_
            refine g_if_eq X163 hx hby i0_113 (fun c113_164 => ?_) (fun c113_164 => False.elim (c113_164 c41_112))
            refine g_iload X163 hx hby i0_122 rfl ?_
            refine g_iconst X163 hx hby i0_124 (z := (2 : Int32)) (by decide) ?_
            refine g_iand X163 hx hby i0_125 ?_
            refine g_if_eq X163 hx hby i0_126 (fun c126_165 => False.elim (c58_113 c126_165)) fun c126_165 => ?_
            refine g_iconst X163 hx hby i0_129 (z := (1 : Int32)) (by decide) ?_
            refine g_istore X163 hx hby i0_130 (l' := #[.val (.int p0), .val (.int p1), .val (.long q2), .second, .val (.long q3), .second, .val (.long q4), .second, .val (.long q5), .second, .val (.int v1), .val (.int v109), .val (.ref b110), .val (.int (1 : Int32))]) rfl ?_
            refine g_goto X163 hx hby i0_132 ?_
            refine g_aload X163 hx hby i0_151 rfl rfl ?_
            refine g_callV0 X163 hx hby hZ (y0 := (⟨"com/example/value_generalizer/valuegeneralizer/ColumnLevels", "lowest", "()I"⟩ : MethodName)) (y := (⟨"com/example/value_generalizer/valuegeneralizer/ColumnLevels", "lowest", "()I"⟩ : MethodName)) (argsL := []) (rest := []) hown (hw _ (List.mem_of_getElem? (i := 24) rfl)) (hw _ (List.mem_of_getElem? (i := 25) rfl)) (notFace_of_selects (args := #[]) (mvT hZ (hw _ (List.mem_of_getElem? (i := 27) rfl)))) (hw _ (List.mem_of_getElem? (i := 27) rfl)) (hw _ (List.mem_of_getElem? (i := 26) rfl)) (hw _ (List.mem_of_getElem? (i := 2) rfl)) (hw _ (List.mem_of_getElem? (i := 28) rfl)) (by decide) (a := b110) A110 (rm5_1 l Z a0 hw [] b110 b111 k111 (v1 + (1 : Int32)) (0 : Int64) ((0 : Int64) + (own_pos q3)) ((0 : Int64) + (own_pos q4)) ((0 : Int64) + (own_pos q5)) T163.heap n0 Z0 F_r V ((own_z okh).2.2.2.1 (ok2 c58_113)) rfl (own_pos_ne _)) rfl (by rw [hml]; rfl) pd_3 rfl rfl i0_153 (by decide) 0 rfl (by decide) (by decide) (by decide) fun T166 v166 L166 X166 q166 => ?_
            obtain ⟨_, rfl, rfl, e166, N166⟩ := q166
            have N0 := Fr.app N0 N166
            show Gd p e below _ T166 (mkF m 156 #[.val (.int p0), .val (.int p1), .val (.long q2), .second, .val (.long q3), .second, .val (.long q4), .second, .val (.long q5), .second, .val (.int v1), .val (.int v109), .val (.ref b110), .val (.int (1 : Int32))] [(.int (1 : Int32))])
            refine g_iload X166 hx hby i0_156 rfl ?_
            refine g_icmp_ne X166 hx hby i0_158 (fun c158_167 => False.elim (absurd c158_167 (by decide))) fun c158_167 => ?_
            refine g_iconst X166 hx hby i0_161 (z := (1 : Int32)) (by decide) ?_
            refine g_goto X166 hx hby i0_162 ?_
            refine g_ireturnN X166 hx hby (ty := .boolean) hret (by simp) hlk i0_166 (by decide) (by decide) ?_
            exact ⟨_, rfl, rfl, N0⟩
    · refine g_aload X111 hx hby i0_44 rfl rfl ?_
      refine g_iconst X111 hx hby i0_46 (z := (0 : Int32)) (by decide) ?_
      refine g_lloadN X111 hx hby i0_47 rfl ?_
      refine g_callS0 X111 hx hby hZ (y := (⟨"com/example/value_generalizer/valuegeneralizer/ColumnLevelsLowestPinLaw", "pos", "(J)J"⟩ : MethodName)) (argsL := [(.long q2)]) (rest := [(.int (0 : Int32)), (.ref b110)]) hown (hw _ (List.mem_of_getElem? (i := 12) rfl)) (hw _ (List.mem_of_getElem? (i := 13) rfl)) (hw _ (List.mem_of_getElem? (i := 14) rfl)) (hw _ (List.mem_of_getElem? (i := 15) rfl)) (by decide) (rm3 l Z a0 hw [] q2 T111.heap n0 Z0) rfl (by rw [hml]; rfl) pd_1 rfl rfl i0_48 (by decide) 2 rfl (by decide) (by decide) (by decide) fun T168 v168 L168 X168 q168 => ?_
      obtain ⟨_, rfl, rfl, e168, N168⟩ := q168
      have N0 := Fr.app N0 N168
      show Gd p e below _ T168 (mkF m 51 #[.val (.int p0), .val (.int p1), .val (.long q2), .second, .val (.long q3), .second, .val (.long q4), .second, .val (.long q5), .second, .val (.int v1), .val (.int v109), .val (.ref b110), .unset] [(.long (own_pos q2)), (.int (0 : Int32)), (.ref b110)])
      refine g_callV0 X168 hx hby hZ (y0 := (⟨"com/example/value_generalizer/valuegeneralizer/ColumnLevels", "add", "(IJ)V"⟩ : MethodName)) (y := (⟨"com/example/value_generalizer/valuegeneralizer/ColumnLevels", "add", "(IJ)V"⟩ : MethodName)) (argsL := [(.int (0 : Int32)), (.long (own_pos q2))]) (rest := []) hown (hw _ (List.mem_of_getElem? (i := 17) rfl)) (hw _ (List.mem_of_getElem? (i := 18) rfl)) (notFace_of_selects (args := #[]) (mvT hZ (hw _ (List.mem_of_getElem? (i := 20) rfl)))) (hw _ (List.mem_of_getElem? (i := 20) rfl)) (hw _ (List.mem_of_getElem? (i := 19) rfl)) (hw _ (List.mem_of_getElem? (i := 2) rfl)) (hw _ (List.mem_of_getElem? (i := 21) rfl)) (by decide) (a := b110) A110 (rm4 l Z a0 hw [] b110 (0 : Int32) (own_pos q2) b111 k111 (v1 + (1 : Int32)) [(.long (0 : Int64)), (.long (0 : Int64)), (.long (0 : Int64)), (.long (0 : Int64))] (.long (0 : Int64)) 0 (0 : Int64) (0 : Int64) T111.heap n0 Z0 A110 F_r F_t V g_b110 g_b111 ne_b110_b111 (by decide) (own_z okh).2.2.1 (by decide) (by simp) rfl) e168 (by rw [hml]; rfl) pd_2 rfl rfl i0_51 (by decide) 0 rfl (by decide) (by decide) (by decide) fun T169 v169 L169 X169 q169 => ?_
      obtain ⟨rfl, K169, -, F_r, F_t, V, N169⟩ := q169
      have N0 := Fr.app N0 N169
      have A110 := A110.keep K169
      have Z0 : n0 ≤ T169.heap.size := Nat.le_trans Z0 K169.1
      have V : Arv Z T169.heap b111 k111 .long (v1 + (1 : Int32)) [(.long ((0 : Int64) + (own_pos q2))), (.long (0 : Int64)), (.long (0 : Int64)), (.long (0 : Int64))] (.long (0 : Int64)) := V
      show Gd p e below _ T169 (mkF m 54 #[.val (.int p0), .val (.int p1), .val (.long q2), .second, .val (.long q3), .second, .val (.long q4), .second, .val (.long q5), .second, .val (.int v1), .val (.int v109), .val (.ref b110), .unset] [])
      refine g_iload X169 hx hby i0_54 rfl ?_
      refine g_iconst X169 hx hby i0_56 (z := (2 : Int32)) (by decide) ?_
      refine g_iand X169 hx hby i0_57 ?_
      refine g_if_eq X169 hx hby i0_58 (fun c58_170 => ?_) (fun c58_170 => ?_)
      · refine g_iload X169 hx hby i0_72 rfl ?_
        refine g_iconst X169 hx hby i0_74 (z := (4 : Int32)) (by decide) ?_
        refine g_iand X169 hx hby i0_75 ?_
        refine g_if_eq X169 hx hby i0_76 (fun c76_171 => ?_) (fun c76_171 => ?_)
        · refine g_iload X169 hx hby i0_90 rfl ?_
          refine g_bipush X169 hx hby i0_92 (z := (8 : Int32)) (by decide) ?_
          refine g_iand X169 hx hby i0_94 ?_
          refine g_if_eq X169 hx hby i0_95 (fun c95_172 => ?_) (fun c95_172 => ?_)
          · refine g_iload X169 hx hby i0_109 rfl ?_
            refine g_iconst X169 hx hby i0_111 (z := (1 : Int32)) (by decide) ?_
            refine g_iand X169 hx hby i0_112 ?_
            refine g_if_eq X169 hx hby i0_113 (fun c113_173 => False.elim (c41_112 c113_173)) fun c113_173 => ?_
            refine g_iconst X169 hx hby i0_116 (z := (0 : Int32)) (by decide) ?_
            refine g_istore X169 hx hby i0_117 (l' := #[.val (.int p0), .val (.int p1), .val (.long q2), .second, .val (.long q3), .second, .val (.long q4), .second, .val (.long q5), .second, .val (.int v1), .val (.int v109), .val (.ref b110), .val (.int (0 : Int32))]) rfl ?_
            refine g_goto X169 hx hby i0_119 ?_
            refine g_aload X169 hx hby i0_151 rfl rfl ?_
            refine g_callV0 X169 hx hby hZ (y0 := (⟨"com/example/value_generalizer/valuegeneralizer/ColumnLevels", "lowest", "()I"⟩ : MethodName)) (y := (⟨"com/example/value_generalizer/valuegeneralizer/ColumnLevels", "lowest", "()I"⟩ : MethodName)) (argsL := []) (rest := []) hown (hw _ (List.mem_of_getElem? (i := 24) rfl)) (hw _ (List.mem_of_getElem? (i := 25) rfl)) (notFace_of_selects (args := #[]) (mvT hZ (hw _ (List.mem_of_getElem? (i := 27) rfl)))) (hw _ (List.mem_of_getElem? (i := 27) rfl)) (hw _ (List.mem_of_getElem? (i := 26) rfl)) (hw _ (List.mem_of_getElem? (i := 2) rfl)) (hw _ (List.mem_of_getElem? (i := 28) rfl)) (by decide) (a := b110) A110 (rm5_0 l Z a0 hw [] b110 b111 k111 (v1 + (1 : Int32)) ((0 : Int64) + (own_pos q2)) (0 : Int64) (0 : Int64) (0 : Int64) T169.heap n0 Z0 F_r V (own_z okh).2.2.1 (own_pos_ne _)) rfl (by rw [hml]; rfl) pd_3 rfl rfl i0_153 (by decide) 0 rfl (by decide) (by decide) (by decide) fun T174 v174 L174 X174 q174 => ?_
            obtain ⟨_, rfl, rfl, e174, N174⟩ := q174
            have N0 := Fr.app N0 N174
            show Gd p e below _ T174 (mkF m 156 #[.val (.int p0), .val (.int p1), .val (.long q2), .second, .val (.long q3), .second, .val (.long q4), .second, .val (.long q5), .second, .val (.int v1), .val (.int v109), .val (.ref b110), .val (.int (0 : Int32))] [(.int (0 : Int32))])
            refine g_iload X174 hx hby i0_156 rfl ?_
            refine g_icmp_ne X174 hx hby i0_158 (fun c158_175 => False.elim (absurd c158_175 (by decide))) fun c158_175 => ?_
            refine g_iconst X174 hx hby i0_161 (z := (1 : Int32)) (by decide) ?_
            refine g_goto X174 hx hby i0_162 ?_
            refine g_ireturnN X174 hx hby (ty := .boolean) hret (by simp) hlk i0_166 (by decide) (by decide) ?_
            exact ⟨_, rfl, rfl, N0⟩
          · refine g_aload X169 hx hby i0_98 rfl rfl ?_
            refine g_iconst X169 hx hby i0_100 (z := (3 : Int32)) (by decide) ?_
            refine g_lload X169 hx hby i0_101 rfl ?_
            refine g_callS0 X169 hx hby hZ (y := (⟨"com/example/value_generalizer/valuegeneralizer/ColumnLevelsLowestPinLaw", "pos", "(J)J"⟩ : MethodName)) (argsL := [(.long q5)]) (rest := [(.int (3 : Int32)), (.ref b110)]) hown (hw _ (List.mem_of_getElem? (i := 12) rfl)) (hw _ (List.mem_of_getElem? (i := 13) rfl)) (hw _ (List.mem_of_getElem? (i := 14) rfl)) (hw _ (List.mem_of_getElem? (i := 15) rfl)) (by decide) (rm3 l Z a0 hw [] q5 T169.heap n0 Z0) rfl (by rw [hml]; rfl) pd_1 rfl rfl i0_103 (by decide) 2 rfl (by decide) (by decide) (by decide) fun T176 v176 L176 X176 q176 => ?_
            obtain ⟨_, rfl, rfl, e176, N176⟩ := q176
            have N0 := Fr.app N0 N176
            show Gd p e below _ T176 (mkF m 106 #[.val (.int p0), .val (.int p1), .val (.long q2), .second, .val (.long q3), .second, .val (.long q4), .second, .val (.long q5), .second, .val (.int v1), .val (.int v109), .val (.ref b110), .unset] [(.long (own_pos q5)), (.int (3 : Int32)), (.ref b110)])
            refine g_callV0 X176 hx hby hZ (y0 := (⟨"com/example/value_generalizer/valuegeneralizer/ColumnLevels", "add", "(IJ)V"⟩ : MethodName)) (y := (⟨"com/example/value_generalizer/valuegeneralizer/ColumnLevels", "add", "(IJ)V"⟩ : MethodName)) (argsL := [(.int (3 : Int32)), (.long (own_pos q5))]) (rest := []) hown (hw _ (List.mem_of_getElem? (i := 17) rfl)) (hw _ (List.mem_of_getElem? (i := 18) rfl)) (notFace_of_selects (args := #[]) (mvT hZ (hw _ (List.mem_of_getElem? (i := 20) rfl)))) (hw _ (List.mem_of_getElem? (i := 20) rfl)) (hw _ (List.mem_of_getElem? (i := 19) rfl)) (hw _ (List.mem_of_getElem? (i := 2) rfl)) (hw _ (List.mem_of_getElem? (i := 21) rfl)) (by decide) (a := b110) A110 (rm4 l Z a0 hw [] b110 (3 : Int32) (own_pos q5) b111 k111 (v1 + (1 : Int32)) [(.long ((0 : Int64) + (own_pos q2))), (.long (0 : Int64)), (.long (0 : Int64)), (.long (0 : Int64))] (.long (0 : Int64)) 3 (0 : Int64) ((0 : Int64) + (own_pos q2)) T169.heap n0 Z0 A110 F_r F_t V g_b110 g_b111 ne_b110_b111 (by decide) ((own_z okh).2.2.2.2.2 (ok8 c95_172)) (by decide) (by simp) rfl) e176 (by rw [hml]; rfl) pd_2 rfl rfl i0_106 (by decide) 0 rfl (by decide) (by decide) (by decide) fun T177 v177 L177 X177 q177 => ?_
            obtain ⟨rfl, K177, -, F_r, F_t, V, N177⟩ := q177
            have N0 := Fr.app N0 N177
            have A110 := A110.keep K177
            have Z0 : n0 ≤ T177.heap.size := Nat.le_trans Z0 K177.1
            have V : Arv Z T177.heap b111 k111 .long (v1 + (1 : Int32)) [(.long ((0 : Int64) + (own_pos q2))), (.long (0 : Int64)), (.long (0 : Int64)), (.long ((0 : Int64) + (own_pos q5)))] (.long (0 : Int64)) := V
            show Gd p e below _ T177 (mkF m 109 #[.val (.int p0), .val (.int p1), .val (.long q2), .second, .val (.long q3), .second, .val (.long q4), .second, .val (.long q5), .second, .val (.int v1), .val (.int v109), .val (.ref b110), .unset] [])
            refine g_iload X177 hx hby i0_109 rfl ?_
            refine g_iconst X177 hx hby i0_111 (z := (1 : Int32)) (by decide) ?_
            refine g_iand X177 hx hby i0_112 ?_
            refine g_if_eq X177 hx hby i0_113 (fun c113_178 => False.elim (c41_112 c113_178)) fun c113_178 => ?_
            refine g_iconst X177 hx hby i0_116 (z := (0 : Int32)) (by decide) ?_
            refine g_istore X177 hx hby i0_117 (l' := #[.val (.int p0), .val (.int p1), .val (.long q2), .second, .val (.long q3), .second, .val (.long q4), .second, .val (.long q5), .second, .val (.int v1), .val (.int v109), .val (.ref b110), .val (.int (0 : Int32))]) rfl ?_
            refine g_goto X177 hx hby i0_119 ?_
            refine g_aload X177 hx hby i0_151 rfl rfl ?_
            refine g_callV0 X177 hx hby hZ (y0 := (⟨"com/example/value_generalizer/valuegeneralizer/ColumnLevels", "lowest", "()I"⟩ : MethodName)) (y := (⟨"com/example/value_generalizer/valuegeneralizer/ColumnLevels", "lowest", "()I"⟩ : MethodName)) (argsL := []) (rest := []) hown (hw _ (List.mem_of_getElem? (i := 24) rfl)) (hw _ (List.mem_of_getElem? (i := 25) rfl)) (notFace_of_selects (args := #[]) (mvT hZ (hw _ (List.mem_of_getElem? (i := 27) rfl)))) (hw _ (List.mem_of_getElem? (i := 27) rfl)) (hw _ (List.mem_of_getElem? (i := 26) rfl)) (hw _ (List.mem_of_getElem? (i := 2) rfl)) (hw _ (List.mem_of_getElem? (i := 28) rfl)) (by decide) (a := b110) A110 (rm5_0 l Z a0 hw [] b110 b111 k111 (v1 + (1 : Int32)) ((0 : Int64) + (own_pos q2)) (0 : Int64) (0 : Int64) ((0 : Int64) + (own_pos q5)) T177.heap n0 Z0 F_r V (own_z okh).2.2.1 (own_pos_ne _)) rfl (by rw [hml]; rfl) pd_3 rfl rfl i0_153 (by decide) 0 rfl (by decide) (by decide) (by decide) fun T179 v179 L179 X179 q179 => ?_
            obtain ⟨_, rfl, rfl, e179, N179⟩ := q179
            have N0 := Fr.app N0 N179
            show Gd p e below _ T179 (mkF m 156 #[.val (.int p0), .val (.int p1), .val (.long q2), .second, .val (.long q3), .second, .val (.long q4), .second, .val (.long q5), .second, .val (.int v1), .val (.int v109), .val (.ref b110), .val (.int (0 : Int32))] [(.int (0 : Int32))])
            refine g_iload X179 hx hby i0_156 rfl ?_
            refine g_icmp_ne X179 hx hby i0_158 (fun c158_180 => False.elim (absurd c158_180 (by decide))) fun c158_180 => ?_
            refine g_iconst X179 hx hby i0_161 (z := (1 : Int32)) (by decide) ?_
            refine g_goto X179 hx hby i0_162 ?_
            refine g_ireturnN X179 hx hby (ty := .boolean) hret (by simp) hlk i0_166 (by decide) (by decide) ?_
            exact ⟨_, rfl, rfl, N0⟩
        · refine g_aload X169 hx hby i0_79 rfl rfl ?_
          refine g_iconst X169 hx hby i0_81 (z := (2 : Int32)) (by decide) ?_
          refine g_lload X169 hx hby i0_82 rfl ?_
          refine g_callS0 X169 hx hby hZ (y := (⟨"com/example/value_generalizer/valuegeneralizer/ColumnLevelsLowestPinLaw", "pos", "(J)J"⟩ : MethodName)) (argsL := [(.long q4)]) (rest := [(.int (2 : Int32)), (.ref b110)]) hown (hw _ (List.mem_of_getElem? (i := 12) rfl)) (hw _ (List.mem_of_getElem? (i := 13) rfl)) (hw _ (List.mem_of_getElem? (i := 14) rfl)) (hw _ (List.mem_of_getElem? (i := 15) rfl)) (by decide) (rm3 l Z a0 hw [] q4 T169.heap n0 Z0) rfl (by rw [hml]; rfl) pd_1 rfl rfl i0_84 (by decide) 2 rfl (by decide) (by decide) (by decide) fun T181 v181 L181 X181 q181 => ?_
          obtain ⟨_, rfl, rfl, e181, N181⟩ := q181
          have N0 := Fr.app N0 N181
          show Gd p e below _ T181 (mkF m 87 #[.val (.int p0), .val (.int p1), .val (.long q2), .second, .val (.long q3), .second, .val (.long q4), .second, .val (.long q5), .second, .val (.int v1), .val (.int v109), .val (.ref b110), .unset] [(.long (own_pos q4)), (.int (2 : Int32)), (.ref b110)])
          refine g_callV0 X181 hx hby hZ (y0 := (⟨"com/example/value_generalizer/valuegeneralizer/ColumnLevels", "add", "(IJ)V"⟩ : MethodName)) (y := (⟨"com/example/value_generalizer/valuegeneralizer/ColumnLevels", "add", "(IJ)V"⟩ : MethodName)) (argsL := [(.int (2 : Int32)), (.long (own_pos q4))]) (rest := []) hown (hw _ (List.mem_of_getElem? (i := 17) rfl)) (hw _ (List.mem_of_getElem? (i := 18) rfl)) (notFace_of_selects (args := #[]) (mvT hZ (hw _ (List.mem_of_getElem? (i := 20) rfl)))) (hw _ (List.mem_of_getElem? (i := 20) rfl)) (hw _ (List.mem_of_getElem? (i := 19) rfl)) (hw _ (List.mem_of_getElem? (i := 2) rfl)) (hw _ (List.mem_of_getElem? (i := 21) rfl)) (by decide) (a := b110) A110 (rm4 l Z a0 hw [] b110 (2 : Int32) (own_pos q4) b111 k111 (v1 + (1 : Int32)) [(.long ((0 : Int64) + (own_pos q2))), (.long (0 : Int64)), (.long (0 : Int64)), (.long (0 : Int64))] (.long (0 : Int64)) 2 (0 : Int64) ((0 : Int64) + (own_pos q2)) T169.heap n0 Z0 A110 F_r F_t V g_b110 g_b111 ne_b110_b111 (by decide) ((own_z okh).2.2.2.2.1 (ok4 c76_171)) (by decide) (by simp) rfl) e181 (by rw [hml]; rfl) pd_2 rfl rfl i0_87 (by decide) 0 rfl (by decide) (by decide) (by decide) fun T182 v182 L182 X182 q182 => ?_
          obtain ⟨rfl, K182, -, F_r, F_t, V, N182⟩ := q182
          have N0 := Fr.app N0 N182
          have A110 := A110.keep K182
          have Z0 : n0 ≤ T182.heap.size := Nat.le_trans Z0 K182.1
          have V : Arv Z T182.heap b111 k111 .long (v1 + (1 : Int32)) [(.long ((0 : Int64) + (own_pos q2))), (.long (0 : Int64)), (.long ((0 : Int64) + (own_pos q4))), (.long (0 : Int64))] (.long (0 : Int64)) := V
          show Gd p e below _ T182 (mkF m 90 #[.val (.int p0), .val (.int p1), .val (.long q2), .second, .val (.long q3), .second, .val (.long q4), .second, .val (.long q5), .second, .val (.int v1), .val (.int v109), .val (.ref b110), .unset] [])
          refine g_iload X182 hx hby i0_90 rfl ?_
          refine g_bipush X182 hx hby i0_92 (z := (8 : Int32)) (by decide) ?_
          refine g_iand X182 hx hby i0_94 ?_
          refine g_if_eq X182 hx hby i0_95 (fun c95_183 => ?_) (fun c95_183 => ?_)
          · refine g_iload X182 hx hby i0_109 rfl ?_
            refine g_iconst X182 hx hby i0_111 (z := (1 : Int32)) (by decide) ?_
            refine g_iand X182 hx hby i0_112 ?_
            refine g_if_eq X182 hx hby i0_113 (fun c113_184 => False.elim (c41_112 c113_184)) fun c113_184 => ?_
            refine g_iconst X182 hx hby i0_116 (z := (0 : Int32)) (by decide) ?_
            refine g_istore X182 hx hby i0_117 (l' := #[.val (.int p0), .val (.int p1), .val (.long q2), .second, .val (.long q3), .second, .val (.long q4), .second, .val (.long q5), .second, .val (.int v1), .val (.int v109), .val (.ref b110), .val (.int (0 : Int32))]) rfl ?_
            refine g_goto X182 hx hby i0_119 ?_
            refine g_aload X182 hx hby i0_151 rfl rfl ?_
            refine g_callV0 X182 hx hby hZ (y0 := (⟨"com/example/value_generalizer/valuegeneralizer/ColumnLevels", "lowest", "()I"⟩ : MethodName)) (y := (⟨"com/example/value_generalizer/valuegeneralizer/ColumnLevels", "lowest", "()I"⟩ : MethodName)) (argsL := []) (rest := []) hown (hw _ (List.mem_of_getElem? (i := 24) rfl)) (hw _ (List.mem_of_getElem? (i := 25) rfl)) (notFace_of_selects (args := #[]) (mvT hZ (hw _ (List.mem_of_getElem? (i := 27) rfl)))) (hw _ (List.mem_of_getElem? (i := 27) rfl)) (hw _ (List.mem_of_getElem? (i := 26) rfl)) (hw _ (List.mem_of_getElem? (i := 2) rfl)) (hw _ (List.mem_of_getElem? (i := 28) rfl)) (by decide) (a := b110) A110 (rm5_0 l Z a0 hw [] b110 b111 k111 (v1 + (1 : Int32)) ((0 : Int64) + (own_pos q2)) (0 : Int64) ((0 : Int64) + (own_pos q4)) (0 : Int64) T182.heap n0 Z0 F_r V (own_z okh).2.2.1 (own_pos_ne _)) rfl (by rw [hml]; rfl) pd_3 rfl rfl i0_153 (by decide) 0 rfl (by decide) (by decide) (by decide) fun T185 v185 L185 X185 q185 => ?_
            obtain ⟨_, rfl, rfl, e185, N185⟩ := q185
            have N0 := Fr.app N0 N185
            show Gd p e below _ T185 (mkF m 156 #[.val (.int p0), .val (.int p1), .val (.long q2), .second, .val (.long q3), .second, .val (.long q4), .second, .val (.long q5), .second, .val (.int v1), .val (.int v109), .val (.ref b110), .val (.int (0 : Int32))] [(.int (0 : Int32))])
            refine g_iload X185 hx hby i0_156 rfl ?_
            refine g_icmp_ne X185 hx hby i0_158 (fun c158_186 => False.elim (absurd c158_186 (by decide))) fun c158_186 => ?_
            refine g_iconst X185 hx hby i0_161 (z := (1 : Int32)) (by decide) ?_
            refine g_goto X185 hx hby i0_162 ?_
            refine g_ireturnN X185 hx hby (ty := .boolean) hret (by simp) hlk i0_166 (by decide) (by decide) ?_
            exact ⟨_, rfl, rfl, N0⟩
          · refine g_aload X182 hx hby i0_98 rfl rfl ?_
            refine g_iconst X182 hx hby i0_100 (z := (3 : Int32)) (by decide) ?_
            refine g_lload X182 hx hby i0_101 rfl ?_
            refine g_callS0 X182 hx hby hZ (y := (⟨"com/example/value_generalizer/valuegeneralizer/ColumnLevelsLowestPinLaw", "pos", "(J)J"⟩ : MethodName)) (argsL := [(.long q5)]) (rest := [(.int (3 : Int32)), (.ref b110)]) hown (hw _ (List.mem_of_getElem? (i := 12) rfl)) (hw _ (List.mem_of_getElem? (i := 13) rfl)) (hw _ (List.mem_of_getElem? (i := 14) rfl)) (hw _ (List.mem_of_getElem? (i := 15) rfl)) (by decide) (rm3 l Z a0 hw [] q5 T182.heap n0 Z0) rfl (by rw [hml]; rfl) pd_1 rfl rfl i0_103 (by decide) 2 rfl (by decide) (by decide) (by decide) fun T187 v187 L187 X187 q187 => ?_
            obtain ⟨_, rfl, rfl, e187, N187⟩ := q187
            have N0 := Fr.app N0 N187
            show Gd p e below _ T187 (mkF m 106 #[.val (.int p0), .val (.int p1), .val (.long q2), .second, .val (.long q3), .second, .val (.long q4), .second, .val (.long q5), .second, .val (.int v1), .val (.int v109), .val (.ref b110), .unset] [(.long (own_pos q5)), (.int (3 : Int32)), (.ref b110)])
            refine g_callV0 X187 hx hby hZ (y0 := (⟨"com/example/value_generalizer/valuegeneralizer/ColumnLevels", "add", "(IJ)V"⟩ : MethodName)) (y := (⟨"com/example/value_generalizer/valuegeneralizer/ColumnLevels", "add", "(IJ)V"⟩ : MethodName)) (argsL := [(.int (3 : Int32)), (.long (own_pos q5))]) (rest := []) hown (hw _ (List.mem_of_getElem? (i := 17) rfl)) (hw _ (List.mem_of_getElem? (i := 18) rfl)) (notFace_of_selects (args := #[]) (mvT hZ (hw _ (List.mem_of_getElem? (i := 20) rfl)))) (hw _ (List.mem_of_getElem? (i := 20) rfl)) (hw _ (List.mem_of_getElem? (i := 19) rfl)) (hw _ (List.mem_of_getElem? (i := 2) rfl)) (hw _ (List.mem_of_getElem? (i := 21) rfl)) (by decide) (a := b110) A110 (rm4 l Z a0 hw [] b110 (3 : Int32) (own_pos q5) b111 k111 (v1 + (1 : Int32)) [(.long ((0 : Int64) + (own_pos q2))), (.long (0 : Int64)), (.long ((0 : Int64) + (own_pos q4))), (.long (0 : Int64))] (.long (0 : Int64)) 3 (0 : Int64) (((0 : Int64) + (own_pos q2)) + (own_pos q4)) T182.heap n0 Z0 A110 F_r F_t V g_b110 g_b111 ne_b110_b111 (by decide) ((own_z okh).2.2.2.2.2 (ok8 c95_183)) (by decide) (by simp) rfl) e187 (by rw [hml]; rfl) pd_2 rfl rfl i0_106 (by decide) 0 rfl (by decide) (by decide) (by decide) fun T188 v188 L188 X188 q188 => ?_
            obtain ⟨rfl, K188, -, F_r, F_t, V, N188⟩ := q188
            have N0 := Fr.app N0 N188
            have A110 := A110.keep K188
            have Z0 : n0 ≤ T188.heap.size := Nat.le_trans Z0 K188.1
            have V : Arv Z T188.heap b111 k111 .long (v1 + (1 : Int32)) [(.long ((0 : Int64) + (own_pos q2))), (.long (0 : Int64)), (.long ((0 : Int64) + (own_pos q4))), (.long ((0 : Int64) + (own_pos q5)))] (.long (0 : Int64)) := V
            show Gd p e below _ T188 (mkF m 109 #[.val (.int p0), .val (.int p1), .val (.long q2), .second, .val (.long q3), .second, .val (.long q4), .second, .val (.long q5), .second, .val (.int v1), .val (.int v109), .val (.ref b110), .unset] [])
            refine g_iload X188 hx hby i0_109 rfl ?_
            refine g_iconst X188 hx hby i0_111 (z := (1 : Int32)) (by decide) ?_
            refine g_iand X188 hx hby i0_112 ?_
            refine g_if_eq X188 hx hby i0_113 (fun c113_189 => False.elim (c41_112 c113_189)) fun c113_189 => ?_
            refine g_iconst X188 hx hby i0_116 (z := (0 : Int32)) (by decide) ?_
            refine g_istore X188 hx hby i0_117 (l' := #[.val (.int p0), .val (.int p1), .val (.long q2), .second, .val (.long q3), .second, .val (.long q4), .second, .val (.long q5), .second, .val (.int v1), .val (.int v109), .val (.ref b110), .val (.int (0 : Int32))]) rfl ?_
            refine g_goto X188 hx hby i0_119 ?_
            refine g_aload X188 hx hby i0_151 rfl rfl ?_
            refine g_callV0 X188 hx hby hZ (y0 := (⟨"com/example/value_generalizer/valuegeneralizer/ColumnLevels", "lowest", "()I"⟩ : MethodName)) (y := (⟨"com/example/value_generalizer/valuegeneralizer/ColumnLevels", "lowest", "()I"⟩ : MethodName)) (argsL := []) (rest := []) hown (hw _ (List.mem_of_getElem? (i := 24) rfl)) (hw _ (List.mem_of_getElem? (i := 25) rfl)) (notFace_of_selects (args := #[]) (mvT hZ (hw _ (List.mem_of_getElem? (i := 27) rfl)))) (hw _ (List.mem_of_getElem? (i := 27) rfl)) (hw _ (List.mem_of_getElem? (i := 26) rfl)) (hw _ (List.mem_of_getElem? (i := 2) rfl)) (hw _ (List.mem_of_getElem? (i := 28) rfl)) (by decide) (a := b110) A110 (rm5_0 l Z a0 hw [] b110 b111 k111 (v1 + (1 : Int32)) ((0 : Int64) + (own_pos q2)) (0 : Int64) ((0 : Int64) + (own_pos q4)) ((0 : Int64) + (own_pos q5)) T188.heap n0 Z0 F_r V (own_z okh).2.2.1 (own_pos_ne _)) rfl (by rw [hml]; rfl) pd_3 rfl rfl i0_153 (by decide) 0 rfl (by decide) (by decide) (by decide) fun T190 v190 L190 X190 q190 => ?_
            obtain ⟨_, rfl, rfl, e190, N190⟩ := q190
            have N0 := Fr.app N0 N190
            show Gd p e below _ T190 (mkF m 156 #[.val (.int p0), .val (.int p1), .val (.long q2), .second, .val (.long q3), .second, .val (.long q4), .second, .val (.long q5), .second, .val (.int v1), .val (.int v109), .val (.ref b110), .val (.int (0 : Int32))] [(.int (0 : Int32))])
            refine g_iload X190 hx hby i0_156 rfl ?_
            refine g_icmp_ne X190 hx hby i0_158 (fun c158_191 => False.elim (absurd c158_191 (by decide))) fun c158_191 => ?_
            refine g_iconst X190 hx hby i0_161 (z := (1 : Int32)) (by decide) ?_
            refine g_goto X190 hx hby i0_162 ?_
            refine g_ireturnN X190 hx hby (ty := .boolean) hret (by simp) hlk i0_166 (by decide) (by decide) ?_
            exact ⟨_, rfl, rfl, N0⟩
      · refine g_aload X169 hx hby i0_61 rfl rfl ?_
        refine g_iconst X169 hx hby i0_63 (z := (1 : Int32)) (by decide) ?_
        refine g_lload X169 hx hby i0_64 rfl ?_
        refine g_callS0 X169 hx hby hZ (y := (⟨"com/example/value_generalizer/valuegeneralizer/ColumnLevelsLowestPinLaw", "pos", "(J)J"⟩ : MethodName)) (argsL := [(.long q3)]) (rest := [(.int (1 : Int32)), (.ref b110)]) hown (hw _ (List.mem_of_getElem? (i := 12) rfl)) (hw _ (List.mem_of_getElem? (i := 13) rfl)) (hw _ (List.mem_of_getElem? (i := 14) rfl)) (hw _ (List.mem_of_getElem? (i := 15) rfl)) (by decide) (rm3 l Z a0 hw [] q3 T169.heap n0 Z0) rfl (by rw [hml]; rfl) pd_1 rfl rfl i0_66 (by decide) 2 rfl (by decide) (by decide) (by decide) fun T192 v192 L192 X192 q192 => ?_
        obtain ⟨_, rfl, rfl, e192, N192⟩ := q192
        have N0 := Fr.app N0 N192
        show Gd p e below _ T192 (mkF m 69 #[.val (.int p0), .val (.int p1), .val (.long q2), .second, .val (.long q3), .second, .val (.long q4), .second, .val (.long q5), .second, .val (.int v1), .val (.int v109), .val (.ref b110), .unset] [(.long (own_pos q3)), (.int (1 : Int32)), (.ref b110)])
        refine g_callV0 X192 hx hby hZ (y0 := (⟨"com/example/value_generalizer/valuegeneralizer/ColumnLevels", "add", "(IJ)V"⟩ : MethodName)) (y := (⟨"com/example/value_generalizer/valuegeneralizer/ColumnLevels", "add", "(IJ)V"⟩ : MethodName)) (argsL := [(.int (1 : Int32)), (.long (own_pos q3))]) (rest := []) hown (hw _ (List.mem_of_getElem? (i := 17) rfl)) (hw _ (List.mem_of_getElem? (i := 18) rfl)) (notFace_of_selects (args := #[]) (mvT hZ (hw _ (List.mem_of_getElem? (i := 20) rfl)))) (hw _ (List.mem_of_getElem? (i := 20) rfl)) (hw _ (List.mem_of_getElem? (i := 19) rfl)) (hw _ (List.mem_of_getElem? (i := 2) rfl)) (hw _ (List.mem_of_getElem? (i := 21) rfl)) (by decide) (a := b110) A110 (rm4 l Z a0 hw [] b110 (1 : Int32) (own_pos q3) b111 k111 (v1 + (1 : Int32)) [(.long ((0 : Int64) + (own_pos q2))), (.long (0 : Int64)), (.long (0 : Int64)), (.long (0 : Int64))] (.long (0 : Int64)) 1 (0 : Int64) ((0 : Int64) + (own_pos q2)) T169.heap n0 Z0 A110 F_r F_t V g_b110 g_b111 ne_b110_b111 (by decide) ((own_z okh).2.2.2.1 (ok2 c58_170)) (by decide) (by simp) rfl) e192 (by rw [hml]; rfl) pd_2 rfl rfl i0_69 (by decide) 0 rfl (by decide) (by decide) (by decide) fun T193 v193 L193 X193 q193 => ?_
        obtain ⟨rfl, K193, -, F_r, F_t, V, N193⟩ := q193
        have N0 := Fr.app N0 N193
        have A110 := A110.keep K193
        have Z0 : n0 ≤ T193.heap.size := Nat.le_trans Z0 K193.1
        have V : Arv Z T193.heap b111 k111 .long (v1 + (1 : Int32)) [(.long ((0 : Int64) + (own_pos q2))), (.long ((0 : Int64) + (own_pos q3))), (.long (0 : Int64)), (.long (0 : Int64))] (.long (0 : Int64)) := V
        show Gd p e below _ T193 (mkF m 72 #[.val (.int p0), .val (.int p1), .val (.long q2), .second, .val (.long q3), .second, .val (.long q4), .second, .val (.long q5), .second, .val (.int v1), .val (.int v109), .val (.ref b110), .unset] [])
        refine g_iload X193 hx hby i0_72 rfl ?_
        refine g_iconst X193 hx hby i0_74 (z := (4 : Int32)) (by decide) ?_
        refine g_iand X193 hx hby i0_75 ?_
        refine g_if_eq X193 hx hby i0_76 (fun c76_194 => ?_) (fun c76_194 => ?_)
        · refine g_iload X193 hx hby i0_90 rfl ?_
          refine g_bipush X193 hx hby i0_92 (z := (8 : Int32)) (by decide) ?_
          refine g_iand X193 hx hby i0_94 ?_
          refine g_if_eq X193 hx hby i0_95 (fun c95_195 => ?_) (fun c95_195 => ?_)
          · refine g_iload X193 hx hby i0_109 rfl ?_
            refine g_iconst X193 hx hby i0_111 (z := (1 : Int32)) (by decide) ?_
            refine g_iand X193 hx hby i0_112 ?_
            refine g_if_eq X193 hx hby i0_113 (fun c113_196 => False.elim (c41_112 c113_196)) fun c113_196 => ?_
            refine g_iconst X193 hx hby i0_116 (z := (0 : Int32)) (by decide) ?_
            refine g_istore X193 hx hby i0_117 (l' := #[.val (.int p0), .val (.int p1), .val (.long q2), .second, .val (.long q3), .second, .val (.long q4), .second, .val (.long q5), .second, .val (.int v1), .val (.int v109), .val (.ref b110), .val (.int (0 : Int32))]) rfl ?_
            refine g_goto X193 hx hby i0_119 ?_
            refine g_aload X193 hx hby i0_151 rfl rfl ?_
            refine g_callV0 X193 hx hby hZ (y0 := (⟨"com/example/value_generalizer/valuegeneralizer/ColumnLevels", "lowest", "()I"⟩ : MethodName)) (y := (⟨"com/example/value_generalizer/valuegeneralizer/ColumnLevels", "lowest", "()I"⟩ : MethodName)) (argsL := []) (rest := []) hown (hw _ (List.mem_of_getElem? (i := 24) rfl)) (hw _ (List.mem_of_getElem? (i := 25) rfl)) (notFace_of_selects (args := #[]) (mvT hZ (hw _ (List.mem_of_getElem? (i := 27) rfl)))) (hw _ (List.mem_of_getElem? (i := 27) rfl)) (hw _ (List.mem_of_getElem? (i := 26) rfl)) (hw _ (List.mem_of_getElem? (i := 2) rfl)) (hw _ (List.mem_of_getElem? (i := 28) rfl)) (by decide) (a := b110) A110 (rm5_0 l Z a0 hw [] b110 b111 k111 (v1 + (1 : Int32)) ((0 : Int64) + (own_pos q2)) ((0 : Int64) + (own_pos q3)) (0 : Int64) (0 : Int64) T193.heap n0 Z0 F_r V (own_z okh).2.2.1 (own_pos_ne _)) rfl (by rw [hml]; rfl) pd_3 rfl rfl i0_153 (by decide) 0 rfl (by decide) (by decide) (by decide) fun T197 v197 L197 X197 q197 => ?_
            obtain ⟨_, rfl, rfl, e197, N197⟩ := q197
            have N0 := Fr.app N0 N197
            show Gd p e below _ T197 (mkF m 156 #[.val (.int p0), .val (.int p1), .val (.long q2), .second, .val (.long q3), .second, .val (.long q4), .second, .val (.long q5), .second, .val (.int v1), .val (.int v109), .val (.ref b110), .val (.int (0 : Int32))] [(.int (0 : Int32))])
            refine g_iload X197 hx hby i0_156 rfl ?_
            refine g_icmp_ne X197 hx hby i0_158 (fun c158_198 => False.elim (absurd c158_198 (by decide))) fun c158_198 => ?_
            refine g_iconst X197 hx hby i0_161 (z := (1 : Int32)) (by decide) ?_
            refine g_goto X197 hx hby i0_162 ?_
            refine g_ireturnN X197 hx hby (ty := .boolean) hret (by simp) hlk i0_166 (by decide) (by decide) ?_
            exact ⟨_, rfl, rfl, N0⟩
          · refine g_aload X193 hx hby i0_98 rfl rfl ?_
            refine g_iconst X193 hx hby i0_100 (z := (3 : Int32)) (by decide) ?_
            refine g_lload X193 hx hby i0_101 rfl ?_
            refine g_callS0 X193 hx hby hZ (y := (⟨"com/example/value_generalizer/valuegeneralizer/ColumnLevelsLowestPinLaw", "pos", "(J)J"⟩ : MethodName)) (argsL := [(.long q5)]) (rest := [(.int (3 : Int32)), (.ref b110)]) hown (hw _ (List.mem_of_getElem? (i := 12) rfl)) (hw _ (List.mem_of_getElem? (i := 13) rfl)) (hw _ (List.mem_of_getElem? (i := 14) rfl)) (hw _ (List.mem_of_getElem? (i := 15) rfl)) (by decide) (rm3 l Z a0 hw [] q5 T193.heap n0 Z0) rfl (by rw [hml]; rfl) pd_1 rfl rfl i0_103 (by decide) 2 rfl (by decide) (by decide) (by decide) fun T199 v199 L199 X199 q199 => ?_
            obtain ⟨_, rfl, rfl, e199, N199⟩ := q199
            have N0 := Fr.app N0 N199
            show Gd p e below _ T199 (mkF m 106 #[.val (.int p0), .val (.int p1), .val (.long q2), .second, .val (.long q3), .second, .val (.long q4), .second, .val (.long q5), .second, .val (.int v1), .val (.int v109), .val (.ref b110), .unset] [(.long (own_pos q5)), (.int (3 : Int32)), (.ref b110)])
            refine g_callV0 X199 hx hby hZ (y0 := (⟨"com/example/value_generalizer/valuegeneralizer/ColumnLevels", "add", "(IJ)V"⟩ : MethodName)) (y := (⟨"com/example/value_generalizer/valuegeneralizer/ColumnLevels", "add", "(IJ)V"⟩ : MethodName)) (argsL := [(.int (3 : Int32)), (.long (own_pos q5))]) (rest := []) hown (hw _ (List.mem_of_getElem? (i := 17) rfl)) (hw _ (List.mem_of_getElem? (i := 18) rfl)) (notFace_of_selects (args := #[]) (mvT hZ (hw _ (List.mem_of_getElem? (i := 20) rfl)))) (hw _ (List.mem_of_getElem? (i := 20) rfl)) (hw _ (List.mem_of_getElem? (i := 19) rfl)) (hw _ (List.mem_of_getElem? (i := 2) rfl)) (hw _ (List.mem_of_getElem? (i := 21) rfl)) (by decide) (a := b110) A110 (rm4 l Z a0 hw [] b110 (3 : Int32) (own_pos q5) b111 k111 (v1 + (1 : Int32)) [(.long ((0 : Int64) + (own_pos q2))), (.long ((0 : Int64) + (own_pos q3))), (.long (0 : Int64)), (.long (0 : Int64))] (.long (0 : Int64)) 3 (0 : Int64) (((0 : Int64) + (own_pos q2)) + (own_pos q3)) T193.heap n0 Z0 A110 F_r F_t V g_b110 g_b111 ne_b110_b111 (by decide) ((own_z okh).2.2.2.2.2 (ok8 c95_195)) (by decide) (by simp) rfl) e199 (by rw [hml]; rfl) pd_2 rfl rfl i0_106 (by decide) 0 rfl (by decide) (by decide) (by decide) fun T200 v200 L200 X200 q200 => ?_
            obtain ⟨rfl, K200, -, F_r, F_t, V, N200⟩ := q200
            have N0 := Fr.app N0 N200
            have A110 := A110.keep K200
            have Z0 : n0 ≤ T200.heap.size := Nat.le_trans Z0 K200.1
            have V : Arv Z T200.heap b111 k111 .long (v1 + (1 : Int32)) [(.long ((0 : Int64) + (own_pos q2))), (.long ((0 : Int64) + (own_pos q3))), (.long (0 : Int64)), (.long ((0 : Int64) + (own_pos q5)))] (.long (0 : Int64)) := V
            show Gd p e below _ T200 (mkF m 109 #[.val (.int p0), .val (.int p1), .val (.long q2), .second, .val (.long q3), .second, .val (.long q4), .second, .val (.long q5), .second, .val (.int v1), .val (.int v109), .val (.ref b110), .unset] [])
            refine g_iload X200 hx hby i0_109 rfl ?_
            refine g_iconst X200 hx hby i0_111 (z := (1 : Int32)) (by decide) ?_
            refine g_iand X200 hx hby i0_112 ?_
            refine g_if_eq X200 hx hby i0_113 (fun c113_201 => False.elim (c41_112 c113_201)) fun c113_201 => ?_
            refine g_iconst X200 hx hby i0_116 (z := (0 : Int32)) (by decide) ?_
            refine g_istore X200 hx hby i0_117 (l' := #[.val (.int p0), .val (.int p1), .val (.long q2), .second, .val (.long q3), .second, .val (.long q4), .second, .val (.long q5), .second, .val (.int v1), .val (.int v109), .val (.ref b110), .val (.int (0 : Int32))]) rfl ?_
            refine g_goto X200 hx hby i0_119 ?_
            refine g_aload X200 hx hby i0_151 rfl rfl ?_
            refine g_callV0 X200 hx hby hZ (y0 := (⟨"com/example/value_generalizer/valuegeneralizer/ColumnLevels", "lowest", "()I"⟩ : MethodName)) (y := (⟨"com/example/value_generalizer/valuegeneralizer/ColumnLevels", "lowest", "()I"⟩ : MethodName)) (argsL := []) (rest := []) hown (hw _ (List.mem_of_getElem? (i := 24) rfl)) (hw _ (List.mem_of_getElem? (i := 25) rfl)) (notFace_of_selects (args := #[]) (mvT hZ (hw _ (List.mem_of_getElem? (i := 27) rfl)))) (hw _ (List.mem_of_getElem? (i := 27) rfl)) (hw _ (List.mem_of_getElem? (i := 26) rfl)) (hw _ (List.mem_of_getElem? (i := 2) rfl)) (hw _ (List.mem_of_getElem? (i := 28) rfl)) (by decide) (a := b110) A110 (rm5_0 l Z a0 hw [] b110 b111 k111 (v1 + (1 : Int32)) ((0 : Int64) + (own_pos q2)) ((0 : Int64) + (own_pos q3)) (0 : Int64) ((0 : Int64) + (own_pos q5)) T200.heap n0 Z0 F_r V (own_z okh).2.2.1 (own_pos_ne _)) rfl (by rw [hml]; rfl) pd_3 rfl rfl i0_153 (by decide) 0 rfl (by decide) (by decide) (by decide) fun T202 v202 L202 X202 q202 => ?_
            obtain ⟨_, rfl, rfl, e202, N202⟩ := q202
            have N0 := Fr.app N0 N202
            show Gd p e below _ T202 (mkF m 156 #[.val (.int p0), .val (.int p1), .val (.long q2), .second, .val (.long q3), .second, .val (.long q4), .second, .val (.long q5), .second, .val (.int v1), .val (.int v109), .val (.ref b110), .val (.int (0 : Int32))] [(.int (0 : Int32))])
            refine g_iload X202 hx hby i0_156 rfl ?_
            refine g_icmp_ne X202 hx hby i0_158 (fun c158_203 => False.elim (absurd c158_203 (by decide))) fun c158_203 => ?_
            refine g_iconst X202 hx hby i0_161 (z := (1 : Int32)) (by decide) ?_
            refine g_goto X202 hx hby i0_162 ?_
            refine g_ireturnN X202 hx hby (ty := .boolean) hret (by simp) hlk i0_166 (by decide) (by decide) ?_
            exact ⟨_, rfl, rfl, N0⟩
        · refine g_aload X193 hx hby i0_79 rfl rfl ?_
          refine g_iconst X193 hx hby i0_81 (z := (2 : Int32)) (by decide) ?_
          refine g_lload X193 hx hby i0_82 rfl ?_
          refine g_callS0 X193 hx hby hZ (y := (⟨"com/example/value_generalizer/valuegeneralizer/ColumnLevelsLowestPinLaw", "pos", "(J)J"⟩ : MethodName)) (argsL := [(.long q4)]) (rest := [(.int (2 : Int32)), (.ref b110)]) hown (hw _ (List.mem_of_getElem? (i := 12) rfl)) (hw _ (List.mem_of_getElem? (i := 13) rfl)) (hw _ (List.mem_of_getElem? (i := 14) rfl)) (hw _ (List.mem_of_getElem? (i := 15) rfl)) (by decide) (rm3 l Z a0 hw [] q4 T193.heap n0 Z0) rfl (by rw [hml]; rfl) pd_1 rfl rfl i0_84 (by decide) 2 rfl (by decide) (by decide) (by decide) fun T204 v204 L204 X204 q204 => ?_
          obtain ⟨_, rfl, rfl, e204, N204⟩ := q204
          have N0 := Fr.app N0 N204
          show Gd p e below _ T204 (mkF m 87 #[.val (.int p0), .val (.int p1), .val (.long q2), .second, .val (.long q3), .second, .val (.long q4), .second, .val (.long q5), .second, .val (.int v1), .val (.int v109), .val (.ref b110), .unset] [(.long (own_pos q4)), (.int (2 : Int32)), (.ref b110)])
          refine g_callV0 X204 hx hby hZ (y0 := (⟨"com/example/value_generalizer/valuegeneralizer/ColumnLevels", "add", "(IJ)V"⟩ : MethodName)) (y := (⟨"com/example/value_generalizer/valuegeneralizer/ColumnLevels", "add", "(IJ)V"⟩ : MethodName)) (argsL := [(.int (2 : Int32)), (.long (own_pos q4))]) (rest := []) hown (hw _ (List.mem_of_getElem? (i := 17) rfl)) (hw _ (List.mem_of_getElem? (i := 18) rfl)) (notFace_of_selects (args := #[]) (mvT hZ (hw _ (List.mem_of_getElem? (i := 20) rfl)))) (hw _ (List.mem_of_getElem? (i := 20) rfl)) (hw _ (List.mem_of_getElem? (i := 19) rfl)) (hw _ (List.mem_of_getElem? (i := 2) rfl)) (hw _ (List.mem_of_getElem? (i := 21) rfl)) (by decide) (a := b110) A110 (rm4 l Z a0 hw [] b110 (2 : Int32) (own_pos q4) b111 k111 (v1 + (1 : Int32)) [(.long ((0 : Int64) + (own_pos q2))), (.long ((0 : Int64) + (own_pos q3))), (.long (0 : Int64)), (.long (0 : Int64))] (.long (0 : Int64)) 2 (0 : Int64) (((0 : Int64) + (own_pos q2)) + (own_pos q3)) T193.heap n0 Z0 A110 F_r F_t V g_b110 g_b111 ne_b110_b111 (by decide) ((own_z okh).2.2.2.2.1 (ok4 c76_194)) (by decide) (by simp) rfl) e204 (by rw [hml]; rfl) pd_2 rfl rfl i0_87 (by decide) 0 rfl (by decide) (by decide) (by decide) fun T205 v205 L205 X205 q205 => ?_
          obtain ⟨rfl, K205, -, F_r, F_t, V, N205⟩ := q205
          have N0 := Fr.app N0 N205
          have A110 := A110.keep K205
          have Z0 : n0 ≤ T205.heap.size := Nat.le_trans Z0 K205.1
          have V : Arv Z T205.heap b111 k111 .long (v1 + (1 : Int32)) [(.long ((0 : Int64) + (own_pos q2))), (.long ((0 : Int64) + (own_pos q3))), (.long ((0 : Int64) + (own_pos q4))), (.long (0 : Int64))] (.long (0 : Int64)) := V
          show Gd p e below _ T205 (mkF m 90 #[.val (.int p0), .val (.int p1), .val (.long q2), .second, .val (.long q3), .second, .val (.long q4), .second, .val (.long q5), .second, .val (.int v1), .val (.int v109), .val (.ref b110), .unset] [])
          refine g_iload X205 hx hby i0_90 rfl ?_
          refine g_bipush X205 hx hby i0_92 (z := (8 : Int32)) (by decide) ?_
          refine g_iand X205 hx hby i0_94 ?_
          refine g_if_eq X205 hx hby i0_95 (fun c95_206 => ?_) (fun c95_206 => ?_)
          · refine g_iload X205 hx hby i0_109 rfl ?_
            refine g_iconst X205 hx hby i0_111 (z := (1 : Int32)) (by decide) ?_
            refine g_iand X205 hx hby i0_112 ?_
            refine g_if_eq X205 hx hby i0_113 (fun c113_207 => False.elim (c41_112 c113_207)) fun c113_207 => ?_
            refine g_iconst X205 hx hby i0_116 (z := (0 : Int32)) (by decide) ?_
            refine g_istore X205 hx hby i0_117 (l' := #[.val (.int p0), .val (.int p1), .val (.long q2), .second, .val (.long q3), .second, .val (.long q4), .second, .val (.long q5), .second, .val (.int v1), .val (.int v109), .val (.ref b110), .val (.int (0 : Int32))]) rfl ?_
            refine g_goto X205 hx hby i0_119 ?_
            refine g_aload X205 hx hby i0_151 rfl rfl ?_
            refine g_callV0 X205 hx hby hZ (y0 := (⟨"com/example/value_generalizer/valuegeneralizer/ColumnLevels", "lowest", "()I"⟩ : MethodName)) (y := (⟨"com/example/value_generalizer/valuegeneralizer/ColumnLevels", "lowest", "()I"⟩ : MethodName)) (argsL := []) (rest := []) hown (hw _ (List.mem_of_getElem? (i := 24) rfl)) (hw _ (List.mem_of_getElem? (i := 25) rfl)) (notFace_of_selects (args := #[]) (mvT hZ (hw _ (List.mem_of_getElem? (i := 27) rfl)))) (hw _ (List.mem_of_getElem? (i := 27) rfl)) (hw _ (List.mem_of_getElem? (i := 26) rfl)) (hw _ (List.mem_of_getElem? (i := 2) rfl)) (hw _ (List.mem_of_getElem? (i := 28) rfl)) (by decide) (a := b110) A110 (rm5_0 l Z a0 hw [] b110 b111 k111 (v1 + (1 : Int32)) ((0 : Int64) + (own_pos q2)) ((0 : Int64) + (own_pos q3)) ((0 : Int64) + (own_pos q4)) (0 : Int64) T205.heap n0 Z0 F_r V (own_z okh).2.2.1 (own_pos_ne _)) rfl (by rw [hml]; rfl) pd_3 rfl rfl i0_153 (by decide) 0 rfl (by decide) (by decide) (by decide) fun T208 v208 L208 X208 q208 => ?_
            obtain ⟨_, rfl, rfl, e208, N208⟩ := q208
            have N0 := Fr.app N0 N208
            show Gd p e below _ T208 (mkF m 156 #[.val (.int p0), .val (.int p1), .val (.long q2), .second, .val (.long q3), .second, .val (.long q4), .second, .val (.long q5), .second, .val (.int v1), .val (.int v109), .val (.ref b110), .val (.int (0 : Int32))] [(.int (0 : Int32))])
            refine g_iload X208 hx hby i0_156 rfl ?_
            refine g_icmp_ne X208 hx hby i0_158 (fun c158_209 => False.elim (absurd c158_209 (by decide))) fun c158_209 => ?_
            refine g_iconst X208 hx hby i0_161 (z := (1 : Int32)) (by decide) ?_
            refine g_goto X208 hx hby i0_162 ?_
            refine g_ireturnN X208 hx hby (ty := .boolean) hret (by simp) hlk i0_166 (by decide) (by decide) ?_
            exact ⟨_, rfl, rfl, N0⟩
          · refine g_aload X205 hx hby i0_98 rfl rfl ?_
            refine g_iconst X205 hx hby i0_100 (z := (3 : Int32)) (by decide) ?_
            refine g_lload X205 hx hby i0_101 rfl ?_
            refine g_callS0 X205 hx hby hZ (y := (⟨"com/example/value_generalizer/valuegeneralizer/ColumnLevelsLowestPinLaw", "pos", "(J)J"⟩ : MethodName)) (argsL := [(.long q5)]) (rest := [(.int (3 : Int32)), (.ref b110)]) hown (hw _ (List.mem_of_getElem? (i := 12) rfl)) (hw _ (List.mem_of_getElem? (i := 13) rfl)) (hw _ (List.mem_of_getElem? (i := 14) rfl)) (hw _ (List.mem_of_getElem? (i := 15) rfl)) (by decide) (rm3 l Z a0 hw [] q5 T205.heap n0 Z0) rfl (by rw [hml]; rfl) pd_1 rfl rfl i0_103 (by decide) 2 rfl (by decide) (by decide) (by decide) fun T210 v210 L210 X210 q210 => ?_
            obtain ⟨_, rfl, rfl, e210, N210⟩ := q210
            have N0 := Fr.app N0 N210
            show Gd p e below _ T210 (mkF m 106 #[.val (.int p0), .val (.int p1), .val (.long q2), .second, .val (.long q3), .second, .val (.long q4), .second, .val (.long q5), .second, .val (.int v1), .val (.int v109), .val (.ref b110), .unset] [(.long (own_pos q5)), (.int (3 : Int32)), (.ref b110)])
            refine g_callV0 X210 hx hby hZ (y0 := (⟨"com/example/value_generalizer/valuegeneralizer/ColumnLevels", "add", "(IJ)V"⟩ : MethodName)) (y := (⟨"com/example/value_generalizer/valuegeneralizer/ColumnLevels", "add", "(IJ)V"⟩ : MethodName)) (argsL := [(.int (3 : Int32)), (.long (own_pos q5))]) (rest := []) hown (hw _ (List.mem_of_getElem? (i := 17) rfl)) (hw _ (List.mem_of_getElem? (i := 18) rfl)) (notFace_of_selects (args := #[]) (mvT hZ (hw _ (List.mem_of_getElem? (i := 20) rfl)))) (hw _ (List.mem_of_getElem? (i := 20) rfl)) (hw _ (List.mem_of_getElem? (i := 19) rfl)) (hw _ (List.mem_of_getElem? (i := 2) rfl)) (hw _ (List.mem_of_getElem? (i := 21) rfl)) (by decide) (a := b110) A110 (rm4 l Z a0 hw [] b110 (3 : Int32) (own_pos q5) b111 k111 (v1 + (1 : Int32)) [(.long ((0 : Int64) + (own_pos q2))), (.long ((0 : Int64) + (own_pos q3))), (.long ((0 : Int64) + (own_pos q4))), (.long (0 : Int64))] (.long (0 : Int64)) 3 (0 : Int64) ((((0 : Int64) + (own_pos q2)) + (own_pos q3)) + (own_pos q4)) T205.heap n0 Z0 A110 F_r F_t V g_b110 g_b111 ne_b110_b111 (by decide) ((own_z okh).2.2.2.2.2 (ok8 c95_206)) (by decide) (by simp) rfl) e210 (by rw [hml]; rfl) pd_2 rfl rfl i0_106 (by decide) 0 rfl (by decide) (by decide) (by decide) fun T211 v211 L211 X211 q211 => ?_
            obtain ⟨rfl, K211, -, F_r, F_t, V, N211⟩ := q211
            have N0 := Fr.app N0 N211
            have A110 := A110.keep K211
            have Z0 : n0 ≤ T211.heap.size := Nat.le_trans Z0 K211.1
            have V : Arv Z T211.heap b111 k111 .long (v1 + (1 : Int32)) [(.long ((0 : Int64) + (own_pos q2))), (.long ((0 : Int64) + (own_pos q3))), (.long ((0 : Int64) + (own_pos q4))), (.long ((0 : Int64) + (own_pos q5)))] (.long (0 : Int64)) := V
            show Gd p e below _ T211 (mkF m 109 #[.val (.int p0), .val (.int p1), .val (.long q2), .second, .val (.long q3), .second, .val (.long q4), .second, .val (.long q5), .second, .val (.int v1), .val (.int v109), .val (.ref b110), .unset] [])
            refine g_iload X211 hx hby i0_109 rfl ?_
            refine g_iconst X211 hx hby i0_111 (z := (1 : Int32)) (by decide) ?_
            refine g_iand X211 hx hby i0_112 ?_
            refine g_if_eq X211 hx hby i0_113 (fun c113_212 => False.elim (c41_112 c113_212)) fun c113_212 => ?_
            refine g_iconst X211 hx hby i0_116 (z := (0 : Int32)) (by decide) ?_
            refine g_istore X211 hx hby i0_117 (l' := #[.val (.int p0), .val (.int p1), .val (.long q2), .second, .val (.long q3), .second, .val (.long q4), .second, .val (.long q5), .second, .val (.int v1), .val (.int v109), .val (.ref b110), .val (.int (0 : Int32))]) rfl ?_
            refine g_goto X211 hx hby i0_119 ?_
            refine g_aload X211 hx hby i0_151 rfl rfl ?_
            refine g_callV0 X211 hx hby hZ (y0 := (⟨"com/example/value_generalizer/valuegeneralizer/ColumnLevels", "lowest", "()I"⟩ : MethodName)) (y := (⟨"com/example/value_generalizer/valuegeneralizer/ColumnLevels", "lowest", "()I"⟩ : MethodName)) (argsL := []) (rest := []) hown (hw _ (List.mem_of_getElem? (i := 24) rfl)) (hw _ (List.mem_of_getElem? (i := 25) rfl)) (notFace_of_selects (args := #[]) (mvT hZ (hw _ (List.mem_of_getElem? (i := 27) rfl)))) (hw _ (List.mem_of_getElem? (i := 27) rfl)) (hw _ (List.mem_of_getElem? (i := 26) rfl)) (hw _ (List.mem_of_getElem? (i := 2) rfl)) (hw _ (List.mem_of_getElem? (i := 28) rfl)) (by decide) (a := b110) A110 (rm5_0 l Z a0 hw [] b110 b111 k111 (v1 + (1 : Int32)) ((0 : Int64) + (own_pos q2)) ((0 : Int64) + (own_pos q3)) ((0 : Int64) + (own_pos q4)) ((0 : Int64) + (own_pos q5)) T211.heap n0 Z0 F_r V (own_z okh).2.2.1 (own_pos_ne _)) rfl (by rw [hml]; rfl) pd_3 rfl rfl i0_153 (by decide) 0 rfl (by decide) (by decide) (by decide) fun T213 v213 L213 X213 q213 => ?_
            obtain ⟨_, rfl, rfl, e213, N213⟩ := q213
            have N0 := Fr.app N0 N213
            show Gd p e below _ T213 (mkF m 156 #[.val (.int p0), .val (.int p1), .val (.long q2), .second, .val (.long q3), .second, .val (.long q4), .second, .val (.long q5), .second, .val (.int v1), .val (.int v109), .val (.ref b110), .val (.int (0 : Int32))] [(.int (0 : Int32))])
            refine g_iload X213 hx hby i0_156 rfl ?_
            refine g_icmp_ne X213 hx hby i0_158 (fun c158_214 => False.elim (absurd c158_214 (by decide))) fun c158_214 => ?_
            refine g_iconst X213 hx hby i0_161 (z := (1 : Int32)) (by decide) ?_
            refine g_goto X213 hx hby i0_162 ?_
            refine g_ireturnN X213 hx hby (ty := .boolean) hret (by simp) hlk i0_166 (by decide) (by decide) ?_
            exact ⟨_, rfl, rfl, N0⟩
set_option maxRecDepth 65536 in
set_option maxHeartbeats 40000000 in
theorem comes_1 {Post : Tables → Env → Array Value → State → Outcome → State → Prop} (hpost : ∀ tb e args s v u, (limb_1_1.after args s (.returned v) u = true ∧ limb_1_2.after args s (.returned v) u = true ∧ True) → FrameEnd s (.returned v) u (Jvm.fieldLocs frame_1_writes args s ++ Jvm.arrayLocs frame_1_arrays args s ++ Jvm.staticLocs frame_1_statics s) 16 128 → Post tb e args s (.returned v) u) :
    ArmFor flags0 classFile x code maxLocals ret World_1 tables_1 room_1 Calls_1 rest_1 Pre_1 Post := by
  intro l hfl _ _ p e ha hc hk s m args below hf hA hF happ hP
  obtain ⟨hcalls, hrest, hpre⟩ := hP
  obtain ⟨-, -, -, hnamed, -, -, -, hat⟩ := (Spec.applies_iff hf).mp happ
  obtain ⟨hg, hn⟩ := and_e (Cond.before_iff.mp (show (Jvm.Cond.and given_1 narrow_1).before args s = true from hpre))
  obtain ⟨hcount, g0⟩ := and_e hg
  obtain ⟨a0, g1⟩ := and_e g0
  obtain ⟨a1, g2⟩ := and_e g1
  obtain ⟨a2, g3⟩ := and_e g2
  obtain ⟨a3, g4⟩ := and_e g3
  obtain ⟨a4, g5⟩ := and_e g4
  obtain ⟨w0, w1, w2, w3, w4, w5, rfl⟩ : ∃ w0 w1 w2 w3 w4 w5 : Value, args = #[w0, w1, w2, w3, w4, w5] := by
    have hs : args.size = 6 := by simpa [Cond.value, given_1] using hcount
    obtain ⟨L⟩ := args
    match L, hs with
    | [w0, w1, w2, w3, w4, w5], _ => exact ⟨w0, w1, w2, w3, w4, w5, rfl⟩
  have hw := fun d (hd : d ∈ tables_1) => atoms_spec (ws := Jvm.Cond.code x code maxLocals ret :: tables_1) hat d (List.mem_cons_of_mem _ hd)
  have hfit : Fit s := fun {y c} hc i hi => by
    obtain ⟨ha, rfl⟩ := Array.getElem?_eq_some_iff.mp hc
    have q := List.all_eq_true.mp ((Array.all_eq_true_iff_forall_mem.mp hF) _ (Array.getElem_mem ha)) i (List.mem_range.mpr hi)
    simpa [Array.getElem?_eq_getElem hi] using q
  obtain ⟨i0, ei0⟩ := is_v a0
  obtain rfl : w0 = (.int i0) := Option.some.inj ei0
  obtain ⟨i1, ei1⟩ := is_v a1
  obtain rfl : w1 = (.int i1) := Option.some.inj ei1
  obtain ⟨i2, ei2⟩ := isL_v a2
  obtain rfl : w2 = (.long i2) := Option.some.inj ei2
  obtain ⟨i3, ei3⟩ := isL_v a3
  obtain rfl : w3 = (.long i3) := Option.some.inj ei3
  obtain ⟨i4, ei4⟩ := isL_v a4
  obtain rfl : w4 = (.long i4) := Option.some.inj ei4
  obtain ⟨i5, ei5⟩ := isL_v g5
  obtain rfl : w5 = (.long i5) := Option.some.inj ei5
  obtain ⟨n, o, h1, h2, h3, _, L, rfl, ⟨_, rfl, rfl, N⟩, hq⟩ := rm0 l s _ hw tables_1 i0 i1 i2 i3 i4 i5 s.heap s.heap.size (Nat.le_refl _)  p e ha hc hk s m _ below hf ((Spec.applies_iff_loose hf).mp happ).1 ⟨rfl, State.Warmed39.refl s, rfl⟩ trivial
  refine ⟨n, _, h1, h2, h3, hpost _ _ _ _ _ _ ⟨Cond.after_iff.mpr rfl, Cond.after_iff.mpr (eq_i res_at (Term.int_eval (1)) rfl), trivial⟩ ⟨hq.1, hq.2.1, (hq.2.2.sift fun y hy => Or.inr (N y hy)).mono (by decide) (by decide)⟩⟩
theorem main_1_1 : Claimed_1_1 := comes_1 fun _ _ _ _ _ _ h hF => ⟨h.1, hF⟩
theorem main_1_2 : Claimed_1_2 := comes_1 fun _ _ _ _ _ _ h hF => ⟨h.2.1, hF⟩
end Jvm.Pilot.@@N@@
namespace Jvm.Pilot.@@N@@
open Jvm Jvm.ClassFile Sem Op Lib Jvm.Free Jvm.Stand Jvm.Pilot.@@N@@.Jvm.D
/-! MADE BY PROGRAM (witnessworld.py) out of the Statement's table words and the real class files: 11 classes; the members and pool entries that the words name. The judged class is class 1, her method 2. -/
namespace start1
open Jvm.ClassFile
def u (s : String) : CpInfo := .utf8 (stringToUtf16 s)
/-- a pool by its gaps: so many unusable entries, then the entry; so many at the end -/
def gap : Nat → List CpInfo → List CpInfo
  | 0, r => r
  | n + 1, r => .unusable :: gap n r
def poolList (es : List (Nat × CpInfo)) (last : Nat) : List CpInfo := es.foldr (fun e r => gap e.1 (e.2 :: r)) (gap last [])
def pool (es : List (Nat × CpInfo)) (last : Nat) : Array CpInfo := ⟨poolList es last⟩
def fileOf (pool : Array CpInfo) (this : Nat) (attrs : Array Attribute := #[]) (ms : Array MethodInfo := #[]) (fl : Nat := 33) (sup : Nat := 0) (ifs : Array Nat := #[]) (fds : Array FieldInfo := #[]) : ClassFile where
  minorVersion := 0
  majorVersion := 65
  constantPool := pool
  accessFlags := fl
  thisClass := this
  superClass := sup
  interfaces := ifs
  fields := fds
  methods := ms
  attributes := attrs
def plain (name : String) (sup : Option ClassId) : Class where
  name := name
  kind := .ordinary
  loader := none
  accessFlags := 33
  super := sup
  interfaces := #[]
  cf := none
  fields := #[]
  methods := #[]
  instanceTypes := #[]
  staticTypes := #[]
  resolved := #[]
  callSites := []
  init := .initialized
  statics := none
  mirror := none

def pool0 : Array CpInfo := pool [(5, u "<init>"), (0, u "()V"), (1, .class_ 10), (1, u "java/lang/Object")] 113

def k0c0 : Code := { maxStack := 0, maxLocals := 1, code := object_method_1_code, exceptionTable := #[], attributes := #[] }
def k0m0 : Method := { name := "<init>", desc := "()V", sig := { parameters := [], returnType := none }, accessFlags := 1, code := some k0c0 }
/-- java/lang/Object -/
def k0 : Class := { plain "java/lang/Object" none with
  accessFlags := 33
  interfaces := #[]
  cf := some (fileOf pool0 8 #[] #[{ accessFlags := 1, nameIndex := 5, descriptorIndex := 6, attributes := #[] }] 33 0 #[] #[])
  fields := #[]
  methods := #[k0m0]
  instanceTypes := #[]
  staticTypes := #[]
  resolved := Array.replicate 124 none
  statics := none }

def pool1 : Array CpInfo := pool [(2, .class_ 4), (1, u "java/lang/Object"), (0, u "<init>"), (0, u "()V"), (0, .long 4611686018427387903), (1, .class_ 10), (0, u "com/example/value_generalizer/valuegeneralizer/ColumnLevels"), (0, .methodref 9 12), (0, .nameAndType 5 13), (0, u "(I)V"), (0, .methodref 15 16), (0, .class_ 17), (0, .nameAndType 18 19), (0, u "com/example/value_generalizer/valuegeneralizer/ColumnLevelsLowestPinLaw"), (0, u "pos"), (0, u "(J)J"), (0, .methodref 9 21), (0, .nameAndType 22 23), (0, u "add"), (0, u "(IJ)V"), (0, .methodref 9 25), (0, .nameAndType 26 27), (0, u "lowest"), (0, u "()I"), (2, u "law"), (0, u "(IIJJJJ)Z")] 3

def k1m0 : Method := { name := "<init>", desc := "()V", sig := { parameters := [], returnType := none }, accessFlags := 1, code := none }
def k1c1 : Code := { maxStack := 4, maxLocals := 2, code := method_2_code, exceptionTable := #[], attributes := #[] }
def k1m1 : Method := { name := "pos", desc := "(J)J", sig := { parameters := [.long], returnType := some .long }, accessFlags := 10, code := some k1c1 }
def k1c2 : Code := { maxStack := 4, maxLocals := 14, code := code, exceptionTable := #[], attributes := #[] }
def k1m2 : Method := { name := "law", desc := "(IIJJJJ)Z", sig := { parameters := [.int, .int, .long, .long, .long, .long], returnType := some .boolean }, accessFlags := 9, code := some k1c2 }
/-- com/example/value_generalizer/valuegeneralizer/ColumnLevelsLowestPinLaw -/
def k1 : Class := { plain "com/example/value_generalizer/valuegeneralizer/ColumnLevelsLowestPinLaw" (some 0) with
  accessFlags := 49
  interfaces := #[]
  cf := some (fileOf pool1 15 #[] #[{ accessFlags := 1, nameIndex := 5, descriptorIndex := 6, attributes := #[] }, { accessFlags := 10, nameIndex := 18, descriptorIndex := 19, attributes := #[] }, { accessFlags := 9, nameIndex := 30, descriptorIndex := 31, attributes := #[] }] 49 2 #[] #[])
  fields := #[]
  methods := #[k1m0, k1m1, k1m2]
  instanceTypes := #[]
  staticTypes := #[]
  resolved := Array.replicate 35 none
  statics := none }

def pool2 : Array CpInfo := pool [(1, .methodref 2 3), (0, .class_ 4), (0, .nameAndType 5 6), (0, u "java/lang/Object"), (0, u "<init>"), (0, u "()V"), (0, .fieldref 8 9), (0, .class_ 10), (0, .nameAndType 11 12), (0, u "com/example/value_generalizer/valuegeneralizer/ColumnLevels"), (0, u "records"), (0, u "[J"), (0, .fieldref 8 14), (0, .nameAndType 15 16), (0, u "total"), (0, u "J"), (8, u "lowest"), (0, u "()I"), (0, u "(I)V"), (2, u "add"), (0, u "(IJ)V")] 7

def k2c0 : Code := { maxStack := 3, maxLocals := 2, code := prog_3_method_1_code, exceptionTable := #[], attributes := #[] }
def k2m0 : Method := { name := "<init>", desc := "(I)V", sig := { parameters := [.int], returnType := none }, accessFlags := 0, code := some k2c0 }
def k2c1 : Code := { maxStack := 6, maxLocals := 4, code := prog_3_method_2_code, exceptionTable := #[], attributes := #[] }
def k2m1 : Method := { name := "add", desc := "(IJ)V", sig := { parameters := [.int, .long], returnType := none }, accessFlags := 0, code := some k2c1 }
def k2c2 : Code := { maxStack := 4, maxLocals := 2, code := prog_3_method_3_code, exceptionTable := #[], attributes := #[] }
def k2m2 : Method := { name := "lowest", desc := "()I", sig := { parameters := [], returnType := some .int }, accessFlags := 0, code := some k2c2 }
/-- com/example/value_generalizer/valuegeneralizer/ColumnLevels -/
def k2 : Class := { plain "com/example/value_generalizer/valuegeneralizer/ColumnLevels" (some 0) with
  accessFlags := 48
  interfaces := #[]
  cf := some (fileOf pool2 8 #[] #[{ accessFlags := 0, nameIndex := 5, descriptorIndex := 27, attributes := #[] }, { accessFlags := 0, nameIndex := 30, descriptorIndex := 31, attributes := #[] }, { accessFlags := 0, nameIndex := 25, descriptorIndex := 26, attributes := #[] }] 48 2 #[] #[{ accessFlags := 18, nameIndex := 11, descriptorIndex := 12, attributes := #[] }, { accessFlags := 2, nameIndex := 15, descriptorIndex := 16, attributes := #[] }])
  fields := #[{ name := "records", type := (.array .long), accessFlags := 18, slot := 0, constantValue := 0 }, { name := "total", type := .long, accessFlags := 2, slot := 1, constantValue := 0 }]
  methods := #[k2m0, k2m1, k2m2]
  instanceTypes := #[(.array .long), .long]
  staticTypes := #[]
  resolved := Array.replicate 39 none
  statics := none }

def pool3 : Array CpInfo := pool [(1, u "java/lang/Cloneable"), (0, .class_ 1), (0, u "java/lang/Object"), (0, .class_ 3)] 3

/-- java/lang/Cloneable -/
def k3 : Class := { plain "java/lang/Cloneable" (some 0) with
  accessFlags := 1537
  interfaces := #[]
  cf := some (fileOf pool3 2 #[] #[] 1537 4 #[] #[])
  fields := #[]
  methods := #[]
  instanceTypes := #[]
  staticTypes := #[]
  resolved := Array.replicate 8 none
  statics := none }

def pool4 : Array CpInfo := pool [(1, u "java/io/Serializable"), (0, .class_ 1), (0, u "java/lang/Object"), (0, .class_ 3)] 3

/-- java/io/Serializable -/
def k4 : Class := { plain "java/io/Serializable" (some 0) with
  accessFlags := 1537
  interfaces := #[]
  cf := some (fileOf pool4 2 #[] #[] 1537 4 #[] #[])
  fields := #[]
  methods := #[]
  instanceTypes := #[]
  staticTypes := #[]
  resolved := Array.replicate 8 none
  statics := none }

/-- the primitive byte -/
def k5 : Class := { plain "byte" none with kind := .primitive 'B', accessFlags := 0x411 }
/-- [B -/
def k6 : Class := { plain "[B" (some 0) with kind := .array 5 .byte, interfaces := #[3, 4], accessFlags := 1041 }

/-- the primitive int -/
def k7 : Class := { plain "int" none with kind := .primitive 'I', accessFlags := 0x411 }
/-- [I -/
def k8 : Class := { plain "[I" (some 0) with kind := .array 7 .int, interfaces := #[3, 4], accessFlags := 1041 }

/-- the primitive long -/
def k9 : Class := { plain "long" none with kind := .primitive 'J', accessFlags := 0x411 }
/-- [J -/
def k10 : Class := { plain "[J" (some 0) with kind := .array 9 .long, interfaces := #[3, 4], accessFlags := 1041 }

def heap : Heap := #[]
def classes : Array Class := #[k0, k1, k2, k3, k4, k5, k6, k7, k8, k9, k10]
def interned : List (Array UInt16 × Addr) := []
def slotsUsed : Nat := 0
def theMethod : MethodId := ⟨1, 2⟩
def args0 : Array Value := #[.int 2, .int 5, .long 6, .long 4, .long 1, .long 9]
def aboutOver (below : List Frame) : State where
  vm := { classes := classes, interned := interned.toArray }
  heap := heap
  slotsUsed := slotsUsed
  threads := #[{ frames := .invoking theMethod args0 :: below }]
def below0 : List Frame := [.native { method := ⟨0, 0⟩, args := #[] }]
def about1 : State := aboutOver below0
def p0 : Program := .bare "" "" ""
def e0 : Env := launch0.env 0 0 0
theorem w_frames : about1.frames = Frame.invoking theMethod args0 :: below0 := rfl
set_option maxRecDepth 65536 in
theorem w_args : argsFit about1.vm theMethod args0 = true := by decide +kernel
set_option maxRecDepth 65536 in
theorem w_heap : heapFits about1 = true := by decide +kernel
set_option maxRecDepth 65536 in
theorem w_runnable : about1.curStatus? = some .runnable := by decide +kernel
set_option maxRecDepth 65536 in
theorem w_alone : about1.alone = true := by decide +kernel
set_option maxRecDepth 65536 in
theorem w_named : about1.methodNamed? x = some theMethod := by decide +kernel
set_option maxRecDepth 65536 in
theorem w_hears : about1.hears theMethod below0 = true := by decide +kernel
set_option maxRecDepth 65536 in
theorem w_ripe : about1.ripe theMethod args0 below0 = true := by decide +kernel
theorem w_running : about1.status = .running := rfl
set_option maxRecDepth 65536 in
theorem w_room : about1.hasRoom e0.platform room_1 = true :=
  launch0.hasRoom_least _ room_1 (by decide +kernel) (by decide +kernel) (by decide +kernel) (by decide +kernel) (by decide +kernel) (by decide +kernel)
theorem allAtoms_all (ts : List Jvm.Cond) (a : Array Jvm.Value) (st : Jvm.State) : (allAtoms ts).before a st = ts.all (fun c => c.before a st) := by
  induction ts with
  | nil => rfl
  | cons c t ih =>
    show (Jvm.Cond.and c (allAtoms t)).before a st = _
    rw [Jvm.Cond.before_and, ih, List.all_cons]
def words1 : List Jvm.Cond := Jvm.Cond.code x code maxLocals ret :: tables_1
/-- a 'code' word, met by the world's own term for the bytes: nothing is compared byte by byte -/
theorem code_word {y : MethodName} {bytes : ByteArray} {mx : Nat} {rt : Option FieldType} {a : Array Value} {s : State} {m : MethodId} {meth : Method} {c : Code} (h1 : s.methodNamed? y = some m) (h2 : s.vm.method? m = some meth) (h3 : meth.code = some c) (h4 : c.code = bytes)
    (h5 : (c.maxLocals == mx && c.exceptionTable.isEmpty && decide (c.maxStack ≤ mostOperands) && decide (meth.sig.returnType = rt) && !meth.locks && decide (parseMethodDescriptor y.desc = some meth.sig)) = true) : (Jvm.Cond.code y bytes mx rt).before a s = true := by
  simp only [Bool.and_eq_true, beq_iff_eq, Bool.not_eq_true', decide_eq_true_eq] at h5
  obtain ⟨⟨⟨⟨⟨g1, g2⟩, g3⟩, g4⟩, g5⟩, g6⟩ := h5
  simp [Cond.before, Cond.holds, Cond.value, h1, h2, h3, h4, g1, g2, g3, g4, g5, g6]
def isCode : Jvm.Cond → Bool
  | .code _ _ _ _ => true
  | _ => false
theorem all_split {L : List Jvm.Cond} {P : Jvm.Cond → Bool} (h1 : L.all (fun c => isCode c || P c) = true) (h2 : ∀ c ∈ L.filter isCode, P c = true) : L.all P = true := by
  refine List.all_eq_true.mpr fun c hc => ?_
  have h := List.all_eq_true.mp h1 c hc
  rcases Bool.eq_false_or_eq_true (isCode c) with hi | hi
  · exact h2 c (List.mem_filter.mpr ⟨hc, hi⟩)
  · simpa [hi] using h
set_option maxRecDepth 65536 in
theorem w_c0 : (Jvm.Cond.code x code maxLocals ret).before args0 about1 = true := code_word (m := ⟨1, 2⟩) (meth := k1m2) (c := k1c2) (by decide +kernel) rfl rfl rfl (by decide +kernel)
set_option maxRecDepth 65536 in
theorem w_c1 : (Jvm.Cond.code ({ cls := "com/example/value_generalizer/valuegeneralizer/ColumnLevels", name := "<init>", desc := "(I)V" } : Jvm.MethodName) prog_3_method_1_code (2 : Nat) (Option.none : Option Jvm.ClassFile.FieldType)).before args0 about1 = true := code_word (m := ⟨2, 0⟩) (meth := k2m0) (c := k2c0) (by decide +kernel) rfl rfl rfl (by decide +kernel)
set_option maxRecDepth 65536 in
theorem w_c2 : (Jvm.Cond.code ({ cls := "java/lang/Object", name := "<init>", desc := "()V" } : Jvm.MethodName) object_method_1_code (1 : Nat) (Option.none : Option Jvm.ClassFile.FieldType)).before args0 about1 = true := code_word (m := ⟨0, 0⟩) (meth := k0m0) (c := k0c0) (by decide +kernel) rfl rfl rfl (by decide +kernel)
set_option maxRecDepth 65536 in
theorem w_c3 : (Jvm.Cond.code ({ cls := "com/example/value_generalizer/valuegeneralizer/ColumnLevelsLowestPinLaw", name := "pos", desc := "(J)J" } : Jvm.MethodName) method_2_code (2 : Nat) (Option.some Jvm.ClassFile.FieldType.long)).before args0 about1 = true := code_word (m := ⟨1, 1⟩) (meth := k1m1) (c := k1c1) (by decide +kernel) rfl rfl rfl (by decide +kernel)
set_option maxRecDepth 65536 in
theorem w_c4 : (Jvm.Cond.code ({ cls := "com/example/value_generalizer/valuegeneralizer/ColumnLevels", name := "add", desc := "(IJ)V" } : Jvm.MethodName) prog_3_method_2_code (4 : Nat) (Option.none : Option Jvm.ClassFile.FieldType)).before args0 about1 = true := code_word (m := ⟨2, 1⟩) (meth := k2m1) (c := k2c1) (by decide +kernel) rfl rfl rfl (by decide +kernel)
set_option maxRecDepth 65536 in
theorem w_c5 : (Jvm.Cond.code ({ cls := "com/example/value_generalizer/valuegeneralizer/ColumnLevels", name := "lowest", desc := "()I" } : Jvm.MethodName) prog_3_method_3_code (2 : Nat) (Option.some Jvm.ClassFile.FieldType.int)).before args0 about1 = true := code_word (m := ⟨2, 2⟩) (meth := k2m2) (c := k2c2) (by decide +kernel) rfl rfl rfl (by decide +kernel)
def codes1 : List Jvm.Cond := [Jvm.Cond.code x code maxLocals ret, Jvm.Cond.code ({ cls := "com/example/value_generalizer/valuegeneralizer/ColumnLevels", name := "<init>", desc := "(I)V" } : Jvm.MethodName) prog_3_method_1_code (2 : Nat) (Option.none : Option Jvm.ClassFile.FieldType), Jvm.Cond.code ({ cls := "java/lang/Object", name := "<init>", desc := "()V" } : Jvm.MethodName) object_method_1_code (1 : Nat) (Option.none : Option Jvm.ClassFile.FieldType), Jvm.Cond.code ({ cls := "com/example/value_generalizer/valuegeneralizer/ColumnLevelsLowestPinLaw", name := "pos", desc := "(J)J" } : Jvm.MethodName) method_2_code (2 : Nat) (Option.some Jvm.ClassFile.FieldType.long), Jvm.Cond.code ({ cls := "com/example/value_generalizer/valuegeneralizer/ColumnLevels", name := "add", desc := "(IJ)V" } : Jvm.MethodName) prog_3_method_2_code (4 : Nat) (Option.none : Option Jvm.ClassFile.FieldType), Jvm.Cond.code ({ cls := "com/example/value_generalizer/valuegeneralizer/ColumnLevels", name := "lowest", desc := "()I" } : Jvm.MethodName) prog_3_method_3_code (2 : Nat) (Option.some Jvm.ClassFile.FieldType.int)]
set_option maxRecDepth 65536 in
theorem codes_eq : words1.filter isCode = codes1 := rfl
theorem w_codes : ∀ c ∈ words1.filter isCode, c.before args0 about1 = true := by
  rw [codes_eq]
  intro c hc
  simp only [codes1, List.mem_cons, List.not_mem_nil, or_false] at hc
  rcases hc with rfl | rfl | rfl | rfl | rfl | rfl
  · exact w_c0
  · exact w_c1
  · exact w_c2
  · exact w_c3
  · exact w_c4
  · exact w_c5
set_option maxRecDepth 65536 in
theorem w_t1 : (words1.take 24).all (fun c => isCode c || c.before args0 about1) = true := by decide +kernel
set_option maxRecDepth 65536 in
theorem w_t2 : (words1.drop 24).all (fun c => isCode c || c.before args0 about1) = true := by decide +kernel
theorem w_tables : (allAtoms (Jvm.Cond.code x code maxLocals ret :: tables_1)).before args0 about1 = true := by
  rw [allAtoms_all]
  show words1.all (fun c => c.before args0 about1) = true
  refine all_split ?_ w_codes
  rw [← List.take_append_drop 24 words1, List.all_append, w_t1, w_t2]
  rfl
set_option maxRecDepth 65536 in
theorem w_case : (Jvm.Cond.and given_1 narrow_1).before args0 about1 = true := by decide +kernel
theorem w_applies : (headSpec (Jvm.Cond.code x code maxLocals ret :: tables_1) room_1).applies x e0.platform about1 = true :=
  (Spec.applies_iff w_frames).mpr ⟨w_running, w_runnable, w_alone, w_named, w_hears, w_ripe, w_room, w_tables⟩
theorem atStart : AtStart classFile x code maxLocals ret World_1 tables_1 room_1 Calls_1 rest_1 Pre_1 launch0 p0 e0 about1 theMethod args0 below0 :=
  ⟨lists_1, trivial, launch0.admits_env _ _ _, launch0.least_env, fairChoices_fair.cas, fairChoices_fair.clock, w_frames, w_args, w_heap, w_applies, trivial, trivial, w_case⟩
end start1
theorem witness_1 : WitnessClaimed_1 := ⟨start1.p0, start1.e0, start1.about1, start1.theMethod, start1.args0, start1.below0, start1.atStart⟩
end Jvm.Pilot.@@N@@
