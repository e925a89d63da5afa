import JvmDerived
import JvmDerived.Pilot.@@N@@Statement
import JvmDerived.Pilot.@@N@@Code
set_option linter.unusedVariables false
set_option linter.unusedSimpArgs false
namespace Jvm.OwnG
open Sem ClassFile Op Lib Jvm.Stand Jvm.Free Jvm.LawKit Jvm.RoadKit
/-- from here the run comes to an end at which P holds -/
def Gd (p : Program) (e : Env) (below : List Frame) (P : State → Prop) (T : State) (g : JFrame) : Prop := ∃ t, Steps p.tables e below (T.setTop g) t ∧ P t
/-- an instruction of the code, and the pc behind it -/
def Ins1 (code : ByteArray) (pc : Nat) (i : Instr) (n pn : Nat) : Prop := decode code pc = .ok (i, n) ∧ pc + n = pn
/-- a branch: the pc behind it, the pc it goes to -/
def InsB (code : ByteArray) (pc : Nat) (i : Instr) (o : Int) (pn pt : Nat) : Prop := decode code pc = .ok (i, 3) ∧ pc + 3 = pn ∧ 0 ≤ (pc : Int) + o ∧ ((pc : Int) + o).toNat = pt
/-- what the end of a walk says -/
def Fin1 (s : State) (below : List Frame) (cells slots : Nat) (Q : Option Value → Heap → List Loc → Prop) (t : State) : Prop := ∃ o, t.status = .running ∧ Ended t below o ∧ ∃ v L, o = .returned v ∧ Q v t.heap L ∧ FrameEnd s o t L cells slots
/-- a method's contract at the arguments as', the heap h -/
def Met1 (l : Launch) (y : MethodName) (bytes : ByteArray) (maxL : Nat) (ret : Option FieldType) (ws : List Jvm.Cond) (rm : Room) (as' : Array Value) (Z : State) (h : Heap) (Q : Option Value → Heap → List Loc → Prop) : Prop :=
  MetFree l y (head1 (Jvm.Cond.code y bytes maxL ret :: ws) rm) (fun a U => a = as' ∧ Z.Warmed39 U.vm ∧ U.heap = h) (fun _ _ _ _ _ => True) (fun _ U o U' => ∃ v L, o = .returned v ∧ Q v U'.heap L ∧ FrameEnd U o U' L rm.cells rm.slots)
def RV (Q : Value → Heap → List Loc → Prop) (v : Option Value) (h : Heap) (L : List Loc) : Prop := ∃ z, v = some z ∧ Q z h L
def RN (Q : Heap → List Loc → Prop) (v : Option Value) (h : Heap) (L : List Loc) : Prop := v = none ∧ Q h L
section K
variable {p : Program} {l : Launch} {e : Env} {R : Room} {s : State} {m : MethodId} {args : Array Value} {below : List Frame} {meth : Method} {c : Code} {T : State} {locs : List Loc} {cells slots : Nat} {Z : State} {a0 : Array Value} {h : Heap} {P : State → Prop} {code : ByteArray} {pc pn pt : Nat} {Ls : Array Slot} {st : List Value}
theorem Gd.of {T' : State} {g g' : JFrame} (k : ∀ t, Steps p.tables e below (T'.setTop g') t → Steps p.tables e below (T.setTop g) t) (q : Gd p e below P T' g') : Gd p e below P T g := q.imp fun t r => ⟨k t r.1, r.2⟩
theorem Gd.cast {g g' : JFrame} (q : g = g') (k : Gd p e below P T g') : Gd p e below P T g := q ▸ k
theorem met_of {y : MethodName} {maxL : Nat} {ret : Option FieldType} {ws : List Jvm.Cond} {rm : Room} {as' : Array Value} {Q : Option Value → Heap → List Loc → Prop} (hp : plainFor y = true)
    (body : ∀ (p : Program) (e : Env) (s : State) (m : MethodId) (below : List Frame) (meth : Method) (c : Code) (T : State), Stand p l e rm s m as' below meth c T [] 0 0 → p.tables.exec = Jvm.exec → c.code = code → c.maxLocals = maxL → Z.Warmed39 s.vm → s.vm.findClass y.cls = some m.cls → meth.name = y.name → meth.sig.returnType = ret → meth.locks = false → T.heap = h → s.heap = h →
      Gd p e below (Fin1 s below rm.cells rm.slots Q) T (entryFrame m as' maxL)) : Met1 l y code maxL ret ws rm as' Z h Q := by
  refine MetFree.of_bodySF hp hisR ?_
  intro p e s m args below meth c s₁ Bd hml0 hP hK
  obtain ⟨rfl, hZ, hh⟩ := hP
  obtain ⟨t, h1, o, h2, h3, h4⟩ := body p e s m below meth c s₁ (Stand.of_body Bd) Bd.exec Bd.bytes hml0 hZ (findClass_of_methodNamed Bd.named) (name_of_methodNamed Bd.named Bd.method).1 Bd.returns Bd.notSynchronized (by rw [← hh, Bd.state]; rfl) hh
  exact ⟨t, o, h1, h2, h3, h4⟩
theorem g_iloadN (X : Stand p l e R s m args below meth c T locs cells slots) (hx : p.tables.exec = Jvm.exec) (hby : c.code = code) {k : Fin 4} {v : Int32} (hd : Ins1 code pc (.iload_n k) 1 pn) (hl : Ls[k.val]? = some (.val (.int v))) (k : Gd p e below P T (mkF m pn Ls (.int v :: st))) : Gd p e below P T (mkF m pc Ls (st)) := by
  obtain ⟨hd, rfl⟩ := hd
  exact k.imp fun t q => ⟨XS.iloadN X.here hx rfl (hb hby hd) hl q.1, q.2⟩
theorem g_iload (X : Stand p l e R s m args below meth c T locs cells slots) (hx : p.tables.exec = Jvm.exec) (hby : c.code = code) {k : Nat} {v : Int32} (hd : Ins1 code pc (.iload k) 2 pn) (hl : Ls[k]? = some (.val (.int v))) (k : Gd p e below P T (mkF m pn Ls (.int v :: st))) : Gd p e below P T (mkF m pc Ls (st)) := by
  obtain ⟨hd, rfl⟩ := hd
  exact k.imp fun t q => ⟨XS.iload X.here hx rfl (hb hby hd) hl q.1, q.2⟩
theorem g_istoreN (X : Stand p l e R s m args below meth c T locs cells slots) (hx : p.tables.exec = Jvm.exec) (hby : c.code = code) {k : Fin 4} {v : Int32} {l' : Array Slot} (hd : Ins1 code pc (.istore_n k) 1 pn) (hl : storeLocals Ls k.val (.int v) = some l') (k : Gd p e below P T (mkF m pn l' (st))) : Gd p e below P T (mkF m pc Ls (.int v :: st)) := by
  obtain ⟨hd, rfl⟩ := hd
  exact k.imp fun t q => ⟨XS.istoreN X.here hx rfl (hb hby hd) rfl hl q.1, q.2⟩
theorem g_istore (X : Stand p l e R s m args below meth c T locs cells slots) (hx : p.tables.exec = Jvm.exec) (hby : c.code = code) {k : Nat} {v : Int32} {l' : Array Slot} (hd : Ins1 code pc (.istore k) 2 pn) (hl : storeLocals Ls k (.int v) = some l') (k : Gd p e below P T (mkF m pn l' (st))) : Gd p e below P T (mkF m pc Ls (.int v :: st)) := by
  obtain ⟨hd, rfl⟩ := hd
  exact k.imp fun t q => ⟨XS.istore X.here hx rfl (hb hby hd) rfl hl q.1, q.2⟩
theorem g_lloadN (X : Stand p l e R s m args below meth c T locs cells slots) (hx : p.tables.exec = Jvm.exec) (hby : c.code = code) {k : Fin 4} {v : Int64} (hd : Ins1 code pc (.lload_n k) 1 pn) (hl : Ls[k.val]? = some (.val (.long v))) (k : Gd p e below P T (mkF m pn Ls (.long v :: st))) : Gd p e below P T (mkF m pc Ls (st)) := by
  obtain ⟨hd, rfl⟩ := hd
  exact k.imp fun t q => ⟨XS.lloadN X.here hx rfl (hb hby hd) hl q.1, q.2⟩
theorem g_lload (X : Stand p l e R s m args below meth c T locs cells slots) (hx : p.tables.exec = Jvm.exec) (hby : c.code = code) {k : Nat} {v : Int64} (hd : Ins1 code pc (.lload k) 2 pn) (hl : Ls[k]? = some (.val (.long v))) (k : Gd p e below P T (mkF m pn Ls (.long v :: st))) : Gd p e below P T (mkF m pc Ls (st)) := by
  obtain ⟨hd, rfl⟩ := hd
  exact k.imp fun t q => ⟨XS.lload X.here hx rfl (hb hby hd) hl q.1, q.2⟩
theorem g_lstoreN (X : Stand p l e R s m args below meth c T locs cells slots) (hx : p.tables.exec = Jvm.exec) (hby : c.code = code) {k : Fin 4} {v : Int64} {l' : Array Slot} (hd : Ins1 code pc (.lstore_n k) 1 pn) (hl : storeLocals Ls k.val (.long v) = some l') (k : Gd p e below P T (mkF m pn l' (st))) : Gd p e below P T (mkF m pc Ls (.long v :: st)) := by
  obtain ⟨hd, rfl⟩ := hd
  exact k.imp fun t q => ⟨XS.lstoreN X.here hx rfl (hb hby hd) rfl hl q.1, q.2⟩
theorem g_lstore (X : Stand p l e R s m args below meth c T locs cells slots) (hx : p.tables.exec = Jvm.exec) (hby : c.code = code) {k : Nat} {v : Int64} {l' : Array Slot} (hd : Ins1 code pc (.lstore k) 2 pn) (hl : storeLocals Ls k (.long v) = some l') (k : Gd p e below P T (mkF m pn l' (st))) : Gd p e below P T (mkF m pc Ls (.long v :: st)) := by
  obtain ⟨hd, rfl⟩ := hd
  exact k.imp fun t q => ⟨XS.lstore X.here hx rfl (hb hby hd) rfl hl q.1, q.2⟩
theorem g_dloadN (X : Stand p l e R s m args below meth c T locs cells slots) (hx : p.tables.exec = Jvm.exec) (hby : c.code = code) {k : Fin 4} {v : UInt64} (hd : Ins1 code pc (.dload_n k) 1 pn) (hl : Ls[k.val]? = some (.val (.double v))) (k : Gd p e below P T (mkF m pn Ls (.double v :: st))) : Gd p e below P T (mkF m pc Ls (st)) := by
  obtain ⟨hd, rfl⟩ := hd
  exact k.imp fun t q => ⟨XS.dloadN X.here hx rfl (hb hby hd) hl q.1, q.2⟩
theorem g_dload (X : Stand p l e R s m args below meth c T locs cells slots) (hx : p.tables.exec = Jvm.exec) (hby : c.code = code) {k : Nat} {v : UInt64} (hd : Ins1 code pc (.dload k) 2 pn) (hl : Ls[k]? = some (.val (.double v))) (k : Gd p e below P T (mkF m pn Ls (.double v :: st))) : Gd p e below P T (mkF m pc Ls (st)) := by
  obtain ⟨hd, rfl⟩ := hd
  exact k.imp fun t q => ⟨XS.dload X.here hx rfl (hb hby hd) hl q.1, q.2⟩
theorem g_dstoreN (X : Stand p l e R s m args below meth c T locs cells slots) (hx : p.tables.exec = Jvm.exec) (hby : c.code = code) {k : Fin 4} {v : UInt64} {l' : Array Slot} (hd : Ins1 code pc (.dstore_n k) 1 pn) (hl : storeLocals Ls k.val (.double v) = some l') (k : Gd p e below P T (mkF m pn l' (st))) : Gd p e below P T (mkF m pc Ls (.double v :: st)) := by
  obtain ⟨hd, rfl⟩ := hd
  exact k.imp fun t q => ⟨XS.dstoreN X.here hx rfl (hb hby hd) rfl hl q.1, q.2⟩
theorem g_dstore (X : Stand p l e R s m args below meth c T locs cells slots) (hx : p.tables.exec = Jvm.exec) (hby : c.code = code) {k : Nat} {v : UInt64} {l' : Array Slot} (hd : Ins1 code pc (.dstore k) 2 pn) (hl : storeLocals Ls k (.double v) = some l') (k : Gd p e below P T (mkF m pn l' (st))) : Gd p e below P T (mkF m pc Ls (.double v :: st)) := by
  obtain ⟨hd, rfl⟩ := hd
  exact k.imp fun t q => ⟨XS.dstore X.here hx rfl (hb hby hd) rfl hl q.1, q.2⟩
theorem g_aloadN (X : Stand p l e R s m args below meth c T locs cells slots) (hx : p.tables.exec = Jvm.exec) (hby : c.code = code) {k : Fin 4} {v : Value} (hd : Ins1 code pc (.aload_n k) 1 pn) (hl : Ls[k.val]? = some (.val v)) (hv : v.isRef = true) (k : Gd p e below P T (mkF m pn Ls (v :: st))) : Gd p e below P T (mkF m pc Ls (st)) := by
  obtain ⟨hd, rfl⟩ := hd
  exact k.imp fun t q => ⟨XS.aloadN X.here hx rfl (hb hby hd) hl hv q.1, q.2⟩
theorem g_aload (X : Stand p l e R s m args below meth c T locs cells slots) (hx : p.tables.exec = Jvm.exec) (hby : c.code = code) {k : Nat} {v : Value} (hd : Ins1 code pc (.aload k) 2 pn) (hl : Ls[k]? = some (.val v)) (hv : v.isRef = true) (k : Gd p e below P T (mkF m pn Ls (v :: st))) : Gd p e below P T (mkF m pc Ls (st)) := by
  obtain ⟨hd, rfl⟩ := hd
  exact k.imp fun t q => ⟨XS.aload X.here hx rfl (hb hby hd) hl hv q.1, q.2⟩
theorem g_astoreN (X : Stand p l e R s m args below meth c T locs cells slots) (hx : p.tables.exec = Jvm.exec) (hby : c.code = code) {k : Fin 4} {v : Value} {l' : Array Slot} (hd : Ins1 code pc (.astore_n k) 1 pn) (hv : v.isRef = true) (hl : storeLocals Ls k.val v = some l') (k : Gd p e below P T (mkF m pn l' (st))) : Gd p e below P T (mkF m pc Ls (v :: st)) := by
  obtain ⟨hd, rfl⟩ := hd
  exact k.imp fun t q => ⟨XS.astoreN X.here hx rfl (hb hby hd) rfl hv hl q.1, q.2⟩
theorem g_astore (X : Stand p l e R s m args below meth c T locs cells slots) (hx : p.tables.exec = Jvm.exec) (hby : c.code = code) {k : Nat} {v : Value} {l' : Array Slot} (hd : Ins1 code pc (.astore k) 2 pn) (hv : v.isRef = true) (hl : storeLocals Ls k v = some l') (k : Gd p e below P T (mkF m pn l' (st))) : Gd p e below P T (mkF m pc Ls (v :: st)) := by
  obtain ⟨hd, rfl⟩ := hd
  exact k.imp fun t q => ⟨XS.astore X.here hx rfl (hb hby hd) rfl hv hl q.1, q.2⟩
theorem g_istoreNW (X : Stand p l e R s m args below meth c T locs cells slots) (hx : p.tables.exec = Jvm.exec) (hby : c.code = code) {k : Fin 4} {v : Int32} {l' : Int32 → Array Slot} (hd : Ins1 code pc (.istore_n k) 1 pn) (hl : ∀ w, storeLocals Ls k.val (.int w) = some (l' w)) (k : ∀ w, w = v → Gd p e below P T (mkF m pn (l' w) st)) : Gd p e below P T (mkF m pc Ls (.int v :: st)) := g_istoreN X hx hby hd (hl v) (k v rfl)
theorem g_istoreW (X : Stand p l e R s m args below meth c T locs cells slots) (hx : p.tables.exec = Jvm.exec) (hby : c.code = code) {k : Nat} {v : Int32} {l' : Int32 → Array Slot} (hd : Ins1 code pc (.istore k) 2 pn) (hl : ∀ w, storeLocals Ls k (.int w) = some (l' w)) (k : ∀ w, w = v → Gd p e below P T (mkF m pn (l' w) st)) : Gd p e below P T (mkF m pc Ls (.int v :: st)) := g_istore X hx hby hd (hl v) (k v rfl)
theorem g_lstoreNW (X : Stand p l e R s m args below meth c T locs cells slots) (hx : p.tables.exec = Jvm.exec) (hby : c.code = code) {k : Fin 4} {v : Int64} {l' : Int64 → Array Slot} (hd : Ins1 code pc (.lstore_n k) 1 pn) (hl : ∀ w, storeLocals Ls k.val (.long w) = some (l' w)) (k : ∀ w, w = v → Gd p e below P T (mkF m pn (l' w) st)) : Gd p e below P T (mkF m pc Ls (.long v :: st)) := g_lstoreN X hx hby hd (hl v) (k v rfl)
theorem g_lstoreW (X : Stand p l e R s m args below meth c T locs cells slots) (hx : p.tables.exec = Jvm.exec) (hby : c.code = code) {k : Nat} {v : Int64} {l' : Int64 → Array Slot} (hd : Ins1 code pc (.lstore k) 2 pn) (hl : ∀ w, storeLocals Ls k (.long w) = some (l' w)) (k : ∀ w, w = v → Gd p e below P T (mkF m pn (l' w) st)) : Gd p e below P T (mkF m pc Ls (.long v :: st)) := g_lstore X hx hby hd (hl v) (k v rfl)
theorem g_iconst (X : Stand p l e R s m args below meth c T locs cells slots) (hx : p.tables.exec = Jvm.exec) (hby : c.code = code) {i : Int} {z : Int32} (hd : Ins1 code pc (.iconst i) 1 pn) (hz : Int32.ofInt i = z) (k : Gd p e below P T (mkF m pn Ls (.int z :: st))) : Gd p e below P T (mkF m pc Ls st) := by
  obtain ⟨hd, rfl⟩ := hd
  subst hz
  exact k.imp fun t q => ⟨XS.iconst X.here hx rfl (hb hby hd) q.1, q.2⟩
theorem g_bipush (X : Stand p l e R s m args below meth c T locs cells slots) (hx : p.tables.exec = Jvm.exec) (hby : c.code = code) {i : Int} {z : Int32} (hd : Ins1 code pc (.bipush i) 2 pn) (hz : (Int8.ofInt i).toInt32 = z) (k : Gd p e below P T (mkF m pn Ls (.int z :: st))) : Gd p e below P T (mkF m pc Ls st) := by
  obtain ⟨hd, rfl⟩ := hd
  subst hz
  exact k.imp fun t q => ⟨XS.bipush X.here hx rfl (hb hby hd) q.1, q.2⟩
theorem g_sipush (X : Stand p l e R s m args below meth c T locs cells slots) (hx : p.tables.exec = Jvm.exec) (hby : c.code = code) {i : Int} {z : Int32} (hd : Ins1 code pc (.sipush i) 3 pn) (hz : (Int16.ofInt i).toInt32 = z) (k : Gd p e below P T (mkF m pn Ls (.int z :: st))) : Gd p e below P T (mkF m pc Ls st) := by
  obtain ⟨hd, rfl⟩ := hd
  subst hz
  exact k.imp fun t q => ⟨XS.sipush X.here hx rfl (hb hby hd) q.1, q.2⟩
theorem g_lconst (X : Stand p l e R s m args below meth c T locs cells slots) (hx : p.tables.exec = Jvm.exec) (hby : c.code = code) {i : Fin 2} {z : Int64} (hd : Ins1 code pc (.lconst i) 1 pn) (hz : Int64.ofNat i = z) (k : Gd p e below P T (mkF m pn Ls (.long z :: st))) : Gd p e below P T (mkF m pc Ls st) := by
  obtain ⟨hd, rfl⟩ := hd
  subst hz
  exact k.imp fun t q => ⟨XS.lconst X.here hx rfl (hb hby hd) q.1, q.2⟩
theorem g_aconst_null (X : Stand p l e R s m args below meth c T locs cells slots) (hx : p.tables.exec = Jvm.exec) (hby : c.code = code)  (hd : Ins1 code pc (.aconst_null) 1 pn) (k : Gd p e below P T (mkF m pn Ls (.null :: st))) : Gd p e below P T (mkF m pc Ls (st)) := by
  obtain ⟨hd, rfl⟩ := hd
  exact k.imp fun t q => ⟨XS.aconstNull X.here hx rfl (hb hby hd)  q.1, q.2⟩
theorem g_iadd (X : Stand p l e R s m args below meth c T locs cells slots) (hx : p.tables.exec = Jvm.exec) (hby : c.code = code) {x y : Int32} (hd : Ins1 code pc (.iadd) 1 pn) (k : Gd p e below P T (mkF m pn Ls (.int (x + y) :: st))) : Gd p e below P T (mkF m pc Ls (.int y :: .int x :: st)) := by
  obtain ⟨hd, rfl⟩ := hd
  exact k.imp fun t q => ⟨XS.iadd X.here hx rfl (hb hby hd) rfl q.1, q.2⟩
theorem g_isub (X : Stand p l e R s m args below meth c T locs cells slots) (hx : p.tables.exec = Jvm.exec) (hby : c.code = code) {x y : Int32} (hd : Ins1 code pc (.isub) 1 pn) (k : Gd p e below P T (mkF m pn Ls (.int (x - y) :: st))) : Gd p e below P T (mkF m pc Ls (.int y :: .int x :: st)) := by
  obtain ⟨hd, rfl⟩ := hd
  exact k.imp fun t q => ⟨XS.isub X.here hx rfl (hb hby hd) rfl q.1, q.2⟩
theorem g_imul (X : Stand p l e R s m args below meth c T locs cells slots) (hx : p.tables.exec = Jvm.exec) (hby : c.code = code) {x y : Int32} (hd : Ins1 code pc (.imul) 1 pn) (k : Gd p e below P T (mkF m pn Ls (.int (x * y) :: st))) : Gd p e below P T (mkF m pc Ls (.int y :: .int x :: st)) := by
  obtain ⟨hd, rfl⟩ := hd
  exact k.imp fun t q => ⟨XS.imul X.here hx rfl (hb hby hd) rfl q.1, q.2⟩
theorem g_iand (X : Stand p l e R s m args below meth c T locs cells slots) (hx : p.tables.exec = Jvm.exec) (hby : c.code = code) {x y : Int32} (hd : Ins1 code pc (.iand) 1 pn) (k : Gd p e below P T (mkF m pn Ls (.int (x &&& y) :: st))) : Gd p e below P T (mkF m pc Ls (.int y :: .int x :: st)) := by
  obtain ⟨hd, rfl⟩ := hd
  exact k.imp fun t q => ⟨XS.iand X.here hx rfl (hb hby hd) rfl q.1, q.2⟩
theorem g_ior (X : Stand p l e R s m args below meth c T locs cells slots) (hx : p.tables.exec = Jvm.exec) (hby : c.code = code) {x y : Int32} (hd : Ins1 code pc (.ior) 1 pn) (k : Gd p e below P T (mkF m pn Ls (.int (x ||| y) :: st))) : Gd p e below P T (mkF m pc Ls (.int y :: .int x :: st)) := by
  obtain ⟨hd, rfl⟩ := hd
  exact k.imp fun t q => ⟨XS.ior X.here hx rfl (hb hby hd) rfl q.1, q.2⟩
theorem g_ixor (X : Stand p l e R s m args below meth c T locs cells slots) (hx : p.tables.exec = Jvm.exec) (hby : c.code = code) {x y : Int32} (hd : Ins1 code pc (.ixor) 1 pn) (k : Gd p e below P T (mkF m pn Ls (.int (x ^^^ y) :: st))) : Gd p e below P T (mkF m pc Ls (.int y :: .int x :: st)) := by
  obtain ⟨hd, rfl⟩ := hd
  exact k.imp fun t q => ⟨XS.ixor X.here hx rfl (hb hby hd) rfl q.1, q.2⟩
theorem g_ladd (X : Stand p l e R s m args below meth c T locs cells slots) (hx : p.tables.exec = Jvm.exec) (hby : c.code = code) {x y : Int64} (hd : Ins1 code pc (.ladd) 1 pn) (k : Gd p e below P T (mkF m pn Ls (.long (x + y) :: st))) : Gd p e below P T (mkF m pc Ls (.long y :: .long x :: st)) := by
  obtain ⟨hd, rfl⟩ := hd
  exact k.imp fun t q => ⟨XS.ladd X.here hx rfl (hb hby hd) rfl q.1, q.2⟩
theorem g_lsub (X : Stand p l e R s m args below meth c T locs cells slots) (hx : p.tables.exec = Jvm.exec) (hby : c.code = code) {x y : Int64} (hd : Ins1 code pc (.lsub) 1 pn) (k : Gd p e below P T (mkF m pn Ls (.long (x - y) :: st))) : Gd p e below P T (mkF m pc Ls (.long y :: .long x :: st)) := by
  obtain ⟨hd, rfl⟩ := hd
  exact k.imp fun t q => ⟨XS.lsub X.here hx rfl (hb hby hd) rfl q.1, q.2⟩
theorem g_lmul (X : Stand p l e R s m args below meth c T locs cells slots) (hx : p.tables.exec = Jvm.exec) (hby : c.code = code) {x y : Int64} (hd : Ins1 code pc (.lmul) 1 pn) (k : Gd p e below P T (mkF m pn Ls (.long (x * y) :: st))) : Gd p e below P T (mkF m pc Ls (.long y :: .long x :: st)) := by
  obtain ⟨hd, rfl⟩ := hd
  exact k.imp fun t q => ⟨XS.lmul X.here hx rfl (hb hby hd) rfl q.1, q.2⟩
theorem g_land (X : Stand p l e R s m args below meth c T locs cells slots) (hx : p.tables.exec = Jvm.exec) (hby : c.code = code) {x y : Int64} (hd : Ins1 code pc (.land) 1 pn) (k : Gd p e below P T (mkF m pn Ls (.long (x &&& y) :: st))) : Gd p e below P T (mkF m pc Ls (.long y :: .long x :: st)) := by
  obtain ⟨hd, rfl⟩ := hd
  exact k.imp fun t q => ⟨XS.land X.here hx rfl (hb hby hd) rfl q.1, q.2⟩
theorem g_lor (X : Stand p l e R s m args below meth c T locs cells slots) (hx : p.tables.exec = Jvm.exec) (hby : c.code = code) {x y : Int64} (hd : Ins1 code pc (.lor) 1 pn) (k : Gd p e below P T (mkF m pn Ls (.long (x ||| y) :: st))) : Gd p e below P T (mkF m pc Ls (.long y :: .long x :: st)) := by
  obtain ⟨hd, rfl⟩ := hd
  exact k.imp fun t q => ⟨XS.lor X.here hx rfl (hb hby hd) rfl q.1, q.2⟩
theorem g_lxor (X : Stand p l e R s m args below meth c T locs cells slots) (hx : p.tables.exec = Jvm.exec) (hby : c.code = code) {x y : Int64} (hd : Ins1 code pc (.lxor) 1 pn) (k : Gd p e below P T (mkF m pn Ls (.long (x ^^^ y) :: st))) : Gd p e below P T (mkF m pc Ls (.long y :: .long x :: st)) := by
  obtain ⟨hd, rfl⟩ := hd
  exact k.imp fun t q => ⟨XS.lxor X.here hx rfl (hb hby hd) rfl q.1, q.2⟩
theorem g_ishl (X : Stand p l e R s m args below meth c T locs cells slots) (hx : p.tables.exec = Jvm.exec) (hby : c.code = code) {x : Int32} {y : Int32} (hd : Ins1 code pc (.ishl) 1 pn) (k : Gd p e below P T (mkF m pn Ls (.int (x <<< (y &&& 31)) :: st))) : Gd p e below P T (mkF m pc Ls (.int y :: .int x :: st)) := by
  obtain ⟨hd, rfl⟩ := hd
  exact k.imp fun t q => ⟨XS.ishl X.here hx rfl (hb hby hd) rfl q.1, q.2⟩
theorem g_ishr (X : Stand p l e R s m args below meth c T locs cells slots) (hx : p.tables.exec = Jvm.exec) (hby : c.code = code) {x : Int32} {y : Int32} (hd : Ins1 code pc (.ishr) 1 pn) (k : Gd p e below P T (mkF m pn Ls (.int (x >>> (y &&& 31)) :: st))) : Gd p e below P T (mkF m pc Ls (.int y :: .int x :: st)) := by
  obtain ⟨hd, rfl⟩ := hd
  exact k.imp fun t q => ⟨XS.ishr X.here hx rfl (hb hby hd) rfl q.1, q.2⟩
theorem g_iushr (X : Stand p l e R s m args below meth c T locs cells slots) (hx : p.tables.exec = Jvm.exec) (hby : c.code = code) {x : Int32} {y : Int32} (hd : Ins1 code pc (.iushr) 1 pn) (k : Gd p e below P T (mkF m pn Ls (.int ((x.toUInt32 >>> (y &&& 31).toUInt32).toInt32) :: st))) : Gd p e below P T (mkF m pc Ls (.int y :: .int x :: st)) := by
  obtain ⟨hd, rfl⟩ := hd
  exact k.imp fun t q => ⟨XS.iushr X.here hx rfl (hb hby hd) rfl q.1, q.2⟩
theorem g_lshl (X : Stand p l e R s m args below meth c T locs cells slots) (hx : p.tables.exec = Jvm.exec) (hby : c.code = code) {x : Int64} {y : Int32} (hd : Ins1 code pc (.lshl) 1 pn) (k : Gd p e below P T (mkF m pn Ls (.long (x <<< (y &&& 0x3f).toInt64) :: st))) : Gd p e below P T (mkF m pc Ls (.int y :: .long x :: st)) := by
  obtain ⟨hd, rfl⟩ := hd
  exact k.imp fun t q => ⟨XS.lshl X.here hx rfl (hb hby hd) rfl q.1, q.2⟩
theorem g_lshr (X : Stand p l e R s m args below meth c T locs cells slots) (hx : p.tables.exec = Jvm.exec) (hby : c.code = code) {x : Int64} {y : Int32} (hd : Ins1 code pc (.lshr) 1 pn) (k : Gd p e below P T (mkF m pn Ls (.long (x >>> (y &&& 0x3f).toInt64) :: st))) : Gd p e below P T (mkF m pc Ls (.int y :: .long x :: st)) := by
  obtain ⟨hd, rfl⟩ := hd
  exact k.imp fun t q => ⟨XS.lshr X.here hx rfl (hb hby hd) rfl q.1, q.2⟩
theorem g_lushr (X : Stand p l e R s m args below meth c T locs cells slots) (hx : p.tables.exec = Jvm.exec) (hby : c.code = code) {x : Int64} {y : Int32} (hd : Ins1 code pc (.lushr) 1 pn) (k : Gd p e below P T (mkF m pn Ls (.long ((x.toUInt64 >>> (y &&& 0x3f).toInt64.toUInt64).toInt64) :: st))) : Gd p e below P T (mkF m pc Ls (.int y :: .long x :: st)) := by
  obtain ⟨hd, rfl⟩ := hd
  exact k.imp fun t q => ⟨XS.lushr X.here hx rfl (hb hby hd) rfl q.1, q.2⟩
theorem g_ineg (X : Stand p l e R s m args below meth c T locs cells slots) (hx : p.tables.exec = Jvm.exec) (hby : c.code = code) {x : Int32} (hd : Ins1 code pc (.ineg) 1 pn) (k : Gd p e below P T (mkF m pn Ls (.int (-x) :: st))) : Gd p e below P T (mkF m pc Ls (.int x :: st)) := by
  obtain ⟨hd, rfl⟩ := hd
  exact k.imp fun t q => ⟨XS.ineg X.here hx rfl (hb hby hd) rfl q.1, q.2⟩
theorem g_lneg (X : Stand p l e R s m args below meth c T locs cells slots) (hx : p.tables.exec = Jvm.exec) (hby : c.code = code) {x : Int64} (hd : Ins1 code pc (.lneg) 1 pn) (k : Gd p e below P T (mkF m pn Ls (.long (-x) :: st))) : Gd p e below P T (mkF m pc Ls (.long x :: st)) := by
  obtain ⟨hd, rfl⟩ := hd
  exact k.imp fun t q => ⟨XS.lneg X.here hx rfl (hb hby hd) rfl q.1, q.2⟩
theorem g_i2l (X : Stand p l e R s m args below meth c T locs cells slots) (hx : p.tables.exec = Jvm.exec) (hby : c.code = code) {x : Int32} (hd : Ins1 code pc (.i2l) 1 pn) (k : Gd p e below P T (mkF m pn Ls (.long x.toInt64 :: st))) : Gd p e below P T (mkF m pc Ls (.int x :: st)) := by
  obtain ⟨hd, rfl⟩ := hd
  exact k.imp fun t q => ⟨XS.i2l X.here hx rfl (hb hby hd) rfl q.1, q.2⟩
theorem g_l2i (X : Stand p l e R s m args below meth c T locs cells slots) (hx : p.tables.exec = Jvm.exec) (hby : c.code = code) {x : Int64} (hd : Ins1 code pc (.l2i) 1 pn) (k : Gd p e below P T (mkF m pn Ls (.int x.toInt32 :: st))) : Gd p e below P T (mkF m pc Ls (.long x :: st)) := by
  obtain ⟨hd, rfl⟩ := hd
  exact k.imp fun t q => ⟨XS.l2i X.here hx rfl (hb hby hd) rfl q.1, q.2⟩
theorem g_i2b (X : Stand p l e R s m args below meth c T locs cells slots) (hx : p.tables.exec = Jvm.exec) (hby : c.code = code) {x : Int32} (hd : Ins1 code pc (.i2b) 1 pn) (k : Gd p e below P T (mkF m pn Ls (.int x.toInt8.toInt32 :: st))) : Gd p e below P T (mkF m pc Ls (.int x :: st)) := by
  obtain ⟨hd, rfl⟩ := hd
  exact k.imp fun t q => ⟨XS.i2b X.here hx rfl (hb hby hd) rfl q.1, q.2⟩
theorem g_i2s (X : Stand p l e R s m args below meth c T locs cells slots) (hx : p.tables.exec = Jvm.exec) (hby : c.code = code) {x : Int32} (hd : Ins1 code pc (.i2s) 1 pn) (k : Gd p e below P T (mkF m pn Ls (.int x.toInt16.toInt32 :: st))) : Gd p e below P T (mkF m pc Ls (.int x :: st)) := by
  obtain ⟨hd, rfl⟩ := hd
  exact k.imp fun t q => ⟨XS.i2s X.here hx rfl (hb hby hd) rfl q.1, q.2⟩
theorem g_i2c (X : Stand p l e R s m args below meth c T locs cells slots) (hx : p.tables.exec = Jvm.exec) (hby : c.code = code) {x : Int32} (hd : Ins1 code pc (.i2c) 1 pn) (k : Gd p e below P T (mkF m pn Ls (.int x.toUInt32.toUInt16.toUInt32.toInt32 :: st))) : Gd p e below P T (mkF m pc Ls (.int x :: st)) := by
  obtain ⟨hd, rfl⟩ := hd
  exact k.imp fun t q => ⟨XS.i2c X.here hx rfl (hb hby hd) rfl q.1, q.2⟩
theorem g_idiv (X : Stand p l e R s m args below meth c T locs cells slots) (hx : p.tables.exec = Jvm.exec) (hby : c.code = code) {x y : Int32} (hd : Ins1 code pc (.idiv) 1 pn) (hy : y ≠ 0) (k : Gd p e below P T (mkF m pn Ls (.int (x / y) :: st))) : Gd p e below P T (mkF m pc Ls (.int y :: .int x :: st)) := by
  obtain ⟨hd, rfl⟩ := hd
  exact k.imp fun t q => ⟨XS.idiv X.here hx rfl (hb hby hd) rfl hy q.1, q.2⟩
theorem g_ldiv (X : Stand p l e R s m args below meth c T locs cells slots) (hx : p.tables.exec = Jvm.exec) (hby : c.code = code) {x y : Int64} (hd : Ins1 code pc (.ldiv) 1 pn) (hy : y ≠ 0) (k : Gd p e below P T (mkF m pn Ls (.long (x / y) :: st))) : Gd p e below P T (mkF m pc Ls (.long y :: .long x :: st)) := by
  obtain ⟨hd, rfl⟩ := hd
  exact k.imp fun t q => ⟨XS.ldiv X.here hx rfl (hb hby hd) rfl hy q.1, q.2⟩
theorem g_lrem (X : Stand p l e R s m args below meth c T locs cells slots) (hx : p.tables.exec = Jvm.exec) (hby : c.code = code) {x y : Int64} (hd : Ins1 code pc (.lrem) 1 pn) (hy : y ≠ 0) (k : Gd p e below P T (mkF m pn Ls (.long (x - (x / y) * y) :: st))) : Gd p e below P T (mkF m pc Ls (.long y :: .long x :: st)) := by
  obtain ⟨hd, rfl⟩ := hd
  exact k.imp fun t q => ⟨XS.lrem X.here hx rfl (hb hby hd) rfl hy q.1, q.2⟩
theorem g_irem (X : Stand p l e R s m args below meth c T locs cells slots) (hx : p.tables.exec = Jvm.exec) (hby : c.code = code) {x y : Int32} (hd : Ins1 code pc .irem 1 pn) (hy : y ≠ 0) (k : Gd p e below P T (mkF m pn Ls (.int (x % y) :: st))) : Gd p e below P T (mkF m pc Ls (.int y :: .int x :: st)) := by
  obtain ⟨hd, rfl⟩ := hd
  exact k.imp fun t q => ⟨iremM X hx rfl (hb hby hd) rfl hy q.1, q.2⟩
theorem g_iinc (X : Stand p l e R s m args below meth c T locs cells slots) (hx : p.tables.exec = Jvm.exec) (hby : c.code = code) {j : Nat} {i : Int} {x z : Int32} {l' : Array Slot} (hd : Ins1 code pc (.iinc j i) 3 pn) (hl : Ls[j]? = some (.val (.int x))) (hz : x + Int32.ofInt i = z) (hs : storeLocals Ls j (.int z) = some l') (k : Gd p e below P T (mkF m pn l' st)) : Gd p e below P T (mkF m pc Ls st) := by
  obtain ⟨hd, rfl⟩ := hd
  subst hz
  exact k.imp fun t q => ⟨XS.iinc X.here hx rfl (hb hby hd) hl hs q.1, q.2⟩
theorem g_dup (X : Stand p l e R s m args below meth c T locs cells slots) (hx : p.tables.exec = Jvm.exec) (hby : c.code = code) {x : Value} (hd : Ins1 code pc (.dup) 1 pn) (hc : x.category = 1) (k : Gd p e below P T (mkF m pn Ls (x :: x :: st))) : Gd p e below P T (mkF m pc Ls (x :: st)) := by
  obtain ⟨hd, rfl⟩ := hd
  exact k.imp fun t q => ⟨XS.dup X.here hx rfl (hb hby hd) rfl hc q.1, q.2⟩
theorem g_dup2 (X : Stand p l e R s m args below meth c T locs cells slots) (hx : p.tables.exec = Jvm.exec) (hby : c.code = code) {x y : Value} (hd : Ins1 code pc (.dup2) 1 pn) (hc : x.category = 1) (hc2 : y.category = 1) (k : Gd p e below P T (mkF m pn Ls (x :: y :: x :: y :: st))) : Gd p e below P T (mkF m pc Ls (x :: y :: st)) := by
  obtain ⟨hd, rfl⟩ := hd
  exact k.imp fun t q => ⟨XT.dup2 X.here hx rfl (hb hby hd) rfl hc hc2 q.1, q.2⟩
theorem g_dup2L (X : Stand p l e R s m args below meth c T locs cells slots) (hx : p.tables.exec = Jvm.exec) (hby : c.code = code) {x : Int64} (hd : Ins1 code pc (.dup2) 1 pn) (k : Gd p e below P T (mkF m pn Ls (.long x :: .long x :: st))) : Gd p e below P T (mkF m pc Ls (.long x :: st)) := by
  obtain ⟨hd, rfl⟩ := hd
  exact k.imp fun t q => ⟨XT.dup2L X.here hx rfl (hb hby hd) rfl q.1, q.2⟩
theorem g_pop (X : Stand p l e R s m args below meth c T locs cells slots) (hx : p.tables.exec = Jvm.exec) (hby : c.code = code) {x : Value} (hd : Ins1 code pc (.pop) 1 pn) (hc : x.category = 1) (k : Gd p e below P T (mkF m pn Ls (st))) : Gd p e below P T (mkF m pc Ls (x :: st)) := by
  obtain ⟨hd, rfl⟩ := hd
  exact k.imp fun t q => ⟨XS.pop X.here hx rfl (hb hby hd) rfl hc q.1, q.2⟩
theorem g_dup_x1 (X : Stand p l e R s m args below meth c T locs cells slots) (hx : p.tables.exec = Jvm.exec) (hby : c.code = code) {x y : Value} (hd : Ins1 code pc (.dup_x1) 1 pn) (hc : x.category = 1) (hc2 : y.category = 1) (k : Gd p e below P T (mkF m pn Ls (x :: y :: x :: st))) : Gd p e below P T (mkF m pc Ls (x :: y :: st)) := by
  obtain ⟨hd, rfl⟩ := hd
  exact k.imp fun t q => ⟨XS.dupX1 X.here hx rfl (hb hby hd) rfl hc hc2 q.1, q.2⟩
theorem g_i2d (X : Stand p l e R s m args below meth c T locs cells slots) (hx : p.tables.exec = Jvm.exec) (hby : c.code = code) {x : Int32} (hd : Ins1 code pc (.i2d) 1 pn) (k : Gd p e below P T (mkF m pn Ls (.double (FP.i2d x) :: st))) : Gd p e below P T (mkF m pc Ls (.int x :: st)) := by
  obtain ⟨hd, rfl⟩ := hd
  exact k.imp fun t q => ⟨XS.i2dS X.here hx rfl (hb hby hd) rfl rfl q.1, q.2⟩
theorem g_l2d (X : Stand p l e R s m args below meth c T locs cells slots) (hx : p.tables.exec = Jvm.exec) (hby : c.code = code) {x : Int64} (hd : Ins1 code pc (.l2d) 1 pn) (k : Gd p e below P T (mkF m pn Ls (.double (FP.l2d x) :: st))) : Gd p e below P T (mkF m pc Ls (.long x :: st)) := by
  obtain ⟨hd, rfl⟩ := hd
  exact k.imp fun t q => ⟨XS.l2dS X.here hx rfl (hb hby hd) rfl rfl q.1, q.2⟩
theorem g_ddiv (X : Stand p l e R s m args below meth c T locs cells slots) (hx : p.tables.exec = Jvm.exec) (hby : c.code = code) {x y : UInt64} (hd : Ins1 code pc (.ddiv) 1 pn) (hn : Jvm.Free.Fl.NoNaN64 (FP.ddiv x y)) (k : Gd p e below P T (mkF m pn Ls (.double (FP.ddiv x y) :: st))) : Gd p e below P T (mkF m pc Ls (.double y :: .double x :: st)) := by
  obtain ⟨hd, rfl⟩ := hd
  exact k.imp fun t q => ⟨XS.ddivS X.here hx rfl (hb hby hd) rfl hn rfl q.1, q.2⟩
theorem g_dcmp (X : Stand p l e R s m args below meth c T locs cells slots) (hx : p.tables.exec = Jvm.exec) (hby : c.code = code) {x y : UInt64} {o : CmpOp} (hd : Ins1 code pc (.dcmp o) 1 pn) (k : Gd p e below P T (mkF m pn Ls (.int (cmpValue (FP.dcmp x y) o) :: st))) : Gd p e below P T (mkF m pc Ls (.double y :: .double x :: st)) := by
  obtain ⟨hd, rfl⟩ := hd
  exact k.imp fun t q => ⟨XS.dcmpS X.here hx rfl (hb hby hd) rfl rfl q.1, q.2⟩
theorem g_dconst0 (X : Stand p l e R s m args below meth c T locs cells slots) (hx : p.tables.exec = Jvm.exec) (hby : c.code = code)  (hd : Ins1 code pc (.dconst 0) 1 pn) (k : Gd p e below P T (mkF m pn Ls (.double FP.dconst0 :: st))) : Gd p e below P T (mkF m pc Ls (st)) := by
  obtain ⟨hd, rfl⟩ := hd
  exact k.imp fun t q => ⟨XS.dconst0 X.here hx rfl (hb hby hd) rfl q.1, q.2⟩
theorem g_dconst1 (X : Stand p l e R s m args below meth c T locs cells slots) (hx : p.tables.exec = Jvm.exec) (hby : c.code = code)  (hd : Ins1 code pc (.dconst 1) 1 pn) (k : Gd p e below P T (mkF m pn Ls (.double FP.dconst1 :: st))) : Gd p e below P T (mkF m pc Ls (st)) := by
  obtain ⟨hd, rfl⟩ := hd
  exact k.imp fun t q => ⟨XS.dconst1 X.here hx rfl (hb hby hd) rfl q.1, q.2⟩
theorem g_lcmp (X : Stand p l e R s m args below meth c T locs cells slots) (hx : p.tables.exec = Jvm.exec) (hby : c.code = code) {x y : Int64} (hd : Ins1 code pc (.lcmp) 1 pn) (k : Gd p e below P T (mkF m pn Ls (.int (lcmpW x y) :: st))) : Gd p e below P T (mkF m pc Ls (.long y :: .long x :: st)) := by
  obtain ⟨hd, rfl⟩ := hd
  exact k.imp fun t q => ⟨XS.lcmp X.here hx rfl (hb hby hd) rfl q.1, q.2⟩
theorem g_goto (X : Stand p l e R s m args below meth c T locs cells slots) (hx : p.tables.exec = Jvm.exec) (hby : c.code = code) {o : Int} (hd : InsB code pc (.goto o) o pn pt) (k : Gd p e below P T (mkF m pt Ls st)) : Gd p e below P T (mkF m pc Ls st) := by
  obtain ⟨hd, -, ho, hp⟩ := hd
  exact k.imp fun t q => ⟨XS.goto X.here hx rfl rfl (hb hby hd) ho hp q.1, q.2⟩
theorem g_icmp_lt (X : Stand p l e R s m args below meth c T locs cells slots) (hx : p.tables.exec = Jvm.exec) (hby : c.code = code) {x y : Int32} {o : Int} (hd : InsB code pc (.if_icmp .lt o) o pn pt) (ky : x < y → Gd p e below P T (mkF m pt Ls st)) (kn : ¬ x < y → Gd p e below P T (mkF m pn Ls st)) : Gd p e below P T (mkF m pc Ls (.int y :: .int x :: st)) := by
  obtain ⟨hd, rfl, ho, hp⟩ := hd
  by_cases w : x < y
  · exact (ky w).imp fun t q => ⟨XS.icmpYes X.here hx rfl rfl (hb hby hd) rfl (tlt w).1 ho hp q.1, q.2⟩
  · exact (kn w).imp fun t q => ⟨XS.icmpNo X.here hx rfl (hb hby hd) rfl (flt w).1 q.1, q.2⟩
theorem g_if_lt (X : Stand p l e R s m args below meth c T locs cells slots) (hx : p.tables.exec = Jvm.exec) (hby : c.code = code) {x : Int32} {o : Int} (hd : InsB code pc (.ifCond .lt o) o pn pt) (ky : x < 0 → Gd p e below P T (mkF m pt Ls st)) (kn : ¬ x < 0 → Gd p e below P T (mkF m pn Ls st)) : Gd p e below P T (mkF m pc Ls (.int x :: st)) := by
  obtain ⟨hd, rfl, ho, hp⟩ := hd
  by_cases w : x < 0
  · exact (ky w).imp fun t q => ⟨XS.ifYes X.here hx rfl rfl (hb hby hd) rfl ((if0 _ _).trans (tlt w).1) ho hp q.1, q.2⟩
  · exact (kn w).imp fun t q => ⟨XS.ifNo X.here hx rfl (hb hby hd) rfl ((if0 _ _).trans (flt w).1) q.1, q.2⟩
theorem g_lcmp_lt (X : Stand p l e R s m args below meth c T locs cells slots) (hx : p.tables.exec = Jvm.exec) (hby : c.code = code) {x y : Int64} {o : Int} {pc1 : Nat} (hc : Ins1 code pc .lcmp 1 pc1) (hd : InsB code pc1 (.ifCond .lt o) o pn pt) (ky : x < y → Gd p e below P T (mkF m pt Ls st)) (kn : ¬ x < y → Gd p e below P T (mkF m pn Ls st)) : Gd p e below P T (mkF m pc Ls (.long y :: .long x :: st)) :=
  g_lcmp X hx hby hc (g_if_lt X hx hby hd (fun w => ky ((lw_lt x y).mp w)) (fun w => kn (fun q => w ((lw_lt x y).mpr q))))
theorem g_icmp_ge (X : Stand p l e R s m args below meth c T locs cells slots) (hx : p.tables.exec = Jvm.exec) (hby : c.code = code) {x y : Int32} {o : Int} (hd : InsB code pc (.if_icmp .ge o) o pn pt) (ky : ¬ x < y → Gd p e below P T (mkF m pt Ls st)) (kn : x < y → Gd p e below P T (mkF m pn Ls st)) : Gd p e below P T (mkF m pc Ls (.int y :: .int x :: st)) := by
  obtain ⟨hd, rfl, ho, hp⟩ := hd
  by_cases w : x < y
  · exact (kn w).imp fun t q => ⟨XS.icmpNo X.here hx rfl (hb hby hd) rfl (tlt w).2.1 q.1, q.2⟩
  · exact (ky w).imp fun t q => ⟨XS.icmpYes X.here hx rfl rfl (hb hby hd) rfl (flt w).2.1 ho hp q.1, q.2⟩
theorem g_if_ge (X : Stand p l e R s m args below meth c T locs cells slots) (hx : p.tables.exec = Jvm.exec) (hby : c.code = code) {x : Int32} {o : Int} (hd : InsB code pc (.ifCond .ge o) o pn pt) (ky : ¬ x < 0 → Gd p e below P T (mkF m pt Ls st)) (kn : x < 0 → Gd p e below P T (mkF m pn Ls st)) : Gd p e below P T (mkF m pc Ls (.int x :: st)) := by
  obtain ⟨hd, rfl, ho, hp⟩ := hd
  by_cases w : x < 0
  · exact (kn w).imp fun t q => ⟨XS.ifNo X.here hx rfl (hb hby hd) rfl ((if0 _ _).trans (tlt w).2.1) q.1, q.2⟩
  · exact (ky w).imp fun t q => ⟨XS.ifYes X.here hx rfl rfl (hb hby hd) rfl ((if0 _ _).trans (flt w).2.1) ho hp q.1, q.2⟩
theorem g_lcmp_ge (X : Stand p l e R s m args below meth c T locs cells slots) (hx : p.tables.exec = Jvm.exec) (hby : c.code = code) {x y : Int64} {o : Int} {pc1 : Nat} (hc : Ins1 code pc .lcmp 1 pc1) (hd : InsB code pc1 (.ifCond .ge o) o pn pt) (ky : ¬ x < y → Gd p e below P T (mkF m pt Ls st)) (kn : x < y → Gd p e below P T (mkF m pn Ls st)) : Gd p e below P T (mkF m pc Ls (.long y :: .long x :: st)) :=
  g_lcmp X hx hby hc (g_if_ge X hx hby hd (fun w => ky (fun q => w ((lw_lt x y).mpr q))) (fun w => kn ((lw_lt x y).mp w)))
theorem g_icmp_gt (X : Stand p l e R s m args below meth c T locs cells slots) (hx : p.tables.exec = Jvm.exec) (hby : c.code = code) {x y : Int32} {o : Int} (hd : InsB code pc (.if_icmp .gt o) o pn pt) (ky : y < x → Gd p e below P T (mkF m pt Ls st)) (kn : ¬ y < x → Gd p e below P T (mkF m pn Ls st)) : Gd p e below P T (mkF m pc Ls (.int y :: .int x :: st)) := by
  obtain ⟨hd, rfl, ho, hp⟩ := hd
  by_cases w : y < x
  · exact (ky w).imp fun t q => ⟨XS.icmpYes X.here hx rfl rfl (hb hby hd) rfl (tlt w).2.2.1 ho hp q.1, q.2⟩
  · exact (kn w).imp fun t q => ⟨XS.icmpNo X.here hx rfl (hb hby hd) rfl (flt w).2.2.1 q.1, q.2⟩
theorem g_if_gt (X : Stand p l e R s m args below meth c T locs cells slots) (hx : p.tables.exec = Jvm.exec) (hby : c.code = code) {x : Int32} {o : Int} (hd : InsB code pc (.ifCond .gt o) o pn pt) (ky : 0 < x → Gd p e below P T (mkF m pt Ls st)) (kn : ¬ 0 < x → Gd p e below P T (mkF m pn Ls st)) : Gd p e below P T (mkF m pc Ls (.int x :: st)) := by
  obtain ⟨hd, rfl, ho, hp⟩ := hd
  by_cases w : 0 < x
  · exact (ky w).imp fun t q => ⟨XS.ifYes X.here hx rfl rfl (hb hby hd) rfl ((if0 _ _).trans (tlt w).2.2.1) ho hp q.1, q.2⟩
  · exact (kn w).imp fun t q => ⟨XS.ifNo X.here hx rfl (hb hby hd) rfl ((if0 _ _).trans (flt w).2.2.1) q.1, q.2⟩
theorem g_lcmp_gt (X : Stand p l e R s m args below meth c T locs cells slots) (hx : p.tables.exec = Jvm.exec) (hby : c.code = code) {x y : Int64} {o : Int} {pc1 : Nat} (hc : Ins1 code pc .lcmp 1 pc1) (hd : InsB code pc1 (.ifCond .gt o) o pn pt) (ky : y < x → Gd p e below P T (mkF m pt Ls st)) (kn : ¬ y < x → Gd p e below P T (mkF m pn Ls st)) : Gd p e below P T (mkF m pc Ls (.long y :: .long x :: st)) :=
  g_lcmp X hx hby hc (g_if_gt X hx hby hd (fun w => ky ((lw_gt x y).mp w)) (fun w => kn (fun q => w ((lw_gt x y).mpr q))))
theorem g_icmp_le (X : Stand p l e R s m args below meth c T locs cells slots) (hx : p.tables.exec = Jvm.exec) (hby : c.code = code) {x y : Int32} {o : Int} (hd : InsB code pc (.if_icmp .le o) o pn pt) (ky : ¬ y < x → Gd p e below P T (mkF m pt Ls st)) (kn : y < x → Gd p e below P T (mkF m pn Ls st)) : Gd p e below P T (mkF m pc Ls (.int y :: .int x :: st)) := by
  obtain ⟨hd, rfl, ho, hp⟩ := hd
  by_cases w : y < x
  · exact (kn w).imp fun t q => ⟨XS.icmpNo X.here hx rfl (hb hby hd) rfl (tlt w).2.2.2 q.1, q.2⟩
  · exact (ky w).imp fun t q => ⟨XS.icmpYes X.here hx rfl rfl (hb hby hd) rfl (flt w).2.2.2 ho hp q.1, q.2⟩
theorem g_if_le (X : Stand p l e R s m args below meth c T locs cells slots) (hx : p.tables.exec = Jvm.exec) (hby : c.code = code) {x : Int32} {o : Int} (hd : InsB code pc (.ifCond .le o) o pn pt) (ky : ¬ 0 < x → Gd p e below P T (mkF m pt Ls st)) (kn : 0 < x → Gd p e below P T (mkF m pn Ls st)) : Gd p e below P T (mkF m pc Ls (.int x :: st)) := by
  obtain ⟨hd, rfl, ho, hp⟩ := hd
  by_cases w : 0 < x
  · exact (kn w).imp fun t q => ⟨XS.ifNo X.here hx rfl (hb hby hd) rfl ((if0 _ _).trans (tlt w).2.2.2) q.1, q.2⟩
  · exact (ky w).imp fun t q => ⟨XS.ifYes X.here hx rfl rfl (hb hby hd) rfl ((if0 _ _).trans (flt w).2.2.2) ho hp q.1, q.2⟩
theorem g_lcmp_le (X : Stand p l e R s m args below meth c T locs cells slots) (hx : p.tables.exec = Jvm.exec) (hby : c.code = code) {x y : Int64} {o : Int} {pc1 : Nat} (hc : Ins1 code pc .lcmp 1 pc1) (hd : InsB code pc1 (.ifCond .le o) o pn pt) (ky : ¬ y < x → Gd p e below P T (mkF m pt Ls st)) (kn : y < x → Gd p e below P T (mkF m pn Ls st)) : Gd p e below P T (mkF m pc Ls (.long y :: .long x :: st)) :=
  g_lcmp X hx hby hc (g_if_le X hx hby hd (fun w => ky (fun q => w ((lw_gt x y).mpr q))) (fun w => kn ((lw_gt x y).mp w)))
theorem g_icmp_eq (X : Stand p l e R s m args below meth c T locs cells slots) (hx : p.tables.exec = Jvm.exec) (hby : c.code = code) {x y : Int32} {o : Int} (hd : InsB code pc (.if_icmp .eq o) o pn pt) (ky : x = y → Gd p e below P T (mkF m pt Ls st)) (kn : ¬ x = y → Gd p e below P T (mkF m pn Ls st)) : Gd p e below P T (mkF m pc Ls (.int y :: .int x :: st)) := by
  obtain ⟨hd, rfl, ho, hp⟩ := hd
  by_cases w : x = y
  · exact (ky w).imp fun t q => ⟨XS.icmpYes X.here hx rfl rfl (hb hby hd) rfl (teq w).1 ho hp q.1, q.2⟩
  · exact (kn w).imp fun t q => ⟨XS.icmpNo X.here hx rfl (hb hby hd) rfl (feq w).1 q.1, q.2⟩
theorem g_if_eq (X : Stand p l e R s m args below meth c T locs cells slots) (hx : p.tables.exec = Jvm.exec) (hby : c.code = code) {x : Int32} {o : Int} (hd : InsB code pc (.ifCond .eq o) o pn pt) (ky : x = 0 → Gd p e below P T (mkF m pt Ls st)) (kn : ¬ x = 0 → Gd p e below P T (mkF m pn Ls st)) : Gd p e below P T (mkF m pc Ls (.int x :: st)) := by
  obtain ⟨hd, rfl, ho, hp⟩ := hd
  by_cases w : x = 0
  · exact (ky w).imp fun t q => ⟨XS.ifYes X.here hx rfl rfl (hb hby hd) rfl ((if0 _ _).trans (teq w).1) ho hp q.1, q.2⟩
  · exact (kn w).imp fun t q => ⟨XS.ifNo X.here hx rfl (hb hby hd) rfl ((if0 _ _).trans (feq w).1) q.1, q.2⟩
theorem g_lcmp_eq (X : Stand p l e R s m args below meth c T locs cells slots) (hx : p.tables.exec = Jvm.exec) (hby : c.code = code) {x y : Int64} {o : Int} {pc1 : Nat} (hc : Ins1 code pc .lcmp 1 pc1) (hd : InsB code pc1 (.ifCond .eq o) o pn pt) (ky : x = y → Gd p e below P T (mkF m pt Ls st)) (kn : ¬ x = y → Gd p e below P T (mkF m pn Ls st)) : Gd p e below P T (mkF m pc Ls (.long y :: .long x :: st)) :=
  g_lcmp X hx hby hc (g_if_eq X hx hby hd (fun w => ky ((lw_eq x y).mp w)) (fun w => kn (fun q => w ((lw_eq x y).mpr q))))
theorem g_icmp_ne (X : Stand p l e R s m args below meth c T locs cells slots) (hx : p.tables.exec = Jvm.exec) (hby : c.code = code) {x y : Int32} {o : Int} (hd : InsB code pc (.if_icmp .ne o) o pn pt) (ky : ¬ x = y → Gd p e below P T (mkF m pt Ls st)) (kn : x = y → Gd p e below P T (mkF m pn Ls st)) : Gd p e below P T (mkF m pc Ls (.int y :: .int x :: st)) := by
  obtain ⟨hd, rfl, ho, hp⟩ := hd
  by_cases w : x = y
  · exact (kn w).imp fun t q => ⟨XS.icmpNo X.here hx rfl (hb hby hd) rfl (teq w).2 q.1, q.2⟩
  · exact (ky w).imp fun t q => ⟨XS.icmpYes X.here hx rfl rfl (hb hby hd) rfl (feq w).2 ho hp q.1, q.2⟩
theorem g_if_ne (X : Stand p l e R s m args below meth c T locs cells slots) (hx : p.tables.exec = Jvm.exec) (hby : c.code = code) {x : Int32} {o : Int} (hd : InsB code pc (.ifCond .ne o) o pn pt) (ky : ¬ x = 0 → Gd p e below P T (mkF m pt Ls st)) (kn : x = 0 → Gd p e below P T (mkF m pn Ls st)) : Gd p e below P T (mkF m pc Ls (.int x :: st)) := by
  obtain ⟨hd, rfl, ho, hp⟩ := hd
  by_cases w : x = 0
  · exact (kn w).imp fun t q => ⟨XS.ifNo X.here hx rfl (hb hby hd) rfl ((if0 _ _).trans (teq w).2) q.1, q.2⟩
  · exact (ky w).imp fun t q => ⟨XS.ifYes X.here hx rfl rfl (hb hby hd) rfl ((if0 _ _).trans (feq w).2) ho hp q.1, q.2⟩
theorem g_lcmp_ne (X : Stand p l e R s m args below meth c T locs cells slots) (hx : p.tables.exec = Jvm.exec) (hby : c.code = code) {x y : Int64} {o : Int} {pc1 : Nat} (hc : Ins1 code pc .lcmp 1 pc1) (hd : InsB code pc1 (.ifCond .ne o) o pn pt) (ky : ¬ x = y → Gd p e below P T (mkF m pt Ls st)) (kn : x = y → Gd p e below P T (mkF m pn Ls st)) : Gd p e below P T (mkF m pc Ls (.long y :: .long x :: st)) :=
  g_lcmp X hx hby hc (g_if_ne X hx hby hd (fun w => ky (fun q => w ((lw_eq x y).mpr q))) (fun w => kn ((lw_eq x y).mp w)))
theorem g_ifnull_y (X : Stand p l e R s m args below meth c T locs cells slots) (hx : p.tables.exec = Jvm.exec) (hby : c.code = code) {o : Int} (hd : InsB code pc (.ifnull o) o pn pt) (k : Gd p e below P T (mkF m pt Ls st)) : Gd p e below P T (mkF m pc Ls (.null :: st)) := by
  obtain ⟨hd, -, ho, hp⟩ := hd
  exact k.imp fun t q => ⟨XS.ifnullYes X.here hx rfl rfl (hb hby hd) rfl ho hp q.1, q.2⟩
theorem g_ifnull_n (X : Stand p l e R s m args below meth c T locs cells slots) (hx : p.tables.exec = Jvm.exec) (hby : c.code = code) {o : Int} {b : Addr} (hd : InsB code pc (.ifnull o) o pn pt) (k : Gd p e below P T (mkF m pn Ls st)) : Gd p e below P T (mkF m pc Ls (.ref b :: st)) := by
  obtain ⟨hd, rfl, ho, hp⟩ := hd
  exact k.imp fun t q => ⟨XS.ifnullNo X.here hx rfl (hb hby hd) rfl q.1, q.2⟩
theorem g_ifnonnull_n (X : Stand p l e R s m args below meth c T locs cells slots) (hx : p.tables.exec = Jvm.exec) (hby : c.code = code) {o : Int} (hd : InsB code pc (.ifnonnull o) o pn pt) (k : Gd p e below P T (mkF m pn Ls st)) : Gd p e below P T (mkF m pc Ls (.null :: st)) := by
  obtain ⟨hd, rfl, ho, hp⟩ := hd
  exact k.imp fun t q => ⟨XS.ifnonnullNo X.here hx rfl (hb hby hd) rfl q.1, q.2⟩
theorem g_ifnonnull_y (X : Stand p l e R s m args below meth c T locs cells slots) (hx : p.tables.exec = Jvm.exec) (hby : c.code = code) {o : Int} {b : Addr} (hd : InsB code pc (.ifnonnull o) o pn pt) (k : Gd p e below P T (mkF m pt Ls st)) : Gd p e below P T (mkF m pc Ls (.ref b :: st)) := by
  obtain ⟨hd, -, ho, hp⟩ := hd
  exact k.imp fun t q => ⟨XS.ifnonnullYes X.here hx rfl rfl (hb hby hd) rfl ho hp q.1, q.2⟩
theorem g_acmp_eq (X : Stand p l e R s m args below meth c T locs cells slots) (hx : p.tables.exec = Jvm.exec) (hby : c.code = code) {o : Int} {x y : Value} (hd : InsB code pc (.if_acmp .eq o) o pn pt) (h1 : x.isRef = true) (h2 : y.isRef = true) (ky : x = y → Gd p e below P T (mkF m pt Ls st)) (kn : ¬ x = y → Gd p e below P T (mkF m pn Ls st)) : Gd p e below P T (mkF m pc Ls (y :: x :: st)) := by
  obtain ⟨hd, hn, ho, hp⟩ := hd
  by_cases w : x = y
  · exact (ky w).imp fun t q => ⟨Jvm.RoadKit.acmp (g := mkF m pc Ls (y :: x :: st)) X hx rfl h1 h2 rfl (hb hby hd) rfl (same := true) (decide_eq_true w) ho (by show _ = ((pc : Int) + o).toNat; exact hp.symm) q.1, q.2⟩
  · exact (kn w).imp fun t q => ⟨Jvm.RoadKit.acmp (g := mkF m pc Ls (y :: x :: st)) X hx rfl h1 h2 rfl (hb hby hd) rfl (same := false) (decide_eq_false w) ho (by show _ = pc + 3; exact hn.symm) q.1, q.2⟩
theorem g_acmp_ne (X : Stand p l e R s m args below meth c T locs cells slots) (hx : p.tables.exec = Jvm.exec) (hby : c.code = code) {o : Int} {x y : Value} (hd : InsB code pc (.if_acmp .ne o) o pn pt) (h1 : x.isRef = true) (h2 : y.isRef = true) (ky : ¬ x = y → Gd p e below P T (mkF m pt Ls st)) (kn : x = y → Gd p e below P T (mkF m pn Ls st)) : Gd p e below P T (mkF m pc Ls (y :: x :: st)) := by
  obtain ⟨hd, hn, ho, hp⟩ := hd
  by_cases w : x = y
  · exact (kn w).imp fun t q => ⟨Jvm.RoadKit.acmp (g := mkF m pc Ls (y :: x :: st)) X hx rfl h1 h2 rfl (hb hby hd) rfl (same := true) (decide_eq_true w) ho (by show _ = pc + 3; exact hn.symm) q.1, q.2⟩
  · exact (ky w).imp fun t q => ⟨Jvm.RoadKit.acmp (g := mkF m pc Ls (y :: x :: st)) X hx rfl h1 h2 rfl (hb hby hd) rfl (same := false) (decide_eq_false w) ho (by show _ = ((pc : Int) + o).toNat; exact hp.symm) q.1, q.2⟩
theorem g_ldcInt (X : Stand p l e R s m args below meth c T locs cells slots) (hx : p.tables.exec = Jvm.exec) (hby : c.code = code) (hZ : Z.Warmed39 s.vm) {own : String} (hown : s.vm.findClass own = some m.cls) {i : Nat} {v : Int32} (w : (Jvm.Cond.constant own i v).before a0 Z = true) (hd : Ins1 code pc (.ldc i) 2 pn) (k : Gd p e below P T (mkF m pn Ls (.int v :: st))) : Gd p e below P T (mkF m pc Ls st) := by
  obtain ⟨hd, rfl⟩ := hd
  exact k.imp fun t q => ⟨X.ldcInt hx hown (mvT hZ w) (g := mkF m pc Ls st) rfl (hb hby hd) _ q.1, q.2⟩
theorem g_ldc2Long (X : Stand p l e R s m args below meth c T locs cells slots) (hx : p.tables.exec = Jvm.exec) (hby : c.code = code) (hZ : Z.Warmed39 s.vm) {own : String} (hown : s.vm.findClass own = some m.cls) {i : Nat} {v : Int64} (w : (Jvm.Cond.constantLong own i v).before a0 Z = true) (hd : Ins1 code pc (.ldc2_w i) 3 pn) (k : Gd p e below P T (mkF m pn Ls (.long v :: st))) : Gd p e below P T (mkF m pc Ls st) := by
  obtain ⟨hd, rfl⟩ := hd
  exact k.imp fun t q => ⟨X.ldc2Long hx hown (mvT hZ w) (g := mkF m pc Ls st) rfl (hb hby hd) _ q.1, q.2⟩
theorem g_getfield (X : Stand p l e R s m args below meth c T locs cells slots) (hx : p.tables.exec = Jvm.exec) (hby : c.code = code) (hZ : Z.Warmed39 s.vm) {own R0 O n d host : String} {index : Nat} (hown : s.vm.findClass own = some m.cls) (w : (Jvm.Cond.fieldLink own index R0 n d).before a0 Z = true ∨ (Jvm.Cond.fieldLinkNest own index R0 n d host).before a0 Z = true) (via : Via Z R0 O n d) (eT : T.heap = h) {a : Addr} {v : Value} (F : Fld Z h a O n d v) (hd : Ins1 code pc (.getfield index) 3 pn)
    (k : ∀ T', Stand p l e R s m args below meth c T' locs cells slots → T'.heap = h → Gd p e below P T' (mkF m pn Ls (v :: st))) : Gd p e below P T (mkF m pc Ls (.ref a :: st)) := by
  obtain ⟨hd, rfl⟩ := hd
  obtain ⟨T', X', e', stp⟩ := getF X hx hZ hown w via eT F (g := mkF m pc Ls (.ref a :: st)) rfl rfl (hb hby hd)
  exact (k T' X' e').of stp
theorem g_getstatic (X : Stand p l e R s m args below meth c T locs cells slots) (hx : p.tables.exec = Jvm.exec) (hby : c.code = code) (hZ : Z.Warmed39 s.vm) {own R0 O n d host : String} {index : Nat} (hown : s.vm.findClass own = some m.cls) (w : (Jvm.Cond.fieldLink own index R0 n d).before a0 Z = true ∨ (Jvm.Cond.fieldLinkNest own index R0 n d host).before a0 Z = true) (via : Via Z R0 O n d) (eT : T.heap = h) {v : Value} (F : Sta Z h O n d v) (hd : Ins1 code pc (.getstatic index) 3 pn)
    (k : ∀ T', Stand p l e R s m args below meth c T' locs cells slots → T'.heap = h → Gd p e below P T' (mkF m pn Ls (v :: st))) : Gd p e below P T (mkF m pc Ls st) := by
  obtain ⟨hd, rfl⟩ := hd
  obtain ⟨T', X', e', stp⟩ := getS2 X hx hZ hown w via eT F (g := mkF m pc Ls st) rfl (hb hby hd)
  exact (k T' X' e').of stp
theorem g_putfield (X : Stand p l e R s m args below meth c T locs cells slots) (hx : p.tables.exec = Jvm.exec) (hby : c.code = code) (hZ : Z.Warmed39 s.vm) {own R0 O n d host C : String} {index kk : Nat} {ty : FieldType} (hown : s.vm.findClass own = some m.cls) (w : (Jvm.Cond.fieldLink own index R0 n d).before a0 Z = true ∨ (Jvm.Cond.fieldLinkNest own index R0 n d host).before a0 Z = true) (via : Via Z R0 O n d) (eT : T.heap = h) {a : Addr} {v old : Value} (F : Fld Z h a O n d old) (E : Exa Z h a C)
    (L : (Jvm.Cond.lays C O n d).before a0 Z = true ∨ ((Jvm.Cond.laysFinal C O n d).before a0 Z = true ∧ own = O ∧ meth.name = "<init>")) (wi : (Jvm.Cond.instantiable C kk).before a0 Z = true) (hty : parseFieldDescriptor d = some ty) (hn : narrow ty v = v) (hf : fits ty v = true) (hd : Ins1 code pc (.putfield index) 3 pn)
    (k : ∀ T' h', Stand p l e R s m args below meth c T' (locs ++ [⟨a, Jvm.RoadKit.slotOf Z O n d⟩]) cells slots → T'.heap = h' → Wr h h' a (Jvm.RoadKit.slotOf Z O n d) v → Gd p e below P T' (mkF m pn Ls st)) : Gd p e below P T (mkF m pc Ls (v :: .ref a :: st)) := by
  obtain ⟨hd, rfl⟩ := hd
  obtain ⟨T', h', X', e', W, stp⟩ := putF X hx hZ hown w via eT F E L wi hty hn hf (g := mkF m pc Ls (v :: .ref a :: st)) rfl rfl (hb hby hd)
  exact (k T' h' X' e' W).of stp
theorem g_putfieldN (X : Stand p l e R s m args below meth c T locs cells slots) (hx : p.tables.exec = Jvm.exec) (hby : c.code = code) (hZ : Z.Warmed39 s.vm) {own R0 O n d C : String} {index kk : Nat} {ty : FieldType} (hown : s.vm.findClass own = some m.cls) (w : (Jvm.Cond.fieldLink own index R0 n d).before a0 Z = true) (via : Via Z R0 O n d) (eT : T.heap = h) {a : Addr} {v v' old : Value} (F : Fld Z h a O n d old) (E : Exa Z h a C)
    (L : (Jvm.Cond.lays C O n d).before a0 Z = true ∨ ((Jvm.Cond.laysFinal C O n d).before a0 Z = true ∧ own = O ∧ meth.name = "<init>")) (wi : (Jvm.Cond.instantiable C kk).before a0 Z = true) (hty : parseFieldDescriptor d = some ty) (hn : narrow ty v = v') (hf : fits ty v' = true) (hd : Ins1 code pc (.putfield index) 3 pn)
    (k : ∀ T' h', Stand p l e R s m args below meth c T' (locs ++ [⟨a, Jvm.RoadKit.slotOf Z O n d⟩]) cells slots → T'.heap = h' → Wr h h' a (Jvm.RoadKit.slotOf Z O n d) v' → Gd p e below P T' (mkF m pn Ls st)) : Gd p e below P T (mkF m pc Ls (v :: .ref a :: st)) := by
  obtain ⟨hd, rfl⟩ := hd
  obtain ⟨T', h', X', e', W, stp⟩ := putFN X hx hZ hown w via eT F E L wi hty hn hf (g := mkF m pc Ls (v :: .ref a :: st)) rfl rfl (hb hby hd)
  exact (k T' h' X' e' W).of stp
theorem g_new (X : Stand p l e R s m args below meth c T locs cells slots) (hx : p.tables.exec = Jvm.exec) (hby : c.code = code) (hZ : Z.Warmed39 s.vm) {own C : String} {index n : Nat} (hown : s.vm.findClass own = some m.cls) (w : (Jvm.Cond.classLink own index C).before a0 Z = true) (wi : (Jvm.Cond.instantiable C n).before a0 Z = true) (wz : (Jvm.Cond.initialized C).before a0 Z = true) (eT : T.heap = h) (hd : Ins1 code pc (.new index) 3 pn) (hc : cells + 1 ≤ R.cells) (hl : slots + n ≤ R.slots)
    (k : ∀ T' h' b, Stand p l e R s m args below meth c T' locs (cells + 1) (slots + n) → T'.heap = h' → Ext h h' → b = h.size → Exa Z h' b C → (∀ {O nm d : String} {ty : FieldType}, Laid Z a0 C O nm d → parseFieldDescriptor d = some ty → Fld Z h' b O nm d (defaultValue ty)) → Gd p e below P T' (mkF m pn Ls (.ref b :: st))) : Gd p e below P T (mkF m pc Ls st) := by
  obtain ⟨hd, rfl⟩ := hd
  obtain ⟨T', h', X', e', E, A, D, -, stp⟩ := newO X hx hZ hown w wi wz eT (g := mkF m pc Ls st) rfl (hb hby hd) hc hl
  exact (k T' h' _ X' e' E rfl A D).of stp
theorem g_newarray (X : Stand p l e R s m args below meth c T locs cells slots) (hx : p.tables.exec = Jvm.exec) (hby : c.code = code) (hZ : Z.Warmed39 s.vm) {aty : ArrayType} {n : Int32} {ty : FieldType} (hty : newarray.typeOf aty = ty) (w : (Jvm.Cond.arrayClass ty).before a0 Z = true) (eT : T.heap = h) (hd : Ins1 code pc (.newarray aty) 2 pn) (hn : ¬ n < 0) (cap : Nat) (hcap : n.toNatClampNeg ≤ cap) (hb' : cap * 8 ≤ 536870912) (hc : cells + 1 ≤ R.cells) (hl : slots + cap ≤ R.slots)
    (k : ∀ T' h' b cA, Stand p l e R s m args below meth c T' locs (cells + 1) (slots + cap) → T'.heap = h' → Ext h h' → b = h.size → Arv Z h' b cA ty n [] (defaultValue ty) → Gd p e below P T' (mkF m pn Ls (.ref b :: st))) : Gd p e below P T (mkF m pc Ls (.int n :: st)) := by
  obtain ⟨hd, rfl⟩ := hd
  subst hty
  obtain ⟨T', h', cA, X', e', E, A, stp⟩ := newP X hx hZ w eT (g := mkF m pc Ls (.int n :: st)) rfl (hb hby hd) rfl hn hcap hb' hc hl
  exact (k T' h' _ cA X' e' E rfl (Arv.new A hn)).of stp
theorem g_iastore (X : Stand p l e R s m args below meth c T locs cells slots) (hx : p.tables.exec = Jvm.exec) (hby : c.code = code) (hZ : Z.Warmed39 s.vm) (eT : T.heap = h) {a : Addr} {kc : ClassId} {z j : Int32} {vs : List Value} {dv : Value} {x : Int32} (A : Arv Z h a kc .int z vs dv) {i : Nat} (hj0 : ¬ j < 0) (hj : j < z) (hji : j.toNatClampNeg = i) (hil : i < vs.length) (hd : Ins1 code pc .iastore 1 pn)
    (k : ∀ T' h', Stand p l e R s m args below meth c T' (locs ++ [⟨a, i⟩]) cells slots → T'.heap = h' → Wr h h' a i (.int x) → Arv Z h' a kc .int z (vs.set i (.int x)) dv → Gd p e below P T' (mkF m pn Ls st)) : Gd p e below P T (mkF m pc Ls (.int x :: .int j :: .ref a :: st)) := by
  obtain ⟨hd, rfl⟩ := hd
  obtain ⟨cl, Ar, q1, S, N, H, G⟩ := A
  obtain ⟨T', h', X', e', W, stp⟩ := stI X hx hZ eT Ar (j := j) (inb_of S ⟨hj0, hj⟩) (g := mkF m pc Ls (.int x :: .int j :: .ref a :: st)) rfl rfl (hb hby hd)
  have V := Arv.set Ar q1 S N H G rfl W i hji hil
  rw [hji] at X' W
  exact (k T' h' X' e' W V).of stp
theorem g_lastore (X : Stand p l e R s m args below meth c T locs cells slots) (hx : p.tables.exec = Jvm.exec) (hby : c.code = code) (hZ : Z.Warmed39 s.vm) (eT : T.heap = h) {a : Addr} {kc : ClassId} {z j : Int32} {vs : List Value} {dv : Value} {x : Int64} (A : Arv Z h a kc .long z vs dv) {i : Nat} (hj0 : ¬ j < 0) (hj : j < z) (hji : j.toNatClampNeg = i) (hil : i < vs.length) (hd : Ins1 code pc .lastore 1 pn)
    (k : ∀ T' h', Stand p l e R s m args below meth c T' (locs ++ [⟨a, i⟩]) cells slots → T'.heap = h' → Wr h h' a i (.long x) → Arv Z h' a kc .long z (vs.set i (.long x)) dv → Gd p e below P T' (mkF m pn Ls st)) : Gd p e below P T (mkF m pc Ls (.long x :: .int j :: .ref a :: st)) := by
  obtain ⟨hd, rfl⟩ := hd
  obtain ⟨cl, Ar, q1, S, N, H, G⟩ := A
  obtain ⟨T', h', X', e', W, stp⟩ := stJ X hx hZ eT Ar (j := j) (inb_of S ⟨hj0, hj⟩) (g := mkF m pc Ls (.long x :: .int j :: .ref a :: st)) rfl rfl (hb hby hd)
  have V := Arv.set Ar q1 S N H G rfl W i hji hil
  rw [hji] at X' W
  exact (k T' h' X' e' W V).of stp
theorem g_castore (X : Stand p l e R s m args below meth c T locs cells slots) (hx : p.tables.exec = Jvm.exec) (hby : c.code = code) (hZ : Z.Warmed39 s.vm) (eT : T.heap = h) {a : Addr} {kc : ClassId} {z j : Int32} {vs : List Value} {dv : Value} {x : Int32} (A : Arv Z h a kc .char z vs dv) {i : Nat} (hj0 : ¬ j < 0) (hj : j < z) (hji : j.toNatClampNeg = i) (hil : i < vs.length) (hd : Ins1 code pc .castore 1 pn)
    (k : ∀ T' h', Stand p l e R s m args below meth c T' (locs ++ [⟨a, i⟩]) cells slots → T'.heap = h' → Wr h h' a i (.int (nar .char x)) → Arv Z h' a kc .char z (vs.set i (.int (nar .char x))) dv → Gd p e below P T' (mkF m pn Ls st)) : Gd p e below P T (mkF m pc Ls (.int x :: .int j :: .ref a :: st)) := by
  obtain ⟨hd, rfl⟩ := hd
  obtain ⟨cl, Ar, q1, S, N, H, G⟩ := A
  obtain ⟨T', h', X', e', W, stp⟩ := stC X hx hZ eT Ar (j := j) (inb_of S ⟨hj0, hj⟩) (g := mkF m pc Ls (.int x :: .int j :: .ref a :: st)) rfl rfl (hb hby hd)
  have V := Arv.set Ar q1 S N H G (fits_nar_char x) W i hji hil
  rw [hji] at X' W
  exact (k T' h' X' e' W V).of stp
theorem g_sastore (X : Stand p l e R s m args below meth c T locs cells slots) (hx : p.tables.exec = Jvm.exec) (hby : c.code = code) (hZ : Z.Warmed39 s.vm) (eT : T.heap = h) {a : Addr} {kc : ClassId} {z j : Int32} {vs : List Value} {dv : Value} {x : Int32} (A : Arv Z h a kc .short z vs dv) {i : Nat} (hj0 : ¬ j < 0) (hj : j < z) (hji : j.toNatClampNeg = i) (hil : i < vs.length) (hd : Ins1 code pc .sastore 1 pn)
    (k : ∀ T' h', Stand p l e R s m args below meth c T' (locs ++ [⟨a, i⟩]) cells slots → T'.heap = h' → Wr h h' a i (.int (nar .short x)) → Arv Z h' a kc .short z (vs.set i (.int (nar .short x))) dv → Gd p e below P T' (mkF m pn Ls st)) : Gd p e below P T (mkF m pc Ls (.int x :: .int j :: .ref a :: st)) := by
  obtain ⟨hd, rfl⟩ := hd
  obtain ⟨cl, Ar, q1, S, N, H, G⟩ := A
  obtain ⟨T', h', X', e', W, stp⟩ := stS X hx hZ eT Ar (j := j) (inb_of S ⟨hj0, hj⟩) (g := mkF m pc Ls (.int x :: .int j :: .ref a :: st)) rfl rfl (hb hby hd)
  have V := Arv.set Ar q1 S N H G (fits_nar_short x) W i hji hil
  rw [hji] at X' W
  exact (k T' h' X' e' W V).of stp
theorem g_bastore (X : Stand p l e R s m args below meth c T locs cells slots) (hx : p.tables.exec = Jvm.exec) (hby : c.code = code) (hZ : Z.Warmed39 s.vm) (eT : T.heap = h) {a : Addr} {kc : ClassId} {z j : Int32} {vs : List Value} {dv : Value} {x : Int32} (A : Arv Z h a kc .byte z vs dv) {i : Nat} (hj0 : ¬ j < 0) (hj : j < z) (hji : j.toNatClampNeg = i) (hil : i < vs.length) (hd : Ins1 code pc .bastore 1 pn)
    (k : ∀ T' h', Stand p l e R s m args below meth c T' (locs ++ [⟨a, i⟩]) cells slots → T'.heap = h' → Wr h h' a i (.int (nar .byte x)) → Arv Z h' a kc .byte z (vs.set i (.int (nar .byte x))) dv → Gd p e below P T' (mkF m pn Ls st)) : Gd p e below P T (mkF m pc Ls (.int x :: .int j :: .ref a :: st)) := by
  obtain ⟨hd, rfl⟩ := hd
  obtain ⟨cl, Ar, q1, S, N, H, G⟩ := A
  obtain ⟨T', h', X', e', W, stp⟩ := stB X hx hZ eT Ar (j := j) (inb_of S ⟨hj0, hj⟩) (g := mkF m pc Ls (.int x :: .int j :: .ref a :: st)) rfl rfl (hb hby hd)
  have V := Arv.set Ar q1 S N H G (fits_nar_byte x) W i hji hil
  rw [hji] at X' W
  exact (k T' h' X' e' W V).of stp
theorem g_iaload (X : Stand p l e R s m args below meth c T locs cells slots) (hx : p.tables.exec = Jvm.exec) (hby : c.code = code) (hZ : Z.Warmed39 s.vm) (eT : T.heap = h) {a : Addr} {kc : ClassId} {z j : Int32} {vs : List Value} {dv v : Value} (A : Arv Z h a kc .int z vs dv) {i : Nat} (hj0 : ¬ j < 0) (hj : j < z) (hji : j.toNatClampNeg = i) (hv : vs.getD i dv = v) (hd : Ins1 code pc .iaload 1 pn)
    (k : Gd p e below P T (mkF m pn Ls (v :: st))) : Gd p e below P T (mkF m pc Ls (.int j :: .ref a :: st)) := by
  obtain ⟨hd, rfl⟩ := hd
  obtain ⟨cl, Ar, q1, S, N, H, G⟩ := A
  have hin := inb_of S ⟨hj0, hj⟩
  exact k.imp fun t q => ⟨X.iaload hx (j := j) (v := v) (by rw [eT]; exact Ar.1) (State.isArrayOf_alike hZ.alike Ar.2.1) Ar.2.2 hin (H.at hin (by rw [hji]; exact hv)) (g := mkF m pc Ls (.int j :: .ref a :: st)) rfl rfl (hb hby hd) _ q.1, q.2⟩
theorem g_laload (X : Stand p l e R s m args below meth c T locs cells slots) (hx : p.tables.exec = Jvm.exec) (hby : c.code = code) (hZ : Z.Warmed39 s.vm) (eT : T.heap = h) {a : Addr} {kc : ClassId} {z j : Int32} {vs : List Value} {dv v : Value} (A : Arv Z h a kc .long z vs dv) {i : Nat} (hj0 : ¬ j < 0) (hj : j < z) (hji : j.toNatClampNeg = i) (hv : vs.getD i dv = v) (hd : Ins1 code pc .laload 1 pn)
    (k : Gd p e below P T (mkF m pn Ls (v :: st))) : Gd p e below P T (mkF m pc Ls (.int j :: .ref a :: st)) := by
  obtain ⟨hd, rfl⟩ := hd
  obtain ⟨cl, Ar, q1, S, N, H, G⟩ := A
  have hin := inb_of S ⟨hj0, hj⟩
  exact k.imp fun t q => ⟨X.laload hx (j := j) (v := v) (by rw [eT]; exact Ar.1) (State.isArrayOf_alike hZ.alike Ar.2.1) Ar.2.2 hin (H.at hin (by rw [hji]; exact hv)) (g := mkF m pc Ls (.int j :: .ref a :: st)) rfl rfl (hb hby hd) _ q.1, q.2⟩
theorem g_caload (X : Stand p l e R s m args below meth c T locs cells slots) (hx : p.tables.exec = Jvm.exec) (hby : c.code = code) (hZ : Z.Warmed39 s.vm) (eT : T.heap = h) {a : Addr} {kc : ClassId} {z j : Int32} {vs : List Value} {dv v : Value} (A : Arv Z h a kc .char z vs dv) {i : Nat} (hj0 : ¬ j < 0) (hj : j < z) (hji : j.toNatClampNeg = i) (hv : vs.getD i dv = v) (hd : Ins1 code pc .caload 1 pn)
    (k : Gd p e below P T (mkF m pn Ls (v :: st))) : Gd p e below P T (mkF m pc Ls (.int j :: .ref a :: st)) := by
  obtain ⟨hd, rfl⟩ := hd
  obtain ⟨cl, Ar, q1, S, N, H, G⟩ := A
  have hin := inb_of S ⟨hj0, hj⟩
  exact k.imp fun t q => ⟨X.caload hx (j := j) (v := v) (by rw [eT]; exact Ar.1) (State.isArrayOf_alike hZ.alike Ar.2.1) Ar.2.2 hin (H.at hin (by rw [hji]; exact hv)) (g := mkF m pc Ls (.int j :: .ref a :: st)) rfl rfl (hb hby hd) _ q.1, q.2⟩
theorem g_saload (X : Stand p l e R s m args below meth c T locs cells slots) (hx : p.tables.exec = Jvm.exec) (hby : c.code = code) (hZ : Z.Warmed39 s.vm) (eT : T.heap = h) {a : Addr} {kc : ClassId} {z j : Int32} {vs : List Value} {dv v : Value} (A : Arv Z h a kc .short z vs dv) {i : Nat} (hj0 : ¬ j < 0) (hj : j < z) (hji : j.toNatClampNeg = i) (hv : vs.getD i dv = v) (hd : Ins1 code pc .saload 1 pn)
    (k : Gd p e below P T (mkF m pn Ls (v :: st))) : Gd p e below P T (mkF m pc Ls (.int j :: .ref a :: st)) := by
  obtain ⟨hd, rfl⟩ := hd
  obtain ⟨cl, Ar, q1, S, N, H, G⟩ := A
  have hin := inb_of S ⟨hj0, hj⟩
  exact k.imp fun t q => ⟨X.saload hx (j := j) (v := v) (by rw [eT]; exact Ar.1) (State.isArrayOf_alike hZ.alike Ar.2.1) Ar.2.2 hin (H.at hin (by rw [hji]; exact hv)) (g := mkF m pc Ls (.int j :: .ref a :: st)) rfl rfl (hb hby hd) _ q.1, q.2⟩
theorem g_baload (X : Stand p l e R s m args below meth c T locs cells slots) (hx : p.tables.exec = Jvm.exec) (hby : c.code = code) (hZ : Z.Warmed39 s.vm) (eT : T.heap = h) {a : Addr} {kc : ClassId} {z j : Int32} {vs : List Value} {dv v : Value} (A : Arv Z h a kc .byte z vs dv) {i : Nat} (hj0 : ¬ j < 0) (hj : j < z) (hji : j.toNatClampNeg = i) (hv : vs.getD i dv = v) (hd : Ins1 code pc .baload 1 pn)
    (k : Gd p e below P T (mkF m pn Ls (v :: st))) : Gd p e below P T (mkF m pc Ls (.int j :: .ref a :: st)) := by
  obtain ⟨hd, rfl⟩ := hd
  obtain ⟨cl, Ar, q1, S, N, H, G⟩ := A
  have hin := inb_of S ⟨hj0, hj⟩
  exact k.imp fun t q => ⟨X.baloadBytes hx (j := j) (v := v) (by rw [eT]; exact Ar.1) (State.isArrayOf_alike hZ.alike Ar.2.1) Ar.2.2 hin (H.at hin (by rw [hji]; exact hv)) (g := mkF m pc Ls (.int j :: .ref a :: st)) rfl rfl (hb hby hd) _ q.1, q.2⟩
theorem g_arraylength (X : Stand p l e R s m args below meth c T locs cells slots) (hx : p.tables.exec = Jvm.exec) (hby : c.code = code) (hZ : Z.Warmed39 s.vm) (eT : T.heap = h) {a : Addr} {kc : ClassId} {ty : FieldType} {z : Int32} {vs : List Value} {dv : Value} (A : Arv Z h a kc ty z vs dv) (hd : Ins1 code pc .arraylength 1 pn) (k : Gd p e below P T (mkF m pn Ls (.int z :: st))) : Gd p e below P T (mkF m pc Ls (.ref a :: st)) := by
  obtain ⟨hd, rfl⟩ := hd
  obtain ⟨cl, Ar, q1, S, N, H, G⟩ := A
  rw [← len_of S N] at k
  exact k.imp fun t q => ⟨X.arraylength hx (by rw [eT]; exact Ar.1) (State.isArrayOf_alike hZ.alike Ar.2.1) (g := mkF m pc Ls (.ref a :: st)) rfl rfl (hb hby hd) _ q.1, q.2⟩
theorem g_objInit (X : Stand p l e R s m args below meth c T locs cells slots) (hx : p.tables.exec = Jvm.exec) (hby : c.code = code) (hZ : Z.Warmed39 s.vm) {own : String} {idx : Nat} (hown : s.vm.findClass own = some m.cls) (w1 : (Jvm.Cond.methodLink own idx Lib.objectInit).before a0 Z = true) (w2 : (Jvm.Cond.instanceMethod Lib.objectInit).before a0 Z = true) (w3 : (Jvm.Cond.code Lib.objectInit ⟨#[0xb1]⟩ 1 none).before a0 Z = true) (eT : T.heap = h) (hsize : Ls.size = c.maxLocals) {a : Addr} (hd : Ins1 code pc (.invokespecial idx) 3 pn)
    (W : Nat) (hW : (st.map fun v => v.category).sum = W) (hf : 1 ≤ R.frames) (hl : W + 12 ≤ R.locals) (k : ∀ T', Stand p l e R s m args below meth c T' locs cells slots → T'.heap = h → Gd p e below P T' (mkF m pn Ls st)) : Gd p e below P T (mkF m pc Ls (.ref a :: st)) := by
  obtain ⟨hd, rfl⟩ := hd
  obtain ⟨T', X', e', stp⟩ := initO X hx hZ hown w1 w2 w3 eT (g := mkF m pc Ls (.ref a :: st)) rfl hsize rfl (hb hby hd) hf (W := W) (by show 2 * 0 + _ ≤ _; rw [hW]; omega) hl
  exact (k T' X' e').of stp
theorem g_callS0 (X : Stand p l e R s m args below meth c T locs cells slots) (hx : p.tables.exec = Jvm.exec) (hby : c.code = code) (hZ : Z.Warmed39 s.vm) {y : MethodName} {bytes : ByteArray} {maxL : Nat} {ret : Option FieldType} {rm : Room} {argsL rest : List Value} {Q : Option Value → Heap → List Loc → Prop} {own : String} {index : Nat} (hown : s.vm.findClass own = some m.cls) (w1 : (Jvm.Cond.methodLink own index y).before a0 Z = true) (w2 : (Jvm.Cond.static y).before a0 Z = true) (w3 : (Jvm.Cond.initialized y.cls).before a0 Z = true) (w4 : (Jvm.Cond.code y bytes maxL ret).before a0 Z = true) (hy : y.cls ≠ "java/lang/invoke/MethodHandle" ∧ y.cls ≠ "java/lang/invoke/VarHandle")
    (M : Met1 l y bytes maxL ret [] rm argsL.toArray Z h Q) (eT : T.heap = h) (hsize : Ls.size = c.maxLocals) {ps : List FieldType} {r : Option FieldType} (hpd : parseMethodDescriptor y.desc = some ⟨ps, r⟩) (hlen : argsL.length = ps.length) (hst : st = argsL.reverse ++ rest) (hd : Ins1 code pc (.invokestatic index) 3 pn) (hf : rm.frames + 1 ≤ R.frames) (W : Nat) (hW : (rest.map fun v => v.category).sum = W) (hl : W + (maxL + 11) + rm.locals ≤ R.locals) (hcl : cells + rm.cells ≤ R.cells) (hsl : slots + rm.slots ≤ R.slots)
    (k : ∀ T' v L, Stand p l e R s m args below meth c T' (locs ++ L) (cells + rm.cells) (slots + rm.slots) → Q v T'.heap L → Gd p e below P T' (mkF m pn Ls (v.toList ++ rest))) : Gd p e below P T (mkF m pc Ls st) := by
  obtain ⟨hd, rfl⟩ := hd
  obtain ⟨v, _, ⟨T', L', k', n'⟩, -, X', ⟨Lc, hQ, l1, y1, z1⟩, stp⟩ := Jvm.LawKit.callS X hx (y := y) hown (mvT hZ w1) (mvT hZ w2) (mvT hZ w3) (mvT hZ w4) hy (backOf (W := W) M hZ w4 w3 hf hl) (g := mkF m pc Ls st) rfl hsize (argsL := argsL) (rest := rest) (lenOf hpd hlen) hst (by show 2 * 0 + _ ≤ _; rw [hW]; omega) (hb hby hd) (fun _ _ => ⟨rfl, eT, hcl, hsl⟩)
  dsimp only [Pt.U, Pt.locs, Pt.cells, Pt.slots] at X' l1 y1 z1 stp hQ
  subst l1 y1 z1
  exact (k T' v Lc X' hQ).of stp
theorem g_callInit0 (X : Stand p l e R s m args below meth c T locs cells slots) (hx : p.tables.exec = Jvm.exec) (hby : c.code = code) (hZ : Z.Warmed39 s.vm) {y : MethodName} {bytes : ByteArray} {maxL : Nat} {rm : Room} {argsL rest : List Value} {Q : Option Value → Heap → List Loc → Prop} {own : String} {index : Nat} (hy1 : y.name = "<init>") (hown : s.vm.findClass own = some m.cls) (w1 : (Jvm.Cond.methodLink own index y).before a0 Z = true) (w2 : (Jvm.Cond.instanceMethod y).before a0 Z = true) (w3 : (Jvm.Cond.initialized y.cls).before a0 Z = true) (w4 : (Jvm.Cond.code y bytes maxL none).before a0 Z = true) (hy : y.cls ≠ "java/lang/invoke/MethodHandle" ∧ y.cls ≠ "java/lang/invoke/VarHandle")
    {a : Addr} (M : Met1 l y bytes maxL none [] rm (.ref a :: argsL).toArray Z h Q) (eT : T.heap = h) (hsize : Ls.size = c.maxLocals) {ps : List FieldType} {r : Option FieldType} (hpd : parseMethodDescriptor y.desc = some ⟨ps, r⟩) (hlen : argsL.length = ps.length) (hst : st = argsL.reverse ++ .ref a :: rest) (hd : Ins1 code pc (.invokespecial index) 3 pn) (hf : rm.frames + 1 ≤ R.frames) (W : Nat) (hW : (rest.map fun v => v.category).sum = W) (hl : W + (maxL + 11) + rm.locals ≤ R.locals) (hcl : cells + rm.cells ≤ R.cells) (hsl : slots + rm.slots ≤ R.slots)
    (k : ∀ T' v L, Stand p l e R s m args below meth c T' (locs ++ L) (cells + rm.cells) (slots + rm.slots) → Q v T'.heap L → Gd p e below P T' (mkF m pn Ls (v.toList ++ rest))) : Gd p e below P T (mkF m pc Ls st) := by
  obtain ⟨hd, rfl⟩ := hd
  obtain ⟨v, _, ⟨T', L', k', n'⟩, -, X', ⟨Lc, hQ, l1, y1, z1⟩, stp⟩ := X.specialBack hx (y := y) hy1 hown (mvT hZ w1) (mvT hZ w2) (mvT hZ w4) hy (backOf (W := W) M hZ w4 w3 hf hl) (g := mkF m pc Ls st) rfl hsize (Steps.refl _) (a := a) (argsL := argsL) (rest := rest) (lenOf hpd hlen) hst (by show 2 * 0 + _ ≤ _; rw [hW]; omega) (hb hby hd) (fun _ _ => ⟨rfl, eT, hcl, hsl⟩)
  dsimp only [Pt.U, Pt.locs, Pt.cells, Pt.slots] at X' l1 y1 z1 stp hQ
  subst l1 y1 z1
  exact (k T' v Lc X' hQ).of fun t q => stp.trans q
theorem g_callV0 (X : Stand p l e R s m args below meth c T locs cells slots) (hx : p.tables.exec = Jvm.exec) (hby : c.code = code) (hZ : Z.Warmed39 s.vm) {y : MethodName} {bytes : ByteArray} {maxL : Nat} {ret : Option FieldType} {rm : Room} {argsL rest : List Value} {Q : Option Value → Heap → List Loc → Prop} {own C : String} {index : Nat} {y0 : MethodName} (hown : s.vm.findClass own = some m.cls) (w1 : (Jvm.Cond.methodLink own index y0).before a0 Z = true) (w2 : (Jvm.Cond.declares y0).before a0 Z = true) (hnf : NotFace s y0) (w5 : (Jvm.Cond.selects C y0 y).before a0 Z = true) (w6 : (Jvm.Cond.instanceMethod y).before a0 Z = true) (w3 : (Jvm.Cond.initialized y.cls).before a0 Z = true) (w4 : (Jvm.Cond.code y bytes maxL ret).before a0 Z = true) (hy : y0.cls ≠ "java/lang/invoke/MethodHandle" ∧ y0.cls ≠ "java/lang/invoke/VarHandle")
    {a : Addr} (E : Exa Z h a C) (M : Met1 l y bytes maxL ret [] rm (.ref a :: argsL).toArray Z h Q) (eT : T.heap = h) (hsize : Ls.size = c.maxLocals) {ps : List FieldType} {r : Option FieldType} (hpd : parseMethodDescriptor y0.desc = some ⟨ps, r⟩) (hlen : argsL.length = ps.length) (hst : st = argsL.reverse ++ .ref a :: rest) (hd : Ins1 code pc (.invokevirtual index) 3 pn) (hf : rm.frames + 1 ≤ R.frames) (W : Nat) (hW : (rest.map fun v => v.category).sum = W) (hl : W + (maxL + 11) + rm.locals ≤ R.locals) (hcl : cells + rm.cells ≤ R.cells) (hsl : slots + rm.slots ≤ R.slots)
    (k : ∀ T' v L, Stand p l e R s m args below meth c T' (locs ++ L) (cells + rm.cells) (slots + rm.slots) → Q v T'.heap L → Gd p e below P T' (mkF m pn Ls (v.toList ++ rest))) : Gd p e below P T (mkF m pc Ls st) := by
  obtain ⟨hd, rfl⟩ := hd
  obtain ⟨cq, kq, qa, qb, qc⟩ := isOf hZ eT E
  obtain ⟨v, _, ⟨T', L', k', n'⟩, -, X', ⟨Lc, hQ, l1, y1, z1⟩, stp⟩ := X.virtualBack hx (y := y0) (z := y) hown (mvT hZ w1) (mvT hZ w2) hnf (mvT hZ w5) (mvT hZ w6) hy (backOf (W := W) M hZ w4 w3 hf hl) qa qc (g := mkF m pc Ls st) rfl hsize (Steps.refl _) (argsL := argsL) (rest := rest) (lenOf hpd hlen) hst (by show 2 * 0 + _ ≤ _; rw [hW]; omega) (hb hby hd) (fun _ _ => ⟨rfl, eT, hcl, hsl⟩)
  dsimp only [Pt.U, Pt.locs, Pt.cells, Pt.slots] at X' l1 y1 z1 stp hQ
  subst l1 y1 z1
  exact (k T' v Lc X' hQ).of fun t q => stp.trans q
theorem g_ireturn (X : Stand p l e R s m args below meth c T locs cells slots) (hx : p.tables.exec = Jvm.exec) (hby : c.code = code) (hret : meth.sig.returnType = some .int) (hlk : meth.locks = false) {z : Int32} {Q : Option Value → Heap → List Loc → Prop} {C S : Nat} (hd : Ins1 code pc .ireturn 1 pn) (hc : cells ≤ C) (hs : slots ≤ S) (hQ : Q (some (.int z)) T.heap locs) : Gd p e below (Fin1 s below C S Q) T (mkF m pc Ls (.int z :: st)) := by
  obtain ⟨fs, hr, hrun, hended, hW, hsame⟩ := X.leave (v := some (.int z)) (fun q => by rw [hret] at q; cases q) hlk
  exact ⟨_, retOut X hx (t := .int) hret rfl (Or.inl ⟨rfl, Or.inl rfl, z, rfl⟩) (hb hby hd.1) hr, _, hrun, hended, _, _, rfl, hQ, ⟨_, rfl⟩, hW, hsame.mono hc hs⟩
theorem g_ireturnN (X : Stand p l e R s m args below meth c T locs cells slots) (hx : p.tables.exec = Jvm.exec) (hby : c.code = code) {ty : FieldType} (hret : meth.sig.returnType = some ty) (hty : ty = .boolean ∨ ty = .byte ∨ ty = .char ∨ ty = .short) (hlk : meth.locks = false) {z : Int32} {Q : Option Value → Heap → List Loc → Prop} {C S : Nat} (hd : Ins1 code pc .ireturn 1 pn) (hc : cells ≤ C) (hs : slots ≤ S) (hQ : Q (some (.int (nar ty z))) T.heap locs) : Gd p e below (Fin1 s below C S Q) T (mkF m pc Ls (.int z :: st)) := by
  obtain ⟨fs, hr, hrun, hended, hW, hsame⟩ := X.leave (v := some (.int (nar ty z))) (fun q => by rw [hret] at q; cases q) hlk
  exact ⟨_, retN X hx hret hty (hb hby hd.1) hr, _, hrun, hended, _, _, rfl, hQ, ⟨_, rfl⟩, hW, hsame.mono hc hs⟩
theorem g_lreturn (X : Stand p l e R s m args below meth c T locs cells slots) (hx : p.tables.exec = Jvm.exec) (hby : c.code = code) (hret : meth.sig.returnType = some .long) (hlk : meth.locks = false) {z : Int64} {Q : Option Value → Heap → List Loc → Prop} {C S : Nat} (hd : Ins1 code pc .lreturn 1 pn) (hc : cells ≤ C) (hs : slots ≤ S) (hQ : Q (some (.long z)) T.heap locs) : Gd p e below (Fin1 s below C S Q) T (mkF m pc Ls (.long z :: st)) := by
  obtain ⟨fs, hr, hrun, hended, hW, hsame⟩ := X.leave (v := some (.long z)) (fun q => by rw [hret] at q; cases q) hlk
  exact ⟨_, retOut X hx (t := .long) hret rfl (Or.inr (Or.inl ⟨rfl, rfl, z, rfl⟩)) (hb hby hd.1) hr, _, hrun, hended, _, _, rfl, hQ, ⟨_, rfl⟩, hW, hsame.mono hc hs⟩
theorem g_dreturn (X : Stand p l e R s m args below meth c T locs cells slots) (hx : p.tables.exec = Jvm.exec) (hby : c.code = code) (hret : meth.sig.returnType = some .double) (hlk : meth.locks = false) {z : UInt64} {Q : Option Value → Heap → List Loc → Prop} {C S : Nat} (hd : Ins1 code pc .dreturn 1 pn) (hc : cells ≤ C) (hs : slots ≤ S) (hQ : Q (some (.double z)) T.heap locs) : Gd p e below (Fin1 s below C S Q) T (mkF m pc Ls (.double z :: st)) := by
  obtain ⟨fs, hr, hrun, hended, hW, hsame⟩ := X.leave (v := some (.double z)) (fun q => by rw [hret] at q; cases q) hlk
  exact ⟨_, retOut X hx (t := .double) hret rfl (Or.inr (Or.inr (Or.inl ⟨rfl, rfl, z, rfl⟩))) (hb hby hd.1) hr, _, hrun, hended, _, _, rfl, hQ, ⟨_, rfl⟩, hW, hsame.mono hc hs⟩
theorem g_areturn (X : Stand p l e R s m args below meth c T locs cells slots) (hx : p.tables.exec = Jvm.exec) (hby : c.code = code) {ty : FieldType} (hret : meth.sig.returnType = some ty) (hty : ty.isReference = true) (hn : ∀ v, narrow ty v = v) (hlk : meth.locks = false) {z : Value} (hz : z.isRef = true) {Q : Option Value → Heap → List Loc → Prop} {C S : Nat} (hd : Ins1 code pc .areturn 1 pn) (hc : cells ≤ C) (hs : slots ≤ S) (hQ : Q (some z) T.heap locs) : Gd p e below (Fin1 s below C S Q) T (mkF m pc Ls (z :: st)) := by
  obtain ⟨fs, hr, hrun, hended, hW, hsame⟩ := X.leave (v := some z) (fun q => by rw [hret] at q; cases q) hlk
  exact ⟨_, retOut X hx hret (hn z) (Or.inr (Or.inr (Or.inr (Or.inr ⟨rfl, hty, hz⟩)))) (hb hby hd.1) hr, _, hrun, hended, _, _, rfl, hQ, ⟨_, rfl⟩, hW, hsame.mono hc hs⟩
theorem g_return (X : Stand p l e R s m args below meth c T locs cells slots) (hx : p.tables.exec = Jvm.exec) (hby : c.code = code) (hret : meth.sig.returnType = none) (hlk : meth.locks = false) {Q : Option Value → Heap → List Loc → Prop} {C S : Nat} (hd : Ins1 code pc .return_ 1 pn) (hc : cells ≤ C) (hs : slots ≤ S) (hQ : Q none T.heap locs) : Gd p e below (Fin1 s below C S Q) T (mkF m pc Ls []) := by
  obtain ⟨fs, hr, hrun, hended, hW, hsame⟩ := X.leave (v := none) (fun _ => rfl) hlk
  exact ⟨_, X.returnOut hx hret (hb hby hd.1) hr, _, hrun, hended, _, _, rfl, hQ, ⟨_, rfl⟩, hW, hsame.mono hc hs⟩
theorem own_stat {C n d K : String} (hx : (Jvm.Cond.exactly (.static C n d) K).value args Z none Z [] = some true) (w1 : (Jvm.Cond.initialized C).before args Z = true) (w2 : (Jvm.Cond.laysStatic C n d).before args Z = true) : ∃ a, (Term.static C n d).eval args Z none [] Z = some (.ref a) ∧ Sta Z Z.heap C n d (.ref a) ∧ Exa Z Z.heap a K := by
  obtain ⟨a, c', cell, k, e1, -⟩ := Cond.exactly_spec (Cond.before_iff.mpr hx)
  exact ⟨a, e1, Sta.start e1 (Or.inr ⟨w1, w2⟩), Exa.start e1 hx⟩
theorem own_sfld {t : Term} {a : Addr} {C f dd : String} {n : Int32} (ev : t.eval args Z none [] Z = some (.ref a)) (q : (Jvm.Cond.eq (.field t C f dd) (.int n)).value args Z none Z [] = some true) : Fld Z Z.heap a C f dd (.int n) := Fld.start (by rw [← fld_at (C := C) (n := f) (dd := dd) ev]; exact eqv_i (Term.int_eval n) q)
end K
end Jvm.OwnG
namespace Jvm.OwnG
open Sem ClassFile Op Lib Jvm.Stand Jvm.Free Jvm.LawKit Jvm.RoadKit
section K2
variable {p : Program} {l : Launch} {e : Env} {R : Room} {s : State} {m : MethodId} {args : Array Value} {below : List Frame} {meth : Method} {c : Code} {T : State} {locs : List Loc} {cells slots : Nat} {Z : State} {a0 : Array Value} {h : Heap} {P : State → Prop} {code : ByteArray} {pc pn pt : Nat} {Ls : Array Slot} {st : List Value}
theorem own_decl {y : MethodName} {bytes : ByteArray} {maxL : Nat} {ret : Option FieldType} (w2 : (Jvm.Cond.instanceMethod y).before a0 Z = true) (w4 : (Jvm.Cond.code y bytes maxL ret).before a0 Z = true) : (Jvm.Cond.declares y).before a0 Z = true := by
  obtain ⟨mk, methM, hnamed, hmethM, hst, hab⟩ := Cond.instanceMethod_spec w2
  obtain ⟨m2, cM, q1, -, -, -, -, -, -, hsig⟩ := Cond.code_spec hnamed w4
  cases hmethM.symm.trans q1
  simp [Cond.before, Cond.holds, Cond.value, hnamed, hmethM, hst, hsig]
theorem own_same {y : MethodName} {S : String} (w2 : (Jvm.Cond.instanceMethod y).before a0 Z = true) (w3 : (Jvm.Cond.superclass y.cls S).before a0 Z = true) (hy : y.cls ≠ "java/lang/invoke/MethodHandle" ∧ y.cls ≠ "java/lang/invoke/VarHandle") : (Jvm.Cond.sameMethod y.cls y.cls y.name y.desc).before a0 Z = true := by
  obtain ⟨mk, methM, hnamed, hmethM, hst, hab⟩ := Cond.instanceMethod_spec w2
  have hc := findClass_of_methodNamed hnamed
  have hf := State.methodFound?_of_named hnamed hy
  obtain ⟨k, hk, -⟩ := Vm.findClass_spec hc
  have hn : Z.methodNamed? ⟨y.cls, y.name, y.desc⟩ = some mk := hnamed
  simp only [Cond.before, Cond.holds, Cond.value, hc] at w3
  cases hs : Z.vm.findClass S with
  | none => simp [hs] at w3
  | some cp =>
    cases hp : Z.vm.classes[cp]? with
    | none => simp [hs, hp, hk] at w3
    | some kp =>
      simp [hs, hp, hk] at w3
      simp [Cond.before, Cond.holds, Cond.value, hc, hf, hn, hk, w3.2]
theorem g_callUp0 (X : Stand p l e R s m args below meth c T locs cells slots) (hx : p.tables.exec = Jvm.exec) (hby : c.code = code) (hZ : Z.Warmed39 s.vm) {y : MethodName} {bytes : ByteArray} {maxL : Nat} {ret : Option FieldType} {rm : Room} {argsL rest : List Value} {Q : Option Value → Heap → List Loc → Prop} {own K : String} {index : Nat} (hown : s.vm.findClass own = some m.cls) (w1 : (Jvm.Cond.methodLink own index y).before a0 Z = true) (w2 : (Jvm.Cond.sameMethod y.cls y.cls y.name y.desc).before a0 Z = true) (w5 : (Jvm.Cond.instanceMethod y).before a0 Z = true) (w6 : (Jvm.Cond.superclass own y.cls).before a0 Z = true) (w3 : (Jvm.Cond.initialized y.cls).before a0 Z = true) (w4 : (Jvm.Cond.code y bytes maxL ret).before a0 Z = true) (hn : y.name ≠ "<init>")
    {a : Addr} (F : Ins Z h a K true) (M : Met1 l y bytes maxL ret [] rm (.ref a :: argsL).toArray Z h Q) (eT : T.heap = h) (hsize : Ls.size = c.maxLocals) {ps : List FieldType} {r : Option FieldType} (hpd : parseMethodDescriptor y.desc = some ⟨ps, r⟩) (hlen : argsL.length = ps.length) (hst : st = argsL.reverse ++ .ref a :: rest) (hd : Ins1 code pc (.invokespecial index) 3 pn) (hf : rm.frames + 1 ≤ R.frames) (W : Nat) (hW : (rest.map fun v => v.category).sum = W) (hl : W + (maxL + 11) + rm.locals ≤ R.locals) (hcl : cells + rm.cells ≤ R.cells) (hsl : slots + rm.slots ≤ R.slots)
    (k : ∀ T' v L, Stand p l e R s m args below meth c T' (locs ++ L) (cells + rm.cells) (slots + rm.slots) → Q v T'.heap L → Gd p e below P T' (mkF m pn Ls (v.toList ++ rest))) : Gd p e below P T (mkF m pc Ls st) := by
  obtain ⟨hd, rfl⟩ := hd
  obtain ⟨v, _, ⟨T', L', k', n'⟩, -, X', ⟨Lc, hQ, l1, y1, z1⟩, stp⟩ := superBack X hx hZ (y := y) hown w1 w2 w5 w6 hn (backOf (W := W) M hZ w4 w3 hf hl) eT F (g := mkF m pc Ls st) rfl hsize w4 (argsL := argsL) (rest := rest) (lenOf hpd hlen) hst (by show 2 * 0 + _ ≤ _; rw [hW]; omega) (hb hby hd) (fun _ _ => ⟨rfl, eT, hcl, hsl⟩)
  dsimp only [Pt.U, Pt.locs, Pt.cells, Pt.slots] at X' l1 y1 z1 stp hQ
  subst l1 y1 z1
  exact (k T' v Lc X' hQ).of fun t q => stp.trans q
theorem g_arraycopy (X : Stand p l e R s m args below meth c T locs cells slots) (hx : p.tables.exec = Jvm.exec) (hby : c.code = code) (hZ : Z.Warmed39 s.vm) {own : String} {index : Nat} (hown : s.vm.findClass own = some m.cls) (w1 : (Jvm.Cond.methodLink own index Jvm.Stand.acN).before a0 Z = true) (w2 : (Jvm.Cond.native Jvm.Stand.acN).before a0 Z = true) (w3 : (Jvm.Cond.static Jvm.Stand.acN).before a0 Z = true) (w4 : (Jvm.Cond.initialized "java/lang/System").before a0 Z = true) (eT : T.heap = h)
    {a b : Addr} {ka kb : ClassId} {ty : FieldType} {z z' sp dp nn : Int32} {vs vd us : List Value} {dv dd : Value} (A : Arv Z h a ka ty z vs dv) (B : Arv Z h b kb ty z' vd dd) (hty : refKind ty = false) (h1 : ¬ sp < 0) (h2 : ¬ dp < 0) (h3 : ¬ nn < 0) (h4 : sp.toNatClampNeg + nn.toNatClampNeg ≤ z.toNatClampNeg) (h5 : dp.toNatClampNeg + nn.toNatClampNeg ≤ z'.toNatClampNeg)
    (hus : us = (List.range nn.toNatClampNeg).map fun i => vs.getD (sp.toNatClampNeg + i) dv) (hl : dp.toNatClampNeg + nn.toNatClampNeg ≤ vd.length) {n0 : Nat} (N : Fr n0 locs) (ge : n0 ≤ b) (hsize : Ls.size = c.maxLocals) (hd : Ins1 code pc (.invokestatic index) 3 pn) (hf : 1 ≤ R.frames) (W : Nat) (hW : (st.map fun v => v.category).sum = W) (hlo : W + (nativeFrameWords "java/lang/System" "arraycopy" 5 + 11) ≤ R.locals)
    (k : ∀ T' h' L, Stand p l e R s m args below meth c T' L cells slots → T'.heap = h' → Fr n0 L → Keep h h' [b] → Arv Z h' b kb ty z' (vd.take dp.toNatClampNeg ++ us ++ vd.drop (dp.toNatClampNeg + nn.toNatClampNeg)) dd → Gd p e below P T' (mkF m pn Ls st)) : Gd p e below P T (mkF m pc Ls (.int nn :: .int dp :: .ref b :: .int sp :: .ref a :: st)) := by
  obtain ⟨hd, rfl⟩ := hd
  obtain ⟨T', h', L, X', e', N', K', V', stp⟩ := cpA X hx hZ hown w1 w2 w3 w4 eT A B (Or.inl ⟨rfl, hty⟩) h1 h2 h3 h4 h5 hus hl N ge (g := mkF m pc Ls (.int nn :: .int dp :: .ref b :: .int sp :: .ref a :: st)) rfl hsize rfl (hb hby hd) hf (W := W) (by show 2 * 0 + _ ≤ _; rw [hW]; omega) hlo
  exact (k T' h' L X' e' N' K' V').of stp
theorem g_castY (X : Stand p l e R s m args below meth c T locs cells slots) (hx : p.tables.exec = Jvm.exec) (hby : c.code = code) (hZ : Z.Warmed39 s.vm) {own K : String} {index : Nat} (hown : s.vm.findClass own = some m.cls) (w : (Jvm.Cond.classLink own index K).before a0 Z = true) (eT : T.heap = h) {a : Addr} (F : Ins Z h a K true) (hd : Ins1 code pc (.checkcast index) 3 pn)
    (k : ∀ T', Stand p l e R s m args below meth c T' locs cells slots → T'.heap = h → Gd p e below P T' (mkF m pn Ls (.ref a :: st))) : Gd p e below P T (mkF m pc Ls (.ref a :: st)) := by
  obtain ⟨hd, rfl⟩ := hd
  obtain ⟨T', X', e', stp⟩ := castY X hx hZ hown w eT F (g := mkF m pc Ls (.ref a :: st)) rfl rfl (hb hby hd)
  exact (k T' X' e').of stp
theorem g_instY (X : Stand p l e R s m args below meth c T locs cells slots) (hx : p.tables.exec = Jvm.exec) (hby : c.code = code) (hZ : Z.Warmed39 s.vm) {own K : String} {index : Nat} (hown : s.vm.findClass own = some m.cls) (w : (Jvm.Cond.classLink own index K).before a0 Z = true) (eT : T.heap = h) {a : Addr} (F : Ins Z h a K true) (hd : Ins1 code pc (.instanceof index) 3 pn)
    (k : ∀ T', Stand p l e R s m args below meth c T' locs cells slots → T'.heap = h → Gd p e below P T' (mkF m pn Ls (.int 1 :: st))) : Gd p e below P T (mkF m pc Ls (.ref a :: st)) := by
  obtain ⟨hd, rfl⟩ := hd
  obtain ⟨T', X', e', stp⟩ := instY X hx hZ hown w eT F (g := mkF m pc Ls (.ref a :: st)) rfl rfl (hb hby hd)
  exact (k T' X' e').of stp
theorem g_instN (X : Stand p l e R s m args below meth c T locs cells slots) (hx : p.tables.exec = Jvm.exec) (hby : c.code = code) (hZ : Z.Warmed39 s.vm) {own K C : String} {index : Nat} (hown : s.vm.findClass own = some m.cls) (w : (Jvm.Cond.classLink own index K).before a0 Z = true) (eT : T.heap = h) {a : Addr} (E : Exa Z h a C) (F : ∃ c t, Z.vm.findClass C = some c ∧ Z.vm.findClass K = some t ∧ Z.vm.assignable c t = false) (hd : Ins1 code pc (.instanceof index) 3 pn)
    (k : ∀ T', Stand p l e R s m args below meth c T' locs cells slots → T'.heap = h → Gd p e below P T' (mkF m pn Ls (.int 0 :: st))) : Gd p e below P T (mkF m pc Ls (.ref a :: st)) := by
  obtain ⟨hd, rfl⟩ := hd
  obtain ⟨T', X', e', stp⟩ := instNo X hx hZ hown w eT E F (g := mkF m pc Ls (.ref a :: st)) rfl rfl (hb hby hd)
  exact (k T' X' e').of stp
end K2
end Jvm.OwnG
namespace Jvm.OwnG
open Sem ClassFile Op Lib Jvm.Stand Jvm.Free Jvm.LawKit Jvm.RoadKit
def Fin1W (s : State) (below : List Frame) (cells slots : Nat) (Q : Option Value → Heap → List Loc → Prop) (t : State) : Prop := ∃ o, t.status = .running ∧ Ended t below o ∧ ∃ v L, o = .returned v ∧ Q v t.heap L ∧ ReturnedEndW s o t L cells slots
/-- a contract of a method that may intern; before it nothing has been interned since Z -/
def Met1W (l : Launch) (y : MethodName) (bytes : ByteArray) (maxL : Nat) (ret : Option FieldType) (ws : List Jvm.Cond) (rm : Room) (as' : Array Value) (Z : State) (h : Heap) (Q : Option Value → Heap → List Loc → Prop) : Prop :=
  MetFree l y (head1 (Jvm.Cond.code y bytes maxL ret :: ws) rm) (fun a U => a = as' ∧ Z.Warmed39 U.vm ∧ U.heap = h ∧ IB Z U.vm []) (fun _ _ _ _ _ => True) (fun _ U o U' => ∃ v L, o = .returned v ∧ Q v U'.heap L ∧ ReturnedEndW U o U' L rm.cells rm.slots)
section K3
variable {p : Program} {l : Launch} {e : Env} {R : Room} {s : State} {m : MethodId} {args : Array Value} {below : List Frame} {meth : Method} {c : Code} {T : State} {locs : List Loc} {cells slots : Nat} {Z : State} {a0 : Array Value} {h : Heap} {P : State → Prop} {code : ByteArray} {pc pn pt : Nat} {Ls : Array Slot} {st : List Value} {vm1 : Vm}
theorem Gd.toW {g : JFrame} {C S : Nat} {Q : Option Value → Heap → List Loc → Prop} (k : Gd p e below (Fin1 s below C S Q) T g) : Gd p e below (Fin1W s below C S Q) T g :=
  k.imp fun t q => ⟨q.1, by obtain ⟨o, h1, h2, v, L, h3, h4, h5⟩ := q.2; exact ⟨o, h1, h2, v, L, h3, h4, ReturnedEndW.of_narrow h5.1 h5.2.1 h5.2.2⟩⟩
theorem met_ofW {y : MethodName} {maxL : Nat} {ret : Option FieldType} {ws : List Jvm.Cond} {rm : Room} {as' : Array Value} {Q : Option Value → Heap → List Loc → Prop} (hp : plainFor y = true)
    (body : ∀ (p : Program) (e : Env) (s : State) (m : MethodId) (below : List Frame) (meth : Method) (c : Code) (T : State), Stand p l e rm s m as' below meth c T [] 0 0 → p.tables.exec = Jvm.exec → c.code = code → c.maxLocals = maxL → Z.Warmed39 s.vm → s.vm.findClass y.cls = some m.cls → meth.name = y.name → meth.sig.returnType = ret → meth.locks = false → T.heap = h → s.heap = h → IB Z s.vm [] →
      Gd p e below (Fin1W s below rm.cells rm.slots Q) T (entryFrame m as' maxL)) : Met1W l y code maxL ret ws rm as' Z h Q := by
  refine MetFree.of_bodySF hp hisR ?_
  intro p e s m args below meth c s₁ Bd hml0 hP hK
  obtain ⟨rfl, hZ, hh, hI⟩ := hP
  obtain ⟨t, h1, o, h2, h3, h4⟩ := body p e s m below meth c s₁ (Stand.of_body Bd) Bd.exec Bd.bytes hml0 hZ (findClass_of_methodNamed Bd.named) (name_of_methodNamed Bd.named Bd.method).1 Bd.returns Bd.notSynchronized (by rw [← hh, Bd.state]; rfl) hh hI
  exact ⟨t, o, h1, h2, h3, h4⟩
theorem backOfW {y : MethodName} {bytes : ByteArray} {maxL : Nat} {ret : Option FieldType} {rm : Room} {len W : Nat} {as' : Array Value} {Q : Option Value → Heap → List Loc → Prop}
    (hM : Met1W l y bytes maxL ret [] rm as' Z h Q) (hI : IB Z s.vm [])
    (hZ : Z.Warmed39 s.vm) (wc : (Jvm.Cond.code y bytes maxL ret).before a0 Z = true) (wz : (Jvm.Cond.initialized y.cls).before a0 Z = true) (hf : rm.frames + 1 ≤ R.frames) (hl : W + (maxL + 11) + rm.locals ≤ R.locals) :
    BackS l R p e below s args y len W (fun A a => a = as' ∧ A.U.heap = h ∧ A.cells + rm.cells ≤ R.cells ∧ A.slots + rm.slots ≤ R.slots)
      (fun A _ v B => ∃ L, Q v B.U.heap L ∧ B.locs = A.locs ++ L ∧ B.cells = A.cells + rm.cells ∧ B.slots = A.slots + rm.slots) :=
  BackS.of_freeW (bytes := bytes) (maxL := maxL) (ret := ret) (E := fun _ _ o t L k n => k = rm.cells ∧ n = rm.slots ∧ ∃ v, o = .returned v ∧ Q v t.heap L) hM hf hl
    (fun m meth c A a Y hp => have hU : Z.Warmed39 A.U.vm := wtrans hZ Y.warmed
      ⟨by show (Jvm.Cond.and _ .tt).before a A.U = true; rw [Cond.before_and, mv hU wc]; rfl, mv hU wc, mv hU wz, hp.2.2.1, hp.2.2.2⟩)
    (fun m meth c A a g mk Y hp => ⟨hp.1, wtrans hZ Y.warmed, hp.2.1, by
      obtain ⟨more, e1, e2⟩ := hI
      exact ⟨more, (Y.warmed.interned_eq (s := s)).trans e1, e2⟩⟩) (fun _ _ _ _ _ _ _ _ _ => trivial)
    (fun _ _ _ _ ⟨v, L, h1, h2, h3⟩ => ⟨L, _, _, h3, rfl, rfl, v, h1, h2⟩)
    (fun m meth c A a g mk v t L k n Y hp _ _ ⟨e1, e2, v', e3, e4⟩ => by cases e3; subst e1 e2; exact ⟨L, e4, rfl, rfl, rfl⟩)
theorem g_callInitW (X : Stand p l e R s m args below meth c T locs cells slots) (hx : p.tables.exec = Jvm.exec) (hby : c.code = code) (hZ : Z.Warmed39 s.vm) (hI : IB Z s.vm []) {y : MethodName} {bytes : ByteArray} {maxL : Nat} {rm : Room} {argsL rest : List Value} {Q : Option Value → Heap → List Loc → Prop} {own : String} {index : Nat} (hy1 : y.name = "<init>") (hown : s.vm.findClass own = some m.cls) (w1 : (Jvm.Cond.methodLink own index y).before a0 Z = true) (w2 : (Jvm.Cond.instanceMethod y).before a0 Z = true) (w3 : (Jvm.Cond.initialized y.cls).before a0 Z = true) (w4 : (Jvm.Cond.code y bytes maxL none).before a0 Z = true) (hy : y.cls ≠ "java/lang/invoke/MethodHandle" ∧ y.cls ≠ "java/lang/invoke/VarHandle")
    {a : Addr} (M : Met1W l y bytes maxL none [] rm (.ref a :: argsL).toArray Z h Q) (eT : T.heap = h) (hsize : Ls.size = c.maxLocals) {ps : List FieldType} {r : Option FieldType} (hpd : parseMethodDescriptor y.desc = some ⟨ps, r⟩) (hlen : argsL.length = ps.length) (hst : st = argsL.reverse ++ .ref a :: rest) (hd : Ins1 code pc (.invokespecial index) 3 pn) (hf : rm.frames + 1 ≤ R.frames) (W : Nat) (hW : (rest.map fun v => v.category).sum = W) (hl : W + (maxL + 11) + rm.locals ≤ R.locals) (hcl : cells + rm.cells ≤ R.cells) (hsl : slots + rm.slots ≤ R.slots)
    (k : ∀ T' v L, Stand p l e R (s.setVm T'.vm) m args below meth c T' (locs ++ L) (cells + rm.cells) (slots + rm.slots) → s.Since T'.vm T'.heap.size → Z.Warmed39 (s.setVm T'.vm).vm → (s.setVm T'.vm).vm.findClass own = some m.cls → Q v T'.heap L → Gd p e below P T' (mkF m pn Ls (v.toList ++ rest))) : Gd p e below P T (mkF m pc Ls st) := by
  obtain ⟨hd, rfl⟩ := hd
  obtain ⟨v, _, ⟨T', L', k', n'⟩, -, X', hS, -, ⟨Lc, hQ, l1, y1, z1⟩, stp⟩ := X.specialBackS hx (y := y) hy1 hown (mvT hZ w1) (mvT hZ w2) (mvT hZ w4) hy (backOfW (W := W) M hI hZ w4 w3 hf hl) (g := mkF m pc Ls st) rfl hsize (Steps.refl _) (a := a) (argsL := argsL) (rest := rest) (lenOf hpd hlen) hst (by show 2 * 0 + _ ≤ _; rw [hW]; omega) (hb hby hd) (fun _ _ => ⟨rfl, eT, hcl, hsl⟩)
  dsimp only [Pt.U, Pt.locs, Pt.cells, Pt.slots] at X' l1 y1 z1 stp hQ hS
  subst l1 y1 z1
  exact (k T' v Lc X' hS (State.Warmed39.trans hZ hS.1) ((hS.1.alike.findClass _ _).trans hown) hQ).of fun t q => stp.trans q
theorem g_callSW (X : Stand p l e R s m args below meth c T locs cells slots) (hx : p.tables.exec = Jvm.exec) (hby : c.code = code) (hZ : Z.Warmed39 s.vm) (hI : IB Z s.vm []) {y : MethodName} {bytes : ByteArray} {maxL : Nat} {ret : Option FieldType} {rm : Room} {argsL rest : List Value} {Q : Option Value → Heap → List Loc → Prop} {own : String} {index : Nat} (hown : s.vm.findClass own = some m.cls) (w1 : (Jvm.Cond.methodLink own index y).before a0 Z = true) (w2 : (Jvm.Cond.static y).before a0 Z = true) (w3 : (Jvm.Cond.initialized y.cls).before a0 Z = true) (w4 : (Jvm.Cond.code y bytes maxL ret).before a0 Z = true) (hy : y.cls ≠ "java/lang/invoke/MethodHandle" ∧ y.cls ≠ "java/lang/invoke/VarHandle")
    (M : Met1W l y bytes maxL ret [] rm argsL.toArray Z h Q) (eT : T.heap = h) (hsize : Ls.size = c.maxLocals) {ps : List FieldType} {r : Option FieldType} (hpd : parseMethodDescriptor y.desc = some ⟨ps, r⟩) (hlen : argsL.length = ps.length) (hst : st = argsL.reverse ++ rest) (hd : Ins1 code pc (.invokestatic index) 3 pn) (hf : rm.frames + 1 ≤ R.frames) (W : Nat) (hW : (rest.map fun v => v.category).sum = W) (hl : W + (maxL + 11) + rm.locals ≤ R.locals) (hcl : cells + rm.cells ≤ R.cells) (hsl : slots + rm.slots ≤ R.slots)
    (k : ∀ T' v L, Stand p l e R (s.setVm T'.vm) m args below meth c T' (locs ++ L) (cells + rm.cells) (slots + rm.slots) → s.Since T'.vm T'.heap.size → Z.Warmed39 (s.setVm T'.vm).vm → (s.setVm T'.vm).vm.findClass own = some m.cls → Q v T'.heap L → Gd p e below P T' (mkF m pn Ls (v.toList ++ rest))) : Gd p e below P T (mkF m pc Ls st) := by
  obtain ⟨hd, rfl⟩ := hd
  obtain ⟨v, _, ⟨T', L', k', n'⟩, -, X', hS, -, ⟨Lc, hQ, l1, y1, z1⟩, stp⟩ := callSS X hx (y := y) hown (mvT hZ w1) (mvT hZ w2) (mvT hZ w3) (mvT hZ w4) hy (backOfW (W := W) M hI hZ w4 w3 hf hl) (g := mkF m pc Ls st) rfl hsize (argsL := argsL) (rest := rest) (lenOf hpd hlen) hst (by show 2 * 0 + _ ≤ _; rw [hW]; omega) (hb hby hd) (fun _ _ => ⟨rfl, eT, hcl, hsl⟩)
  dsimp only [Pt.U, Pt.locs, Pt.cells, Pt.slots] at X' l1 y1 z1 stp hQ hS
  subst l1 y1 z1
  exact (k T' v Lc X' hS (State.Warmed39.trans hZ hS.1) ((hS.1.alike.findClass _ _).trans hown) hQ).of fun t q => stp.trans q
theorem g_ldcEmpty (X : Stand p l e R (s.setVm vm1) m args below meth c T locs cells slots) (hx : p.tables.exec = Jvm.exec) (hby : c.code = code) (hZ : Z.Warmed39 (s.setVm vm1).vm) {own : String} {index : Nat} (hown : (s.setVm vm1).vm.findClass own = some m.cls) (w : (Jvm.Cond.stringLink own index "").before a0 Z = true) (wS : ∀ a ∈ Bundle.stringAtoms, a.before a0 Z = true) (eT : T.heap = h) {k0 : Nat} (hS : s.Since vm1 k0) (hk : k0 ≤ h.size) (N : Fr s.heap.size locs) (hkeep : ∀ (b : Addr) (cl : Cell), Z.heap[b]? = some cl → s.heap[b]? = some cl) (I : IB Z vm1 []) (hh : Jvm.Lit.constHeld Z own index) (hcw : Jvm.Lit.compactW.before a0 Z = true)
    (hd : Ins1 code pc (.ldc index) 2 pn) (hc : cells + 2 ≤ R.cells) (hl' : slots + 4 ≤ R.slots)
    (k : ∀ (a : Addr) (T' : State) (h' : Heap) (k1 : Nat) (b : Addr) (kb : ClassId), Stand p l e R (s.setVm T'.vm) m args below meth c T' locs (cells + 2) (slots + 4) → T'.heap = h' → Ext h h' → s.Since T'.vm k1 → k1 ≤ h'.size → Z.Warmed39 (s.setVm T'.vm).vm → (s.setVm T'.vm).vm.findClass own = some m.cls →
      Exa Z h' a "java/lang/String" → Fld Z h' a "java/lang/String" "coder" "B" (.int 0) → Fld Z h' a "java/lang/String" "value" "[B" (.ref b) → Arv Z h' b kb .byte 0 [] (.int 0) → Lit (s.setVm T'.vm) own index a → Gd p e below P T' (mkF m pn Ls (.ref a :: st))) : Gd p e below P T (mkF m pc Ls st) := by
  obtain ⟨hd, rfl⟩ := hd
  obtain ⟨a, T', h', k1, b, kb, r1, r2, r3, r4, r5, r6, r7, r8, r9, r10, r11, -, -, -, r14, r15⟩ := ldcSVL X hx hZ hown w wS eT hS hk N hkeep I (by simp) hh hcw (vs := []) (z := 0) ⟨fun c hc => by simp at hc, by simp⟩ (by decide) (by decide) (g := mkF m pc Ls st) rfl (hb hby hd) (n := 0) (by simp) (by decide) hc hl'
  exact (k a T' h' k1 b kb r1 r2 r3 r4 r5 r6 r7 r8 r9 r10 r11 r14).of r15
theorem g_ldcAgain (X : Stand p l e R (s.setVm vm1) m args below meth c T locs cells slots) (hx : p.tables.exec = Jvm.exec) (hby : c.code = code) (hZ : Z.Warmed39 (s.setVm vm1).vm) {own text : String} {index : Nat} (hown : (s.setVm vm1).vm.findClass own = some m.cls) (w : (Jvm.Cond.stringLink own index text).before a0 Z = true) {a : Addr} (L : Lit (s.setVm vm1) own index a) (hd : Ins1 code pc (.ldc index) 2 pn) (k : Gd p e below P T (mkF m pn Ls (.ref a :: st))) : Gd p e below P T (mkF m pc Ls st) := by
  obtain ⟨hd, rfl⟩ := hd
  exact k.of (ldcAgain X hx hZ hown w L (g := mkF m pc Ls st) rfl (hb hby hd))
theorem g_returnW (X : Stand p l e R (s.setVm vm1) m args below meth c T locs cells slots) (hx : p.tables.exec = Jvm.exec) (hby : c.code = code) {k0 : Nat} (hS : s.Since vm1 k0) (hk : k0 ≤ T.heap.size) (hret : meth.sig.returnType = none) (hlk : meth.locks = false) {Q : Option Value → Heap → List Loc → Prop} {C S : Nat} (hd : Ins1 code pc .return_ 1 pn) (hc : cells ≤ C) (hs : slots ≤ S) (hQ : Q none T.heap locs) : Gd p e below (Fin1W s below C S Q) T (mkF m pc Ls []) := by
  obtain ⟨fs, hr, hrun, hended, hE⟩ := X.leaveW hS hk (v := none) (fun _ => rfl) hlk
  exact ⟨_, X.returnOut hx hret (hb hby hd.1) hr, _, hrun, hended, _, _, rfl, hQ, hE.1, hE.2.1, hE.2.2.1, hE.2.2.2.mono hc hs⟩
theorem g_ireturnNW (X : Stand p l e R (s.setVm vm1) m args below meth c T locs cells slots) (hx : p.tables.exec = Jvm.exec) (hby : c.code = code) {k0 : Nat} (hS : s.Since vm1 k0) (hk : k0 ≤ T.heap.size) {ty : FieldType} (hret : meth.sig.returnType = some ty) (hty : ty = .boolean ∨ ty = .byte ∨ ty = .char ∨ ty = .short) (hlk : meth.locks = false) {z : Int32} {Q : Option Value → Heap → List Loc → Prop} {C S : Nat} (hd : Ins1 code pc .ireturn 1 pn) (hc : cells ≤ C) (hs : slots ≤ S) (hQ : Q (some (.int (nar ty z))) T.heap locs) : Gd p e below (Fin1W s below C S Q) T (mkF m pc Ls (.int z :: st)) := by
  obtain ⟨fs, hr, hrun, hended, hE⟩ := X.leaveW hS hk (v := some (.int (nar ty z))) (fun q => by rw [hret] at q; cases q) hlk
  exact ⟨_, retN X hx hret hty (hb hby hd.1) hr, _, hrun, hended, _, _, rfl, hQ, hE.1, hE.2.1, hE.2.2.1, hE.2.2.2.mono hc hs⟩
theorem g_areturnW (X : Stand p l e R (s.setVm vm1) m args below meth c T locs cells slots) (hx : p.tables.exec = Jvm.exec) (hby : c.code = code) {k0 : Nat} (hS : s.Since vm1 k0) (hk : k0 ≤ T.heap.size) {ty : FieldType} (hret : meth.sig.returnType = some ty) (hty : ty.isReference = true) (hn : ∀ v, narrow ty v = v) (hlk : meth.locks = false) {z : Value} (hz : z.isRef = true) {Q : Option Value → Heap → List Loc → Prop} {C S : Nat} (hd : Ins1 code pc .areturn 1 pn) (hc : cells ≤ C) (hs : slots ≤ S) (hQ : Q (some z) T.heap locs) : Gd p e below (Fin1W s below C S Q) T (mkF m pc Ls (z :: st)) := by
  obtain ⟨fs, hr, hrun, hended, hE⟩ := X.leaveW hS hk (v := some z) (fun q => by rw [hret] at q; cases q) hlk
  exact ⟨_, retOut X hx hret (hn z) (Or.inr (Or.inr (Or.inr (Or.inr ⟨rfl, hty, hz⟩)))) (hb hby hd.1) hr, _, hrun, hended, _, _, rfl, hQ, hE.1, hE.2.1, hE.2.2.1, hE.2.2.2.mono hc hs⟩
end K3
end Jvm.OwnG
namespace Jvm.OwnG
open Sem ClassFile Op Lib Jvm.Stand Jvm.Free Jvm.LawKit Jvm.RoadKit
section K4
variable {p : Program} {l : Launch} {e : Env} {R : Room} {s : State} {m : MethodId} {args : Array Value} {below : List Frame} {meth : Method} {c : Code} {T : State} {locs : List Loc} {cells slots : Nat} {Z : State} {a0 : Array Value} {h : Heap} {P : State → Prop} {code : ByteArray} {pc pn pt : Nat} {Ls : Array Slot} {st : List Value}
theorem g_aaload (X : Stand p l e R s m args below meth c T locs cells slots) (hx : p.tables.exec = Jvm.exec) (hby : c.code = code) (hZ : Z.Warmed39 s.vm) (eT : T.heap = h) {a : Addr} {kc : ClassId} {ty : FieldType} {z j : Int32} {vs : List Value} {dv v : Value} (A : Arv Z h a kc ty z vs dv) (hty : ty.isReference = true) {i : Nat} (hj0 : ¬ j < 0) (hj : j < z) (hji : j.toNatClampNeg = i) (hv : vs.getD i dv = v) (hd : Ins1 code pc .aaload 1 pn)
    (k : Gd p e below P T (mkF m pn Ls (v :: st))) : Gd p e below P T (mkF m pc Ls (.int j :: .ref a :: st)) := by
  obtain ⟨hd, rfl⟩ := hd
  obtain ⟨cl, Ar, q1, S, N, H, G⟩ := A
  have hin := inb_of S ⟨hj0, hj⟩
  exact k.imp fun t q => ⟨X.aaload hx (j := j) (v := v) (by rw [eT]; exact Ar.1) (State.isArrayOf_alike hZ.alike Ar.2.1) hty Ar.2.2 hin (H.at hin (by rw [hji]; exact hv)) (g := mkF m pc Ls (.int j :: .ref a :: st)) rfl rfl (hb hby hd) _ q.1, q.2⟩
theorem g_clone (X : Stand p l e R s m args below meth c T locs cells slots) (hx : p.tables.exec = Jvm.exec) (hby : c.code = code) (hZ : Z.Warmed39 s.vm) {own ad : String} {index : Nat} (hown : s.vm.findClass own = some m.cls) (w1 : (Jvm.Cond.methodLink own index ⟨ad, "clone", "()Ljava/lang/Object;"⟩).before a0 Z = true) (w2 : (Jvm.Cond.sameMethod ad "java/lang/Object" "clone" "()Ljava/lang/Object;").before a0 Z = true) (w3 : (Jvm.Cond.native ⟨"java/lang/Object", "clone", "()Ljava/lang/Object;"⟩).before a0 Z = true)
    (w4 : (Jvm.Cond.instanceMethod ⟨"java/lang/Object", "clone", "()Ljava/lang/Object;"⟩).before a0 Z = true) (w5 : (Jvm.Cond.selects ad ⟨ad, "clone", "()Ljava/lang/Object;"⟩ ⟨"java/lang/Object", "clone", "()Ljava/lang/Object;"⟩).before a0 Z = true) (w6 : (Jvm.Cond.castable ad "java/lang/Cloneable").before a0 Z = true)
    (eT : T.heap = h) {a : Addr} {k : ClassId} {ty : FieldType} {z : Int32} {vs : List Value} {dv : Value} (F : Arv Z h a k ty z vs dv) (E : Exa Z h a ad) (hsize : Ls.size = c.maxLocals) (hd : Ins1 code pc (.invokevirtual index) 3 pn) (hf : 1 ≤ R.frames) (W : Nat) (hW : (st.map fun v => v.category).sum = W) (hl : W + 14 ≤ R.locals) (cap : Nat) (hcap : z.toNatClampNeg ≤ cap) (hc : cells + 1 ≤ R.cells) (hsl : slots + cap ≤ R.slots)
    (kk : ∀ T' h' b, Stand p l e R s m args below meth c T' locs (cells + 1) (slots + cap) → T'.heap = h' → Ext h h' → b = h.size → Arv Z h' b k ty z vs dv → Exa Z h' b ad → Gd p e below P T' (mkF m pn Ls (.ref b :: st))) : Gd p e below P T (mkF m pc Ls (.ref a :: st)) := by
  obtain ⟨hd, rfl⟩ := hd
  obtain ⟨T', h', X', e', E', V', EE, stp⟩ := cloneH X hx hZ hown w1 w2 w3 w4 w5 w6 eT F.arh E (g := mkF m pc Ls (.ref a :: st)) rfl hsize (rest := st) rfl (hb hby hd) hf (W := W) (cap := cap) (by show 2 * 0 + _ ≤ _; rw [hW]; omega) hl hcap hc hsl
  exact (kk T' h' _ X' e' E' rfl V' EE).of stp
theorem g_instNull (X : Stand p l e R s m args below meth c T locs cells slots) (hx : p.tables.exec = Jvm.exec) (hby : c.code = code) {index : Nat} (hd : Ins1 code pc (.instanceof index) 3 pn) (k : Gd p e below P T (mkF m pn Ls (.int 0 :: st))) : Gd p e below P T (mkF m pc Ls (.null :: st)) := by
  obtain ⟨hd, rfl⟩ := hd
  exact k.of (X.instanceofNull hx (g := mkF m pc Ls (.null :: st)) rfl rfl (hb hby hd))
end K4
end Jvm.OwnG
namespace Jvm.Pilot.@@N@@
open Jvm Jvm.ClassFile Sem Op Lib Jvm.Free Jvm.Stand Jvm.LawKit Jvm.RoadKit Jvm.OwnG Bundle Jvm.Pilot.@@N@@.Jvm.D
theorem own_lo {v w : Int32} (h : v = (w &&& (255 : Int32)).toUInt32.toUInt16.toUInt32.toInt32) : ∃ n : Fin 256, v = Int32.ofNat n.val := by
  have m := c_mask w 255 8 (by decide) (by decide)
  have q := c_i2c (w &&& 255)
  rw [← h] at q
  have hv : 0 ≤ v.toInt ∧ v.toInt < 256 := by omega
  have hlt : v.toInt.toNat < 256 := by omega
  refine ⟨⟨v.toInt.toNat, hlt⟩, Int32.toInt_inj.mp ?_⟩
  have d := (by decide +kernel : ∀ n : Fin 256, (Int32.ofNat n.val).toInt = (n.val : Int)) ⟨v.toInt.toNat, hlt⟩
  rw [d]
  show v.toInt = (v.toInt.toNat : Int)
  omega
def own_ch (v : Int32) : Prop := ∃ n : Fin 256, v = Int32.ofNat n.val
theorem own_chc {p : Int32} (h : ∃ w : Int32, p = w &&& (255 : Int32)) : own_ch (nar .char p.toUInt32.toUInt16.toUInt32.toInt32) := by
  obtain ⟨w, rfl⟩ := h
  obtain ⟨n, e⟩ := own_lo (w := w) rfl
  rw [e]
  exact ⟨n, (by decide +kernel : ∀ n : Fin 256, nar .char (Int32.ofNat n.val) = Int32.ofNat n.val) n⟩
theorem own_encN {v : Int32} (h : own_ch v) : ¬ (255 : Int32) < nar .char v := by
  obtain ⟨n, rfl⟩ := h
  exact (by decide +kernel : ∀ n : Fin 256, ¬ (255 : Int32) < nar .char (Int32.ofNat n.val)) n
theorem own_beq {v : Int32} (h : own_ch v) (k : Int32) (hk : k ∈ ([110, 111, 101, 112, 98] : List Int32)) : (k = nar .byte (nar .char v).toInt8.toInt32) ↔ v = k := by
  obtain ⟨n, rfl⟩ := h
  exact (by decide +kernel : ∀ n : Fin 256, ∀ k ∈ ([110, 111, 101, 112, 98] : List Int32), (k = nar .byte (nar .char (Int32.ofNat n.val)).toInt8.toInt32) ↔ Int32.ofNat n.val = k) n k hk
theorem own_yes {r : Int32} {A : Prop} (h : (r = 1 ∧ A) ∨ (r = 0 ∧ ¬ A)) (c : ¬ r = (0 : Int32)) : A := h.elim (fun q => q.2) (fun q => absurd q.1 c)
theorem own_no {r : Int32} {A : Prop} (h : (r = 1 ∧ A) ∨ (r = 0 ∧ ¬ A)) (c : r = (0 : Int32)) : ¬ A := h.elim (fun q => absurd (q.1.symm.trans c) (by decide)) (fun q => q.2)
theorem own_pickY {A : Prop} {v w : Value} (h : (A ∧ v = w) ∨ (¬ A ∧ v = .null)) (a : A) : v = w := h.elim (fun q => q.2) (fun q => absurd a q.1)
theorem own_pickN {A : Prop} {v w : Value} (h : (A ∧ v = w) ∨ (¬ A ∧ v = .null)) (a : ¬ A) : v = .null := h.elim (fun q => absurd q.1 a) (fun q => q.2)
theorem own_cases {v p : Int32} (hv : v = p &&& (7 : Int32)) (h7 : ¬ v = (7 : Int32)) : v = 0 ∨ v = 1 ∨ v = 2 ∨ v = 3 ∨ v = 4 ∨ v = 5 ∨ v = 6 := by
  have m := c_mask p 7 3 (by decide) (by decide)
  rw [← hv] at m
  have e : ∀ k : Int32, v = k ↔ v.toInt = k.toInt := fun k => Int32.toInt_inj.symm
  rw [e, show (7 : Int32).toInt = 7 from by decide] at h7
  rw [e, e, e, e, e, e, e, show (0 : Int32).toInt = 0 from by decide, show (1 : Int32).toInt = 1 from by decide, show (2 : Int32).toInt = 2 from by decide, show (3 : Int32).toInt = 3 from by decide, show (4 : Int32).toInt = 4 from by decide, show (5 : Int32).toInt = 5 from by decide, show (6 : Int32).toInt = 6 from by decide]
  omega
theorem own_atoms {Z : State} {a0 : Array Value} (hw : ∀ d ∈ tables_1, d.before a0 Z = true) : ∀ a ∈ Bundle.stringAtoms, a.before a0 Z = true := by
  intro d hd
  simp only [Bundle.stringAtoms, Bundle.sN, List.mem_cons, List.not_mem_nil, or_false] at hd
  rcases hd with rfl | rfl | rfl | rfl | rfl | rfl | rfl
  · exact hw _ (List.mem_of_getElem? (i := 9) rfl)
  · exact hw _ (List.mem_of_getElem? (i := 8) rfl)
  · exact hw _ (List.mem_of_getElem? (i := 22) rfl)
  · exact hw _ (List.mem_of_getElem? (i := 23) rfl)
  · exact hw _ (List.mem_of_getElem? (i := 24) rfl)
  · exact hw _ (List.mem_of_getElem? (i := 25) rfl)
  · exact hw _ (List.mem_of_getElem? (i := 26) rfl)
section OwnS
variable {Z : State} {args : Array Value} {t u : Term} {a b : Addr} {ty : FieldType} {cl : Cell}
theorem own_arr {n : Int32} (ev : t.eval args Z none [] Z = some (.ref a)) (x : (Jvm.Cond.arrayOf t ty).value args Z none Z [] = some true) (xl : (Jvm.Cond.eq (.length t) (.int n)).value args Z none Z [] = some true) : ∃ cl, Arr Z Z.heap a cl ty ∧ cl.slots.size < 2 ^ 31 ∧ cl.slots.size.toInt32 = n ∧ Z.arrayAt? a = some cl := by
  obtain ⟨cl, A⟩ := Arr.start ev x
  have ha : Z.arrayAt? a = some cl := Arr.fin (Vm.Alike.refl _) A
  have hL := eqv_i (Term.int_eval n) xl
  by_cases q : cl.slots.size < 2 ^ 31
  · rw [len_f ev ha q] at hL
    cases hL
    exact ⟨cl, A, q, rfl, ha⟩
  · exfalso
    simp [Term.eval, ev, ha, q] at hL
theorem own_elem {i v : Int32} {n : Nat} (ev : t.eval args Z none [] Z = some (.ref a)) (ha : Z.arrayAt? a = some cl) (hi : ¬ i < 0) (hn : i.toNatClampNeg = n) (x : (Jvm.Cond.eq (.elem t (.int i)) (.int v)).value args Z none Z [] = some true) : cl.slots[n]? = some (.int v) := by
  have h := eqv_i (Term.int_eval v) x
  rw [elem_f ev (Term.int_eval i) ha hi, hn] at h
  exact h
theorem own_elemR {i : Int32} {n : Nat} (ev : t.eval args Z none [] Z = some (.ref a)) (ha : Z.arrayAt? a = some cl) (hi : ¬ i < 0) (hn : i.toNatClampNeg = n) (hu : u.eval args Z none [] Z = some (.ref b)) (x : (Jvm.Cond.eq (.elem t (.int i)) u).value args Z none Z [] = some true) : cl.slots[n]? = some (.ref b) := by
  have e := elem_f ev (Term.int_eval i) ha hi
  rw [hn] at e
  rw [← e]
  cases he : (Term.elem t (.int i)).eval args Z none [] Z with
  | none => simp [Cond.value, he] at x
  | some v =>
    cases v <;> simp [Cond.value, he, hu] at x
    · rw [x]
end OwnS
theorem i12_0 : Ins1 jdk_52_method_15_code 0 (.iload_n 1) 1 1 := ⟨by decide +kernel, rfl⟩
theorem i12_1 : Ins1 jdk_52_method_15_code 1 (.aload_n 0) 1 2 := ⟨by decide +kernel, rfl⟩
theorem i12_2 : Ins1 jdk_52_method_15_code 2 (.arraylength) 1 3 := ⟨by decide +kernel, rfl⟩
theorem i12_3 : Ins1 jdk_52_method_15_code 3 (.isub) 1 4 := ⟨by decide +kernel, rfl⟩
theorem i12_4 : Ins1 jdk_52_method_15_code 4 (.bipush 31) 2 6 := ⟨by decide +kernel, rfl⟩
theorem i12_6 : Ins1 jdk_52_method_15_code 6 (.iushr) 1 7 := ⟨by decide +kernel, rfl⟩
theorem i12_7 : Ins1 jdk_52_method_15_code 7 (.i2b) 1 8 := ⟨by decide +kernel, rfl⟩
theorem i12_8 : Ins1 jdk_52_method_15_code 8 (.ireturn) 1 9 := ⟨by decide +kernel, rfl⟩
theorem pn_java_lang_StringUTF16 : plainName "java/lang/StringUTF16" = true := by first | (simp [plainName, overriddenIn]; done) | decide +kernel
theorem ef_12 (m : MethodId) (t : Addr) (p1 : Int32) : entryFrame m #[(.ref t), (.int p1)] 2 = mkF m 0 #[.val (.ref t), .val (.int p1)] [] := by first | (simp [entryFrame, mkF, argsToLocals, Value.category]; done) | rfl
set_option maxRecDepth 65536 in
set_option maxHeartbeats 40000000 in
theorem rm12 (l : Launch) (Z : State) (a0 : Array Value) (hw : ∀ d ∈ tables_1, d.before a0 Z = true) (ws : List Jvm.Cond) (t : Addr) (p1 : Int32) (kb : ClassId) (z : Int32) (vs : List Value) (h0 : Heap) (n0 : Nat) (Z0 : n0 ≤ h0.size) (V : Arv Z h0 t kb .byte z vs (.int (0 : Int32))) (hp : p1 = z) :
    Met1 l (⟨"java/lang/StringUTF16", "coderFromArrayLen", "([BI)B"⟩ : MethodName) jdk_52_method_15_code 2 (some .byte) ws ({ frames := 0, cells := 0, slots := 0, locals := 0 } : Room) #[(.ref t), (.int p1)] Z h0 (RV fun vv h L => vv = .int 0 ∧ h = h0 ∧ Fr n0 L) := by
  refine met_of (plainFor_of_name pn_java_lang_StringUTF16) ?_
  intro p e s m below meth c T0 X0 hx hby hml hZ hown hnm hret hlk e0 es
  have N0 := Fr.nil n0
  refine Gd.cast (ef_12 m t p1) ?_
  subst hp
  refine g_iloadN X0 hx hby i12_0 rfl ?_
  refine g_aloadN X0 hx hby i12_1 rfl rfl ?_
  refine g_arraylength X0 hx hby hZ e0 V i12_2 ?_
  refine g_isub X0 hx hby i12_3 ?_
  refine g_bipush X0 hx hby i12_4 (z := (31 : Int32)) (by decide) ?_
  refine g_iushr X0 hx hby i12_6 ?_
  refine g_i2b X0 hx hby i12_7 ?_
  refine g_ireturnN X0 hx hby (ty := .byte) hret (by simp) hlk i12_8 (by decide) (by decide) ?_
  exact ⟨_, rfl, by rw [Int32.sub_self]; rfl, e0, N0⟩
theorem i11_0 : Ins1 jdk_52_method_21_code 0 (.iconst 0) 1 1 := ⟨by decide +kernel, rfl⟩
theorem i11_1 : Ins1 jdk_52_method_21_code 1 (.istore 5) 2 3 := ⟨by decide +kernel, rfl⟩
theorem i11_3 : Ins1 jdk_52_method_21_code 3 (.iload 5) 2 5 := ⟨by decide +kernel, rfl⟩
theorem i11_5 : Ins1 jdk_52_method_21_code 5 (.iload 4) 2 7 := ⟨by decide +kernel, rfl⟩
theorem i11_7 : InsB jdk_52_method_21_code 7 (.if_icmp .ge 37) 37 10 44 := ⟨by decide +kernel, rfl, by decide, by decide⟩
theorem i11_10 : Ins1 jdk_52_method_21_code 10 (.aload_n 0) 1 11 := ⟨by decide +kernel, rfl⟩
theorem i11_11 : Ins1 jdk_52_method_21_code 11 (.iload_n 1) 1 12 := ⟨by decide +kernel, rfl⟩
theorem i11_12 : Ins1 jdk_52_method_21_code 12 (.caload) 1 13 := ⟨by decide +kernel, rfl⟩
theorem i11_13 : Ins1 jdk_52_method_21_code 13 (.istore 6) 2 15 := ⟨by decide +kernel, rfl⟩
theorem i11_15 : Ins1 jdk_52_method_21_code 15 (.iload 6) 2 17 := ⟨by decide +kernel, rfl⟩
theorem i11_17 : Ins1 jdk_52_method_21_code 17 (.sipush 255) 3 20 := ⟨by decide +kernel, rfl⟩
theorem i11_20 : InsB jdk_52_method_21_code 20 (.if_icmp .le 6) 6 23 26 := ⟨by decide +kernel, rfl, by decide, by decide⟩
theorem i11_23 : Ins1 jdk_52_method_21_code 23 (.iload 5) 2 25 := ⟨by decide +kernel, rfl⟩
theorem i11_25 : Ins1 jdk_52_method_21_code 25 (.ireturn) 1 26 := ⟨by decide +kernel, rfl⟩
theorem i11_26 : Ins1 jdk_52_method_21_code 26 (.aload_n 2) 1 27 := ⟨by decide +kernel, rfl⟩
theorem i11_27 : Ins1 jdk_52_method_21_code 27 (.iload_n 3) 1 28 := ⟨by decide +kernel, rfl⟩
theorem i11_28 : Ins1 jdk_52_method_21_code 28 (.iload 6) 2 30 := ⟨by decide +kernel, rfl⟩
theorem i11_30 : Ins1 jdk_52_method_21_code 30 (.i2b) 1 31 := ⟨by decide +kernel, rfl⟩
theorem i11_31 : Ins1 jdk_52_method_21_code 31 (.bastore) 1 32 := ⟨by decide +kernel, rfl⟩
theorem i11_32 : Ins1 jdk_52_method_21_code 32 (.iinc 1 1) 3 35 := ⟨by decide +kernel, rfl⟩
theorem i11_35 : Ins1 jdk_52_method_21_code 35 (.iinc 3 1) 3 38 := ⟨by decide +kernel, rfl⟩
theorem i11_38 : Ins1 jdk_52_method_21_code 38 (.iinc 5 1) 3 41 := ⟨by decide +kernel, rfl⟩
theorem i11_41 : InsB jdk_52_method_21_code 41 (.goto (-38)) (-38) 44 3 := ⟨by decide +kernel, rfl, by decide, by decide⟩
theorem i11_44 : Ins1 jdk_52_method_21_code 44 (.iload 4) 2 46 := ⟨by decide +kernel, rfl⟩
theorem i11_46 : Ins1 jdk_52_method_21_code 46 (.ireturn) 1 47 := ⟨by decide +kernel, rfl⟩
theorem ef_11_1 (m : MethodId) (ca : Addr) (p1 : Int32) (d : Addr) (p3 : Int32) (p4 : Int32) : entryFrame m #[(.ref ca), (.int p1), (.ref d), (.int p3), (.int p4)] 7 = mkF m 0 #[.val (.ref ca), .val (.int p1), .val (.ref d), .val (.int p3), .val (.int p4), .unset, .unset] [] := by first | (simp [entryFrame, mkF, argsToLocals, Value.category]; done) | rfl
set_option maxRecDepth 65536 in
set_option maxHeartbeats 40000000 in
theorem rm11_1 (l : Launch) (Z : State) (a0 : Array Value) (hw : ∀ d ∈ tables_1, d.before a0 Z = true) (ws : List Jvm.Cond) (ca : Addr) (p1 : Int32) (d : Addr) (p3 : Int32) (p4 : Int32) (kc kd : ClassId) (x0 : Int32) (h0 : Heap) (n0 : Nat) (Z0 : n0 ≤ h0.size) (Vc : Arv Z h0 ca kc .char (1 : Int32) [(.int x0)] (.int (0 : Int32))) (Vd : Arv Z h0 d kd .byte (1 : Int32) [(.int (0 : Int32))] (.int (0 : Int32))) (g_d : n0 ≤ d) (hcd : ca ≠ d) (hp1 : p1 = 0) (hp3 : p3 = 0) (hp4 : p4 = 1) (q0_ : ¬ (255 : Int32) < x0) :
    Met1 l (⟨"java/lang/StringUTF16", "compress", "([CI[BII)I"⟩ : MethodName) jdk_52_method_21_code 7 (some .int) ws ({ frames := 0, cells := 0, slots := 0, locals := 0 } : Room) #[(.ref ca), (.int p1), (.ref d), (.int p3), (.int p4)] Z h0 (RV fun vv h L => vv = .int 1 ∧ Keep h0 h [d] ∧ Arv Z h d kd .byte (1 : Int32) [(.int (nar .byte x0.toInt8.toInt32))] (.int (0 : Int32)) ∧ Fr n0 L) := by
  refine met_of (plainFor_of_name pn_java_lang_StringUTF16) ?_
  intro p e s m below meth c T0 X0 hx hby hml hZ hown hnm hret hlk e0 es
  have N0 := Fr.nil n0
  refine Gd.cast (ef_11_1 m ca p1 d p3 p4) ?_
  subst hp1 hp3 hp4
  have K0 : Keep h0 h0 [d] := Keep.refl _ _
  refine g_iconst X0 hx hby i11_0 (z := (0 : Int32)) (by decide) ?_
  refine g_istore X0 hx hby i11_1 (l' := #[.val (.ref ca), .val (.int (0 : Int32)), .val (.ref d), .val (.int (0 : Int32)), .val (.int (1 : Int32)), .val (.int (0 : Int32)), .unset]) rfl ?_
  refine g_iload X0 hx hby i11_3 rfl ?_
  refine g_iload X0 hx hby i11_5 rfl ?_
  refine g_icmp_ge X0 hx hby i11_7 (fun c7_1 => False.elim (absurd c7_1 (by decide))) fun c7_1 => ?_
  refine g_aloadN X0 hx hby i11_10 rfl rfl ?_
  refine g_iloadN X0 hx hby i11_11 rfl ?_
  refine g_caload X0 hx hby hZ e0 Vc (i := 0) (by decide) (by decide) (by decide) rfl i11_12 ?_
  refine g_istore X0 hx hby i11_13 (l' := #[.val (.ref ca), .val (.int (0 : Int32)), .val (.ref d), .val (.int (0 : Int32)), .val (.int (1 : Int32)), .val (.int (0 : Int32)), .val (.int x0)]) rfl ?_
  refine g_iload X0 hx hby i11_15 rfl ?_
  refine g_sipush X0 hx hby i11_17 (z := (255 : Int32)) (by decide) ?_
  refine g_icmp_le X0 hx hby i11_20 (fun c20_2 => ?_) (fun c20_2 => False.elim (q0_ c20_2))
  refine g_aloadN X0 hx hby i11_26 rfl rfl ?_
  refine g_iloadN X0 hx hby i11_27 rfl ?_
  refine g_iload X0 hx hby i11_28 rfl ?_
  refine g_i2b X0 hx hby i11_30 ?_
  refine g_bastore X0 hx hby hZ e0 Vd (i := 0) (by decide) (by decide) (by decide) (Nat.le_of_ble_eq_true rfl) i11_31 fun T3 h3 X3 e3 W3 Vd => ?_
  have Vd : Arv Z h3 d kd .byte (1 : Int32) [(.int (nar .byte x0.toInt8.toInt32))] (.int (0 : Int32)) := Vd
  have Vc := Vc.other W3 hcd
  have Z0 : n0 ≤ h3.size := Nat.le_trans Z0 (Nat.le_of_eq W3.size.symm)
  have N0 := Fr.snoc X3 N0 g_d
  have K0 := K0.wr W3 (Or.inl (List.mem_singleton.mpr rfl))
  refine g_iinc X3 hx hby i11_32 rfl (z := (1 : Int32)) (by decide) (l' := #[.val (.ref ca), .val (.int (1 : Int32)), .val (.ref d), .val (.int (0 : Int32)), .val (.int (1 : Int32)), .val (.int (0 : Int32)), .val (.int x0)]) rfl ?_
  refine g_iinc X3 hx hby i11_35 rfl (z := (1 : Int32)) (by decide) (l' := #[.val (.ref ca), .val (.int (1 : Int32)), .val (.ref d), .val (.int (1 : Int32)), .val (.int (1 : Int32)), .val (.int (0 : Int32)), .val (.int x0)]) rfl ?_
  refine g_iinc X3 hx hby i11_38 rfl (z := (1 : Int32)) (by decide) (l' := #[.val (.ref ca), .val (.int (1 : Int32)), .val (.ref d), .val (.int (1 : Int32)), .val (.int (1 : Int32)), .val (.int (1 : Int32)), .val (.int x0)]) rfl ?_
  refine g_goto X3 hx hby i11_41 ?_
  refine g_iload X3 hx hby i11_3 rfl ?_
  refine g_iload X3 hx hby i11_5 rfl ?_
  refine g_icmp_ge X3 hx hby i11_7 (fun c7_4 => ?_) (fun c7_4 => False.elim (absurd c7_4 (by decide)))
  refine g_iload X3 hx hby i11_44 rfl ?_
  refine g_ireturn X3 hx hby hret hlk i11_46 (by decide) (by decide) ?_
  rw [e3]
  exact ⟨_, rfl, rfl, K0, Vd, N0⟩
theorem i10_0 : Ins1 jdk_52_method_16_code 0 (.iload_n 2) 1 1 := ⟨by decide +kernel, rfl⟩
theorem i10_1 : Ins1 jdk_52_method_16_code 1 (.newarray .byte) 2 3 := ⟨by decide +kernel, rfl⟩
theorem i10_3 : Ins1 jdk_52_method_16_code 3 (.astore_n 3) 1 4 := ⟨by decide +kernel, rfl⟩
theorem i10_4 : Ins1 jdk_52_method_16_code 4 (.aload_n 0) 1 5 := ⟨by decide +kernel, rfl⟩
theorem i10_5 : Ins1 jdk_52_method_16_code 5 (.iload_n 1) 1 6 := ⟨by decide +kernel, rfl⟩
theorem i10_6 : Ins1 jdk_52_method_16_code 6 (.aload_n 3) 1 7 := ⟨by decide +kernel, rfl⟩
theorem i10_7 : Ins1 jdk_52_method_16_code 7 (.iconst 0) 1 8 := ⟨by decide +kernel, rfl⟩
theorem i10_8 : Ins1 jdk_52_method_16_code 8 (.iload_n 2) 1 9 := ⟨by decide +kernel, rfl⟩
theorem i10_9 : Ins1 jdk_52_method_16_code 9 (.invokestatic 115) 3 12 := ⟨by decide +kernel, rfl⟩
theorem i10_12 : Ins1 jdk_52_method_16_code 12 (.istore 4) 2 14 := ⟨by decide +kernel, rfl⟩
theorem i10_14 : Ins1 jdk_52_method_16_code 14 (.iload 4) 2 16 := ⟨by decide +kernel, rfl⟩
theorem i10_16 : Ins1 jdk_52_method_16_code 16 (.iload_n 2) 1 17 := ⟨by decide +kernel, rfl⟩
theorem i10_17 : InsB jdk_52_method_16_code 17 (.if_icmp .eq 40) 40 20 57 := ⟨by decide +kernel, rfl, by decide, by decide⟩
theorem i10_20 : Ins1 jdk_52_method_16_code 20 (.aload_n 0) 1 21 := ⟨by decide +kernel, rfl⟩
theorem i10_21 : Ins1 jdk_52_method_16_code 21 (.iload_n 1) 1 22 := ⟨by decide +kernel, rfl⟩
theorem i10_22 : Ins1 jdk_52_method_16_code 22 (.iload_n 2) 1 23 := ⟨by decide +kernel, rfl⟩
theorem i10_23 : Ins1 jdk_52_method_16_code 23 (.invokestatic 119) 3 26 := ⟨by decide +kernel, rfl⟩
theorem i10_26 : Ins1 jdk_52_method_16_code 26 (.astore 5) 2 28 := ⟨by decide +kernel, rfl⟩
theorem i10_28 : Ins1 jdk_52_method_16_code 28 (.aload 5) 2 30 := ⟨by decide +kernel, rfl⟩
theorem i10_30 : Ins1 jdk_52_method_16_code 30 (.iload 4) 2 32 := ⟨by decide +kernel, rfl⟩
theorem i10_32 : Ins1 jdk_52_method_16_code 32 (.invokestatic 71) 3 35 := ⟨by decide +kernel, rfl⟩
theorem i10_35 : Ins1 jdk_52_method_16_code 35 (.sipush 255) 3 38 := ⟨by decide +kernel, rfl⟩
theorem i10_38 : InsB jdk_52_method_16_code 38 (.if_icmp .gt 16) 16 41 54 := ⟨by decide +kernel, rfl, by decide, by decide⟩
theorem i10_41 : Ins1 jdk_52_method_16_code 41 (.aload 5) 2 43 := ⟨by decide +kernel, rfl⟩
theorem i10_43 : Ins1 jdk_52_method_16_code 43 (.iconst 0) 1 44 := ⟨by decide +kernel, rfl⟩
theorem i10_44 : Ins1 jdk_52_method_16_code 44 (.aload_n 3) 1 45 := ⟨by decide +kernel, rfl⟩
theorem i10_45 : Ins1 jdk_52_method_16_code 45 (.iconst 0) 1 46 := ⟨by decide +kernel, rfl⟩
theorem i10_46 : Ins1 jdk_52_method_16_code 46 (.iload_n 2) 1 47 := ⟨by decide +kernel, rfl⟩
theorem i10_47 : Ins1 jdk_52_method_16_code 47 (.invokestatic 123) 3 50 := ⟨by decide +kernel, rfl⟩
theorem i10_50 : Ins1 jdk_52_method_16_code 50 (.iload_n 2) 1 51 := ⟨by decide +kernel, rfl⟩
theorem i10_51 : InsB jdk_52_method_16_code 51 (.if_icmp .eq 6) 6 54 57 := ⟨by decide +kernel, rfl, by decide, by decide⟩
theorem i10_54 : Ins1 jdk_52_method_16_code 54 (.aload 5) 2 56 := ⟨by decide +kernel, rfl⟩
theorem i10_56 : Ins1 jdk_52_method_16_code 56 (.areturn) 1 57 := ⟨by decide +kernel, rfl⟩
theorem i10_57 : Ins1 jdk_52_method_16_code 57 (.aload_n 3) 1 58 := ⟨by decide +kernel, rfl⟩
theorem i10_58 : Ins1 jdk_52_method_16_code 58 (.areturn) 1 59 := ⟨by decide +kernel, rfl⟩
theorem ef_10_1 (m : MethodId) (ca : Addr) (p1 : Int32) (p2 : Int32) : entryFrame m #[(.ref ca), (.int p1), (.int p2)] 6 = mkF m 0 #[.val (.ref ca), .val (.int p1), .val (.int p2), .unset, .unset, .unset] [] := by first | (simp [entryFrame, mkF, argsToLocals, Value.category]; done) | rfl
theorem pd_0 : parseMethodDescriptor "([CI[BII)I" = some ⟨[(.array .char), .int, (.array .byte), .int, .int], some .int⟩ := by decide +kernel
set_option maxRecDepth 65536 in
set_option maxHeartbeats 40000000 in
theorem rm10_1 (l : Launch) (Z : State) (a0 : Array Value) (hw : ∀ d ∈ tables_1, d.before a0 Z = true) (ws : List Jvm.Cond) (ca : Addr) (p1 : Int32) (p2 : Int32) (kc : ClassId) (x0 : Int32) (h0 : Heap) (n0 : Nat) (Z0 : n0 ≤ h0.size) (Vc : Arv Z h0 ca kc .char (1 : Int32) [(.int x0)] (.int (0 : Int32))) (hp1 : p1 = 0) (hp2 : p2 = 1) (q0_ : ¬ (255 : Int32) < x0) :
    Met1 l (⟨"java/lang/StringUTF16", "compress", "([CII)[B"⟩ : MethodName) jdk_52_method_16_code 6 (some (.array .byte)) ws ({ frames := 1, cells := 1, slots := 1, locals := 18 } : Room) #[(.ref ca), (.int p1), (.int p2)] Z h0 (RV fun vv h L => ∃ t kt, vv = .ref t ∧ Keep h0 h [] ∧ Arv Z h t kt .byte (1 : Int32) [(.int (nar .byte x0.toInt8.toInt32))] (.int (0 : Int32)) ∧ n0 ≤ t ∧ h0.size ≤ t ∧ Fr n0 L) := by
  refine met_of (plainFor_of_name pn_java_lang_StringUTF16) ?_
  intro p e s m below meth c T0 X0 hx hby hml hZ hown hnm hret hlk e0 es
  have N0 := Fr.nil n0
  refine Gd.cast (ef_10_1 m ca p1 p2) ?_
  subst hp1 hp2
  have K0 : Keep h0 h0 [] := Keep.refl _ _
  refine g_iloadN X0 hx hby i10_0 rfl ?_
  refine g_newarray X0 hx hby hZ (ty := .byte) rfl (hw _ (List.mem_of_getElem? (i := 22) rfl)) e0 i10_1 (by decide) 1 (by decide) (by decide) (by decide) (by decide) fun T1 h1 b1 k1 X1 e1 E1 hb1 V1 => ?_
  have ne_ca_b1 : ca ≠ b1 := Nat.ne_of_lt (Nat.lt_of_lt_of_le Vc.lt (Nat.le_of_eq hb1.symm))
  have g_b1 : n0 ≤ b1 := Nat.le_trans Z0 (Nat.le_of_eq hb1.symm)
  have Vc := Vc.ext E1
  have sz_b1 : h0.size ≤ b1 := Nat.le_trans K0.1 (Nat.le_of_eq hb1.symm)
  have K0 := K0.ext E1
  have Z0 : n0 ≤ h1.size := Nat.le_trans Z0 E1.1
  have V1 : Arv Z h1 b1 k1 .byte (1 : Int32) [(.int (0 : Int32))] (.int (0 : Int32)) := V1.pad (pad_rep [] _ 1)
  refine g_astoreN X1 hx hby i10_3 rfl (l' := #[.val (.ref ca), .val (.int (0 : Int32)), .val (.int (1 : Int32)), .val (.ref b1), .unset, .unset]) rfl ?_
  refine g_aloadN X1 hx hby i10_4 rfl rfl ?_
  refine g_iloadN X1 hx hby i10_5 rfl ?_
  refine g_aloadN X1 hx hby i10_6 rfl rfl ?_
  refine g_iconst X1 hx hby i10_7 (z := (0 : Int32)) (by decide) ?_
  refine g_iloadN X1 hx hby i10_8 rfl ?_
  refine g_callS0 X1 hx hby hZ (y := (⟨"java/lang/StringUTF16", "compress", "([CI[BII)I"⟩ : MethodName)) (argsL := [(.ref ca), (.int (0 : Int32)), (.ref b1), (.int (0 : Int32)), (.int (1 : Int32))]) (rest := []) hown (hw _ (List.mem_of_getElem? (i := 67) rfl)) (hw _ (List.mem_of_getElem? (i := 68) rfl)) (hw _ (List.mem_of_getElem? (i := 65) rfl)) (hw _ (List.mem_of_getElem? (i := 69) rfl)) (by decide) (rm11_1 l Z a0 hw [] ca (0 : Int32) b1 (0 : Int32) (1 : Int32) kc k1 x0 h1 n0 Z0 Vc V1 g_b1 ne_ca_b1 rfl rfl rfl q0_) e1 (by rw [hml]; rfl) pd_0 rfl rfl i10_9 (by decide) 0 rfl (by decide) (by decide) (by decide) fun T2 v2 L2 X2 q2 => ?_
  obtain ⟨_, rfl, rfl, K2, V2, N2⟩ := q2
  have N0 := Fr.app N0 N2
  have K0 := K0.trans K2 (fun x hx => Or.inr (by cases hx with | head => exact sz_b1 | tail _ q => cases q))
  have Vc := Vc.keep K2 (ninS ne_ca_b1 nin0)
  have Z0 : n0 ≤ T2.heap.size := Nat.le_trans Z0 K2.1
  show Gd p e below _ T2 (mkF m 12 #[.val (.ref ca), .val (.int (0 : Int32)), .val (.int (1 : Int32)), .val (.ref b1), .unset, .unset] [(.int (1 : Int32))])
  refine g_istore X2 hx hby i10_12 (l' := #[.val (.ref ca), .val (.int (0 : Int32)), .val (.int (1 : Int32)), .val (.ref b1), .val (.int (1 : Int32)), .unset]) rfl ?_
  refine g_iload X2 hx hby i10_14 rfl ?_
  refine g_iloadN X2 hx hby i10_16 rfl ?_
  refine g_icmp_eq X2 hx hby i10_17 (fun c17_3 => ?_) (fun c17_3 => False.elim (absurd c17_3 (by decide)))
  refine g_aloadN X2 hx hby i10_57 rfl rfl ?_
  refine g_areturn X2 hx hby hret rfl (fun _ => rfl) hlk rfl i10_58 (by decide) (by decide) ?_
  exact ⟨_, rfl, b1, _, rfl, K0, V2, g_b1, sz_b1, N0⟩
theorem i4_0 : Ins1 jdk_42_method_149_code 0 (.aload_n 0) 1 1 := ⟨by decide +kernel, rfl⟩
theorem i4_1 : Ins1 jdk_42_method_149_code 1 (.invokespecial 1) 3 4 := ⟨by decide +kernel, rfl⟩
theorem i4_4 : Ins1 jdk_42_method_149_code 4 (.iload_n 3) 1 5 := ⟨by decide +kernel, rfl⟩
theorem i4_5 : InsB jdk_42_method_149_code 5 (.ifCond .ne 22) 22 8 27 := ⟨by decide +kernel, rfl, by decide, by decide⟩
theorem i4_8 : Ins1 jdk_42_method_149_code 8 (.aload_n 0) 1 9 := ⟨by decide +kernel, rfl⟩
theorem i4_9 : Ins1 jdk_42_method_149_code 9 (.ldc 7) 2 11 := ⟨by decide +kernel, rfl⟩
theorem i4_11 : Ins1 jdk_42_method_149_code 11 (.getfield 9) 3 14 := ⟨by decide +kernel, rfl⟩
theorem i4_14 : Ins1 jdk_42_method_149_code 14 (.putfield 9) 3 17 := ⟨by decide +kernel, rfl⟩
theorem i4_17 : Ins1 jdk_42_method_149_code 17 (.aload_n 0) 1 18 := ⟨by decide +kernel, rfl⟩
theorem i4_18 : Ins1 jdk_42_method_149_code 18 (.ldc 7) 2 20 := ⟨by decide +kernel, rfl⟩
theorem i4_20 : Ins1 jdk_42_method_149_code 20 (.getfield 15) 3 23 := ⟨by decide +kernel, rfl⟩
theorem i4_23 : Ins1 jdk_42_method_149_code 23 (.putfield 15) 3 26 := ⟨by decide +kernel, rfl⟩
theorem i4_26 : Ins1 jdk_42_method_149_code 26 (.return_) 1 27 := ⟨by decide +kernel, rfl⟩
theorem i4_27 : Ins1 jdk_42_method_149_code 27 (.getstatic 38) 3 30 := ⟨by decide +kernel, rfl⟩
theorem i4_30 : InsB jdk_42_method_149_code 30 (.ifCond .eq 28) 28 33 58 := ⟨by decide +kernel, rfl, by decide, by decide⟩
theorem i4_33 : Ins1 jdk_42_method_149_code 33 (.aload_n 1) 1 34 := ⟨by decide +kernel, rfl⟩
theorem i4_34 : Ins1 jdk_42_method_149_code 34 (.iload_n 2) 1 35 := ⟨by decide +kernel, rfl⟩
theorem i4_35 : Ins1 jdk_42_method_149_code 35 (.iload_n 3) 1 36 := ⟨by decide +kernel, rfl⟩
theorem i4_36 : Ins1 jdk_42_method_149_code 36 (.invokestatic 177) 3 39 := ⟨by decide +kernel, rfl⟩
theorem i4_39 : Ins1 jdk_42_method_149_code 39 (.astore 5) 2 41 := ⟨by decide +kernel, rfl⟩
theorem i4_41 : Ins1 jdk_42_method_149_code 41 (.aload_n 0) 1 42 := ⟨by decide +kernel, rfl⟩
theorem i4_42 : Ins1 jdk_42_method_149_code 42 (.aload 5) 2 44 := ⟨by decide +kernel, rfl⟩
theorem i4_44 : Ins1 jdk_42_method_149_code 44 (.iload_n 3) 1 45 := ⟨by decide +kernel, rfl⟩
theorem i4_45 : Ins1 jdk_42_method_149_code 45 (.invokestatic 47) 3 48 := ⟨by decide +kernel, rfl⟩
theorem i4_48 : Ins1 jdk_42_method_149_code 48 (.putfield 15) 3 51 := ⟨by decide +kernel, rfl⟩
theorem i4_51 : Ins1 jdk_42_method_149_code 51 (.aload_n 0) 1 52 := ⟨by decide +kernel, rfl⟩
theorem i4_52 : Ins1 jdk_42_method_149_code 52 (.aload 5) 2 54 := ⟨by decide +kernel, rfl⟩
theorem i4_54 : Ins1 jdk_42_method_149_code 54 (.putfield 9) 3 57 := ⟨by decide +kernel, rfl⟩
theorem i4_57 : Ins1 jdk_42_method_149_code 57 (.return_) 1 58 := ⟨by decide +kernel, rfl⟩
theorem i4_58 : Ins1 jdk_42_method_149_code 58 (.aload_n 0) 1 59 := ⟨by decide +kernel, rfl⟩
theorem i4_59 : Ins1 jdk_42_method_149_code 59 (.iconst 1) 1 60 := ⟨by decide +kernel, rfl⟩
theorem i4_60 : Ins1 jdk_42_method_149_code 60 (.putfield 15) 3 63 := ⟨by decide +kernel, rfl⟩
theorem i4_63 : Ins1 jdk_42_method_149_code 63 (.aload_n 0) 1 64 := ⟨by decide +kernel, rfl⟩
theorem i4_64 : Ins1 jdk_42_method_149_code 64 (.aload_n 1) 1 65 := ⟨by decide +kernel, rfl⟩
theorem i4_65 : Ins1 jdk_42_method_149_code 65 (.iload_n 2) 1 66 := ⟨by decide +kernel, rfl⟩
theorem i4_66 : Ins1 jdk_42_method_149_code 66 (.iload_n 3) 1 67 := ⟨by decide +kernel, rfl⟩
theorem i4_67 : Ins1 jdk_42_method_149_code 67 (.invokestatic 180) 3 70 := ⟨by decide +kernel, rfl⟩
theorem i4_70 : Ins1 jdk_42_method_149_code 70 (.putfield 9) 3 73 := ⟨by decide +kernel, rfl⟩
theorem i4_73 : Ins1 jdk_42_method_149_code 73 (.return_) 1 74 := ⟨by decide +kernel, rfl⟩
theorem pn_java_lang_String : plainName "java/lang/String" = true := by first | (simp [plainName, overriddenIn]; done) | decide +kernel
theorem ef_4_1 (m : MethodId) (a : Addr) (ca : Addr) (p2 : Int32) (p3 : Int32) : entryFrame m #[(.ref a), (.ref ca), (.int p2), (.int p3), .null] 6 = mkF m 0 #[.val (.ref a), .val (.ref ca), .val (.int p2), .val (.int p3), .val .null, .unset] [] := by first | (simp [entryFrame, mkF, argsToLocals, Value.category]; done) | rfl
theorem pd_1 : parseMethodDescriptor "([CII)[B" = some ⟨[(.array .char), .int, .int], some (.array .byte)⟩ := by decide +kernel
theorem pd_2 : parseMethodDescriptor "([BI)B" = some ⟨[(.array .byte), .int], some .byte⟩ := by decide +kernel
set_option maxRecDepth 65536 in
set_option maxHeartbeats 40000000 in
theorem rm4_1 (l : Launch) (Z : State) (a0 : Array Value) (hw : ∀ d ∈ tables_1, d.before a0 Z = true) (ws : List Jvm.Cond) (a : Addr) (ca : Addr) (p2 : Int32) (p3 : Int32) (cz : Int32) (kc : ClassId) (x0 : Int32) (h0 : Heap) (n0 : Nat) (Z0 : n0 ≤ h0.size) (S0 : Sta Z Z.heap "java/lang/String" "COMPACT_STRINGS" "Z" (.int cz)) (hcz : ¬ cz = (0 : Int32)) (O : Old Z n0 h0) (E_a : Exa Z h0 a "java/lang/String") (FV : Fld Z h0 a "java/lang/String" "value" "[B" .null) (FC : Fld Z h0 a "java/lang/String" "coder" "B" (.int 0)) (g_a : n0 ≤ a) (Vc : Arv Z h0 ca kc .char (1 : Int32) [(.int x0)] (.int (0 : Int32))) (hp2 : p2 = 0) (hp3 : p3 = 1) (q0_ : ¬ (255 : Int32) < x0) :
    Met1 l (⟨"java/lang/String", "<init>", "([CIILjava/lang/Void;)V"⟩ : MethodName) jdk_42_method_149_code 6 none ws ({ frames := 2, cells := 1, slots := 1, locals := 36 } : Room) #[(.ref a), (.ref ca), (.int p2), (.int p3), .null] Z h0 (RN fun h L => Keep h0 h [a] ∧ ∃ tb kt, Exa Z h a "java/lang/String" ∧ Fld Z h a "java/lang/String" "value" "[B" (.ref tb) ∧ Fld Z h a "java/lang/String" "coder" "B" (.int 0) ∧ Arv Z h tb kt .byte (1 : Int32) [(.int (nar .byte x0.toInt8.toInt32))] (.int (0 : Int32)) ∧ Fr n0 L) := by
  refine met_of (plainFor_of_name pn_java_lang_String) ?_
  intro p e s m below meth c T0 X0 hx hby hml hZ hown hnm hret hlk e0 es
  have N0 := Fr.nil n0
  refine Gd.cast (ef_4_1 m a ca p2 p3) ?_
  subst hp2 hp3
  have K0 : Keep h0 h0 [a] := Keep.refl _ _
  have n_a_ca : a ≠ ca := Exa.neArv E_a Vc (hw _ (List.mem_of_getElem? (i := 8) rfl))
  refine g_aloadN X0 hx hby i4_0 rfl rfl ?_
  refine g_objInit X0 hx hby hZ hown (hw _ (List.mem_of_getElem? (i := 18) rfl)) (hw _ (List.mem_of_getElem? (i := 19) rfl)) (hw _ (List.mem_of_getElem? (i := 20) rfl)) e0 (by rw [hml]; rfl) i4_1 0 rfl (by decide) (by decide) fun T1 X1 e1 => ?_
  refine g_iloadN X1 hx hby i4_4 rfl ?_
  refine g_if_ne X1 hx hby i4_5 (fun c5_2 => ?_) (fun c5_2 => False.elim (absurd c5_2 (by decide)))
  refine g_getstatic X1 hx hby hZ hown (host := "") (Or.inl (hw _ (List.mem_of_getElem? (i := 58) rfl))) Via.refl e1 (S0.ext O.2) i4_27 fun T3 X3 e3 => ?_
  refine g_if_eq X3 hx hby i4_30 (fun c30_4 => False.elim (hcz c30_4)) fun c30_4 => ?_
  refine g_aloadN X3 hx hby i4_33 rfl rfl ?_
  refine g_iloadN X3 hx hby i4_34 rfl ?_
  refine g_iloadN X3 hx hby i4_35 rfl ?_
  refine g_callS0 X3 hx hby hZ (y := (⟨"java/lang/StringUTF16", "compress", "([CII)[B"⟩ : MethodName)) (argsL := [(.ref ca), (.int (0 : Int32)), (.int (1 : Int32))]) (rest := []) hown (hw _ (List.mem_of_getElem? (i := 63) rfl)) (hw _ (List.mem_of_getElem? (i := 64) rfl)) (hw _ (List.mem_of_getElem? (i := 65) rfl)) (hw _ (List.mem_of_getElem? (i := 66) rfl)) (by decide) (rm10_1 l Z a0 hw [] ca (0 : Int32) (1 : Int32) kc x0 h0 n0 Z0 Vc rfl rfl q0_) e3 (by rw [hml]; rfl) pd_1 rfl rfl i4_36 (by decide) 0 rfl (by decide) (by decide) (by decide) fun T5 v5 L5 X5 q5 => ?_
  obtain ⟨_, rfl, t5, kt5, rfl, K5, V5, g_t5, s5, N5⟩ := q5
  have N0 := Fr.app N0 N5
  have ne_a_t5 : a ≠ t5 := Nat.ne_of_lt (Nat.lt_of_lt_of_le E_a.lt s5)
  have ne_ca_t5 : ca ≠ t5 := Nat.ne_of_lt (Nat.lt_of_lt_of_le Vc.lt s5)
  have sz_t5 : h0.size ≤ t5 := Nat.le_trans K0.1 s5
  have K0 := K0.trans K5 (fun x hx => nomatch hx)
  have E_a := E_a.keep K5
  have FV := FV.keep K5 nin0
  have FC := FC.keep K5 nin0
  have Vc := Vc.keep K5 nin0
  have O := O.keep K5 all0
  have Z0 : n0 ≤ T5.heap.size := Nat.le_trans Z0 K5.1
  show Gd p e below _ T5 (mkF m 39 #[.val (.ref a), .val (.ref ca), .val (.int (0 : Int32)), .val (.int (1 : Int32)), .val .null, .unset] [(.ref t5)])
  refine g_astore X5 hx hby i4_39 rfl (l' := #[.val (.ref a), .val (.ref ca), .val (.int (0 : Int32)), .val (.int (1 : Int32)), .val .null, .val (.ref t5)]) rfl ?_
  refine g_aloadN X5 hx hby i4_41 rfl rfl ?_
  refine g_aload X5 hx hby i4_42 rfl rfl ?_
  refine g_iloadN X5 hx hby i4_44 rfl ?_
  refine g_callS0 X5 hx hby hZ (y := (⟨"java/lang/StringUTF16", "coderFromArrayLen", "([BI)B"⟩ : MethodName)) (argsL := [(.ref t5), (.int (1 : Int32))]) (rest := [(.ref a)]) hown (hw _ (List.mem_of_getElem? (i := 70) rfl)) (hw _ (List.mem_of_getElem? (i := 71) rfl)) (hw _ (List.mem_of_getElem? (i := 65) rfl)) (hw _ (List.mem_of_getElem? (i := 72) rfl)) (by decide) (rm12 l Z a0 hw [] t5 (1 : Int32) kt5 (1 : Int32) _ T5.heap n0 Z0 V5 rfl) rfl (by rw [hml]; rfl) pd_2 rfl rfl i4_45 (by decide) 1 rfl (by decide) (by decide) (by decide) fun T6 v6 L6 X6 q6 => ?_
  obtain ⟨_, rfl, rfl, e6, N6⟩ := q6
  have N0 := Fr.app N0 N6
  show Gd p e below _ T6 (mkF m 48 #[.val (.ref a), .val (.ref ca), .val (.int (0 : Int32)), .val (.int (1 : Int32)), .val .null, .val (.ref t5)] [(.int (0 : Int32)), (.ref a)])
  refine g_putfieldN X6 hx hby hZ hown (hw _ (List.mem_of_getElem? (i := 28) rfl)) Via.refl e6 FC E_a (Or.inr ⟨(hw _ (List.mem_of_getElem? (i := 24) rfl)), rfl, hnm⟩) (hw _ (List.mem_of_getElem? (i := 8) rfl)) (ty := .byte) (v' := (.int (nar .byte (0 : Int32)))) (by decide) rfl (fits_nar_byte _) i4_48 fun T7 h7 X7 e7 W7 => ?_
  have FC := FC.same W7
  have E_a := E_a.wr W7
  have FV := FV.other W7 (Or.inr (slot_ne (Or.inr (hw _ (List.mem_of_getElem? (i := 23) rfl))) (Or.inr (hw _ (List.mem_of_getElem? (i := 24) rfl))) (by decide) (t := (.array .byte)) (t' := .byte) (by decide) (by decide)))
  have Vc := Vc.other W7 (Ne.symm n_a_ca)
  have V5 := V5.other W7 (Ne.symm ne_a_t5)
  have O := O.wr W7 g_a
  have Z0 : n0 ≤ h7.size := Nat.le_trans Z0 (Nat.le_of_eq W7.size.symm)
  have N0 := Fr.snoc X7 N0 g_a
  have K0 := K0.wr W7 (Or.inl (List.mem_singleton.mpr rfl))
  refine g_aloadN X7 hx hby i4_51 rfl rfl ?_
  refine g_aload X7 hx hby i4_52 rfl rfl ?_
  refine g_putfield X7 hx hby hZ hown (host := "") (Or.inl (hw _ (List.mem_of_getElem? (i := 27) rfl))) Via.refl e7 FV E_a (Or.inr ⟨(hw _ (List.mem_of_getElem? (i := 23) rfl)), rfl, hnm⟩) (hw _ (List.mem_of_getElem? (i := 8) rfl)) (ty := (.array .byte)) (by decide) rfl rfl i4_54 fun T8 h8 X8 e8 W8 => ?_
  have FV := FV.same W8
  have E_a := E_a.wr W8
  have FC := FC.other W8 (Or.inr (slot_ne (Or.inr (hw _ (List.mem_of_getElem? (i := 24) rfl))) (Or.inr (hw _ (List.mem_of_getElem? (i := 23) rfl))) (by decide) (t := .byte) (t' := (.array .byte)) (by decide) (by decide)))
  have Vc := Vc.other W8 (Ne.symm n_a_ca)
  have V5 := V5.other W8 (Ne.symm ne_a_t5)
  have O := O.wr W8 g_a
  have Z0 : n0 ≤ h8.size := Nat.le_trans Z0 (Nat.le_of_eq W8.size.symm)
  have N0 := Fr.snoc X8 N0 g_a
  have K0 := K0.wr W8 (Or.inl (List.mem_singleton.mpr rfl))
  refine g_return X8 hx hby hret hlk i4_57 (by decide) (by decide) ?_
  rw [e8]
  exact ⟨rfl, K0, t5, _, E_a, FV, FC, V5, N0⟩
theorem i3_0 : Ins1 jdk_42_method_3_code 0 (.aload_n 0) 1 1 := ⟨by decide +kernel, rfl⟩
theorem i3_1 : Ins1 jdk_42_method_3_code 1 (.aload_n 1) 1 2 := ⟨by decide +kernel, rfl⟩
theorem i3_2 : Ins1 jdk_42_method_3_code 2 (.iconst 0) 1 3 := ⟨by decide +kernel, rfl⟩
theorem i3_3 : Ins1 jdk_42_method_3_code 3 (.aload_n 1) 1 4 := ⟨by decide +kernel, rfl⟩
theorem i3_4 : Ins1 jdk_42_method_3_code 4 (.arraylength) 1 5 := ⟨by decide +kernel, rfl⟩
theorem i3_5 : Ins1 jdk_42_method_3_code 5 (.aconst_null) 1 6 := ⟨by decide +kernel, rfl⟩
theorem i3_6 : Ins1 jdk_42_method_3_code 6 (.invokespecial 27) 3 9 := ⟨by decide +kernel, rfl⟩
theorem i3_9 : Ins1 jdk_42_method_3_code 9 (.return_) 1 10 := ⟨by decide +kernel, rfl⟩
theorem ef_3_1 (m : MethodId) (a : Addr) (ca : Addr) : entryFrame m #[(.ref a), (.ref ca)] 2 = mkF m 0 #[.val (.ref a), .val (.ref ca)] [] := by first | (simp [entryFrame, mkF, argsToLocals, Value.category]; done) | rfl
theorem pd_3 : parseMethodDescriptor "([CIILjava/lang/Void;)V" = some ⟨[(.array .char), .int, .int, (.object "java/lang/Void")], none⟩ := by decide +kernel
set_option maxRecDepth 65536 in
set_option maxHeartbeats 40000000 in
theorem rm3_1 (l : Launch) (Z : State) (a0 : Array Value) (hw : ∀ d ∈ tables_1, d.before a0 Z = true) (ws : List Jvm.Cond) (a : Addr) (ca : Addr) (cz : Int32) (kc : ClassId) (x0 : Int32) (h0 : Heap) (n0 : Nat) (Z0 : n0 ≤ h0.size) (S0 : Sta Z Z.heap "java/lang/String" "COMPACT_STRINGS" "Z" (.int cz)) (hcz : ¬ cz = (0 : Int32)) (O : Old Z n0 h0) (E_a : Exa Z h0 a "java/lang/String") (FV : Fld Z h0 a "java/lang/String" "value" "[B" .null) (FC : Fld Z h0 a "java/lang/String" "coder" "B" (.int 0)) (g_a : n0 ≤ a) (Vc : Arv Z h0 ca kc .char (1 : Int32) [(.int x0)] (.int (0 : Int32))) (q0_ : ¬ (255 : Int32) < x0) :
    Met1 l (⟨"java/lang/String", "<init>", "([C)V"⟩ : MethodName) jdk_42_method_3_code 2 none ws ({ frames := 3, cells := 1, slots := 1, locals := 55 } : Room) #[(.ref a), (.ref ca)] Z h0 (RN fun h L => Keep h0 h [a] ∧ ∃ tb kt, Exa Z h a "java/lang/String" ∧ Fld Z h a "java/lang/String" "value" "[B" (.ref tb) ∧ Fld Z h a "java/lang/String" "coder" "B" (.int 0) ∧ Arv Z h tb kt .byte (1 : Int32) [(.int (nar .byte x0.toInt8.toInt32))] (.int (0 : Int32)) ∧ Fr n0 L) := by
  refine met_of (plainFor_of_name pn_java_lang_String) ?_
  intro p e s m below meth c T0 X0 hx hby hml hZ hown hnm hret hlk e0 es
  have N0 := Fr.nil n0
  refine Gd.cast (ef_3_1 m a ca) ?_
  have K0 : Keep h0 h0 [a] := Keep.refl _ _
  refine g_aloadN X0 hx hby i3_0 rfl rfl ?_
  refine g_aloadN X0 hx hby i3_1 rfl rfl ?_
  refine g_iconst X0 hx hby i3_2 (z := (0 : Int32)) (by decide) ?_
  refine g_aloadN X0 hx hby i3_3 rfl rfl ?_
  refine g_arraylength X0 hx hby hZ e0 Vc i3_4 ?_
  refine g_aconst_null X0 hx hby i3_5 ?_
  refine g_callInit0 X0 hx hby hZ (y := (⟨"java/lang/String", "<init>", "([CIILjava/lang/Void;)V"⟩ : MethodName)) (argsL := [(.ref ca), (.int (0 : Int32)), (.int (1 : Int32)), .null]) (rest := []) rfl hown (hw _ (List.mem_of_getElem? (i := 14) rfl)) (hw _ (List.mem_of_getElem? (i := 15) rfl)) (hw _ (List.mem_of_getElem? (i := 9) rfl)) (hw _ (List.mem_of_getElem? (i := 17) rfl)) (by decide) (a := a) (rm4_1 l Z a0 hw [] a ca (0 : Int32) (1 : Int32) cz kc x0 h0 n0 Z0 S0 hcz O E_a FV FC g_a Vc rfl rfl q0_) e0 (by rw [hml]; rfl) pd_3 rfl rfl i3_6 (by decide) 0 rfl (by decide) (by decide) (by decide) fun T1 v1 L1 X1 q1 => ?_
  obtain ⟨rfl, K1, tb1, kt1, E1, FV1, FC1, V1, N1⟩ := q1
  have N0 := Fr.app N0 N1
  have K0 := K0.trans K1 (fun x hx => Or.inl hx)
  have E_a := E_a.keep K1
  have O := O.keep K1 (allS g_a all0)
  have Z0 : n0 ≤ T1.heap.size := Nat.le_trans Z0 K1.1
  show Gd p e below _ T1 (mkF m 9 #[.val (.ref a), .val (.ref ca)] [])
  refine g_return X1 hx hby hret hlk i3_9 (by decide) (by decide) ?_
  exact ⟨rfl, K0, tb1, _, E_a, FV1, FC1, V1, N0⟩
set_option maxRecDepth 65536 in
set_option maxHeartbeats 40000000 in
theorem rm11_2 (l : Launch) (Z : State) (a0 : Array Value) (hw : ∀ d ∈ tables_1, d.before a0 Z = true) (ws : List Jvm.Cond) (ca : Addr) (p1 : Int32) (d : Addr) (p3 : Int32) (p4 : Int32) (kc kd : ClassId) (x0 x1 : Int32) (h0 : Heap) (n0 : Nat) (Z0 : n0 ≤ h0.size) (Vc : Arv Z h0 ca kc .char (2 : Int32) [(.int x0), (.int x1)] (.int (0 : Int32))) (Vd : Arv Z h0 d kd .byte (2 : Int32) [(.int (0 : Int32)), (.int (0 : Int32))] (.int (0 : Int32))) (g_d : n0 ≤ d) (hcd : ca ≠ d) (hp1 : p1 = 0) (hp3 : p3 = 0) (hp4 : p4 = 2) (q0_ : ¬ (255 : Int32) < x0) (q1_ : ¬ (255 : Int32) < x1) :
    Met1 l (⟨"java/lang/StringUTF16", "compress", "([CI[BII)I"⟩ : MethodName) jdk_52_method_21_code 7 (some .int) ws ({ frames := 0, cells := 0, slots := 0, locals := 0 } : Room) #[(.ref ca), (.int p1), (.ref d), (.int p3), (.int p4)] Z h0 (RV fun vv h L => vv = .int 2 ∧ Keep h0 h [d] ∧ Arv Z h d kd .byte (2 : Int32) [(.int (nar .byte x0.toInt8.toInt32)), (.int (nar .byte x1.toInt8.toInt32))] (.int (0 : Int32)) ∧ Fr n0 L) := by
  refine met_of (plainFor_of_name pn_java_lang_StringUTF16) ?_
  intro p e s m below meth c T0 X0 hx hby hml hZ hown hnm hret hlk e0 es
  have N0 := Fr.nil n0
  refine Gd.cast (ef_11_1 m ca p1 d p3 p4) ?_
  subst hp1 hp3 hp4
  have K0 : Keep h0 h0 [d] := Keep.refl _ _
  refine g_iconst X0 hx hby i11_0 (z := (0 : Int32)) (by decide) ?_
  refine g_istore X0 hx hby i11_1 (l' := #[.val (.ref ca), .val (.int (0 : Int32)), .val (.ref d), .val (.int (0 : Int32)), .val (.int (2 : Int32)), .val (.int (0 : Int32)), .unset]) rfl ?_
  refine g_iload X0 hx hby i11_3 rfl ?_
  refine g_iload X0 hx hby i11_5 rfl ?_
  refine g_icmp_ge X0 hx hby i11_7 (fun c7_1 => False.elim (absurd c7_1 (by decide))) fun c7_1 => ?_
  refine g_aloadN X0 hx hby i11_10 rfl rfl ?_
  refine g_iloadN X0 hx hby i11_11 rfl ?_
  refine g_caload X0 hx hby hZ e0 Vc (i := 0) (by decide) (by decide) (by decide) rfl i11_12 ?_
  refine g_istore X0 hx hby i11_13 (l' := #[.val (.ref ca), .val (.int (0 : Int32)), .val (.ref d), .val (.int (0 : Int32)), .val (.int (2 : Int32)), .val (.int (0 : Int32)), .val (.int x0)]) rfl ?_
  refine g_iload X0 hx hby i11_15 rfl ?_
  refine g_sipush X0 hx hby i11_17 (z := (255 : Int32)) (by decide) ?_
  refine g_icmp_le X0 hx hby i11_20 (fun c20_2 => ?_) (fun c20_2 => False.elim (q0_ c20_2))
  refine g_aloadN X0 hx hby i11_26 rfl rfl ?_
  refine g_iloadN X0 hx hby i11_27 rfl ?_
  refine g_iload X0 hx hby i11_28 rfl ?_
  refine g_i2b X0 hx hby i11_30 ?_
  refine g_bastore X0 hx hby hZ e0 Vd (i := 0) (by decide) (by decide) (by decide) (Nat.le_of_ble_eq_true rfl) i11_31 fun T3 h3 X3 e3 W3 Vd => ?_
  have Vd : Arv Z h3 d kd .byte (2 : Int32) [(.int (nar .byte x0.toInt8.toInt32)), (.int (0 : Int32))] (.int (0 : Int32)) := Vd
  have Vc := Vc.other W3 hcd
  have Z0 : n0 ≤ h3.size := Nat.le_trans Z0 (Nat.le_of_eq W3.size.symm)
  have N0 := Fr.snoc X3 N0 g_d
  have K0 := K0.wr W3 (Or.inl (List.mem_singleton.mpr rfl))
  refine g_iinc X3 hx hby i11_32 rfl (z := (1 : Int32)) (by decide) (l' := #[.val (.ref ca), .val (.int (1 : Int32)), .val (.ref d), .val (.int (0 : Int32)), .val (.int (2 : Int32)), .val (.int (0 : Int32)), .val (.int x0)]) rfl ?_
  refine g_iinc X3 hx hby i11_35 rfl (z := (1 : Int32)) (by decide) (l' := #[.val (.ref ca), .val (.int (1 : Int32)), .val (.ref d), .val (.int (1 : Int32)), .val (.int (2 : Int32)), .val (.int (0 : Int32)), .val (.int x0)]) rfl ?_
  refine g_iinc X3 hx hby i11_38 rfl (z := (1 : Int32)) (by decide) (l' := #[.val (.ref ca), .val (.int (1 : Int32)), .val (.ref d), .val (.int (1 : Int32)), .val (.int (2 : Int32)), .val (.int (1 : Int32)), .val (.int x0)]) rfl ?_
  refine g_goto X3 hx hby i11_41 ?_
  refine g_iload X3 hx hby i11_3 rfl ?_
  refine g_iload X3 hx hby i11_5 rfl ?_
  refine g_icmp_ge X3 hx hby i11_7 (fun c7_4 => False.elim (absurd c7_4 (by decide))) fun c7_4 => ?_
  refine g_aloadN X3 hx hby i11_10 rfl rfl ?_
  refine g_iloadN X3 hx hby i11_11 rfl ?_
  refine g_caload X3 hx hby hZ e3 Vc (i := 1) (by decide) (by decide) (by decide) rfl i11_12 ?_
  refine g_istore X3 hx hby i11_13 (l' := #[.val (.ref ca), .val (.int (1 : Int32)), .val (.ref d), .val (.int (1 : Int32)), .val (.int (2 : Int32)), .val (.int (1 : Int32)), .val (.int x1)]) rfl ?_
  refine g_iload X3 hx hby i11_15 rfl ?_
  refine g_sipush X3 hx hby i11_17 (z := (255 : Int32)) (by decide) ?_
  refine g_icmp_le X3 hx hby i11_20 (fun c20_5 => ?_) (fun c20_5 => False.elim (q1_ c20_5))
  refine g_aloadN X3 hx hby i11_26 rfl rfl ?_
  refine g_iloadN X3 hx hby i11_27 rfl ?_
  refine g_iload X3 hx hby i11_28 rfl ?_
  refine g_i2b X3 hx hby i11_30 ?_
  refine g_bastore X3 hx hby hZ e3 Vd (i := 1) (by decide) (by decide) (by decide) (Nat.le_of_ble_eq_true rfl) i11_31 fun T6 h6 X6 e6 W6 Vd => ?_
  have Vd : Arv Z h6 d kd .byte (2 : Int32) [(.int (nar .byte x0.toInt8.toInt32)), (.int (nar .byte x1.toInt8.toInt32))] (.int (0 : Int32)) := Vd
  have Vc := Vc.other W6 hcd
  have Z0 : n0 ≤ h6.size := Nat.le_trans Z0 (Nat.le_of_eq W6.size.symm)
  have N0 := Fr.snoc X6 N0 g_d
  have K0 := K0.wr W6 (Or.inl (List.mem_singleton.mpr rfl))
  refine g_iinc X6 hx hby i11_32 rfl (z := (2 : Int32)) (by decide) (l' := #[.val (.ref ca), .val (.int (2 : Int32)), .val (.ref d), .val (.int (1 : Int32)), .val (.int (2 : Int32)), .val (.int (1 : Int32)), .val (.int x1)]) rfl ?_
  refine g_iinc X6 hx hby i11_35 rfl (z := (2 : Int32)) (by decide) (l' := #[.val (.ref ca), .val (.int (2 : Int32)), .val (.ref d), .val (.int (2 : Int32)), .val (.int (2 : Int32)), .val (.int (1 : Int32)), .val (.int x1)]) rfl ?_
  refine g_iinc X6 hx hby i11_38 rfl (z := (2 : Int32)) (by decide) (l' := #[.val (.ref ca), .val (.int (2 : Int32)), .val (.ref d), .val (.int (2 : Int32)), .val (.int (2 : Int32)), .val (.int (2 : Int32)), .val (.int x1)]) rfl ?_
  refine g_goto X6 hx hby i11_41 ?_
  refine g_iload X6 hx hby i11_3 rfl ?_
  refine g_iload X6 hx hby i11_5 rfl ?_
  refine g_icmp_ge X6 hx hby i11_7 (fun c7_7 => ?_) (fun c7_7 => False.elim (absurd c7_7 (by decide)))
  refine g_iload X6 hx hby i11_44 rfl ?_
  refine g_ireturn X6 hx hby hret hlk i11_46 (by decide) (by decide) ?_
  rw [e6]
  exact ⟨_, rfl, rfl, K0, Vd, N0⟩
set_option maxRecDepth 65536 in
set_option maxHeartbeats 40000000 in
theorem rm10_2 (l : Launch) (Z : State) (a0 : Array Value) (hw : ∀ d ∈ tables_1, d.before a0 Z = true) (ws : List Jvm.Cond) (ca : Addr) (p1 : Int32) (p2 : Int32) (kc : ClassId) (x0 x1 : Int32) (h0 : Heap) (n0 : Nat) (Z0 : n0 ≤ h0.size) (Vc : Arv Z h0 ca kc .char (2 : Int32) [(.int x0), (.int x1)] (.int (0 : Int32))) (hp1 : p1 = 0) (hp2 : p2 = 2) (q0_ : ¬ (255 : Int32) < x0) (q1_ : ¬ (255 : Int32) < x1) :
    Met1 l (⟨"java/lang/StringUTF16", "compress", "([CII)[B"⟩ : MethodName) jdk_52_method_16_code 6 (some (.array .byte)) ws ({ frames := 1, cells := 1, slots := 2, locals := 18 } : Room) #[(.ref ca), (.int p1), (.int p2)] Z h0 (RV fun vv h L => ∃ t kt, vv = .ref t ∧ Keep h0 h [] ∧ Arv Z h t kt .byte (2 : Int32) [(.int (nar .byte x0.toInt8.toInt32)), (.int (nar .byte x1.toInt8.toInt32))] (.int (0 : Int32)) ∧ n0 ≤ t ∧ h0.size ≤ t ∧ Fr n0 L) := by
  refine met_of (plainFor_of_name pn_java_lang_StringUTF16) ?_
  intro p e s m below meth c T0 X0 hx hby hml hZ hown hnm hret hlk e0 es
  have N0 := Fr.nil n0
  refine Gd.cast (ef_10_1 m ca p1 p2) ?_
  subst hp1 hp2
  have K0 : Keep h0 h0 [] := Keep.refl _ _
  refine g_iloadN X0 hx hby i10_0 rfl ?_
  refine g_newarray X0 hx hby hZ (ty := .byte) rfl (hw _ (List.mem_of_getElem? (i := 22) rfl)) e0 i10_1 (by decide) 2 (by decide) (by decide) (by decide) (by decide) fun T1 h1 b1 k1 X1 e1 E1 hb1 V1 => ?_
  have ne_ca_b1 : ca ≠ b1 := Nat.ne_of_lt (Nat.lt_of_lt_of_le Vc.lt (Nat.le_of_eq hb1.symm))
  have g_b1 : n0 ≤ b1 := Nat.le_trans Z0 (Nat.le_of_eq hb1.symm)
  have Vc := Vc.ext E1
  have sz_b1 : h0.size ≤ b1 := Nat.le_trans K0.1 (Nat.le_of_eq hb1.symm)
  have K0 := K0.ext E1
  have Z0 : n0 ≤ h1.size := Nat.le_trans Z0 E1.1
  have V1 : Arv Z h1 b1 k1 .byte (2 : Int32) [(.int (0 : Int32)), (.int (0 : Int32))] (.int (0 : Int32)) := V1.pad (pad_rep [] _ 2)
  refine g_astoreN X1 hx hby i10_3 rfl (l' := #[.val (.ref ca), .val (.int (0 : Int32)), .val (.int (2 : Int32)), .val (.ref b1), .unset, .unset]) rfl ?_
  refine g_aloadN X1 hx hby i10_4 rfl rfl ?_
  refine g_iloadN X1 hx hby i10_5 rfl ?_
  refine g_aloadN X1 hx hby i10_6 rfl rfl ?_
  refine g_iconst X1 hx hby i10_7 (z := (0 : Int32)) (by decide) ?_
  refine g_iloadN X1 hx hby i10_8 rfl ?_
  refine g_callS0 X1 hx hby hZ (y := (⟨"java/lang/StringUTF16", "compress", "([CI[BII)I"⟩ : MethodName)) (argsL := [(.ref ca), (.int (0 : Int32)), (.ref b1), (.int (0 : Int32)), (.int (2 : Int32))]) (rest := []) hown (hw _ (List.mem_of_getElem? (i := 67) rfl)) (hw _ (List.mem_of_getElem? (i := 68) rfl)) (hw _ (List.mem_of_getElem? (i := 65) rfl)) (hw _ (List.mem_of_getElem? (i := 69) rfl)) (by decide) (rm11_2 l Z a0 hw [] ca (0 : Int32) b1 (0 : Int32) (2 : Int32) kc k1 x0 x1 h1 n0 Z0 Vc V1 g_b1 ne_ca_b1 rfl rfl rfl q0_ q1_) e1 (by rw [hml]; rfl) pd_0 rfl rfl i10_9 (by decide) 0 rfl (by decide) (by decide) (by decide) fun T2 v2 L2 X2 q2 => ?_
  obtain ⟨_, rfl, rfl, K2, V2, N2⟩ := q2
  have N0 := Fr.app N0 N2
  have K0 := K0.trans K2 (fun x hx => Or.inr (by cases hx with | head => exact sz_b1 | tail _ q => cases q))
  have Vc := Vc.keep K2 (ninS ne_ca_b1 nin0)
  have Z0 : n0 ≤ T2.heap.size := Nat.le_trans Z0 K2.1
  show Gd p e below _ T2 (mkF m 12 #[.val (.ref ca), .val (.int (0 : Int32)), .val (.int (2 : Int32)), .val (.ref b1), .unset, .unset] [(.int (2 : Int32))])
  refine g_istore X2 hx hby i10_12 (l' := #[.val (.ref ca), .val (.int (0 : Int32)), .val (.int (2 : Int32)), .val (.ref b1), .val (.int (2 : Int32)), .unset]) rfl ?_
  refine g_iload X2 hx hby i10_14 rfl ?_
  refine g_iloadN X2 hx hby i10_16 rfl ?_
  refine g_icmp_eq X2 hx hby i10_17 (fun c17_3 => ?_) (fun c17_3 => False.elim (absurd c17_3 (by decide)))
  refine g_aloadN X2 hx hby i10_57 rfl rfl ?_
  refine g_areturn X2 hx hby hret rfl (fun _ => rfl) hlk rfl i10_58 (by decide) (by decide) ?_
  exact ⟨_, rfl, b1, _, rfl, K0, V2, g_b1, sz_b1, N0⟩
set_option maxRecDepth 65536 in
set_option maxHeartbeats 40000000 in
theorem rm4_2 (l : Launch) (Z : State) (a0 : Array Value) (hw : ∀ d ∈ tables_1, d.before a0 Z = true) (ws : List Jvm.Cond) (a : Addr) (ca : Addr) (p2 : Int32) (p3 : Int32) (cz : Int32) (kc : ClassId) (x0 x1 : Int32) (h0 : Heap) (n0 : Nat) (Z0 : n0 ≤ h0.size) (S0 : Sta Z Z.heap "java/lang/String" "COMPACT_STRINGS" "Z" (.int cz)) (hcz : ¬ cz = (0 : Int32)) (O : Old Z n0 h0) (E_a : Exa Z h0 a "java/lang/String") (FV : Fld Z h0 a "java/lang/String" "value" "[B" .null) (FC : Fld Z h0 a "java/lang/String" "coder" "B" (.int 0)) (g_a : n0 ≤ a) (Vc : Arv Z h0 ca kc .char (2 : Int32) [(.int x0), (.int x1)] (.int (0 : Int32))) (hp2 : p2 = 0) (hp3 : p3 = 2) (q0_ : ¬ (255 : Int32) < x0) (q1_ : ¬ (255 : Int32) < x1) :
    Met1 l (⟨"java/lang/String", "<init>", "([CIILjava/lang/Void;)V"⟩ : MethodName) jdk_42_method_149_code 6 none ws ({ frames := 2, cells := 1, slots := 2, locals := 36 } : Room) #[(.ref a), (.ref ca), (.int p2), (.int p3), .null] Z h0 (RN fun h L => Keep h0 h [a] ∧ ∃ tb kt, Exa Z h a "java/lang/String" ∧ Fld Z h a "java/lang/String" "value" "[B" (.ref tb) ∧ Fld Z h a "java/lang/String" "coder" "B" (.int 0) ∧ Arv Z h tb kt .byte (2 : Int32) [(.int (nar .byte x0.toInt8.toInt32)), (.int (nar .byte x1.toInt8.toInt32))] (.int (0 : Int32)) ∧ Fr n0 L) := by
  refine met_of (plainFor_of_name pn_java_lang_String) ?_
  intro p e s m below meth c T0 X0 hx hby hml hZ hown hnm hret hlk e0 es
  have N0 := Fr.nil n0
  refine Gd.cast (ef_4_1 m a ca p2 p3) ?_
  subst hp2 hp3
  have K0 : Keep h0 h0 [a] := Keep.refl _ _
  have n_a_ca : a ≠ ca := Exa.neArv E_a Vc (hw _ (List.mem_of_getElem? (i := 8) rfl))
  refine g_aloadN X0 hx hby i4_0 rfl rfl ?_
  refine g_objInit X0 hx hby hZ hown (hw _ (List.mem_of_getElem? (i := 18) rfl)) (hw _ (List.mem_of_getElem? (i := 19) rfl)) (hw _ (List.mem_of_getElem? (i := 20) rfl)) e0 (by rw [hml]; rfl) i4_1 0 rfl (by decide) (by decide) fun T1 X1 e1 => ?_
  refine g_iloadN X1 hx hby i4_4 rfl ?_
  refine g_if_ne X1 hx hby i4_5 (fun c5_2 => ?_) (fun c5_2 => False.elim (absurd c5_2 (by decide)))
  refine g_getstatic X1 hx hby hZ hown (host := "") (Or.inl (hw _ (List.mem_of_getElem? (i := 58) rfl))) Via.refl e1 (S0.ext O.2) i4_27 fun T3 X3 e3 => ?_
  refine g_if_eq X3 hx hby i4_30 (fun c30_4 => False.elim (hcz c30_4)) fun c30_4 => ?_
  refine g_aloadN X3 hx hby i4_33 rfl rfl ?_
  refine g_iloadN X3 hx hby i4_34 rfl ?_
  refine g_iloadN X3 hx hby i4_35 rfl ?_
  refine g_callS0 X3 hx hby hZ (y := (⟨"java/lang/StringUTF16", "compress", "([CII)[B"⟩ : MethodName)) (argsL := [(.ref ca), (.int (0 : Int32)), (.int (2 : Int32))]) (rest := []) hown (hw _ (List.mem_of_getElem? (i := 63) rfl)) (hw _ (List.mem_of_getElem? (i := 64) rfl)) (hw _ (List.mem_of_getElem? (i := 65) rfl)) (hw _ (List.mem_of_getElem? (i := 66) rfl)) (by decide) (rm10_2 l Z a0 hw [] ca (0 : Int32) (2 : Int32) kc x0 x1 h0 n0 Z0 Vc rfl rfl q0_ q1_) e3 (by rw [hml]; rfl) pd_1 rfl rfl i4_36 (by decide) 0 rfl (by decide) (by decide) (by decide) fun T5 v5 L5 X5 q5 => ?_
  obtain ⟨_, rfl, t5, kt5, rfl, K5, V5, g_t5, s5, N5⟩ := q5
  have N0 := Fr.app N0 N5
  have ne_a_t5 : a ≠ t5 := Nat.ne_of_lt (Nat.lt_of_lt_of_le E_a.lt s5)
  have ne_ca_t5 : ca ≠ t5 := Nat.ne_of_lt (Nat.lt_of_lt_of_le Vc.lt s5)
  have sz_t5 : h0.size ≤ t5 := Nat.le_trans K0.1 s5
  have K0 := K0.trans K5 (fun x hx => nomatch hx)
  have E_a := E_a.keep K5
  have FV := FV.keep K5 nin0
  have FC := FC.keep K5 nin0
  have Vc := Vc.keep K5 nin0
  have O := O.keep K5 all0
  have Z0 : n0 ≤ T5.heap.size := Nat.le_trans Z0 K5.1
  show Gd p e below _ T5 (mkF m 39 #[.val (.ref a), .val (.ref ca), .val (.int (0 : Int32)), .val (.int (2 : Int32)), .val .null, .unset] [(.ref t5)])
  refine g_astore X5 hx hby i4_39 rfl (l' := #[.val (.ref a), .val (.ref ca), .val (.int (0 : Int32)), .val (.int (2 : Int32)), .val .null, .val (.ref t5)]) rfl ?_
  refine g_aloadN X5 hx hby i4_41 rfl rfl ?_
  refine g_aload X5 hx hby i4_42 rfl rfl ?_
  refine g_iloadN X5 hx hby i4_44 rfl ?_
  refine g_callS0 X5 hx hby hZ (y := (⟨"java/lang/StringUTF16", "coderFromArrayLen", "([BI)B"⟩ : MethodName)) (argsL := [(.ref t5), (.int (2 : Int32))]) (rest := [(.ref a)]) hown (hw _ (List.mem_of_getElem? (i := 70) rfl)) (hw _ (List.mem_of_getElem? (i := 71) rfl)) (hw _ (List.mem_of_getElem? (i := 65) rfl)) (hw _ (List.mem_of_getElem? (i := 72) rfl)) (by decide) (rm12 l Z a0 hw [] t5 (2 : Int32) kt5 (2 : Int32) _ T5.heap n0 Z0 V5 rfl) rfl (by rw [hml]; rfl) pd_2 rfl rfl i4_45 (by decide) 1 rfl (by decide) (by decide) (by decide) fun T6 v6 L6 X6 q6 => ?_
  obtain ⟨_, rfl, rfl, e6, N6⟩ := q6
  have N0 := Fr.app N0 N6
  show Gd p e below _ T6 (mkF m 48 #[.val (.ref a), .val (.ref ca), .val (.int (0 : Int32)), .val (.int (2 : Int32)), .val .null, .val (.ref t5)] [(.int (0 : Int32)), (.ref a)])
  refine g_putfieldN X6 hx hby hZ hown (hw _ (List.mem_of_getElem? (i := 28) rfl)) Via.refl e6 FC E_a (Or.inr ⟨(hw _ (List.mem_of_getElem? (i := 24) rfl)), rfl, hnm⟩) (hw _ (List.mem_of_getElem? (i := 8) rfl)) (ty := .byte) (v' := (.int (nar .byte (0 : Int32)))) (by decide) rfl (fits_nar_byte _) i4_48 fun T7 h7 X7 e7 W7 => ?_
  have FC := FC.same W7
  have E_a := E_a.wr W7
  have FV := FV.other W7 (Or.inr (slot_ne (Or.inr (hw _ (List.mem_of_getElem? (i := 23) rfl))) (Or.inr (hw _ (List.mem_of_getElem? (i := 24) rfl))) (by decide) (t := (.array .byte)) (t' := .byte) (by decide) (by decide)))
  have Vc := Vc.other W7 (Ne.symm n_a_ca)
  have V5 := V5.other W7 (Ne.symm ne_a_t5)
  have O := O.wr W7 g_a
  have Z0 : n0 ≤ h7.size := Nat.le_trans Z0 (Nat.le_of_eq W7.size.symm)
  have N0 := Fr.snoc X7 N0 g_a
  have K0 := K0.wr W7 (Or.inl (List.mem_singleton.mpr rfl))
  refine g_aloadN X7 hx hby i4_51 rfl rfl ?_
  refine g_aload X7 hx hby i4_52 rfl rfl ?_
  refine g_putfield X7 hx hby hZ hown (host := "") (Or.inl (hw _ (List.mem_of_getElem? (i := 27) rfl))) Via.refl e7 FV E_a (Or.inr ⟨(hw _ (List.mem_of_getElem? (i := 23) rfl)), rfl, hnm⟩) (hw _ (List.mem_of_getElem? (i := 8) rfl)) (ty := (.array .byte)) (by decide) rfl rfl i4_54 fun T8 h8 X8 e8 W8 => ?_
  have FV := FV.same W8
  have E_a := E_a.wr W8
  have FC := FC.other W8 (Or.inr (slot_ne (Or.inr (hw _ (List.mem_of_getElem? (i := 24) rfl))) (Or.inr (hw _ (List.mem_of_getElem? (i := 23) rfl))) (by decide) (t := .byte) (t' := (.array .byte)) (by decide) (by decide)))
  have Vc := Vc.other W8 (Ne.symm n_a_ca)
  have V5 := V5.other W8 (Ne.symm ne_a_t5)
  have O := O.wr W8 g_a
  have Z0 : n0 ≤ h8.size := Nat.le_trans Z0 (Nat.le_of_eq W8.size.symm)
  have N0 := Fr.snoc X8 N0 g_a
  have K0 := K0.wr W8 (Or.inl (List.mem_singleton.mpr rfl))
  refine g_return X8 hx hby hret hlk i4_57 (by decide) (by decide) ?_
  rw [e8]
  exact ⟨rfl, K0, t5, _, E_a, FV, FC, V5, N0⟩
set_option maxRecDepth 65536 in
set_option maxHeartbeats 40000000 in
theorem rm3_2 (l : Launch) (Z : State) (a0 : Array Value) (hw : ∀ d ∈ tables_1, d.before a0 Z = true) (ws : List Jvm.Cond) (a : Addr) (ca : Addr) (cz : Int32) (kc : ClassId) (x0 x1 : Int32) (h0 : Heap) (n0 : Nat) (Z0 : n0 ≤ h0.size) (S0 : Sta Z Z.heap "java/lang/String" "COMPACT_STRINGS" "Z" (.int cz)) (hcz : ¬ cz = (0 : Int32)) (O : Old Z n0 h0) (E_a : Exa Z h0 a "java/lang/String") (FV : Fld Z h0 a "java/lang/String" "value" "[B" .null) (FC : Fld Z h0 a "java/lang/String" "coder" "B" (.int 0)) (g_a : n0 ≤ a) (Vc : Arv Z h0 ca kc .char (2 : Int32) [(.int x0), (.int x1)] (.int (0 : Int32))) (q0_ : ¬ (255 : Int32) < x0) (q1_ : ¬ (255 : Int32) < x1) :
    Met1 l (⟨"java/lang/String", "<init>", "([C)V"⟩ : MethodName) jdk_42_method_3_code 2 none ws ({ frames := 3, cells := 1, slots := 2, locals := 55 } : Room) #[(.ref a), (.ref ca)] Z h0 (RN fun h L => Keep h0 h [a] ∧ ∃ tb kt, Exa Z h a "java/lang/String" ∧ Fld Z h a "java/lang/String" "value" "[B" (.ref tb) ∧ Fld Z h a "java/lang/String" "coder" "B" (.int 0) ∧ Arv Z h tb kt .byte (2 : Int32) [(.int (nar .byte x0.toInt8.toInt32)), (.int (nar .byte x1.toInt8.toInt32))] (.int (0 : Int32)) ∧ Fr n0 L) := by
  refine met_of (plainFor_of_name pn_java_lang_String) ?_
  intro p e s m below meth c T0 X0 hx hby hml hZ hown hnm hret hlk e0 es
  have N0 := Fr.nil n0
  refine Gd.cast (ef_3_1 m a ca) ?_
  have K0 : Keep h0 h0 [a] := Keep.refl _ _
  refine g_aloadN X0 hx hby i3_0 rfl rfl ?_
  refine g_aloadN X0 hx hby i3_1 rfl rfl ?_
  refine g_iconst X0 hx hby i3_2 (z := (0 : Int32)) (by decide) ?_
  refine g_aloadN X0 hx hby i3_3 rfl rfl ?_
  refine g_arraylength X0 hx hby hZ e0 Vc i3_4 ?_
  refine g_aconst_null X0 hx hby i3_5 ?_
  refine g_callInit0 X0 hx hby hZ (y := (⟨"java/lang/String", "<init>", "([CIILjava/lang/Void;)V"⟩ : MethodName)) (argsL := [(.ref ca), (.int (0 : Int32)), (.int (2 : Int32)), .null]) (rest := []) rfl hown (hw _ (List.mem_of_getElem? (i := 14) rfl)) (hw _ (List.mem_of_getElem? (i := 15) rfl)) (hw _ (List.mem_of_getElem? (i := 9) rfl)) (hw _ (List.mem_of_getElem? (i := 17) rfl)) (by decide) (a := a) (rm4_2 l Z a0 hw [] a ca (0 : Int32) (2 : Int32) cz kc x0 x1 h0 n0 Z0 S0 hcz O E_a FV FC g_a Vc rfl rfl q0_ q1_) e0 (by rw [hml]; rfl) pd_3 rfl rfl i3_6 (by decide) 0 rfl (by decide) (by decide) (by decide) fun T1 v1 L1 X1 q1 => ?_
  obtain ⟨rfl, K1, tb1, kt1, E1, FV1, FC1, V1, N1⟩ := q1
  have N0 := Fr.app N0 N1
  have K0 := K0.trans K1 (fun x hx => Or.inl hx)
  have E_a := E_a.keep K1
  have O := O.keep K1 (allS g_a all0)
  have Z0 : n0 ≤ T1.heap.size := Nat.le_trans Z0 K1.1
  show Gd p e below _ T1 (mkF m 9 #[.val (.ref a), .val (.ref ca)] [])
  refine g_return X1 hx hby hret hlk i3_9 (by decide) (by decide) ?_
  exact ⟨rfl, K0, tb1, _, E_a, FV1, FC1, V1, N0⟩
set_option maxRecDepth 65536 in
set_option maxHeartbeats 40000000 in
theorem rm11_3 (l : Launch) (Z : State) (a0 : Array Value) (hw : ∀ d ∈ tables_1, d.before a0 Z = true) (ws : List Jvm.Cond) (ca : Addr) (p1 : Int32) (d : Addr) (p3 : Int32) (p4 : Int32) (kc kd : ClassId) (x0 x1 x2 : Int32) (h0 : Heap) (n0 : Nat) (Z0 : n0 ≤ h0.size) (Vc : Arv Z h0 ca kc .char (3 : Int32) [(.int x0), (.int x1), (.int x2)] (.int (0 : Int32))) (Vd : Arv Z h0 d kd .byte (3 : Int32) [(.int (0 : Int32)), (.int (0 : Int32)), (.int (0 : Int32))] (.int (0 : Int32))) (g_d : n0 ≤ d) (hcd : ca ≠ d) (hp1 : p1 = 0) (hp3 : p3 = 0) (hp4 : p4 = 3) (q0_ : ¬ (255 : Int32) < x0) (q1_ : ¬ (255 : Int32) < x1) (q2_ : ¬ (255 : Int32) < x2) :
    Met1 l (⟨"java/lang/StringUTF16", "compress", "([CI[BII)I"⟩ : MethodName) jdk_52_method_21_code 7 (some .int) ws ({ frames := 0, cells := 0, slots := 0, locals := 0 } : Room) #[(.ref ca), (.int p1), (.ref d), (.int p3), (.int p4)] Z h0 (RV fun vv h L => vv = .int 3 ∧ Keep h0 h [d] ∧ Arv Z h d kd .byte (3 : Int32) [(.int (nar .byte x0.toInt8.toInt32)), (.int (nar .byte x1.toInt8.toInt32)), (.int (nar .byte x2.toInt8.toInt32))] (.int (0 : Int32)) ∧ Fr n0 L) := by
  refine met_of (plainFor_of_name pn_java_lang_StringUTF16) ?_
  intro p e s m below meth c T0 X0 hx hby hml hZ hown hnm hret hlk e0 es
  have N0 := Fr.nil n0
  refine Gd.cast (ef_11_1 m ca p1 d p3 p4) ?_
  subst hp1 hp3 hp4
  have K0 : Keep h0 h0 [d] := Keep.refl _ _
  refine g_iconst X0 hx hby i11_0 (z := (0 : Int32)) (by decide) ?_
  refine g_istore X0 hx hby i11_1 (l' := #[.val (.ref ca), .val (.int (0 : Int32)), .val (.ref d), .val (.int (0 : Int32)), .val (.int (3 : Int32)), .val (.int (0 : Int32)), .unset]) rfl ?_
  refine g_iload X0 hx hby i11_3 rfl ?_
  refine g_iload X0 hx hby i11_5 rfl ?_
  refine g_icmp_ge X0 hx hby i11_7 (fun c7_1 => False.elim (absurd c7_1 (by decide))) fun c7_1 => ?_
  refine g_aloadN X0 hx hby i11_10 rfl rfl ?_
  refine g_iloadN X0 hx hby i11_11 rfl ?_
  refine g_caload X0 hx hby hZ e0 Vc (i := 0) (by decide) (by decide) (by decide) rfl i11_12 ?_
  refine g_istore X0 hx hby i11_13 (l' := #[.val (.ref ca), .val (.int (0 : Int32)), .val (.ref d), .val (.int (0 : Int32)), .val (.int (3 : Int32)), .val (.int (0 : Int32)), .val (.int x0)]) rfl ?_
  refine g_iload X0 hx hby i11_15 rfl ?_
  refine g_sipush X0 hx hby i11_17 (z := (255 : Int32)) (by decide) ?_
  refine g_icmp_le X0 hx hby i11_20 (fun c20_2 => ?_) (fun c20_2 => False.elim (q0_ c20_2))
  refine g_aloadN X0 hx hby i11_26 rfl rfl ?_
  refine g_iloadN X0 hx hby i11_27 rfl ?_
  refine g_iload X0 hx hby i11_28 rfl ?_
  refine g_i2b X0 hx hby i11_30 ?_
  refine g_bastore X0 hx hby hZ e0 Vd (i := 0) (by decide) (by decide) (by decide) (Nat.le_of_ble_eq_true rfl) i11_31 fun T3 h3 X3 e3 W3 Vd => ?_
  have Vd : Arv Z h3 d kd .byte (3 : Int32) [(.int (nar .byte x0.toInt8.toInt32)), (.int (0 : Int32)), (.int (0 : Int32))] (.int (0 : Int32)) := Vd
  have Vc := Vc.other W3 hcd
  have Z0 : n0 ≤ h3.size := Nat.le_trans Z0 (Nat.le_of_eq W3.size.symm)
  have N0 := Fr.snoc X3 N0 g_d
  have K0 := K0.wr W3 (Or.inl (List.mem_singleton.mpr rfl))
  refine g_iinc X3 hx hby i11_32 rfl (z := (1 : Int32)) (by decide) (l' := #[.val (.ref ca), .val (.int (1 : Int32)), .val (.ref d), .val (.int (0 : Int32)), .val (.int (3 : Int32)), .val (.int (0 : Int32)), .val (.int x0)]) rfl ?_
  refine g_iinc X3 hx hby i11_35 rfl (z := (1 : Int32)) (by decide) (l' := #[.val (.ref ca), .val (.int (1 : Int32)), .val (.ref d), .val (.int (1 : Int32)), .val (.int (3 : Int32)), .val (.int (0 : Int32)), .val (.int x0)]) rfl ?_
  refine g_iinc X3 hx hby i11_38 rfl (z := (1 : Int32)) (by decide) (l' := #[.val (.ref ca), .val (.int (1 : Int32)), .val (.ref d), .val (.int (1 : Int32)), .val (.int (3 : Int32)), .val (.int (1 : Int32)), .val (.int x0)]) rfl ?_
  refine g_goto X3 hx hby i11_41 ?_
  refine g_iload X3 hx hby i11_3 rfl ?_
  refine g_iload X3 hx hby i11_5 rfl ?_
  refine g_icmp_ge X3 hx hby i11_7 (fun c7_4 => False.elim (absurd c7_4 (by decide))) fun c7_4 => ?_
  refine g_aloadN X3 hx hby i11_10 rfl rfl ?_
  refine g_iloadN X3 hx hby i11_11 rfl ?_
  refine g_caload X3 hx hby hZ e3 Vc (i := 1) (by decide) (by decide) (by decide) rfl i11_12 ?_
  refine g_istore X3 hx hby i11_13 (l' := #[.val (.ref ca), .val (.int (1 : Int32)), .val (.ref d), .val (.int (1 : Int32)), .val (.int (3 : Int32)), .val (.int (1 : Int32)), .val (.int x1)]) rfl ?_
  refine g_iload X3 hx hby i11_15 rfl ?_
  refine g_sipush X3 hx hby i11_17 (z := (255 : Int32)) (by decide) ?_
  refine g_icmp_le X3 hx hby i11_20 (fun c20_5 => ?_) (fun c20_5 => False.elim (q1_ c20_5))
  refine g_aloadN X3 hx hby i11_26 rfl rfl ?_
  refine g_iloadN X3 hx hby i11_27 rfl ?_
  refine g_iload X3 hx hby i11_28 rfl ?_
  refine g_i2b X3 hx hby i11_30 ?_
  refine g_bastore X3 hx hby hZ e3 Vd (i := 1) (by decide) (by decide) (by decide) (Nat.le_of_ble_eq_true rfl) i11_31 fun T6 h6 X6 e6 W6 Vd => ?_
  have Vd : Arv Z h6 d kd .byte (3 : Int32) [(.int (nar .byte x0.toInt8.toInt32)), (.int (nar .byte x1.toInt8.toInt32)), (.int (0 : Int32))] (.int (0 : Int32)) := Vd
  have Vc := Vc.other W6 hcd
  have Z0 : n0 ≤ h6.size := Nat.le_trans Z0 (Nat.le_of_eq W6.size.symm)
  have N0 := Fr.snoc X6 N0 g_d
  have K0 := K0.wr W6 (Or.inl (List.mem_singleton.mpr rfl))
  refine g_iinc X6 hx hby i11_32 rfl (z := (2 : Int32)) (by decide) (l' := #[.val (.ref ca), .val (.int (2 : Int32)), .val (.ref d), .val (.int (1 : Int32)), .val (.int (3 : Int32)), .val (.int (1 : Int32)), .val (.int x1)]) rfl ?_
  refine g_iinc X6 hx hby i11_35 rfl (z := (2 : Int32)) (by decide) (l' := #[.val (.ref ca), .val (.int (2 : Int32)), .val (.ref d), .val (.int (2 : Int32)), .val (.int (3 : Int32)), .val (.int (1 : Int32)), .val (.int x1)]) rfl ?_
  refine g_iinc X6 hx hby i11_38 rfl (z := (2 : Int32)) (by decide) (l' := #[.val (.ref ca), .val (.int (2 : Int32)), .val (.ref d), .val (.int (2 : Int32)), .val (.int (3 : Int32)), .val (.int (2 : Int32)), .val (.int x1)]) rfl ?_
  refine g_goto X6 hx hby i11_41 ?_
  refine g_iload X6 hx hby i11_3 rfl ?_
  refine g_iload X6 hx hby i11_5 rfl ?_
  refine g_icmp_ge X6 hx hby i11_7 (fun c7_7 => False.elim (absurd c7_7 (by decide))) fun c7_7 => ?_
  refine g_aloadN X6 hx hby i11_10 rfl rfl ?_
  refine g_iloadN X6 hx hby i11_11 rfl ?_
  refine g_caload X6 hx hby hZ e6 Vc (i := 2) (by decide) (by decide) (by decide) rfl i11_12 ?_
  refine g_istore X6 hx hby i11_13 (l' := #[.val (.ref ca), .val (.int (2 : Int32)), .val (.ref d), .val (.int (2 : Int32)), .val (.int (3 : Int32)), .val (.int (2 : Int32)), .val (.int x2)]) rfl ?_
  refine g_iload X6 hx hby i11_15 rfl ?_
  refine g_sipush X6 hx hby i11_17 (z := (255 : Int32)) (by decide) ?_
  refine g_icmp_le X6 hx hby i11_20 (fun c20_8 => ?_) (fun c20_8 => False.elim (q2_ c20_8))
  refine g_aloadN X6 hx hby i11_26 rfl rfl ?_
  refine g_iloadN X6 hx hby i11_27 rfl ?_
  refine g_iload X6 hx hby i11_28 rfl ?_
  refine g_i2b X6 hx hby i11_30 ?_
  refine g_bastore X6 hx hby hZ e6 Vd (i := 2) (by decide) (by decide) (by decide) (Nat.le_of_ble_eq_true rfl) i11_31 fun T9 h9 X9 e9 W9 Vd => ?_
  have Vd : Arv Z h9 d kd .byte (3 : Int32) [(.int (nar .byte x0.toInt8.toInt32)), (.int (nar .byte x1.toInt8.toInt32)), (.int (nar .byte x2.toInt8.toInt32))] (.int (0 : Int32)) := Vd
  have Vc := Vc.other W9 hcd
  have Z0 : n0 ≤ h9.size := Nat.le_trans Z0 (Nat.le_of_eq W9.size.symm)
  have N0 := Fr.snoc X9 N0 g_d
  have K0 := K0.wr W9 (Or.inl (List.mem_singleton.mpr rfl))
  refine g_iinc X9 hx hby i11_32 rfl (z := (3 : Int32)) (by decide) (l' := #[.val (.ref ca), .val (.int (3 : Int32)), .val (.ref d), .val (.int (2 : Int32)), .val (.int (3 : Int32)), .val (.int (2 : Int32)), .val (.int x2)]) rfl ?_
  refine g_iinc X9 hx hby i11_35 rfl (z := (3 : Int32)) (by decide) (l' := #[.val (.ref ca), .val (.int (3 : Int32)), .val (.ref d), .val (.int (3 : Int32)), .val (.int (3 : Int32)), .val (.int (2 : Int32)), .val (.int x2)]) rfl ?_
  refine g_iinc X9 hx hby i11_38 rfl (z := (3 : Int32)) (by decide) (l' := #[.val (.ref ca), .val (.int (3 : Int32)), .val (.ref d), .val (.int (3 : Int32)), .val (.int (3 : Int32)), .val (.int (3 : Int32)), .val (.int x2)]) rfl ?_
  refine g_goto X9 hx hby i11_41 ?_
  refine g_iload X9 hx hby i11_3 rfl ?_
  refine g_iload X9 hx hby i11_5 rfl ?_
  refine g_icmp_ge X9 hx hby i11_7 (fun c7_10 => ?_) (fun c7_10 => False.elim (absurd c7_10 (by decide)))
  refine g_iload X9 hx hby i11_44 rfl ?_
  refine g_ireturn X9 hx hby hret hlk i11_46 (by decide) (by decide) ?_
  rw [e9]
  exact ⟨_, rfl, rfl, K0, Vd, N0⟩
set_option maxRecDepth 65536 in
set_option maxHeartbeats 40000000 in
theorem rm10_3 (l : Launch) (Z : State) (a0 : Array Value) (hw : ∀ d ∈ tables_1, d.before a0 Z = true) (ws : List Jvm.Cond) (ca : Addr) (p1 : Int32) (p2 : Int32) (kc : ClassId) (x0 x1 x2 : Int32) (h0 : Heap) (n0 : Nat) (Z0 : n0 ≤ h0.size) (Vc : Arv Z h0 ca kc .char (3 : Int32) [(.int x0), (.int x1), (.int x2)] (.int (0 : Int32))) (hp1 : p1 = 0) (hp2 : p2 = 3) (q0_ : ¬ (255 : Int32) < x0) (q1_ : ¬ (255 : Int32) < x1) (q2_ : ¬ (255 : Int32) < x2) :
    Met1 l (⟨"java/lang/StringUTF16", "compress", "([CII)[B"⟩ : MethodName) jdk_52_method_16_code 6 (some (.array .byte)) ws ({ frames := 1, cells := 1, slots := 3, locals := 18 } : Room) #[(.ref ca), (.int p1), (.int p2)] Z h0 (RV fun vv h L => ∃ t kt, vv = .ref t ∧ Keep h0 h [] ∧ Arv Z h t kt .byte (3 : Int32) [(.int (nar .byte x0.toInt8.toInt32)), (.int (nar .byte x1.toInt8.toInt32)), (.int (nar .byte x2.toInt8.toInt32))] (.int (0 : Int32)) ∧ n0 ≤ t ∧ h0.size ≤ t ∧ Fr n0 L) := by
  refine met_of (plainFor_of_name pn_java_lang_StringUTF16) ?_
  intro p e s m below meth c T0 X0 hx hby hml hZ hown hnm hret hlk e0 es
  have N0 := Fr.nil n0
  refine Gd.cast (ef_10_1 m ca p1 p2) ?_
  subst hp1 hp2
  have K0 : Keep h0 h0 [] := Keep.refl _ _
  refine g_iloadN X0 hx hby i10_0 rfl ?_
  refine g_newarray X0 hx hby hZ (ty := .byte) rfl (hw _ (List.mem_of_getElem? (i := 22) rfl)) e0 i10_1 (by decide) 3 (by decide) (by decide) (by decide) (by decide) fun T1 h1 b1 k1 X1 e1 E1 hb1 V1 => ?_
  have ne_ca_b1 : ca ≠ b1 := Nat.ne_of_lt (Nat.lt_of_lt_of_le Vc.lt (Nat.le_of_eq hb1.symm))
  have g_b1 : n0 ≤ b1 := Nat.le_trans Z0 (Nat.le_of_eq hb1.symm)
  have Vc := Vc.ext E1
  have sz_b1 : h0.size ≤ b1 := Nat.le_trans K0.1 (Nat.le_of_eq hb1.symm)
  have K0 := K0.ext E1
  have Z0 : n0 ≤ h1.size := Nat.le_trans Z0 E1.1
  have V1 : Arv Z h1 b1 k1 .byte (3 : Int32) [(.int (0 : Int32)), (.int (0 : Int32)), (.int (0 : Int32))] (.int (0 : Int32)) := V1.pad (pad_rep [] _ 3)
  refine g_astoreN X1 hx hby i10_3 rfl (l' := #[.val (.ref ca), .val (.int (0 : Int32)), .val (.int (3 : Int32)), .val (.ref b1), .unset, .unset]) rfl ?_
  refine g_aloadN X1 hx hby i10_4 rfl rfl ?_
  refine g_iloadN X1 hx hby i10_5 rfl ?_
  refine g_aloadN X1 hx hby i10_6 rfl rfl ?_
  refine g_iconst X1 hx hby i10_7 (z := (0 : Int32)) (by decide) ?_
  refine g_iloadN X1 hx hby i10_8 rfl ?_
  refine g_callS0 X1 hx hby hZ (y := (⟨"java/lang/StringUTF16", "compress", "([CI[BII)I"⟩ : MethodName)) (argsL := [(.ref ca), (.int (0 : Int32)), (.ref b1), (.int (0 : Int32)), (.int (3 : Int32))]) (rest := []) hown (hw _ (List.mem_of_getElem? (i := 67) rfl)) (hw _ (List.mem_of_getElem? (i := 68) rfl)) (hw _ (List.mem_of_getElem? (i := 65) rfl)) (hw _ (List.mem_of_getElem? (i := 69) rfl)) (by decide) (rm11_3 l Z a0 hw [] ca (0 : Int32) b1 (0 : Int32) (3 : Int32) kc k1 x0 x1 x2 h1 n0 Z0 Vc V1 g_b1 ne_ca_b1 rfl rfl rfl q0_ q1_ q2_) e1 (by rw [hml]; rfl) pd_0 rfl rfl i10_9 (by decide) 0 rfl (by decide) (by decide) (by decide) fun T2 v2 L2 X2 q2 => ?_
  obtain ⟨_, rfl, rfl, K2, V2, N2⟩ := q2
  have N0 := Fr.app N0 N2
  have K0 := K0.trans K2 (fun x hx => Or.inr (by cases hx with | head => exact sz_b1 | tail _ q => cases q))
  have Vc := Vc.keep K2 (ninS ne_ca_b1 nin0)
  have Z0 : n0 ≤ T2.heap.size := Nat.le_trans Z0 K2.1
  show Gd p e below _ T2 (mkF m 12 #[.val (.ref ca), .val (.int (0 : Int32)), .val (.int (3 : Int32)), .val (.ref b1), .unset, .unset] [(.int (3 : Int32))])
  refine g_istore X2 hx hby i10_12 (l' := #[.val (.ref ca), .val (.int (0 : Int32)), .val (.int (3 : Int32)), .val (.ref b1), .val (.int (3 : Int32)), .unset]) rfl ?_
  refine g_iload X2 hx hby i10_14 rfl ?_
  refine g_iloadN X2 hx hby i10_16 rfl ?_
  refine g_icmp_eq X2 hx hby i10_17 (fun c17_3 => ?_) (fun c17_3 => False.elim (absurd c17_3 (by decide)))
  refine g_aloadN X2 hx hby i10_57 rfl rfl ?_
  refine g_areturn X2 hx hby hret rfl (fun _ => rfl) hlk rfl i10_58 (by decide) (by decide) ?_
  exact ⟨_, rfl, b1, _, rfl, K0, V2, g_b1, sz_b1, N0⟩
set_option maxRecDepth 65536 in
set_option maxHeartbeats 40000000 in
theorem rm4_3 (l : Launch) (Z : State) (a0 : Array Value) (hw : ∀ d ∈ tables_1, d.before a0 Z = true) (ws : List Jvm.Cond) (a : Addr) (ca : Addr) (p2 : Int32) (p3 : Int32) (cz : Int32) (kc : ClassId) (x0 x1 x2 : Int32) (h0 : Heap) (n0 : Nat) (Z0 : n0 ≤ h0.size) (S0 : Sta Z Z.heap "java/lang/String" "COMPACT_STRINGS" "Z" (.int cz)) (hcz : ¬ cz = (0 : Int32)) (O : Old Z n0 h0) (E_a : Exa Z h0 a "java/lang/String") (FV : Fld Z h0 a "java/lang/String" "value" "[B" .null) (FC : Fld Z h0 a "java/lang/String" "coder" "B" (.int 0)) (g_a : n0 ≤ a) (Vc : Arv Z h0 ca kc .char (3 : Int32) [(.int x0), (.int x1), (.int x2)] (.int (0 : Int32))) (hp2 : p2 = 0) (hp3 : p3 = 3) (q0_ : ¬ (255 : Int32) < x0) (q1_ : ¬ (255 : Int32) < x1) (q2_ : ¬ (255 : Int32) < x2) :
    Met1 l (⟨"java/lang/String", "<init>", "([CIILjava/lang/Void;)V"⟩ : MethodName) jdk_42_method_149_code 6 none ws ({ frames := 2, cells := 1, slots := 3, locals := 36 } : Room) #[(.ref a), (.ref ca), (.int p2), (.int p3), .null] Z h0 (RN fun h L => Keep h0 h [a] ∧ ∃ tb kt, Exa Z h a "java/lang/String" ∧ Fld Z h a "java/lang/String" "value" "[B" (.ref tb) ∧ Fld Z h a "java/lang/String" "coder" "B" (.int 0) ∧ Arv Z h tb kt .byte (3 : Int32) [(.int (nar .byte x0.toInt8.toInt32)), (.int (nar .byte x1.toInt8.toInt32)), (.int (nar .byte x2.toInt8.toInt32))] (.int (0 : Int32)) ∧ Fr n0 L) := by
  refine met_of (plainFor_of_name pn_java_lang_String) ?_
  intro p e s m below meth c T0 X0 hx hby hml hZ hown hnm hret hlk e0 es
  have N0 := Fr.nil n0
  refine Gd.cast (ef_4_1 m a ca p2 p3) ?_
  subst hp2 hp3
  have K0 : Keep h0 h0 [a] := Keep.refl _ _
  have n_a_ca : a ≠ ca := Exa.neArv E_a Vc (hw _ (List.mem_of_getElem? (i := 8) rfl))
  refine g_aloadN X0 hx hby i4_0 rfl rfl ?_
  refine g_objInit X0 hx hby hZ hown (hw _ (List.mem_of_getElem? (i := 18) rfl)) (hw _ (List.mem_of_getElem? (i := 19) rfl)) (hw _ (List.mem_of_getElem? (i := 20) rfl)) e0 (by rw [hml]; rfl) i4_1 0 rfl (by decide) (by decide) fun T1 X1 e1 => ?_
  refine g_iloadN X1 hx hby i4_4 rfl ?_
  refine g_if_ne X1 hx hby i4_5 (fun c5_2 => ?_) (fun c5_2 => False.elim (absurd c5_2 (by decide)))
  refine g_getstatic X1 hx hby hZ hown (host := "") (Or.inl (hw _ (List.mem_of_getElem? (i := 58) rfl))) Via.refl e1 (S0.ext O.2) i4_27 fun T3 X3 e3 => ?_
  refine g_if_eq X3 hx hby i4_30 (fun c30_4 => False.elim (hcz c30_4)) fun c30_4 => ?_
  refine g_aloadN X3 hx hby i4_33 rfl rfl ?_
  refine g_iloadN X3 hx hby i4_34 rfl ?_
  refine g_iloadN X3 hx hby i4_35 rfl ?_
  refine g_callS0 X3 hx hby hZ (y := (⟨"java/lang/StringUTF16", "compress", "([CII)[B"⟩ : MethodName)) (argsL := [(.ref ca), (.int (0 : Int32)), (.int (3 : Int32))]) (rest := []) hown (hw _ (List.mem_of_getElem? (i := 63) rfl)) (hw _ (List.mem_of_getElem? (i := 64) rfl)) (hw _ (List.mem_of_getElem? (i := 65) rfl)) (hw _ (List.mem_of_getElem? (i := 66) rfl)) (by decide) (rm10_3 l Z a0 hw [] ca (0 : Int32) (3 : Int32) kc x0 x1 x2 h0 n0 Z0 Vc rfl rfl q0_ q1_ q2_) e3 (by rw [hml]; rfl) pd_1 rfl rfl i4_36 (by decide) 0 rfl (by decide) (by decide) (by decide) fun T5 v5 L5 X5 q5 => ?_
  obtain ⟨_, rfl, t5, kt5, rfl, K5, V5, g_t5, s5, N5⟩ := q5
  have N0 := Fr.app N0 N5
  have ne_a_t5 : a ≠ t5 := Nat.ne_of_lt (Nat.lt_of_lt_of_le E_a.lt s5)
  have ne_ca_t5 : ca ≠ t5 := Nat.ne_of_lt (Nat.lt_of_lt_of_le Vc.lt s5)
  have sz_t5 : h0.size ≤ t5 := Nat.le_trans K0.1 s5
  have K0 := K0.trans K5 (fun x hx => nomatch hx)
  have E_a := E_a.keep K5
  have FV := FV.keep K5 nin0
  have FC := FC.keep K5 nin0
  have Vc := Vc.keep K5 nin0
  have O := O.keep K5 all0
  have Z0 : n0 ≤ T5.heap.size := Nat.le_trans Z0 K5.1
  show Gd p e below _ T5 (mkF m 39 #[.val (.ref a), .val (.ref ca), .val (.int (0 : Int32)), .val (.int (3 : Int32)), .val .null, .unset] [(.ref t5)])
  refine g_astore X5 hx hby i4_39 rfl (l' := #[.val (.ref a), .val (.ref ca), .val (.int (0 : Int32)), .val (.int (3 : Int32)), .val .null, .val (.ref t5)]) rfl ?_
  refine g_aloadN X5 hx hby i4_41 rfl rfl ?_
  refine g_aload X5 hx hby i4_42 rfl rfl ?_
  refine g_iloadN X5 hx hby i4_44 rfl ?_
  refine g_callS0 X5 hx hby hZ (y := (⟨"java/lang/StringUTF16", "coderFromArrayLen", "([BI)B"⟩ : MethodName)) (argsL := [(.ref t5), (.int (3 : Int32))]) (rest := [(.ref a)]) hown (hw _ (List.mem_of_getElem? (i := 70) rfl)) (hw _ (List.mem_of_getElem? (i := 71) rfl)) (hw _ (List.mem_of_getElem? (i := 65) rfl)) (hw _ (List.mem_of_getElem? (i := 72) rfl)) (by decide) (rm12 l Z a0 hw [] t5 (3 : Int32) kt5 (3 : Int32) _ T5.heap n0 Z0 V5 rfl) rfl (by rw [hml]; rfl) pd_2 rfl rfl i4_45 (by decide) 1 rfl (by decide) (by decide) (by decide) fun T6 v6 L6 X6 q6 => ?_
  obtain ⟨_, rfl, rfl, e6, N6⟩ := q6
  have N0 := Fr.app N0 N6
  show Gd p e below _ T6 (mkF m 48 #[.val (.ref a), .val (.ref ca), .val (.int (0 : Int32)), .val (.int (3 : Int32)), .val .null, .val (.ref t5)] [(.int (0 : Int32)), (.ref a)])
  refine g_putfieldN X6 hx hby hZ hown (hw _ (List.mem_of_getElem? (i := 28) rfl)) Via.refl e6 FC E_a (Or.inr ⟨(hw _ (List.mem_of_getElem? (i := 24) rfl)), rfl, hnm⟩) (hw _ (List.mem_of_getElem? (i := 8) rfl)) (ty := .byte) (v' := (.int (nar .byte (0 : Int32)))) (by decide) rfl (fits_nar_byte _) i4_48 fun T7 h7 X7 e7 W7 => ?_
  have FC := FC.same W7
  have E_a := E_a.wr W7
  have FV := FV.other W7 (Or.inr (slot_ne (Or.inr (hw _ (List.mem_of_getElem? (i := 23) rfl))) (Or.inr (hw _ (List.mem_of_getElem? (i := 24) rfl))) (by decide) (t := (.array .byte)) (t' := .byte) (by decide) (by decide)))
  have Vc := Vc.other W7 (Ne.symm n_a_ca)
  have V5 := V5.other W7 (Ne.symm ne_a_t5)
  have O := O.wr W7 g_a
  have Z0 : n0 ≤ h7.size := Nat.le_trans Z0 (Nat.le_of_eq W7.size.symm)
  have N0 := Fr.snoc X7 N0 g_a
  have K0 := K0.wr W7 (Or.inl (List.mem_singleton.mpr rfl))
  refine g_aloadN X7 hx hby i4_51 rfl rfl ?_
  refine g_aload X7 hx hby i4_52 rfl rfl ?_
  refine g_putfield X7 hx hby hZ hown (host := "") (Or.inl (hw _ (List.mem_of_getElem? (i := 27) rfl))) Via.refl e7 FV E_a (Or.inr ⟨(hw _ (List.mem_of_getElem? (i := 23) rfl)), rfl, hnm⟩) (hw _ (List.mem_of_getElem? (i := 8) rfl)) (ty := (.array .byte)) (by decide) rfl rfl i4_54 fun T8 h8 X8 e8 W8 => ?_
  have FV := FV.same W8
  have E_a := E_a.wr W8
  have FC := FC.other W8 (Or.inr (slot_ne (Or.inr (hw _ (List.mem_of_getElem? (i := 24) rfl))) (Or.inr (hw _ (List.mem_of_getElem? (i := 23) rfl))) (by decide) (t := .byte) (t' := (.array .byte)) (by decide) (by decide)))
  have Vc := Vc.other W8 (Ne.symm n_a_ca)
  have V5 := V5.other W8 (Ne.symm ne_a_t5)
  have O := O.wr W8 g_a
  have Z0 : n0 ≤ h8.size := Nat.le_trans Z0 (Nat.le_of_eq W8.size.symm)
  have N0 := Fr.snoc X8 N0 g_a
  have K0 := K0.wr W8 (Or.inl (List.mem_singleton.mpr rfl))
  refine g_return X8 hx hby hret hlk i4_57 (by decide) (by decide) ?_
  rw [e8]
  exact ⟨rfl, K0, t5, _, E_a, FV, FC, V5, N0⟩
set_option maxRecDepth 65536 in
set_option maxHeartbeats 40000000 in
theorem rm3_3 (l : Launch) (Z : State) (a0 : Array Value) (hw : ∀ d ∈ tables_1, d.before a0 Z = true) (ws : List Jvm.Cond) (a : Addr) (ca : Addr) (cz : Int32) (kc : ClassId) (x0 x1 x2 : Int32) (h0 : Heap) (n0 : Nat) (Z0 : n0 ≤ h0.size) (S0 : Sta Z Z.heap "java/lang/String" "COMPACT_STRINGS" "Z" (.int cz)) (hcz : ¬ cz = (0 : Int32)) (O : Old Z n0 h0) (E_a : Exa Z h0 a "java/lang/String") (FV : Fld Z h0 a "java/lang/String" "value" "[B" .null) (FC : Fld Z h0 a "java/lang/String" "coder" "B" (.int 0)) (g_a : n0 ≤ a) (Vc : Arv Z h0 ca kc .char (3 : Int32) [(.int x0), (.int x1), (.int x2)] (.int (0 : Int32))) (q0_ : ¬ (255 : Int32) < x0) (q1_ : ¬ (255 : Int32) < x1) (q2_ : ¬ (255 : Int32) < x2) :
    Met1 l (⟨"java/lang/String", "<init>", "([C)V"⟩ : MethodName) jdk_42_method_3_code 2 none ws ({ frames := 3, cells := 1, slots := 3, locals := 55 } : Room) #[(.ref a), (.ref ca)] Z h0 (RN fun h L => Keep h0 h [a] ∧ ∃ tb kt, Exa Z h a "java/lang/String" ∧ Fld Z h a "java/lang/String" "value" "[B" (.ref tb) ∧ Fld Z h a "java/lang/String" "coder" "B" (.int 0) ∧ Arv Z h tb kt .byte (3 : Int32) [(.int (nar .byte x0.toInt8.toInt32)), (.int (nar .byte x1.toInt8.toInt32)), (.int (nar .byte x2.toInt8.toInt32))] (.int (0 : Int32)) ∧ Fr n0 L) := by
  refine met_of (plainFor_of_name pn_java_lang_String) ?_
  intro p e s m below meth c T0 X0 hx hby hml hZ hown hnm hret hlk e0 es
  have N0 := Fr.nil n0
  refine Gd.cast (ef_3_1 m a ca) ?_
  have K0 : Keep h0 h0 [a] := Keep.refl _ _
  refine g_aloadN X0 hx hby i3_0 rfl rfl ?_
  refine g_aloadN X0 hx hby i3_1 rfl rfl ?_
  refine g_iconst X0 hx hby i3_2 (z := (0 : Int32)) (by decide) ?_
  refine g_aloadN X0 hx hby i3_3 rfl rfl ?_
  refine g_arraylength X0 hx hby hZ e0 Vc i3_4 ?_
  refine g_aconst_null X0 hx hby i3_5 ?_
  refine g_callInit0 X0 hx hby hZ (y := (⟨"java/lang/String", "<init>", "([CIILjava/lang/Void;)V"⟩ : MethodName)) (argsL := [(.ref ca), (.int (0 : Int32)), (.int (3 : Int32)), .null]) (rest := []) rfl hown (hw _ (List.mem_of_getElem? (i := 14) rfl)) (hw _ (List.mem_of_getElem? (i := 15) rfl)) (hw _ (List.mem_of_getElem? (i := 9) rfl)) (hw _ (List.mem_of_getElem? (i := 17) rfl)) (by decide) (a := a) (rm4_3 l Z a0 hw [] a ca (0 : Int32) (3 : Int32) cz kc x0 x1 x2 h0 n0 Z0 S0 hcz O E_a FV FC g_a Vc rfl rfl q0_ q1_ q2_) e0 (by rw [hml]; rfl) pd_3 rfl rfl i3_6 (by decide) 0 rfl (by decide) (by decide) (by decide) fun T1 v1 L1 X1 q1 => ?_
  obtain ⟨rfl, K1, tb1, kt1, E1, FV1, FC1, V1, N1⟩ := q1
  have N0 := Fr.app N0 N1
  have K0 := K0.trans K1 (fun x hx => Or.inl hx)
  have E_a := E_a.keep K1
  have O := O.keep K1 (allS g_a all0)
  have Z0 : n0 ≤ T1.heap.size := Nat.le_trans Z0 K1.1
  show Gd p e below _ T1 (mkF m 9 #[.val (.ref a), .val (.ref ca)] [])
  refine g_return X1 hx hby hret hlk i3_9 (by decide) (by decide) ?_
  exact ⟨rfl, K0, tb1, _, E_a, FV1, FC1, V1, N0⟩
set_option maxRecDepth 65536 in
set_option maxHeartbeats 40000000 in
theorem rm11_4 (l : Launch) (Z : State) (a0 : Array Value) (hw : ∀ d ∈ tables_1, d.before a0 Z = true) (ws : List Jvm.Cond) (ca : Addr) (p1 : Int32) (d : Addr) (p3 : Int32) (p4 : Int32) (kc kd : ClassId) (x0 x1 x2 x3 : Int32) (h0 : Heap) (n0 : Nat) (Z0 : n0 ≤ h0.size) (Vc : Arv Z h0 ca kc .char (4 : Int32) [(.int x0), (.int x1), (.int x2), (.int x3)] (.int (0 : Int32))) (Vd : Arv Z h0 d kd .byte (4 : Int32) [(.int (0 : Int32)), (.int (0 : Int32)), (.int (0 : Int32)), (.int (0 : Int32))] (.int (0 : Int32))) (g_d : n0 ≤ d) (hcd : ca ≠ d) (hp1 : p1 = 0) (hp3 : p3 = 0) (hp4 : p4 = 4) (q0_ : ¬ (255 : Int32) < x0) (q1_ : ¬ (255 : Int32) < x1) (q2_ : ¬ (255 : Int32) < x2) (q3_ : ¬ (255 : Int32) < x3) :
    Met1 l (⟨"java/lang/StringUTF16", "compress", "([CI[BII)I"⟩ : MethodName) jdk_52_method_21_code 7 (some .int) ws ({ frames := 0, cells := 0, slots := 0, locals := 0 } : Room) #[(.ref ca), (.int p1), (.ref d), (.int p3), (.int p4)] Z h0 (RV fun vv h L => vv = .int 4 ∧ Keep h0 h [d] ∧ Arv Z h d kd .byte (4 : Int32) [(.int (nar .byte x0.toInt8.toInt32)), (.int (nar .byte x1.toInt8.toInt32)), (.int (nar .byte x2.toInt8.toInt32)), (.int (nar .byte x3.toInt8.toInt32))] (.int (0 : Int32)) ∧ Fr n0 L) := by
  refine met_of (plainFor_of_name pn_java_lang_StringUTF16) ?_
  intro p e s m below meth c T0 X0 hx hby hml hZ hown hnm hret hlk e0 es
  have N0 := Fr.nil n0
  refine Gd.cast (ef_11_1 m ca p1 d p3 p4) ?_
  subst hp1 hp3 hp4
  have K0 : Keep h0 h0 [d] := Keep.refl _ _
  refine g_iconst X0 hx hby i11_0 (z := (0 : Int32)) (by decide) ?_
  refine g_istore X0 hx hby i11_1 (l' := #[.val (.ref ca), .val (.int (0 : Int32)), .val (.ref d), .val (.int (0 : Int32)), .val (.int (4 : Int32)), .val (.int (0 : Int32)), .unset]) rfl ?_
  refine g_iload X0 hx hby i11_3 rfl ?_
  refine g_iload X0 hx hby i11_5 rfl ?_
  refine g_icmp_ge X0 hx hby i11_7 (fun c7_1 => False.elim (absurd c7_1 (by decide))) fun c7_1 => ?_
  refine g_aloadN X0 hx hby i11_10 rfl rfl ?_
  refine g_iloadN X0 hx hby i11_11 rfl ?_
  refine g_caload X0 hx hby hZ e0 Vc (i := 0) (by decide) (by decide) (by decide) rfl i11_12 ?_
  refine g_istore X0 hx hby i11_13 (l' := #[.val (.ref ca), .val (.int (0 : Int32)), .val (.ref d), .val (.int (0 : Int32)), .val (.int (4 : Int32)), .val (.int (0 : Int32)), .val (.int x0)]) rfl ?_
  refine g_iload X0 hx hby i11_15 rfl ?_
  refine g_sipush X0 hx hby i11_17 (z := (255 : Int32)) (by decide) ?_
  refine g_icmp_le X0 hx hby i11_20 (fun c20_2 => ?_) (fun c20_2 => False.elim (q0_ c20_2))
  refine g_aloadN X0 hx hby i11_26 rfl rfl ?_
  refine g_iloadN X0 hx hby i11_27 rfl ?_
  refine g_iload X0 hx hby i11_28 rfl ?_
  refine g_i2b X0 hx hby i11_30 ?_
  refine g_bastore X0 hx hby hZ e0 Vd (i := 0) (by decide) (by decide) (by decide) (Nat.le_of_ble_eq_true rfl) i11_31 fun T3 h3 X3 e3 W3 Vd => ?_
  have Vd : Arv Z h3 d kd .byte (4 : Int32) [(.int (nar .byte x0.toInt8.toInt32)), (.int (0 : Int32)), (.int (0 : Int32)), (.int (0 : Int32))] (.int (0 : Int32)) := Vd
  have Vc := Vc.other W3 hcd
  have Z0 : n0 ≤ h3.size := Nat.le_trans Z0 (Nat.le_of_eq W3.size.symm)
  have N0 := Fr.snoc X3 N0 g_d
  have K0 := K0.wr W3 (Or.inl (List.mem_singleton.mpr rfl))
  refine g_iinc X3 hx hby i11_32 rfl (z := (1 : Int32)) (by decide) (l' := #[.val (.ref ca), .val (.int (1 : Int32)), .val (.ref d), .val (.int (0 : Int32)), .val (.int (4 : Int32)), .val (.int (0 : Int32)), .val (.int x0)]) rfl ?_
  refine g_iinc X3 hx hby i11_35 rfl (z := (1 : Int32)) (by decide) (l' := #[.val (.ref ca), .val (.int (1 : Int32)), .val (.ref d), .val (.int (1 : Int32)), .val (.int (4 : Int32)), .val (.int (0 : Int32)), .val (.int x0)]) rfl ?_
  refine g_iinc X3 hx hby i11_38 rfl (z := (1 : Int32)) (by decide) (l' := #[.val (.ref ca), .val (.int (1 : Int32)), .val (.ref d), .val (.int (1 : Int32)), .val (.int (4 : Int32)), .val (.int (1 : Int32)), .val (.int x0)]) rfl ?_
  refine g_goto X3 hx hby i11_41 ?_
  refine g_iload X3 hx hby i11_3 rfl ?_
  refine g_iload X3 hx hby i11_5 rfl ?_
  refine g_icmp_ge X3 hx hby i11_7 (fun c7_4 => False.elim (absurd c7_4 (by decide))) fun c7_4 => ?_
  refine g_aloadN X3 hx hby i11_10 rfl rfl ?_
  refine g_iloadN X3 hx hby i11_11 rfl ?_
  refine g_caload X3 hx hby hZ e3 Vc (i := 1) (by decide) (by decide) (by decide) rfl i11_12 ?_
  refine g_istore X3 hx hby i11_13 (l' := #[.val (.ref ca), .val (.int (1 : Int32)), .val (.ref d), .val (.int (1 : Int32)), .val (.int (4 : Int32)), .val (.int (1 : Int32)), .val (.int x1)]) rfl ?_
  refine g_iload X3 hx hby i11_15 rfl ?_
  refine g_sipush X3 hx hby i11_17 (z := (255 : Int32)) (by decide) ?_
  refine g_icmp_le X3 hx hby i11_20 (fun c20_5 => ?_) (fun c20_5 => False.elim (q1_ c20_5))
  refine g_aloadN X3 hx hby i11_26 rfl rfl ?_
  refine g_iloadN X3 hx hby i11_27 rfl ?_
  refine g_iload X3 hx hby i11_28 rfl ?_
  refine g_i2b X3 hx hby i11_30 ?_
  refine g_bastore X3 hx hby hZ e3 Vd (i := 1) (by decide) (by decide) (by decide) (Nat.le_of_ble_eq_true rfl) i11_31 fun T6 h6 X6 e6 W6 Vd => ?_
  have Vd : Arv Z h6 d kd .byte (4 : Int32) [(.int (nar .byte x0.toInt8.toInt32)), (.int (nar .byte x1.toInt8.toInt32)), (.int (0 : Int32)), (.int (0 : Int32))] (.int (0 : Int32)) := Vd
  have Vc := Vc.other W6 hcd
  have Z0 : n0 ≤ h6.size := Nat.le_trans Z0 (Nat.le_of_eq W6.size.symm)
  have N0 := Fr.snoc X6 N0 g_d
  have K0 := K0.wr W6 (Or.inl (List.mem_singleton.mpr rfl))
  refine g_iinc X6 hx hby i11_32 rfl (z := (2 : Int32)) (by decide) (l' := #[.val (.ref ca), .val (.int (2 : Int32)), .val (.ref d), .val (.int (1 : Int32)), .val (.int (4 : Int32)), .val (.int (1 : Int32)), .val (.int x1)]) rfl ?_
  refine g_iinc X6 hx hby i11_35 rfl (z := (2 : Int32)) (by decide) (l' := #[.val (.ref ca), .val (.int (2 : Int32)), .val (.ref d), .val (.int (2 : Int32)), .val (.int (4 : Int32)), .val (.int (1 : Int32)), .val (.int x1)]) rfl ?_
  refine g_iinc X6 hx hby i11_38 rfl (z := (2 : Int32)) (by decide) (l' := #[.val (.ref ca), .val (.int (2 : Int32)), .val (.ref d), .val (.int (2 : Int32)), .val (.int (4 : Int32)), .val (.int (2 : Int32)), .val (.int x1)]) rfl ?_
  refine g_goto X6 hx hby i11_41 ?_
  refine g_iload X6 hx hby i11_3 rfl ?_
  refine g_iload X6 hx hby i11_5 rfl ?_
  refine g_icmp_ge X6 hx hby i11_7 (fun c7_7 => False.elim (absurd c7_7 (by decide))) fun c7_7 => ?_
  refine g_aloadN X6 hx hby i11_10 rfl rfl ?_
  refine g_iloadN X6 hx hby i11_11 rfl ?_
  refine g_caload X6 hx hby hZ e6 Vc (i := 2) (by decide) (by decide) (by decide) rfl i11_12 ?_
  refine g_istore X6 hx hby i11_13 (l' := #[.val (.ref ca), .val (.int (2 : Int32)), .val (.ref d), .val (.int (2 : Int32)), .val (.int (4 : Int32)), .val (.int (2 : Int32)), .val (.int x2)]) rfl ?_
  refine g_iload X6 hx hby i11_15 rfl ?_
  refine g_sipush X6 hx hby i11_17 (z := (255 : Int32)) (by decide) ?_
  refine g_icmp_le X6 hx hby i11_20 (fun c20_8 => ?_) (fun c20_8 => False.elim (q2_ c20_8))
  refine g_aloadN X6 hx hby i11_26 rfl rfl ?_
  refine g_iloadN X6 hx hby i11_27 rfl ?_
  refine g_iload X6 hx hby i11_28 rfl ?_
  refine g_i2b X6 hx hby i11_30 ?_
  refine g_bastore X6 hx hby hZ e6 Vd (i := 2) (by decide) (by decide) (by decide) (Nat.le_of_ble_eq_true rfl) i11_31 fun T9 h9 X9 e9 W9 Vd => ?_
  have Vd : Arv Z h9 d kd .byte (4 : Int32) [(.int (nar .byte x0.toInt8.toInt32)), (.int (nar .byte x1.toInt8.toInt32)), (.int (nar .byte x2.toInt8.toInt32)), (.int (0 : Int32))] (.int (0 : Int32)) := Vd
  have Vc := Vc.other W9 hcd
  have Z0 : n0 ≤ h9.size := Nat.le_trans Z0 (Nat.le_of_eq W9.size.symm)
  have N0 := Fr.snoc X9 N0 g_d
  have K0 := K0.wr W9 (Or.inl (List.mem_singleton.mpr rfl))
  refine g_iinc X9 hx hby i11_32 rfl (z := (3 : Int32)) (by decide) (l' := #[.val (.ref ca), .val (.int (3 : Int32)), .val (.ref d), .val (.int (2 : Int32)), .val (.int (4 : Int32)), .val (.int (2 : Int32)), .val (.int x2)]) rfl ?_
  refine g_iinc X9 hx hby i11_35 rfl (z := (3 : Int32)) (by decide) (l' := #[.val (.ref ca), .val (.int (3 : Int32)), .val (.ref d), .val (.int (3 : Int32)), .val (.int (4 : Int32)), .val (.int (2 : Int32)), .val (.int x2)]) rfl ?_
  refine g_iinc X9 hx hby i11_38 rfl (z := (3 : Int32)) (by decide) (l' := #[.val (.ref ca), .val (.int (3 : Int32)), .val (.ref d), .val (.int (3 : Int32)), .val (.int (4 : Int32)), .val (.int (3 : Int32)), .val (.int x2)]) rfl ?_
  refine g_goto X9 hx hby i11_41 ?_
  refine g_iload X9 hx hby i11_3 rfl ?_
  refine g_iload X9 hx hby i11_5 rfl ?_
  refine g_icmp_ge X9 hx hby i11_7 (fun c7_10 => False.elim (absurd c7_10 (by decide))) fun c7_10 => ?_
  refine g_aloadN X9 hx hby i11_10 rfl rfl ?_
  refine g_iloadN X9 hx hby i11_11 rfl ?_
  refine g_caload X9 hx hby hZ e9 Vc (i := 3) (by decide) (by decide) (by decide) rfl i11_12 ?_
  refine g_istore X9 hx hby i11_13 (l' := #[.val (.ref ca), .val (.int (3 : Int32)), .val (.ref d), .val (.int (3 : Int32)), .val (.int (4 : Int32)), .val (.int (3 : Int32)), .val (.int x3)]) rfl ?_
  refine g_iload X9 hx hby i11_15 rfl ?_
  refine g_sipush X9 hx hby i11_17 (z := (255 : Int32)) (by decide) ?_
  refine g_icmp_le X9 hx hby i11_20 (fun c20_11 => ?_) (fun c20_11 => False.elim (q3_ c20_11))
  refine g_aloadN X9 hx hby i11_26 rfl rfl ?_
  refine g_iloadN X9 hx hby i11_27 rfl ?_
  refine g_iload X9 hx hby i11_28 rfl ?_
  refine g_i2b X9 hx hby i11_30 ?_
  refine g_bastore X9 hx hby hZ e9 Vd (i := 3) (by decide) (by decide) (by decide) (Nat.le_of_ble_eq_true rfl) i11_31 fun T12 h12 X12 e12 W12 Vd => ?_
  have Vd : Arv Z h12 d kd .byte (4 : Int32) [(.int (nar .byte x0.toInt8.toInt32)), (.int (nar .byte x1.toInt8.toInt32)), (.int (nar .byte x2.toInt8.toInt32)), (.int (nar .byte x3.toInt8.toInt32))] (.int (0 : Int32)) := Vd
  have Vc := Vc.other W12 hcd
  have Z0 : n0 ≤ h12.size := Nat.le_trans Z0 (Nat.le_of_eq W12.size.symm)
  have N0 := Fr.snoc X12 N0 g_d
  have K0 := K0.wr W12 (Or.inl (List.mem_singleton.mpr rfl))
  refine g_iinc X12 hx hby i11_32 rfl (z := (4 : Int32)) (by decide) (l' := #[.val (.ref ca), .val (.int (4 : Int32)), .val (.ref d), .val (.int (3 : Int32)), .val (.int (4 : Int32)), .val (.int (3 : Int32)), .val (.int x3)]) rfl ?_
  refine g_iinc X12 hx hby i11_35 rfl (z := (4 : Int32)) (by decide) (l' := #[.val (.ref ca), .val (.int (4 : Int32)), .val (.ref d), .val (.int (4 : Int32)), .val (.int (4 : Int32)), .val (.int (3 : Int32)), .val (.int x3)]) rfl ?_
  refine g_iinc X12 hx hby i11_38 rfl (z := (4 : Int32)) (by decide) (l' := #[.val (.ref ca), .val (.int (4 : Int32)), .val (.ref d), .val (.int (4 : Int32)), .val (.int (4 : Int32)), .val (.int (4 : Int32)), .val (.int x3)]) rfl ?_
  refine g_goto X12 hx hby i11_41 ?_
  refine g_iload X12 hx hby i11_3 rfl ?_
  refine g_iload X12 hx hby i11_5 rfl ?_
  refine g_icmp_ge X12 hx hby i11_7 (fun c7_13 => ?_) (fun c7_13 => False.elim (absurd c7_13 (by decide)))
  refine g_iload X12 hx hby i11_44 rfl ?_
  refine g_ireturn X12 hx hby hret hlk i11_46 (by decide) (by decide) ?_
  rw [e12]
  exact ⟨_, rfl, rfl, K0, Vd, N0⟩
set_option maxRecDepth 65536 in
set_option maxHeartbeats 40000000 in
theorem rm10_4 (l : Launch) (Z : State) (a0 : Array Value) (hw : ∀ d ∈ tables_1, d.before a0 Z = true) (ws : List Jvm.Cond) (ca : Addr) (p1 : Int32) (p2 : Int32) (kc : ClassId) (x0 x1 x2 x3 : Int32) (h0 : Heap) (n0 : Nat) (Z0 : n0 ≤ h0.size) (Vc : Arv Z h0 ca kc .char (4 : Int32) [(.int x0), (.int x1), (.int x2), (.int x3)] (.int (0 : Int32))) (hp1 : p1 = 0) (hp2 : p2 = 4) (q0_ : ¬ (255 : Int32) < x0) (q1_ : ¬ (255 : Int32) < x1) (q2_ : ¬ (255 : Int32) < x2) (q3_ : ¬ (255 : Int32) < x3) :
    Met1 l (⟨"java/lang/StringUTF16", "compress", "([CII)[B"⟩ : MethodName) jdk_52_method_16_code 6 (some (.array .byte)) ws ({ frames := 1, cells := 1, slots := 4, locals := 18 } : Room) #[(.ref ca), (.int p1), (.int p2)] Z h0 (RV fun vv h L => ∃ t kt, vv = .ref t ∧ Keep h0 h [] ∧ Arv Z h t kt .byte (4 : Int32) [(.int (nar .byte x0.toInt8.toInt32)), (.int (nar .byte x1.toInt8.toInt32)), (.int (nar .byte x2.toInt8.toInt32)), (.int (nar .byte x3.toInt8.toInt32))] (.int (0 : Int32)) ∧ n0 ≤ t ∧ h0.size ≤ t ∧ Fr n0 L) := by
  refine met_of (plainFor_of_name pn_java_lang_StringUTF16) ?_
  intro p e s m below meth c T0 X0 hx hby hml hZ hown hnm hret hlk e0 es
  have N0 := Fr.nil n0
  refine Gd.cast (ef_10_1 m ca p1 p2) ?_
  subst hp1 hp2
  have K0 : Keep h0 h0 [] := Keep.refl _ _
  refine g_iloadN X0 hx hby i10_0 rfl ?_
  refine g_newarray X0 hx hby hZ (ty := .byte) rfl (hw _ (List.mem_of_getElem? (i := 22) rfl)) e0 i10_1 (by decide) 4 (by decide) (by decide) (by decide) (by decide) fun T1 h1 b1 k1 X1 e1 E1 hb1 V1 => ?_
  have ne_ca_b1 : ca ≠ b1 := Nat.ne_of_lt (Nat.lt_of_lt_of_le Vc.lt (Nat.le_of_eq hb1.symm))
  have g_b1 : n0 ≤ b1 := Nat.le_trans Z0 (Nat.le_of_eq hb1.symm)
  have Vc := Vc.ext E1
  have sz_b1 : h0.size ≤ b1 := Nat.le_trans K0.1 (Nat.le_of_eq hb1.symm)
  have K0 := K0.ext E1
  have Z0 : n0 ≤ h1.size := Nat.le_trans Z0 E1.1
  have V1 : Arv Z h1 b1 k1 .byte (4 : Int32) [(.int (0 : Int32)), (.int (0 : Int32)), (.int (0 : Int32)), (.int (0 : Int32))] (.int (0 : Int32)) := V1.pad (pad_rep [] _ 4)
  refine g_astoreN X1 hx hby i10_3 rfl (l' := #[.val (.ref ca), .val (.int (0 : Int32)), .val (.int (4 : Int32)), .val (.ref b1), .unset, .unset]) rfl ?_
  refine g_aloadN X1 hx hby i10_4 rfl rfl ?_
  refine g_iloadN X1 hx hby i10_5 rfl ?_
  refine g_aloadN X1 hx hby i10_6 rfl rfl ?_
  refine g_iconst X1 hx hby i10_7 (z := (0 : Int32)) (by decide) ?_
  refine g_iloadN X1 hx hby i10_8 rfl ?_
  refine g_callS0 X1 hx hby hZ (y := (⟨"java/lang/StringUTF16", "compress", "([CI[BII)I"⟩ : MethodName)) (argsL := [(.ref ca), (.int (0 : Int32)), (.ref b1), (.int (0 : Int32)), (.int (4 : Int32))]) (rest := []) hown (hw _ (List.mem_of_getElem? (i := 67) rfl)) (hw _ (List.mem_of_getElem? (i := 68) rfl)) (hw _ (List.mem_of_getElem? (i := 65) rfl)) (hw _ (List.mem_of_getElem? (i := 69) rfl)) (by decide) (rm11_4 l Z a0 hw [] ca (0 : Int32) b1 (0 : Int32) (4 : Int32) kc k1 x0 x1 x2 x3 h1 n0 Z0 Vc V1 g_b1 ne_ca_b1 rfl rfl rfl q0_ q1_ q2_ q3_) e1 (by rw [hml]; rfl) pd_0 rfl rfl i10_9 (by decide) 0 rfl (by decide) (by decide) (by decide) fun T2 v2 L2 X2 q2 => ?_
  obtain ⟨_, rfl, rfl, K2, V2, N2⟩ := q2
  have N0 := Fr.app N0 N2
  have K0 := K0.trans K2 (fun x hx => Or.inr (by cases hx with | head => exact sz_b1 | tail _ q => cases q))
  have Vc := Vc.keep K2 (ninS ne_ca_b1 nin0)
  have Z0 : n0 ≤ T2.heap.size := Nat.le_trans Z0 K2.1
  show Gd p e below _ T2 (mkF m 12 #[.val (.ref ca), .val (.int (0 : Int32)), .val (.int (4 : Int32)), .val (.ref b1), .unset, .unset] [(.int (4 : Int32))])
  refine g_istore X2 hx hby i10_12 (l' := #[.val (.ref ca), .val (.int (0 : Int32)), .val (.int (4 : Int32)), .val (.ref b1), .val (.int (4 : Int32)), .unset]) rfl ?_
  refine g_iload X2 hx hby i10_14 rfl ?_
  refine g_iloadN X2 hx hby i10_16 rfl ?_
  refine g_icmp_eq X2 hx hby i10_17 (fun c17_3 => ?_) (fun c17_3 => False.elim (absurd c17_3 (by decide)))
  refine g_aloadN X2 hx hby i10_57 rfl rfl ?_
  refine g_areturn X2 hx hby hret rfl (fun _ => rfl) hlk rfl i10_58 (by decide) (by decide) ?_
  exact ⟨_, rfl, b1, _, rfl, K0, V2, g_b1, sz_b1, N0⟩
set_option maxRecDepth 65536 in
set_option maxHeartbeats 40000000 in
theorem rm4_4 (l : Launch) (Z : State) (a0 : Array Value) (hw : ∀ d ∈ tables_1, d.before a0 Z = true) (ws : List Jvm.Cond) (a : Addr) (ca : Addr) (p2 : Int32) (p3 : Int32) (cz : Int32) (kc : ClassId) (x0 x1 x2 x3 : Int32) (h0 : Heap) (n0 : Nat) (Z0 : n0 ≤ h0.size) (S0 : Sta Z Z.heap "java/lang/String" "COMPACT_STRINGS" "Z" (.int cz)) (hcz : ¬ cz = (0 : Int32)) (O : Old Z n0 h0) (E_a : Exa Z h0 a "java/lang/String") (FV : Fld Z h0 a "java/lang/String" "value" "[B" .null) (FC : Fld Z h0 a "java/lang/String" "coder" "B" (.int 0)) (g_a : n0 ≤ a) (Vc : Arv Z h0 ca kc .char (4 : Int32) [(.int x0), (.int x1), (.int x2), (.int x3)] (.int (0 : Int32))) (hp2 : p2 = 0) (hp3 : p3 = 4) (q0_ : ¬ (255 : Int32) < x0) (q1_ : ¬ (255 : Int32) < x1) (q2_ : ¬ (255 : Int32) < x2) (q3_ : ¬ (255 : Int32) < x3) :
    Met1 l (⟨"java/lang/String", "<init>", "([CIILjava/lang/Void;)V"⟩ : MethodName) jdk_42_method_149_code 6 none ws ({ frames := 2, cells := 1, slots := 4, locals := 36 } : Room) #[(.ref a), (.ref ca), (.int p2), (.int p3), .null] Z h0 (RN fun h L => Keep h0 h [a] ∧ ∃ tb kt, Exa Z h a "java/lang/String" ∧ Fld Z h a "java/lang/String" "value" "[B" (.ref tb) ∧ Fld Z h a "java/lang/String" "coder" "B" (.int 0) ∧ Arv Z h tb kt .byte (4 : Int32) [(.int (nar .byte x0.toInt8.toInt32)), (.int (nar .byte x1.toInt8.toInt32)), (.int (nar .byte x2.toInt8.toInt32)), (.int (nar .byte x3.toInt8.toInt32))] (.int (0 : Int32)) ∧ Fr n0 L) := by
  refine met_of (plainFor_of_name pn_java_lang_String) ?_
  intro p e s m below meth c T0 X0 hx hby hml hZ hown hnm hret hlk e0 es
  have N0 := Fr.nil n0
  refine Gd.cast (ef_4_1 m a ca p2 p3) ?_
  subst hp2 hp3
  have K0 : Keep h0 h0 [a] := Keep.refl _ _
  have n_a_ca : a ≠ ca := Exa.neArv E_a Vc (hw _ (List.mem_of_getElem? (i := 8) rfl))
  refine g_aloadN X0 hx hby i4_0 rfl rfl ?_
  refine g_objInit X0 hx hby hZ hown (hw _ (List.mem_of_getElem? (i := 18) rfl)) (hw _ (List.mem_of_getElem? (i := 19) rfl)) (hw _ (List.mem_of_getElem? (i := 20) rfl)) e0 (by rw [hml]; rfl) i4_1 0 rfl (by decide) (by decide) fun T1 X1 e1 => ?_
  refine g_iloadN X1 hx hby i4_4 rfl ?_
  refine g_if_ne X1 hx hby i4_5 (fun c5_2 => ?_) (fun c5_2 => False.elim (absurd c5_2 (by decide)))
  refine g_getstatic X1 hx hby hZ hown (host := "") (Or.inl (hw _ (List.mem_of_getElem? (i := 58) rfl))) Via.refl e1 (S0.ext O.2) i4_27 fun T3 X3 e3 => ?_
  refine g_if_eq X3 hx hby i4_30 (fun c30_4 => False.elim (hcz c30_4)) fun c30_4 => ?_
  refine g_aloadN X3 hx hby i4_33 rfl rfl ?_
  refine g_iloadN X3 hx hby i4_34 rfl ?_
  refine g_iloadN X3 hx hby i4_35 rfl ?_
  refine g_callS0 X3 hx hby hZ (y := (⟨"java/lang/StringUTF16", "compress", "([CII)[B"⟩ : MethodName)) (argsL := [(.ref ca), (.int (0 : Int32)), (.int (4 : Int32))]) (rest := []) hown (hw _ (List.mem_of_getElem? (i := 63) rfl)) (hw _ (List.mem_of_getElem? (i := 64) rfl)) (hw _ (List.mem_of_getElem? (i := 65) rfl)) (hw _ (List.mem_of_getElem? (i := 66) rfl)) (by decide) (rm10_4 l Z a0 hw [] ca (0 : Int32) (4 : Int32) kc x0 x1 x2 x3 h0 n0 Z0 Vc rfl rfl q0_ q1_ q2_ q3_) e3 (by rw [hml]; rfl) pd_1 rfl rfl i4_36 (by decide) 0 rfl (by decide) (by decide) (by decide) fun T5 v5 L5 X5 q5 => ?_
  obtain ⟨_, rfl, t5, kt5, rfl, K5, V5, g_t5, s5, N5⟩ := q5
  have N0 := Fr.app N0 N5
  have ne_a_t5 : a ≠ t5 := Nat.ne_of_lt (Nat.lt_of_lt_of_le E_a.lt s5)
  have ne_ca_t5 : ca ≠ t5 := Nat.ne_of_lt (Nat.lt_of_lt_of_le Vc.lt s5)
  have sz_t5 : h0.size ≤ t5 := Nat.le_trans K0.1 s5
  have K0 := K0.trans K5 (fun x hx => nomatch hx)
  have E_a := E_a.keep K5
  have FV := FV.keep K5 nin0
  have FC := FC.keep K5 nin0
  have Vc := Vc.keep K5 nin0
  have O := O.keep K5 all0
  have Z0 : n0 ≤ T5.heap.size := Nat.le_trans Z0 K5.1
  show Gd p e below _ T5 (mkF m 39 #[.val (.ref a), .val (.ref ca), .val (.int (0 : Int32)), .val (.int (4 : Int32)), .val .null, .unset] [(.ref t5)])
  refine g_astore X5 hx hby i4_39 rfl (l' := #[.val (.ref a), .val (.ref ca), .val (.int (0 : Int32)), .val (.int (4 : Int32)), .val .null, .val (.ref t5)]) rfl ?_
  refine g_aloadN X5 hx hby i4_41 rfl rfl ?_
  refine g_aload X5 hx hby i4_42 rfl rfl ?_
  refine g_iloadN X5 hx hby i4_44 rfl ?_
  refine g_callS0 X5 hx hby hZ (y := (⟨"java/lang/StringUTF16", "coderFromArrayLen", "([BI)B"⟩ : MethodName)) (argsL := [(.ref t5), (.int (4 : Int32))]) (rest := [(.ref a)]) hown (hw _ (List.mem_of_getElem? (i := 70) rfl)) (hw _ (List.mem_of_getElem? (i := 71) rfl)) (hw _ (List.mem_of_getElem? (i := 65) rfl)) (hw _ (List.mem_of_getElem? (i := 72) rfl)) (by decide) (rm12 l Z a0 hw [] t5 (4 : Int32) kt5 (4 : Int32) _ T5.heap n0 Z0 V5 rfl) rfl (by rw [hml]; rfl) pd_2 rfl rfl i4_45 (by decide) 1 rfl (by decide) (by decide) (by decide) fun T6 v6 L6 X6 q6 => ?_
  obtain ⟨_, rfl, rfl, e6, N6⟩ := q6
  have N0 := Fr.app N0 N6
  show Gd p e below _ T6 (mkF m 48 #[.val (.ref a), .val (.ref ca), .val (.int (0 : Int32)), .val (.int (4 : Int32)), .val .null, .val (.ref t5)] [(.int (0 : Int32)), (.ref a)])
  refine g_putfieldN X6 hx hby hZ hown (hw _ (List.mem_of_getElem? (i := 28) rfl)) Via.refl e6 FC E_a (Or.inr ⟨(hw _ (List.mem_of_getElem? (i := 24) rfl)), rfl, hnm⟩) (hw _ (List.mem_of_getElem? (i := 8) rfl)) (ty := .byte) (v' := (.int (nar .byte (0 : Int32)))) (by decide) rfl (fits_nar_byte _) i4_48 fun T7 h7 X7 e7 W7 => ?_
  have FC := FC.same W7
  have E_a := E_a.wr W7
  have FV := FV.other W7 (Or.inr (slot_ne (Or.inr (hw _ (List.mem_of_getElem? (i := 23) rfl))) (Or.inr (hw _ (List.mem_of_getElem? (i := 24) rfl))) (by decide) (t := (.array .byte)) (t' := .byte) (by decide) (by decide)))
  have Vc := Vc.other W7 (Ne.symm n_a_ca)
  have V5 := V5.other W7 (Ne.symm ne_a_t5)
  have O := O.wr W7 g_a
  have Z0 : n0 ≤ h7.size := Nat.le_trans Z0 (Nat.le_of_eq W7.size.symm)
  have N0 := Fr.snoc X7 N0 g_a
  have K0 := K0.wr W7 (Or.inl (List.mem_singleton.mpr rfl))
  refine g_aloadN X7 hx hby i4_51 rfl rfl ?_
  refine g_aload X7 hx hby i4_52 rfl rfl ?_
  refine g_putfield X7 hx hby hZ hown (host := "") (Or.inl (hw _ (List.mem_of_getElem? (i := 27) rfl))) Via.refl e7 FV E_a (Or.inr ⟨(hw _ (List.mem_of_getElem? (i := 23) rfl)), rfl, hnm⟩) (hw _ (List.mem_of_getElem? (i := 8) rfl)) (ty := (.array .byte)) (by decide) rfl rfl i4_54 fun T8 h8 X8 e8 W8 => ?_
  have FV := FV.same W8
  have E_a := E_a.wr W8
  have FC := FC.other W8 (Or.inr (slot_ne (Or.inr (hw _ (List.mem_of_getElem? (i := 24) rfl))) (Or.inr (hw _ (List.mem_of_getElem? (i := 23) rfl))) (by decide) (t := .byte) (t' := (.array .byte)) (by decide) (by decide)))
  have Vc := Vc.other W8 (Ne.symm n_a_ca)
  have V5 := V5.other W8 (Ne.symm ne_a_t5)
  have O := O.wr W8 g_a
  have Z0 : n0 ≤ h8.size := Nat.le_trans Z0 (Nat.le_of_eq W8.size.symm)
  have N0 := Fr.snoc X8 N0 g_a
  have K0 := K0.wr W8 (Or.inl (List.mem_singleton.mpr rfl))
  refine g_return X8 hx hby hret hlk i4_57 (by decide) (by decide) ?_
  rw [e8]
  exact ⟨rfl, K0, t5, _, E_a, FV, FC, V5, N0⟩
set_option maxRecDepth 65536 in
set_option maxHeartbeats 40000000 in
theorem rm3_4 (l : Launch) (Z : State) (a0 : Array Value) (hw : ∀ d ∈ tables_1, d.before a0 Z = true) (ws : List Jvm.Cond) (a : Addr) (ca : Addr) (cz : Int32) (kc : ClassId) (x0 x1 x2 x3 : Int32) (h0 : Heap) (n0 : Nat) (Z0 : n0 ≤ h0.size) (S0 : Sta Z Z.heap "java/lang/String" "COMPACT_STRINGS" "Z" (.int cz)) (hcz : ¬ cz = (0 : Int32)) (O : Old Z n0 h0) (E_a : Exa Z h0 a "java/lang/String") (FV : Fld Z h0 a "java/lang/String" "value" "[B" .null) (FC : Fld Z h0 a "java/lang/String" "coder" "B" (.int 0)) (g_a : n0 ≤ a) (Vc : Arv Z h0 ca kc .char (4 : Int32) [(.int x0), (.int x1), (.int x2), (.int x3)] (.int (0 : Int32))) (q0_ : ¬ (255 : Int32) < x0) (q1_ : ¬ (255 : Int32) < x1) (q2_ : ¬ (255 : Int32) < x2) (q3_ : ¬ (255 : Int32) < x3) :
    Met1 l (⟨"java/lang/String", "<init>", "([C)V"⟩ : MethodName) jdk_42_method_3_code 2 none ws ({ frames := 3, cells := 1, slots := 4, locals := 55 } : Room) #[(.ref a), (.ref ca)] Z h0 (RN fun h L => Keep h0 h [a] ∧ ∃ tb kt, Exa Z h a "java/lang/String" ∧ Fld Z h a "java/lang/String" "value" "[B" (.ref tb) ∧ Fld Z h a "java/lang/String" "coder" "B" (.int 0) ∧ Arv Z h tb kt .byte (4 : Int32) [(.int (nar .byte x0.toInt8.toInt32)), (.int (nar .byte x1.toInt8.toInt32)), (.int (nar .byte x2.toInt8.toInt32)), (.int (nar .byte x3.toInt8.toInt32))] (.int (0 : Int32)) ∧ Fr n0 L) := by
  refine met_of (plainFor_of_name pn_java_lang_String) ?_
  intro p e s m below meth c T0 X0 hx hby hml hZ hown hnm hret hlk e0 es
  have N0 := Fr.nil n0
  refine Gd.cast (ef_3_1 m a ca) ?_
  have K0 : Keep h0 h0 [a] := Keep.refl _ _
  refine g_aloadN X0 hx hby i3_0 rfl rfl ?_
  refine g_aloadN X0 hx hby i3_1 rfl rfl ?_
  refine g_iconst X0 hx hby i3_2 (z := (0 : Int32)) (by decide) ?_
  refine g_aloadN X0 hx hby i3_3 rfl rfl ?_
  refine g_arraylength X0 hx hby hZ e0 Vc i3_4 ?_
  refine g_aconst_null X0 hx hby i3_5 ?_
  refine g_callInit0 X0 hx hby hZ (y := (⟨"java/lang/String", "<init>", "([CIILjava/lang/Void;)V"⟩ : MethodName)) (argsL := [(.ref ca), (.int (0 : Int32)), (.int (4 : Int32)), .null]) (rest := []) rfl hown (hw _ (List.mem_of_getElem? (i := 14) rfl)) (hw _ (List.mem_of_getElem? (i := 15) rfl)) (hw _ (List.mem_of_getElem? (i := 9) rfl)) (hw _ (List.mem_of_getElem? (i := 17) rfl)) (by decide) (a := a) (rm4_4 l Z a0 hw [] a ca (0 : Int32) (4 : Int32) cz kc x0 x1 x2 x3 h0 n0 Z0 S0 hcz O E_a FV FC g_a Vc rfl rfl q0_ q1_ q2_ q3_) e0 (by rw [hml]; rfl) pd_3 rfl rfl i3_6 (by decide) 0 rfl (by decide) (by decide) (by decide) fun T1 v1 L1 X1 q1 => ?_
  obtain ⟨rfl, K1, tb1, kt1, E1, FV1, FC1, V1, N1⟩ := q1
  have N0 := Fr.app N0 N1
  have K0 := K0.trans K1 (fun x hx => Or.inl hx)
  have E_a := E_a.keep K1
  have O := O.keep K1 (allS g_a all0)
  have Z0 : n0 ≤ T1.heap.size := Nat.le_trans Z0 K1.1
  show Gd p e below _ T1 (mkF m 9 #[.val (.ref a), .val (.ref ca)] [])
  refine g_return X1 hx hby hret hlk i3_9 (by decide) (by decide) ?_
  exact ⟨rfl, K0, tb1, _, E_a, FV1, FC1, V1, N0⟩
set_option maxRecDepth 65536 in
set_option maxHeartbeats 40000000 in
theorem rm11_5 (l : Launch) (Z : State) (a0 : Array Value) (hw : ∀ d ∈ tables_1, d.before a0 Z = true) (ws : List Jvm.Cond) (ca : Addr) (p1 : Int32) (d : Addr) (p3 : Int32) (p4 : Int32) (kc kd : ClassId) (x0 x1 x2 x3 x4 : Int32) (h0 : Heap) (n0 : Nat) (Z0 : n0 ≤ h0.size) (Vc : Arv Z h0 ca kc .char (5 : Int32) [(.int x0), (.int x1), (.int x2), (.int x3), (.int x4)] (.int (0 : Int32))) (Vd : Arv Z h0 d kd .byte (5 : Int32) [(.int (0 : Int32)), (.int (0 : Int32)), (.int (0 : Int32)), (.int (0 : Int32)), (.int (0 : Int32))] (.int (0 : Int32))) (g_d : n0 ≤ d) (hcd : ca ≠ d) (hp1 : p1 = 0) (hp3 : p3 = 0) (hp4 : p4 = 5) (q0_ : ¬ (255 : Int32) < x0) (q1_ : ¬ (255 : Int32) < x1) (q2_ : ¬ (255 : Int32) < x2) (q3_ : ¬ (255 : Int32) < x3) (q4_ : ¬ (255 : Int32) < x4) :
    Met1 l (⟨"java/lang/StringUTF16", "compress", "([CI[BII)I"⟩ : MethodName) jdk_52_method_21_code 7 (some .int) ws ({ frames := 0, cells := 0, slots := 0, locals := 0 } : Room) #[(.ref ca), (.int p1), (.ref d), (.int p3), (.int p4)] Z h0 (RV fun vv h L => vv = .int 5 ∧ Keep h0 h [d] ∧ Arv Z h d kd .byte (5 : Int32) [(.int (nar .byte x0.toInt8.toInt32)), (.int (nar .byte x1.toInt8.toInt32)), (.int (nar .byte x2.toInt8.toInt32)), (.int (nar .byte x3.toInt8.toInt32)), (.int (nar .byte x4.toInt8.toInt32))] (.int (0 : Int32)) ∧ Fr n0 L) := by
  refine met_of (plainFor_of_name pn_java_lang_StringUTF16) ?_
  intro p e s m below meth c T0 X0 hx hby hml hZ hown hnm hret hlk e0 es
  have N0 := Fr.nil n0
  refine Gd.cast (ef_11_1 m ca p1 d p3 p4) ?_
  subst hp1 hp3 hp4
  have K0 : Keep h0 h0 [d] := Keep.refl _ _
  refine g_iconst X0 hx hby i11_0 (z := (0 : Int32)) (by decide) ?_
  refine g_istore X0 hx hby i11_1 (l' := #[.val (.ref ca), .val (.int (0 : Int32)), .val (.ref d), .val (.int (0 : Int32)), .val (.int (5 : Int32)), .val (.int (0 : Int32)), .unset]) rfl ?_
  refine g_iload X0 hx hby i11_3 rfl ?_
  refine g_iload X0 hx hby i11_5 rfl ?_
  refine g_icmp_ge X0 hx hby i11_7 (fun c7_1 => False.elim (absurd c7_1 (by decide))) fun c7_1 => ?_
  refine g_aloadN X0 hx hby i11_10 rfl rfl ?_
  refine g_iloadN X0 hx hby i11_11 rfl ?_
  refine g_caload X0 hx hby hZ e0 Vc (i := 0) (by decide) (by decide) (by decide) rfl i11_12 ?_
  refine g_istore X0 hx hby i11_13 (l' := #[.val (.ref ca), .val (.int (0 : Int32)), .val (.ref d), .val (.int (0 : Int32)), .val (.int (5 : Int32)), .val (.int (0 : Int32)), .val (.int x0)]) rfl ?_
  refine g_iload X0 hx hby i11_15 rfl ?_
  refine g_sipush X0 hx hby i11_17 (z := (255 : Int32)) (by decide) ?_
  refine g_icmp_le X0 hx hby i11_20 (fun c20_2 => ?_) (fun c20_2 => False.elim (q0_ c20_2))
  refine g_aloadN X0 hx hby i11_26 rfl rfl ?_
  refine g_iloadN X0 hx hby i11_27 rfl ?_
  refine g_iload X0 hx hby i11_28 rfl ?_
  refine g_i2b X0 hx hby i11_30 ?_
  refine g_bastore X0 hx hby hZ e0 Vd (i := 0) (by decide) (by decide) (by decide) (Nat.le_of_ble_eq_true rfl) i11_31 fun T3 h3 X3 e3 W3 Vd => ?_
  have Vd : Arv Z h3 d kd .byte (5 : Int32) [(.int (nar .byte x0.toInt8.toInt32)), (.int (0 : Int32)), (.int (0 : Int32)), (.int (0 : Int32)), (.int (0 : Int32))] (.int (0 : Int32)) := Vd
  have Vc := Vc.other W3 hcd
  have Z0 : n0 ≤ h3.size := Nat.le_trans Z0 (Nat.le_of_eq W3.size.symm)
  have N0 := Fr.snoc X3 N0 g_d
  have K0 := K0.wr W3 (Or.inl (List.mem_singleton.mpr rfl))
  refine g_iinc X3 hx hby i11_32 rfl (z := (1 : Int32)) (by decide) (l' := #[.val (.ref ca), .val (.int (1 : Int32)), .val (.ref d), .val (.int (0 : Int32)), .val (.int (5 : Int32)), .val (.int (0 : Int32)), .val (.int x0)]) rfl ?_
  refine g_iinc X3 hx hby i11_35 rfl (z := (1 : Int32)) (by decide) (l' := #[.val (.ref ca), .val (.int (1 : Int32)), .val (.ref d), .val (.int (1 : Int32)), .val (.int (5 : Int32)), .val (.int (0 : Int32)), .val (.int x0)]) rfl ?_
  refine g_iinc X3 hx hby i11_38 rfl (z := (1 : Int32)) (by decide) (l' := #[.val (.ref ca), .val (.int (1 : Int32)), .val (.ref d), .val (.int (1 : Int32)), .val (.int (5 : Int32)), .val (.int (1 : Int32)), .val (.int x0)]) rfl ?_
  refine g_goto X3 hx hby i11_41 ?_
  refine g_iload X3 hx hby i11_3 rfl ?_
  refine g_iload X3 hx hby i11_5 rfl ?_
  refine g_icmp_ge X3 hx hby i11_7 (fun c7_4 => False.elim (absurd c7_4 (by decide))) fun c7_4 => ?_
  refine g_aloadN X3 hx hby i11_10 rfl rfl ?_
  refine g_iloadN X3 hx hby i11_11 rfl ?_
  refine g_caload X3 hx hby hZ e3 Vc (i := 1) (by decide) (by decide) (by decide) rfl i11_12 ?_
  refine g_istore X3 hx hby i11_13 (l' := #[.val (.ref ca), .val (.int (1 : Int32)), .val (.ref d), .val (.int (1 : Int32)), .val (.int (5 : Int32)), .val (.int (1 : Int32)), .val (.int x1)]) rfl ?_
  refine g_iload X3 hx hby i11_15 rfl ?_
  refine g_sipush X3 hx hby i11_17 (z := (255 : Int32)) (by decide) ?_
  refine g_icmp_le X3 hx hby i11_20 (fun c20_5 => ?_) (fun c20_5 => False.elim (q1_ c20_5))
  refine g_aloadN X3 hx hby i11_26 rfl rfl ?_
  refine g_iloadN X3 hx hby i11_27 rfl ?_
  refine g_iload X3 hx hby i11_28 rfl ?_
  refine g_i2b X3 hx hby i11_30 ?_
  refine g_bastore X3 hx hby hZ e3 Vd (i := 1) (by decide) (by decide) (by decide) (Nat.le_of_ble_eq_true rfl) i11_31 fun T6 h6 X6 e6 W6 Vd => ?_
  have Vd : Arv Z h6 d kd .byte (5 : Int32) [(.int (nar .byte x0.toInt8.toInt32)), (.int (nar .byte x1.toInt8.toInt32)), (.int (0 : Int32)), (.int (0 : Int32)), (.int (0 : Int32))] (.int (0 : Int32)) := Vd
  have Vc := Vc.other W6 hcd
  have Z0 : n0 ≤ h6.size := Nat.le_trans Z0 (Nat.le_of_eq W6.size.symm)
  have N0 := Fr.snoc X6 N0 g_d
  have K0 := K0.wr W6 (Or.inl (List.mem_singleton.mpr rfl))
  refine g_iinc X6 hx hby i11_32 rfl (z := (2 : Int32)) (by decide) (l' := #[.val (.ref ca), .val (.int (2 : Int32)), .val (.ref d), .val (.int (1 : Int32)), .val (.int (5 : Int32)), .val (.int (1 : Int32)), .val (.int x1)]) rfl ?_
  refine g_iinc X6 hx hby i11_35 rfl (z := (2 : Int32)) (by decide) (l' := #[.val (.ref ca), .val (.int (2 : Int32)), .val (.ref d), .val (.int (2 : Int32)), .val (.int (5 : Int32)), .val (.int (1 : Int32)), .val (.int x1)]) rfl ?_
  refine g_iinc X6 hx hby i11_38 rfl (z := (2 : Int32)) (by decide) (l' := #[.val (.ref ca), .val (.int (2 : Int32)), .val (.ref d), .val (.int (2 : Int32)), .val (.int (5 : Int32)), .val (.int (2 : Int32)), .val (.int x1)]) rfl ?_
  refine g_goto X6 hx hby i11_41 ?_
  refine g_iload X6 hx hby i11_3 rfl ?_
  refine g_iload X6 hx hby i11_5 rfl ?_
  refine g_icmp_ge X6 hx hby i11_7 (fun c7_7 => False.elim (absurd c7_7 (by decide))) fun c7_7 => ?_
  refine g_aloadN X6 hx hby i11_10 rfl rfl ?_
  refine g_iloadN X6 hx hby i11_11 rfl ?_
  refine g_caload X6 hx hby hZ e6 Vc (i := 2) (by decide) (by decide) (by decide) rfl i11_12 ?_
  refine g_istore X6 hx hby i11_13 (l' := #[.val (.ref ca), .val (.int (2 : Int32)), .val (.ref d), .val (.int (2 : Int32)), .val (.int (5 : Int32)), .val (.int (2 : Int32)), .val (.int x2)]) rfl ?_
  refine g_iload X6 hx hby i11_15 rfl ?_
  refine g_sipush X6 hx hby i11_17 (z := (255 : Int32)) (by decide) ?_
  refine g_icmp_le X6 hx hby i11_20 (fun c20_8 => ?_) (fun c20_8 => False.elim (q2_ c20_8))
  refine g_aloadN X6 hx hby i11_26 rfl rfl ?_
  refine g_iloadN X6 hx hby i11_27 rfl ?_
  refine g_iload X6 hx hby i11_28 rfl ?_
  refine g_i2b X6 hx hby i11_30 ?_
  refine g_bastore X6 hx hby hZ e6 Vd (i := 2) (by decide) (by decide) (by decide) (Nat.le_of_ble_eq_true rfl) i11_31 fun T9 h9 X9 e9 W9 Vd => ?_
  have Vd : Arv Z h9 d kd .byte (5 : Int32) [(.int (nar .byte x0.toInt8.toInt32)), (.int (nar .byte x1.toInt8.toInt32)), (.int (nar .byte x2.toInt8.toInt32)), (.int (0 : Int32)), (.int (0 : Int32))] (.int (0 : Int32)) := Vd
  have Vc := Vc.other W9 hcd
  have Z0 : n0 ≤ h9.size := Nat.le_trans Z0 (Nat.le_of_eq W9.size.symm)
  have N0 := Fr.snoc X9 N0 g_d
  have K0 := K0.wr W9 (Or.inl (List.mem_singleton.mpr rfl))
  refine g_iinc X9 hx hby i11_32 rfl (z := (3 : Int32)) (by decide) (l' := #[.val (.ref ca), .val (.int (3 : Int32)), .val (.ref d), .val (.int (2 : Int32)), .val (.int (5 : Int32)), .val (.int (2 : Int32)), .val (.int x2)]) rfl ?_
  refine g_iinc X9 hx hby i11_35 rfl (z := (3 : Int32)) (by decide) (l' := #[.val (.ref ca), .val (.int (3 : Int32)), .val (.ref d), .val (.int (3 : Int32)), .val (.int (5 : Int32)), .val (.int (2 : Int32)), .val (.int x2)]) rfl ?_
  refine g_iinc X9 hx hby i11_38 rfl (z := (3 : Int32)) (by decide) (l' := #[.val (.ref ca), .val (.int (3 : Int32)), .val (.ref d), .val (.int (3 : Int32)), .val (.int (5 : Int32)), .val (.int (3 : Int32)), .val (.int x2)]) rfl ?_
  refine g_goto X9 hx hby i11_41 ?_
  refine g_iload X9 hx hby i11_3 rfl ?_
  refine g_iload X9 hx hby i11_5 rfl ?_
  refine g_icmp_ge X9 hx hby i11_7 (fun c7_10 => False.elim (absurd c7_10 (by decide))) fun c7_10 => ?_
  refine g_aloadN X9 hx hby i11_10 rfl rfl ?_
  refine g_iloadN X9 hx hby i11_11 rfl ?_
  refine g_caload X9 hx hby hZ e9 Vc (i := 3) (by decide) (by decide) (by decide) rfl i11_12 ?_
  refine g_istore X9 hx hby i11_13 (l' := #[.val (.ref ca), .val (.int (3 : Int32)), .val (.ref d), .val (.int (3 : Int32)), .val (.int (5 : Int32)), .val (.int (3 : Int32)), .val (.int x3)]) rfl ?_
  refine g_iload X9 hx hby i11_15 rfl ?_
  refine g_sipush X9 hx hby i11_17 (z := (255 : Int32)) (by decide) ?_
  refine g_icmp_le X9 hx hby i11_20 (fun c20_11 => ?_) (fun c20_11 => False.elim (q3_ c20_11))
  refine g_aloadN X9 hx hby i11_26 rfl rfl ?_
  refine g_iloadN X9 hx hby i11_27 rfl ?_
  refine g_iload X9 hx hby i11_28 rfl ?_
  refine g_i2b X9 hx hby i11_30 ?_
  refine g_bastore X9 hx hby hZ e9 Vd (i := 3) (by decide) (by decide) (by decide) (Nat.le_of_ble_eq_true rfl) i11_31 fun T12 h12 X12 e12 W12 Vd => ?_
  have Vd : Arv Z h12 d kd .byte (5 : Int32) [(.int (nar .byte x0.toInt8.toInt32)), (.int (nar .byte x1.toInt8.toInt32)), (.int (nar .byte x2.toInt8.toInt32)), (.int (nar .byte x3.toInt8.toInt32)), (.int (0 : Int32))] (.int (0 : Int32)) := Vd
  have Vc := Vc.other W12 hcd
  have Z0 : n0 ≤ h12.size := Nat.le_trans Z0 (Nat.le_of_eq W12.size.symm)
  have N0 := Fr.snoc X12 N0 g_d
  have K0 := K0.wr W12 (Or.inl (List.mem_singleton.mpr rfl))
  refine g_iinc X12 hx hby i11_32 rfl (z := (4 : Int32)) (by decide) (l' := #[.val (.ref ca), .val (.int (4 : Int32)), .val (.ref d), .val (.int (3 : Int32)), .val (.int (5 : Int32)), .val (.int (3 : Int32)), .val (.int x3)]) rfl ?_
  refine g_iinc X12 hx hby i11_35 rfl (z := (4 : Int32)) (by decide) (l' := #[.val (.ref ca), .val (.int (4 : Int32)), .val (.ref d), .val (.int (4 : Int32)), .val (.int (5 : Int32)), .val (.int (3 : Int32)), .val (.int x3)]) rfl ?_
  refine g_iinc X12 hx hby i11_38 rfl (z := (4 : Int32)) (by decide) (l' := #[.val (.ref ca), .val (.int (4 : Int32)), .val (.ref d), .val (.int (4 : Int32)), .val (.int (5 : Int32)), .val (.int (4 : Int32)), .val (.int x3)]) rfl ?_
  refine g_goto X12 hx hby i11_41 ?_
  refine g_iload X12 hx hby i11_3 rfl ?_
  refine g_iload X12 hx hby i11_5 rfl ?_
  refine g_icmp_ge X12 hx hby i11_7 (fun c7_13 => False.elim (absurd c7_13 (by decide))) fun c7_13 => ?_
  refine g_aloadN X12 hx hby i11_10 rfl rfl ?_
  refine g_iloadN X12 hx hby i11_11 rfl ?_
  refine g_caload X12 hx hby hZ e12 Vc (i := 4) (by decide) (by decide) (by decide) rfl i11_12 ?_
  refine g_istore X12 hx hby i11_13 (l' := #[.val (.ref ca), .val (.int (4 : Int32)), .val (.ref d), .val (.int (4 : Int32)), .val (.int (5 : Int32)), .val (.int (4 : Int32)), .val (.int x4)]) rfl ?_
  refine g_iload X12 hx hby i11_15 rfl ?_
  refine g_sipush X12 hx hby i11_17 (z := (255 : Int32)) (by decide) ?_
  refine g_icmp_le X12 hx hby i11_20 (fun c20_14 => ?_) (fun c20_14 => False.elim (q4_ c20_14))
  refine g_aloadN X12 hx hby i11_26 rfl rfl ?_
  refine g_iloadN X12 hx hby i11_27 rfl ?_
  refine g_iload X12 hx hby i11_28 rfl ?_
  refine g_i2b X12 hx hby i11_30 ?_
  refine g_bastore X12 hx hby hZ e12 Vd (i := 4) (by decide) (by decide) (by decide) (Nat.le_of_ble_eq_true rfl) i11_31 fun T15 h15 X15 e15 W15 Vd => ?_
  have Vd : Arv Z h15 d kd .byte (5 : Int32) [(.int (nar .byte x0.toInt8.toInt32)), (.int (nar .byte x1.toInt8.toInt32)), (.int (nar .byte x2.toInt8.toInt32)), (.int (nar .byte x3.toInt8.toInt32)), (.int (nar .byte x4.toInt8.toInt32))] (.int (0 : Int32)) := Vd
  have Vc := Vc.other W15 hcd
  have Z0 : n0 ≤ h15.size := Nat.le_trans Z0 (Nat.le_of_eq W15.size.symm)
  have N0 := Fr.snoc X15 N0 g_d
  have K0 := K0.wr W15 (Or.inl (List.mem_singleton.mpr rfl))
  refine g_iinc X15 hx hby i11_32 rfl (z := (5 : Int32)) (by decide) (l' := #[.val (.ref ca), .val (.int (5 : Int32)), .val (.ref d), .val (.int (4 : Int32)), .val (.int (5 : Int32)), .val (.int (4 : Int32)), .val (.int x4)]) rfl ?_
  refine g_iinc X15 hx hby i11_35 rfl (z := (5 : Int32)) (by decide) (l' := #[.val (.ref ca), .val (.int (5 : Int32)), .val (.ref d), .val (.int (5 : Int32)), .val (.int (5 : Int32)), .val (.int (4 : Int32)), .val (.int x4)]) rfl ?_
  refine g_iinc X15 hx hby i11_38 rfl (z := (5 : Int32)) (by decide) (l' := #[.val (.ref ca), .val (.int (5 : Int32)), .val (.ref d), .val (.int (5 : Int32)), .val (.int (5 : Int32)), .val (.int (5 : Int32)), .val (.int x4)]) rfl ?_
  refine g_goto X15 hx hby i11_41 ?_
  refine g_iload X15 hx hby i11_3 rfl ?_
  refine g_iload X15 hx hby i11_5 rfl ?_
  refine g_icmp_ge X15 hx hby i11_7 (fun c7_16 => ?_) (fun c7_16 => False.elim (absurd c7_16 (by decide)))
  refine g_iload X15 hx hby i11_44 rfl ?_
  refine g_ireturn X15 hx hby hret hlk i11_46 (by decide) (by decide) ?_
  rw [e15]
  exact ⟨_, rfl, rfl, K0, Vd, N0⟩
set_option maxRecDepth 65536 in
set_option maxHeartbeats 40000000 in
theorem rm10_5 (l : Launch) (Z : State) (a0 : Array Value) (hw : ∀ d ∈ tables_1, d.before a0 Z = true) (ws : List Jvm.Cond) (ca : Addr) (p1 : Int32) (p2 : Int32) (kc : ClassId) (x0 x1 x2 x3 x4 : Int32) (h0 : Heap) (n0 : Nat) (Z0 : n0 ≤ h0.size) (Vc : Arv Z h0 ca kc .char (5 : Int32) [(.int x0), (.int x1), (.int x2), (.int x3), (.int x4)] (.int (0 : Int32))) (hp1 : p1 = 0) (hp2 : p2 = 5) (q0_ : ¬ (255 : Int32) < x0) (q1_ : ¬ (255 : Int32) < x1) (q2_ : ¬ (255 : Int32) < x2) (q3_ : ¬ (255 : Int32) < x3) (q4_ : ¬ (255 : Int32) < x4) :
    Met1 l (⟨"java/lang/StringUTF16", "compress", "([CII)[B"⟩ : MethodName) jdk_52_method_16_code 6 (some (.array .byte)) ws ({ frames := 1, cells := 1, slots := 5, locals := 18 } : Room) #[(.ref ca), (.int p1), (.int p2)] Z h0 (RV fun vv h L => ∃ t kt, vv = .ref t ∧ Keep h0 h [] ∧ Arv Z h t kt .byte (5 : Int32) [(.int (nar .byte x0.toInt8.toInt32)), (.int (nar .byte x1.toInt8.toInt32)), (.int (nar .byte x2.toInt8.toInt32)), (.int (nar .byte x3.toInt8.toInt32)), (.int (nar .byte x4.toInt8.toInt32))] (.int (0 : Int32)) ∧ n0 ≤ t ∧ h0.size ≤ t ∧ Fr n0 L) := by
  refine met_of (plainFor_of_name pn_java_lang_StringUTF16) ?_
  intro p e s m below meth c T0 X0 hx hby hml hZ hown hnm hret hlk e0 es
  have N0 := Fr.nil n0
  refine Gd.cast (ef_10_1 m ca p1 p2) ?_
  subst hp1 hp2
  have K0 : Keep h0 h0 [] := Keep.refl _ _
  refine g_iloadN X0 hx hby i10_0 rfl ?_
  refine g_newarray X0 hx hby hZ (ty := .byte) rfl (hw _ (List.mem_of_getElem? (i := 22) rfl)) e0 i10_1 (by decide) 5 (by decide) (by decide) (by decide) (by decide) fun T1 h1 b1 k1 X1 e1 E1 hb1 V1 => ?_
  have ne_ca_b1 : ca ≠ b1 := Nat.ne_of_lt (Nat.lt_of_lt_of_le Vc.lt (Nat.le_of_eq hb1.symm))
  have g_b1 : n0 ≤ b1 := Nat.le_trans Z0 (Nat.le_of_eq hb1.symm)
  have Vc := Vc.ext E1
  have sz_b1 : h0.size ≤ b1 := Nat.le_trans K0.1 (Nat.le_of_eq hb1.symm)
  have K0 := K0.ext E1
  have Z0 : n0 ≤ h1.size := Nat.le_trans Z0 E1.1
  have V1 : Arv Z h1 b1 k1 .byte (5 : Int32) [(.int (0 : Int32)), (.int (0 : Int32)), (.int (0 : Int32)), (.int (0 : Int32)), (.int (0 : Int32))] (.int (0 : Int32)) := V1.pad (pad_rep [] _ 5)
  refine g_astoreN X1 hx hby i10_3 rfl (l' := #[.val (.ref ca), .val (.int (0 : Int32)), .val (.int (5 : Int32)), .val (.ref b1), .unset, .unset]) rfl ?_
  refine g_aloadN X1 hx hby i10_4 rfl rfl ?_
  refine g_iloadN X1 hx hby i10_5 rfl ?_
  refine g_aloadN X1 hx hby i10_6 rfl rfl ?_
  refine g_iconst X1 hx hby i10_7 (z := (0 : Int32)) (by decide) ?_
  refine g_iloadN X1 hx hby i10_8 rfl ?_
  refine g_callS0 X1 hx hby hZ (y := (⟨"java/lang/StringUTF16", "compress", "([CI[BII)I"⟩ : MethodName)) (argsL := [(.ref ca), (.int (0 : Int32)), (.ref b1), (.int (0 : Int32)), (.int (5 : Int32))]) (rest := []) hown (hw _ (List.mem_of_getElem? (i := 67) rfl)) (hw _ (List.mem_of_getElem? (i := 68) rfl)) (hw _ (List.mem_of_getElem? (i := 65) rfl)) (hw _ (List.mem_of_getElem? (i := 69) rfl)) (by decide) (rm11_5 l Z a0 hw [] ca (0 : Int32) b1 (0 : Int32) (5 : Int32) kc k1 x0 x1 x2 x3 x4 h1 n0 Z0 Vc V1 g_b1 ne_ca_b1 rfl rfl rfl q0_ q1_ q2_ q3_ q4_) e1 (by rw [hml]; rfl) pd_0 rfl rfl i10_9 (by decide) 0 rfl (by decide) (by decide) (by decide) fun T2 v2 L2 X2 q2 => ?_
  obtain ⟨_, rfl, rfl, K2, V2, N2⟩ := q2
  have N0 := Fr.app N0 N2
  have K0 := K0.trans K2 (fun x hx => Or.inr (by cases hx with | head => exact sz_b1 | tail _ q => cases q))
  have Vc := Vc.keep K2 (ninS ne_ca_b1 nin0)
  have Z0 : n0 ≤ T2.heap.size := Nat.le_trans Z0 K2.1
  show Gd p e below _ T2 (mkF m 12 #[.val (.ref ca), .val (.int (0 : Int32)), .val (.int (5 : Int32)), .val (.ref b1), .unset, .unset] [(.int (5 : Int32))])
  refine g_istore X2 hx hby i10_12 (l' := #[.val (.ref ca), .val (.int (0 : Int32)), .val (.int (5 : Int32)), .val (.ref b1), .val (.int (5 : Int32)), .unset]) rfl ?_
  refine g_iload X2 hx hby i10_14 rfl ?_
  refine g_iloadN X2 hx hby i10_16 rfl ?_
  refine g_icmp_eq X2 hx hby i10_17 (fun c17_3 => ?_) (fun c17_3 => False.elim (absurd c17_3 (by decide)))
  refine g_aloadN X2 hx hby i10_57 rfl rfl ?_
  refine g_areturn X2 hx hby hret rfl (fun _ => rfl) hlk rfl i10_58 (by decide) (by decide) ?_
  exact ⟨_, rfl, b1, _, rfl, K0, V2, g_b1, sz_b1, N0⟩
set_option maxRecDepth 65536 in
set_option maxHeartbeats 40000000 in
theorem rm4_5 (l : Launch) (Z : State) (a0 : Array Value) (hw : ∀ d ∈ tables_1, d.before a0 Z = true) (ws : List Jvm.Cond) (a : Addr) (ca : Addr) (p2 : Int32) (p3 : Int32) (cz : Int32) (kc : ClassId) (x0 x1 x2 x3 x4 : Int32) (h0 : Heap) (n0 : Nat) (Z0 : n0 ≤ h0.size) (S0 : Sta Z Z.heap "java/lang/String" "COMPACT_STRINGS" "Z" (.int cz)) (hcz : ¬ cz = (0 : Int32)) (O : Old Z n0 h0) (E_a : Exa Z h0 a "java/lang/String") (FV : Fld Z h0 a "java/lang/String" "value" "[B" .null) (FC : Fld Z h0 a "java/lang/String" "coder" "B" (.int 0)) (g_a : n0 ≤ a) (Vc : Arv Z h0 ca kc .char (5 : Int32) [(.int x0), (.int x1), (.int x2), (.int x3), (.int x4)] (.int (0 : Int32))) (hp2 : p2 = 0) (hp3 : p3 = 5) (q0_ : ¬ (255 : Int32) < x0) (q1_ : ¬ (255 : Int32) < x1) (q2_ : ¬ (255 : Int32) < x2) (q3_ : ¬ (255 : Int32) < x3) (q4_ : ¬ (255 : Int32) < x4) :
    Met1 l (⟨"java/lang/String", "<init>", "([CIILjava/lang/Void;)V"⟩ : MethodName) jdk_42_method_149_code 6 none ws ({ frames := 2, cells := 1, slots := 5, locals := 36 } : Room) #[(.ref a), (.ref ca), (.int p2), (.int p3), .null] Z h0 (RN fun h L => Keep h0 h [a] ∧ ∃ tb kt, Exa Z h a "java/lang/String" ∧ Fld Z h a "java/lang/String" "value" "[B" (.ref tb) ∧ Fld Z h a "java/lang/String" "coder" "B" (.int 0) ∧ Arv Z h tb kt .byte (5 : Int32) [(.int (nar .byte x0.toInt8.toInt32)), (.int (nar .byte x1.toInt8.toInt32)), (.int (nar .byte x2.toInt8.toInt32)), (.int (nar .byte x3.toInt8.toInt32)), (.int (nar .byte x4.toInt8.toInt32))] (.int (0 : Int32)) ∧ Fr n0 L) := by
  refine met_of (plainFor_of_name pn_java_lang_String) ?_
  intro p e s m below meth c T0 X0 hx hby hml hZ hown hnm hret hlk e0 es
  have N0 := Fr.nil n0
  refine Gd.cast (ef_4_1 m a ca p2 p3) ?_
  subst hp2 hp3
  have K0 : Keep h0 h0 [a] := Keep.refl _ _
  have n_a_ca : a ≠ ca := Exa.neArv E_a Vc (hw _ (List.mem_of_getElem? (i := 8) rfl))
  refine g_aloadN X0 hx hby i4_0 rfl rfl ?_
  refine g_objInit X0 hx hby hZ hown (hw _ (List.mem_of_getElem? (i := 18) rfl)) (hw _ (List.mem_of_getElem? (i := 19) rfl)) (hw _ (List.mem_of_getElem? (i := 20) rfl)) e0 (by rw [hml]; rfl) i4_1 0 rfl (by decide) (by decide) fun T1 X1 e1 => ?_
  refine g_iloadN X1 hx hby i4_4 rfl ?_
  refine g_if_ne X1 hx hby i4_5 (fun c5_2 => ?_) (fun c5_2 => False.elim (absurd c5_2 (by decide)))
  refine g_getstatic X1 hx hby hZ hown (host := "") (Or.inl (hw _ (List.mem_of_getElem? (i := 58) rfl))) Via.refl e1 (S0.ext O.2) i4_27 fun T3 X3 e3 => ?_
  refine g_if_eq X3 hx hby i4_30 (fun c30_4 => False.elim (hcz c30_4)) fun c30_4 => ?_
  refine g_aloadN X3 hx hby i4_33 rfl rfl ?_
  refine g_iloadN X3 hx hby i4_34 rfl ?_
  refine g_iloadN X3 hx hby i4_35 rfl ?_
  refine g_callS0 X3 hx hby hZ (y := (⟨"java/lang/StringUTF16", "compress", "([CII)[B"⟩ : MethodName)) (argsL := [(.ref ca), (.int (0 : Int32)), (.int (5 : Int32))]) (rest := []) hown (hw _ (List.mem_of_getElem? (i := 63) rfl)) (hw _ (List.mem_of_getElem? (i := 64) rfl)) (hw _ (List.mem_of_getElem? (i := 65) rfl)) (hw _ (List.mem_of_getElem? (i := 66) rfl)) (by decide) (rm10_5 l Z a0 hw [] ca (0 : Int32) (5 : Int32) kc x0 x1 x2 x3 x4 h0 n0 Z0 Vc rfl rfl q0_ q1_ q2_ q3_ q4_) e3 (by rw [hml]; rfl) pd_1 rfl rfl i4_36 (by decide) 0 rfl (by decide) (by decide) (by decide) fun T5 v5 L5 X5 q5 => ?_
  obtain ⟨_, rfl, t5, kt5, rfl, K5, V5, g_t5, s5, N5⟩ := q5
  have N0 := Fr.app N0 N5
  have ne_a_t5 : a ≠ t5 := Nat.ne_of_lt (Nat.lt_of_lt_of_le E_a.lt s5)
  have ne_ca_t5 : ca ≠ t5 := Nat.ne_of_lt (Nat.lt_of_lt_of_le Vc.lt s5)
  have sz_t5 : h0.size ≤ t5 := Nat.le_trans K0.1 s5
  have K0 := K0.trans K5 (fun x hx => nomatch hx)
  have E_a := E_a.keep K5
  have FV := FV.keep K5 nin0
  have FC := FC.keep K5 nin0
  have Vc := Vc.keep K5 nin0
  have O := O.keep K5 all0
  have Z0 : n0 ≤ T5.heap.size := Nat.le_trans Z0 K5.1
  show Gd p e below _ T5 (mkF m 39 #[.val (.ref a), .val (.ref ca), .val (.int (0 : Int32)), .val (.int (5 : Int32)), .val .null, .unset] [(.ref t5)])
  refine g_astore X5 hx hby i4_39 rfl (l' := #[.val (.ref a), .val (.ref ca), .val (.int (0 : Int32)), .val (.int (5 : Int32)), .val .null, .val (.ref t5)]) rfl ?_
  refine g_aloadN X5 hx hby i4_41 rfl rfl ?_
  refine g_aload X5 hx hby i4_42 rfl rfl ?_
  refine g_iloadN X5 hx hby i4_44 rfl ?_
  refine g_callS0 X5 hx hby hZ (y := (⟨"java/lang/StringUTF16", "coderFromArrayLen", "([BI)B"⟩ : MethodName)) (argsL := [(.ref t5), (.int (5 : Int32))]) (rest := [(.ref a)]) hown (hw _ (List.mem_of_getElem? (i := 70) rfl)) (hw _ (List.mem_of_getElem? (i := 71) rfl)) (hw _ (List.mem_of_getElem? (i := 65) rfl)) (hw _ (List.mem_of_getElem? (i := 72) rfl)) (by decide) (rm12 l Z a0 hw [] t5 (5 : Int32) kt5 (5 : Int32) _ T5.heap n0 Z0 V5 rfl) rfl (by rw [hml]; rfl) pd_2 rfl rfl i4_45 (by decide) 1 rfl (by decide) (by decide) (by decide) fun T6 v6 L6 X6 q6 => ?_
  obtain ⟨_, rfl, rfl, e6, N6⟩ := q6
  have N0 := Fr.app N0 N6
  show Gd p e below _ T6 (mkF m 48 #[.val (.ref a), .val (.ref ca), .val (.int (0 : Int32)), .val (.int (5 : Int32)), .val .null, .val (.ref t5)] [(.int (0 : Int32)), (.ref a)])
  refine g_putfieldN X6 hx hby hZ hown (hw _ (List.mem_of_getElem? (i := 28) rfl)) Via.refl e6 FC E_a (Or.inr ⟨(hw _ (List.mem_of_getElem? (i := 24) rfl)), rfl, hnm⟩) (hw _ (List.mem_of_getElem? (i := 8) rfl)) (ty := .byte) (v' := (.int (nar .byte (0 : Int32)))) (by decide) rfl (fits_nar_byte _) i4_48 fun T7 h7 X7 e7 W7 => ?_
  have FC := FC.same W7
  have E_a := E_a.wr W7
  have FV := FV.other W7 (Or.inr (slot_ne (Or.inr (hw _ (List.mem_of_getElem? (i := 23) rfl))) (Or.inr (hw _ (List.mem_of_getElem? (i := 24) rfl))) (by decide) (t := (.array .byte)) (t' := .byte) (by decide) (by decide)))
  have Vc := Vc.other W7 (Ne.symm n_a_ca)
  have V5 := V5.other W7 (Ne.symm ne_a_t5)
  have O := O.wr W7 g_a
  have Z0 : n0 ≤ h7.size := Nat.le_trans Z0 (Nat.le_of_eq W7.size.symm)
  have N0 := Fr.snoc X7 N0 g_a
  have K0 := K0.wr W7 (Or.inl (List.mem_singleton.mpr rfl))
  refine g_aloadN X7 hx hby i4_51 rfl rfl ?_
  refine g_aload X7 hx hby i4_52 rfl rfl ?_
  refine g_putfield X7 hx hby hZ hown (host := "") (Or.inl (hw _ (List.mem_of_getElem? (i := 27) rfl))) Via.refl e7 FV E_a (Or.inr ⟨(hw _ (List.mem_of_getElem? (i := 23) rfl)), rfl, hnm⟩) (hw _ (List.mem_of_getElem? (i := 8) rfl)) (ty := (.array .byte)) (by decide) rfl rfl i4_54 fun T8 h8 X8 e8 W8 => ?_
  have FV := FV.same W8
  have E_a := E_a.wr W8
  have FC := FC.other W8 (Or.inr (slot_ne (Or.inr (hw _ (List.mem_of_getElem? (i := 24) rfl))) (Or.inr (hw _ (List.mem_of_getElem? (i := 23) rfl))) (by decide) (t := .byte) (t' := (.array .byte)) (by decide) (by decide)))
  have Vc := Vc.other W8 (Ne.symm n_a_ca)
  have V5 := V5.other W8 (Ne.symm ne_a_t5)
  have O := O.wr W8 g_a
  have Z0 : n0 ≤ h8.size := Nat.le_trans Z0 (Nat.le_of_eq W8.size.symm)
  have N0 := Fr.snoc X8 N0 g_a
  have K0 := K0.wr W8 (Or.inl (List.mem_singleton.mpr rfl))
  refine g_return X8 hx hby hret hlk i4_57 (by decide) (by decide) ?_
  rw [e8]
  exact ⟨rfl, K0, t5, _, E_a, FV, FC, V5, N0⟩
set_option maxRecDepth 65536 in
set_option maxHeartbeats 40000000 in
theorem rm3_5 (l : Launch) (Z : State) (a0 : Array Value) (hw : ∀ d ∈ tables_1, d.before a0 Z = true) (ws : List Jvm.Cond) (a : Addr) (ca : Addr) (cz : Int32) (kc : ClassId) (x0 x1 x2 x3 x4 : Int32) (h0 : Heap) (n0 : Nat) (Z0 : n0 ≤ h0.size) (S0 : Sta Z Z.heap "java/lang/String" "COMPACT_STRINGS" "Z" (.int cz)) (hcz : ¬ cz = (0 : Int32)) (O : Old Z n0 h0) (E_a : Exa Z h0 a "java/lang/String") (FV : Fld Z h0 a "java/lang/String" "value" "[B" .null) (FC : Fld Z h0 a "java/lang/String" "coder" "B" (.int 0)) (g_a : n0 ≤ a) (Vc : Arv Z h0 ca kc .char (5 : Int32) [(.int x0), (.int x1), (.int x2), (.int x3), (.int x4)] (.int (0 : Int32))) (q0_ : ¬ (255 : Int32) < x0) (q1_ : ¬ (255 : Int32) < x1) (q2_ : ¬ (255 : Int32) < x2) (q3_ : ¬ (255 : Int32) < x3) (q4_ : ¬ (255 : Int32) < x4) :
    Met1 l (⟨"java/lang/String", "<init>", "([C)V"⟩ : MethodName) jdk_42_method_3_code 2 none ws ({ frames := 3, cells := 1, slots := 5, locals := 55 } : Room) #[(.ref a), (.ref ca)] Z h0 (RN fun h L => Keep h0 h [a] ∧ ∃ tb kt, Exa Z h a "java/lang/String" ∧ Fld Z h a "java/lang/String" "value" "[B" (.ref tb) ∧ Fld Z h a "java/lang/String" "coder" "B" (.int 0) ∧ Arv Z h tb kt .byte (5 : Int32) [(.int (nar .byte x0.toInt8.toInt32)), (.int (nar .byte x1.toInt8.toInt32)), (.int (nar .byte x2.toInt8.toInt32)), (.int (nar .byte x3.toInt8.toInt32)), (.int (nar .byte x4.toInt8.toInt32))] (.int (0 : Int32)) ∧ Fr n0 L) := by
  refine met_of (plainFor_of_name pn_java_lang_String) ?_
  intro p e s m below meth c T0 X0 hx hby hml hZ hown hnm hret hlk e0 es
  have N0 := Fr.nil n0
  refine Gd.cast (ef_3_1 m a ca) ?_
  have K0 : Keep h0 h0 [a] := Keep.refl _ _
  refine g_aloadN X0 hx hby i3_0 rfl rfl ?_
  refine g_aloadN X0 hx hby i3_1 rfl rfl ?_
  refine g_iconst X0 hx hby i3_2 (z := (0 : Int32)) (by decide) ?_
  refine g_aloadN X0 hx hby i3_3 rfl rfl ?_
  refine g_arraylength X0 hx hby hZ e0 Vc i3_4 ?_
  refine g_aconst_null X0 hx hby i3_5 ?_
  refine g_callInit0 X0 hx hby hZ (y := (⟨"java/lang/String", "<init>", "([CIILjava/lang/Void;)V"⟩ : MethodName)) (argsL := [(.ref ca), (.int (0 : Int32)), (.int (5 : Int32)), .null]) (rest := []) rfl hown (hw _ (List.mem_of_getElem? (i := 14) rfl)) (hw _ (List.mem_of_getElem? (i := 15) rfl)) (hw _ (List.mem_of_getElem? (i := 9) rfl)) (hw _ (List.mem_of_getElem? (i := 17) rfl)) (by decide) (a := a) (rm4_5 l Z a0 hw [] a ca (0 : Int32) (5 : Int32) cz kc x0 x1 x2 x3 x4 h0 n0 Z0 S0 hcz O E_a FV FC g_a Vc rfl rfl q0_ q1_ q2_ q3_ q4_) e0 (by rw [hml]; rfl) pd_3 rfl rfl i3_6 (by decide) 0 rfl (by decide) (by decide) (by decide) fun T1 v1 L1 X1 q1 => ?_
  obtain ⟨rfl, K1, tb1, kt1, E1, FV1, FC1, V1, N1⟩ := q1
  have N0 := Fr.app N0 N1
  have K0 := K0.trans K1 (fun x hx => Or.inl hx)
  have E_a := E_a.keep K1
  have O := O.keep K1 (allS g_a all0)
  have Z0 : n0 ≤ T1.heap.size := Nat.le_trans Z0 K1.1
  show Gd p e below _ T1 (mkF m 9 #[.val (.ref a), .val (.ref ca)] [])
  refine g_return X1 hx hby hret hlk i3_9 (by decide) (by decide) ?_
  exact ⟨rfl, K0, tb1, _, E_a, FV1, FC1, V1, N0⟩
set_option maxRecDepth 65536 in
set_option maxHeartbeats 40000000 in
theorem rm11_6 (l : Launch) (Z : State) (a0 : Array Value) (hw : ∀ d ∈ tables_1, d.before a0 Z = true) (ws : List Jvm.Cond) (ca : Addr) (p1 : Int32) (d : Addr) (p3 : Int32) (p4 : Int32) (kc kd : ClassId) (x0 x1 x2 x3 x4 x5 : Int32) (h0 : Heap) (n0 : Nat) (Z0 : n0 ≤ h0.size) (Vc : Arv Z h0 ca kc .char (6 : Int32) [(.int x0), (.int x1), (.int x2), (.int x3), (.int x4), (.int x5)] (.int (0 : Int32))) (Vd : Arv Z h0 d kd .byte (6 : Int32) [(.int (0 : Int32)), (.int (0 : Int32)), (.int (0 : Int32)), (.int (0 : Int32)), (.int (0 : Int32)), (.int (0 : Int32))] (.int (0 : Int32))) (g_d : n0 ≤ d) (hcd : ca ≠ d) (hp1 : p1 = 0) (hp3 : p3 = 0) (hp4 : p4 = 6) (q0_ : ¬ (255 : Int32) < x0) (q1_ : ¬ (255 : Int32) < x1) (q2_ : ¬ (255 : Int32) < x2) (q3_ : ¬ (255 : Int32) < x3) (q4_ : ¬ (255 : Int32) < x4) (q5_ : ¬ (255 : Int32) < x5) :
    Met1 l (⟨"java/lang/StringUTF16", "compress", "([CI[BII)I"⟩ : MethodName) jdk_52_method_21_code 7 (some .int) ws ({ frames := 0, cells := 0, slots := 0, locals := 0 } : Room) #[(.ref ca), (.int p1), (.ref d), (.int p3), (.int p4)] Z h0 (RV fun vv h L => vv = .int 6 ∧ Keep h0 h [d] ∧ Arv Z h d kd .byte (6 : Int32) [(.int (nar .byte x0.toInt8.toInt32)), (.int (nar .byte x1.toInt8.toInt32)), (.int (nar .byte x2.toInt8.toInt32)), (.int (nar .byte x3.toInt8.toInt32)), (.int (nar .byte x4.toInt8.toInt32)), (.int (nar .byte x5.toInt8.toInt32))] (.int (0 : Int32)) ∧ Fr n0 L) := by
  refine met_of (plainFor_of_name pn_java_lang_StringUTF16) ?_
  intro p e s m below meth c T0 X0 hx hby hml hZ hown hnm hret hlk e0 es
  have N0 := Fr.nil n0
  refine Gd.cast (ef_11_1 m ca p1 d p3 p4) ?_
  subst hp1 hp3 hp4
  have K0 : Keep h0 h0 [d] := Keep.refl _ _
  refine g_iconst X0 hx hby i11_0 (z := (0 : Int32)) (by decide) ?_
  refine g_istore X0 hx hby i11_1 (l' := #[.val (.ref ca), .val (.int (0 : Int32)), .val (.ref d), .val (.int (0 : Int32)), .val (.int (6 : Int32)), .val (.int (0 : Int32)), .unset]) rfl ?_
  refine g_iload X0 hx hby i11_3 rfl ?_
  refine g_iload X0 hx hby i11_5 rfl ?_
  refine g_icmp_ge X0 hx hby i11_7 (fun c7_1 => False.elim (absurd c7_1 (by decide))) fun c7_1 => ?_
  refine g_aloadN X0 hx hby i11_10 rfl rfl ?_
  refine g_iloadN X0 hx hby i11_11 rfl ?_
  refine g_caload X0 hx hby hZ e0 Vc (i := 0) (by decide) (by decide) (by decide) rfl i11_12 ?_
  refine g_istore X0 hx hby i11_13 (l' := #[.val (.ref ca), .val (.int (0 : Int32)), .val (.ref d), .val (.int (0 : Int32)), .val (.int (6 : Int32)), .val (.int (0 : Int32)), .val (.int x0)]) rfl ?_
  refine g_iload X0 hx hby i11_15 rfl ?_
  refine g_sipush X0 hx hby i11_17 (z := (255 : Int32)) (by decide) ?_
  refine g_icmp_le X0 hx hby i11_20 (fun c20_2 => ?_) (fun c20_2 => False.elim (q0_ c20_2))
  refine g_aloadN X0 hx hby i11_26 rfl rfl ?_
  refine g_iloadN X0 hx hby i11_27 rfl ?_
  refine g_iload X0 hx hby i11_28 rfl ?_
  refine g_i2b X0 hx hby i11_30 ?_
  refine g_bastore X0 hx hby hZ e0 Vd (i := 0) (by decide) (by decide) (by decide) (Nat.le_of_ble_eq_true rfl) i11_31 fun T3 h3 X3 e3 W3 Vd => ?_
  have Vd : Arv Z h3 d kd .byte (6 : Int32) [(.int (nar .byte x0.toInt8.toInt32)), (.int (0 : Int32)), (.int (0 : Int32)), (.int (0 : Int32)), (.int (0 : Int32)), (.int (0 : Int32))] (.int (0 : Int32)) := Vd
  have Vc := Vc.other W3 hcd
  have Z0 : n0 ≤ h3.size := Nat.le_trans Z0 (Nat.le_of_eq W3.size.symm)
  have N0 := Fr.snoc X3 N0 g_d
  have K0 := K0.wr W3 (Or.inl (List.mem_singleton.mpr rfl))
  refine g_iinc X3 hx hby i11_32 rfl (z := (1 : Int32)) (by decide) (l' := #[.val (.ref ca), .val (.int (1 : Int32)), .val (.ref d), .val (.int (0 : Int32)), .val (.int (6 : Int32)), .val (.int (0 : Int32)), .val (.int x0)]) rfl ?_
  refine g_iinc X3 hx hby i11_35 rfl (z := (1 : Int32)) (by decide) (l' := #[.val (.ref ca), .val (.int (1 : Int32)), .val (.ref d), .val (.int (1 : Int32)), .val (.int (6 : Int32)), .val (.int (0 : Int32)), .val (.int x0)]) rfl ?_
  refine g_iinc X3 hx hby i11_38 rfl (z := (1 : Int32)) (by decide) (l' := #[.val (.ref ca), .val (.int (1 : Int32)), .val (.ref d), .val (.int (1 : Int32)), .val (.int (6 : Int32)), .val (.int (1 : Int32)), .val (.int x0)]) rfl ?_
  refine g_goto X3 hx hby i11_41 ?_
  refine g_iload X3 hx hby i11_3 rfl ?_
  refine g_iload X3 hx hby i11_5 rfl ?_
  refine g_icmp_ge X3 hx hby i11_7 (fun c7_4 => False.elim (absurd c7_4 (by decide))) fun c7_4 => ?_
  refine g_aloadN X3 hx hby i11_10 rfl rfl ?_
  refine g_iloadN X3 hx hby i11_11 rfl ?_
  refine g_caload X3 hx hby hZ e3 Vc (i := 1) (by decide) (by decide) (by decide) rfl i11_12 ?_
  refine g_istore X3 hx hby i11_13 (l' := #[.val (.ref ca), .val (.int (1 : Int32)), .val (.ref d), .val (.int (1 : Int32)), .val (.int (6 : Int32)), .val (.int (1 : Int32)), .val (.int x1)]) rfl ?_
  refine g_iload X3 hx hby i11_15 rfl ?_
  refine g_sipush X3 hx hby i11_17 (z := (255 : Int32)) (by decide) ?_
  refine g_icmp_le X3 hx hby i11_20 (fun c20_5 => ?_) (fun c20_5 => False.elim (q1_ c20_5))
  refine g_aloadN X3 hx hby i11_26 rfl rfl ?_
  refine g_iloadN X3 hx hby i11_27 rfl ?_
  refine g_iload X3 hx hby i11_28 rfl ?_
  refine g_i2b X3 hx hby i11_30 ?_
  refine g_bastore X3 hx hby hZ e3 Vd (i := 1) (by decide) (by decide) (by decide) (Nat.le_of_ble_eq_true rfl) i11_31 fun T6 h6 X6 e6 W6 Vd => ?_
  have Vd : Arv Z h6 d kd .byte (6 : Int32) [(.int (nar .byte x0.toInt8.toInt32)), (.int (nar .byte x1.toInt8.toInt32)), (.int (0 : Int32)), (.int (0 : Int32)), (.int (0 : Int32)), (.int (0 : Int32))] (.int (0 : Int32)) := Vd
  have Vc := Vc.other W6 hcd
  have Z0 : n0 ≤ h6.size := Nat.le_trans Z0 (Nat.le_of_eq W6.size.symm)
  have N0 := Fr.snoc X6 N0 g_d
  have K0 := K0.wr W6 (Or.inl (List.mem_singleton.mpr rfl))
  refine g_iinc X6 hx hby i11_32 rfl (z := (2 : Int32)) (by decide) (l' := #[.val (.ref ca), .val (.int (2 : Int32)), .val (.ref d), .val (.int (1 : Int32)), .val (.int (6 : Int32)), .val (.int (1 : Int32)), .val (.int x1)]) rfl ?_
  refine g_iinc X6 hx hby i11_35 rfl (z := (2 : Int32)) (by decide) (l' := #[.val (.ref ca), .val (.int (2 : Int32)), .val (.ref d), .val (.int (2 : Int32)), .val (.int (6 : Int32)), .val (.int (1 : Int32)), .val (.int x1)]) rfl ?_
  refine g_iinc X6 hx hby i11_38 rfl (z := (2 : Int32)) (by decide) (l' := #[.val (.ref ca), .val (.int (2 : Int32)), .val (.ref d), .val (.int (2 : Int32)), .val (.int (6 : Int32)), .val (.int (2 : Int32)), .val (.int x1)]) rfl ?_
  refine g_goto X6 hx hby i11_41 ?_
  refine g_iload X6 hx hby i11_3 rfl ?_
  refine g_iload X6 hx hby i11_5 rfl ?_
  refine g_icmp_ge X6 hx hby i11_7 (fun c7_7 => False.elim (absurd c7_7 (by decide))) fun c7_7 => ?_
  refine g_aloadN X6 hx hby i11_10 rfl rfl ?_
  refine g_iloadN X6 hx hby i11_11 rfl ?_
  refine g_caload X6 hx hby hZ e6 Vc (i := 2) (by decide) (by decide) (by decide) rfl i11_12 ?_
  refine g_istore X6 hx hby i11_13 (l' := #[.val (.ref ca), .val (.int (2 : Int32)), .val (.ref d), .val (.int (2 : Int32)), .val (.int (6 : Int32)), .val (.int (2 : Int32)), .val (.int x2)]) rfl ?_
  refine g_iload X6 hx hby i11_15 rfl ?_
  refine g_sipush X6 hx hby i11_17 (z := (255 : Int32)) (by decide) ?_
  refine g_icmp_le X6 hx hby i11_20 (fun c20_8 => ?_) (fun c20_8 => False.elim (q2_ c20_8))
  refine g_aloadN X6 hx hby i11_26 rfl rfl ?_
  refine g_iloadN X6 hx hby i11_27 rfl ?_
  refine g_iload X6 hx hby i11_28 rfl ?_
  refine g_i2b X6 hx hby i11_30 ?_
  refine g_bastore X6 hx hby hZ e6 Vd (i := 2) (by decide) (by decide) (by decide) (Nat.le_of_ble_eq_true rfl) i11_31 fun T9 h9 X9 e9 W9 Vd => ?_
  have Vd : Arv Z h9 d kd .byte (6 : Int32) [(.int (nar .byte x0.toInt8.toInt32)), (.int (nar .byte x1.toInt8.toInt32)), (.int (nar .byte x2.toInt8.toInt32)), (.int (0 : Int32)), (.int (0 : Int32)), (.int (0 : Int32))] (.int (0 : Int32)) := Vd
  have Vc := Vc.other W9 hcd
  have Z0 : n0 ≤ h9.size := Nat.le_trans Z0 (Nat.le_of_eq W9.size.symm)
  have N0 := Fr.snoc X9 N0 g_d
  have K0 := K0.wr W9 (Or.inl (List.mem_singleton.mpr rfl))
  refine g_iinc X9 hx hby i11_32 rfl (z := (3 : Int32)) (by decide) (l' := #[.val (.ref ca), .val (.int (3 : Int32)), .val (.ref d), .val (.int (2 : Int32)), .val (.int (6 : Int32)), .val (.int (2 : Int32)), .val (.int x2)]) rfl ?_
  refine g_iinc X9 hx hby i11_35 rfl (z := (3 : Int32)) (by decide) (l' := #[.val (.ref ca), .val (.int (3 : Int32)), .val (.ref d), .val (.int (3 : Int32)), .val (.int (6 : Int32)), .val (.int (2 : Int32)), .val (.int x2)]) rfl ?_
  refine g_iinc X9 hx hby i11_38 rfl (z := (3 : Int32)) (by decide) (l' := #[.val (.ref ca), .val (.int (3 : Int32)), .val (.ref d), .val (.int (3 : Int32)), .val (.int (6 : Int32)), .val (.int (3 : Int32)), .val (.int x2)]) rfl ?_
  refine g_goto X9 hx hby i11_41 ?_
  refine g_iload X9 hx hby i11_3 rfl ?_
  refine g_iload X9 hx hby i11_5 rfl ?_
  refine g_icmp_ge X9 hx hby i11_7 (fun c7_10 => False.elim (absurd c7_10 (by decide))) fun c7_10 => ?_
  refine g_aloadN X9 hx hby i11_10 rfl rfl ?_
  refine g_iloadN X9 hx hby i11_11 rfl ?_
  refine g_caload X9 hx hby hZ e9 Vc (i := 3) (by decide) (by decide) (by decide) rfl i11_12 ?_
  refine g_istore X9 hx hby i11_13 (l' := #[.val (.ref ca), .val (.int (3 : Int32)), .val (.ref d), .val (.int (3 : Int32)), .val (.int (6 : Int32)), .val (.int (3 : Int32)), .val (.int x3)]) rfl ?_
  refine g_iload X9 hx hby i11_15 rfl ?_
  refine g_sipush X9 hx hby i11_17 (z := (255 : Int32)) (by decide) ?_
  refine g_icmp_le X9 hx hby i11_20 (fun c20_11 => ?_) (fun c20_11 => False.elim (q3_ c20_11))
  refine g_aloadN X9 hx hby i11_26 rfl rfl ?_
  refine g_iloadN X9 hx hby i11_27 rfl ?_
  refine g_iload X9 hx hby i11_28 rfl ?_
  refine g_i2b X9 hx hby i11_30 ?_
  refine g_bastore X9 hx hby hZ e9 Vd (i := 3) (by decide) (by decide) (by decide) (Nat.le_of_ble_eq_true rfl) i11_31 fun T12 h12 X12 e12 W12 Vd => ?_
  have Vd : Arv Z h12 d kd .byte (6 : Int32) [(.int (nar .byte x0.toInt8.toInt32)), (.int (nar .byte x1.toInt8.toInt32)), (.int (nar .byte x2.toInt8.toInt32)), (.int (nar .byte x3.toInt8.toInt32)), (.int (0 : Int32)), (.int (0 : Int32))] (.int (0 : Int32)) := Vd
  have Vc := Vc.other W12 hcd
  have Z0 : n0 ≤ h12.size := Nat.le_trans Z0 (Nat.le_of_eq W12.size.symm)
  have N0 := Fr.snoc X12 N0 g_d
  have K0 := K0.wr W12 (Or.inl (List.mem_singleton.mpr rfl))
  refine g_iinc X12 hx hby i11_32 rfl (z := (4 : Int32)) (by decide) (l' := #[.val (.ref ca), .val (.int (4 : Int32)), .val (.ref d), .val (.int (3 : Int32)), .val (.int (6 : Int32)), .val (.int (3 : Int32)), .val (.int x3)]) rfl ?_
  refine g_iinc X12 hx hby i11_35 rfl (z := (4 : Int32)) (by decide) (l' := #[.val (.ref ca), .val (.int (4 : Int32)), .val (.ref d), .val (.int (4 : Int32)), .val (.int (6 : Int32)), .val (.int (3 : Int32)), .val (.int x3)]) rfl ?_
  refine g_iinc X12 hx hby i11_38 rfl (z := (4 : Int32)) (by decide) (l' := #[.val (.ref ca), .val (.int (4 : Int32)), .val (.ref d), .val (.int (4 : Int32)), .val (.int (6 : Int32)), .val (.int (4 : Int32)), .val (.int x3)]) rfl ?_
  refine g_goto X12 hx hby i11_41 ?_
  refine g_iload X12 hx hby i11_3 rfl ?_
  refine g_iload X12 hx hby i11_5 rfl ?_
  refine g_icmp_ge X12 hx hby i11_7 (fun c7_13 => False.elim (absurd c7_13 (by decide))) fun c7_13 => ?_
  refine g_aloadN X12 hx hby i11_10 rfl rfl ?_
  refine g_iloadN X12 hx hby i11_11 rfl ?_
  refine g_caload X12 hx hby hZ e12 Vc (i := 4) (by decide) (by decide) (by decide) rfl i11_12 ?_
  refine g_istore X12 hx hby i11_13 (l' := #[.val (.ref ca), .val (.int (4 : Int32)), .val (.ref d), .val (.int (4 : Int32)), .val (.int (6 : Int32)), .val (.int (4 : Int32)), .val (.int x4)]) rfl ?_
  refine g_iload X12 hx hby i11_15 rfl ?_
  refine g_sipush X12 hx hby i11_17 (z := (255 : Int32)) (by decide) ?_
  refine g_icmp_le X12 hx hby i11_20 (fun c20_14 => ?_) (fun c20_14 => False.elim (q4_ c20_14))
  refine g_aloadN X12 hx hby i11_26 rfl rfl ?_
  refine g_iloadN X12 hx hby i11_27 rfl ?_
  refine g_iload X12 hx hby i11_28 rfl ?_
  refine g_i2b X12 hx hby i11_30 ?_
  refine g_bastore X12 hx hby hZ e12 Vd (i := 4) (by decide) (by decide) (by decide) (Nat.le_of_ble_eq_true rfl) i11_31 fun T15 h15 X15 e15 W15 Vd => ?_
  have Vd : Arv Z h15 d kd .byte (6 : Int32) [(.int (nar .byte x0.toInt8.toInt32)), (.int (nar .byte x1.toInt8.toInt32)), (.int (nar .byte x2.toInt8.toInt32)), (.int (nar .byte x3.toInt8.toInt32)), (.int (nar .byte x4.toInt8.toInt32)), (.int (0 : Int32))] (.int (0 : Int32)) := Vd
  have Vc := Vc.other W15 hcd
  have Z0 : n0 ≤ h15.size := Nat.le_trans Z0 (Nat.le_of_eq W15.size.symm)
  have N0 := Fr.snoc X15 N0 g_d
  have K0 := K0.wr W15 (Or.inl (List.mem_singleton.mpr rfl))
  refine g_iinc X15 hx hby i11_32 rfl (z := (5 : Int32)) (by decide) (l' := #[.val (.ref ca), .val (.int (5 : Int32)), .val (.ref d), .val (.int (4 : Int32)), .val (.int (6 : Int32)), .val (.int (4 : Int32)), .val (.int x4)]) rfl ?_
  refine g_iinc X15 hx hby i11_35 rfl (z := (5 : Int32)) (by decide) (l' := #[.val (.ref ca), .val (.int (5 : Int32)), .val (.ref d), .val (.int (5 : Int32)), .val (.int (6 : Int32)), .val (.int (4 : Int32)), .val (.int x4)]) rfl ?_
  refine g_iinc X15 hx hby i11_38 rfl (z := (5 : Int32)) (by decide) (l' := #[.val (.ref ca), .val (.int (5 : Int32)), .val (.ref d), .val (.int (5 : Int32)), .val (.int (6 : Int32)), .val (.int (5 : Int32)), .val (.int x4)]) rfl ?_
  refine g_goto X15 hx hby i11_41 ?_
  refine g_iload X15 hx hby i11_3 rfl ?_
  refine g_iload X15 hx hby i11_5 rfl ?_
  refine g_icmp_ge X15 hx hby i11_7 (fun c7_16 => False.elim (absurd c7_16 (by decide))) fun c7_16 => ?_
  refine g_aloadN X15 hx hby i11_10 rfl rfl ?_
  refine g_iloadN X15 hx hby i11_11 rfl ?_
  refine g_caload X15 hx hby hZ e15 Vc (i := 5) (by decide) (by decide) (by decide) rfl i11_12 ?_
  refine g_istore X15 hx hby i11_13 (l' := #[.val (.ref ca), .val (.int (5 : Int32)), .val (.ref d), .val (.int (5 : Int32)), .val (.int (6 : Int32)), .val (.int (5 : Int32)), .val (.int x5)]) rfl ?_
  refine g_iload X15 hx hby i11_15 rfl ?_
  refine g_sipush X15 hx hby i11_17 (z := (255 : Int32)) (by decide) ?_
  refine g_icmp_le X15 hx hby i11_20 (fun c20_17 => ?_) (fun c20_17 => False.elim (q5_ c20_17))
  refine g_aloadN X15 hx hby i11_26 rfl rfl ?_
  refine g_iloadN X15 hx hby i11_27 rfl ?_
  refine g_iload X15 hx hby i11_28 rfl ?_
  refine g_i2b X15 hx hby i11_30 ?_
  refine g_bastore X15 hx hby hZ e15 Vd (i := 5) (by decide) (by decide) (by decide) (Nat.le_of_ble_eq_true rfl) i11_31 fun T18 h18 X18 e18 W18 Vd => ?_
  have Vd : Arv Z h18 d kd .byte (6 : Int32) [(.int (nar .byte x0.toInt8.toInt32)), (.int (nar .byte x1.toInt8.toInt32)), (.int (nar .byte x2.toInt8.toInt32)), (.int (nar .byte x3.toInt8.toInt32)), (.int (nar .byte x4.toInt8.toInt32)), (.int (nar .byte x5.toInt8.toInt32))] (.int (0 : Int32)) := Vd
  have Vc := Vc.other W18 hcd
  have Z0 : n0 ≤ h18.size := Nat.le_trans Z0 (Nat.le_of_eq W18.size.symm)
  have N0 := Fr.snoc X18 N0 g_d
  have K0 := K0.wr W18 (Or.inl (List.mem_singleton.mpr rfl))
  refine g_iinc X18 hx hby i11_32 rfl (z := (6 : Int32)) (by decide) (l' := #[.val (.ref ca), .val (.int (6 : Int32)), .val (.ref d), .val (.int (5 : Int32)), .val (.int (6 : Int32)), .val (.int (5 : Int32)), .val (.int x5)]) rfl ?_
  refine g_iinc X18 hx hby i11_35 rfl (z := (6 : Int32)) (by decide) (l' := #[.val (.ref ca), .val (.int (6 : Int32)), .val (.ref d), .val (.int (6 : Int32)), .val (.int (6 : Int32)), .val (.int (5 : Int32)), .val (.int x5)]) rfl ?_
  refine g_iinc X18 hx hby i11_38 rfl (z := (6 : Int32)) (by decide) (l' := #[.val (.ref ca), .val (.int (6 : Int32)), .val (.ref d), .val (.int (6 : Int32)), .val (.int (6 : Int32)), .val (.int (6 : Int32)), .val (.int x5)]) rfl ?_
  refine g_goto X18 hx hby i11_41 ?_
  refine g_iload X18 hx hby i11_3 rfl ?_
  refine g_iload X18 hx hby i11_5 rfl ?_
  refine g_icmp_ge X18 hx hby i11_7 (fun c7_19 => ?_) (fun c7_19 => False.elim (absurd c7_19 (by decide)))
  refine g_iload X18 hx hby i11_44 rfl ?_
  refine g_ireturn X18 hx hby hret hlk i11_46 (by decide) (by decide) ?_
  rw [e18]
  exact ⟨_, rfl, rfl, K0, Vd, N0⟩
set_option maxRecDepth 65536 in
set_option maxHeartbeats 40000000 in
theorem rm10_6 (l : Launch) (Z : State) (a0 : Array Value) (hw : ∀ d ∈ tables_1, d.before a0 Z = true) (ws : List Jvm.Cond) (ca : Addr) (p1 : Int32) (p2 : Int32) (kc : ClassId) (x0 x1 x2 x3 x4 x5 : Int32) (h0 : Heap) (n0 : Nat) (Z0 : n0 ≤ h0.size) (Vc : Arv Z h0 ca kc .char (6 : Int32) [(.int x0), (.int x1), (.int x2), (.int x3), (.int x4), (.int x5)] (.int (0 : Int32))) (hp1 : p1 = 0) (hp2 : p2 = 6) (q0_ : ¬ (255 : Int32) < x0) (q1_ : ¬ (255 : Int32) < x1) (q2_ : ¬ (255 : Int32) < x2) (q3_ : ¬ (255 : Int32) < x3) (q4_ : ¬ (255 : Int32) < x4) (q5_ : ¬ (255 : Int32) < x5) :
    Met1 l (⟨"java/lang/StringUTF16", "compress", "([CII)[B"⟩ : MethodName) jdk_52_method_16_code 6 (some (.array .byte)) ws ({ frames := 1, cells := 1, slots := 6, locals := 18 } : Room) #[(.ref ca), (.int p1), (.int p2)] Z h0 (RV fun vv h L => ∃ t kt, vv = .ref t ∧ Keep h0 h [] ∧ Arv Z h t kt .byte (6 : Int32) [(.int (nar .byte x0.toInt8.toInt32)), (.int (nar .byte x1.toInt8.toInt32)), (.int (nar .byte x2.toInt8.toInt32)), (.int (nar .byte x3.toInt8.toInt32)), (.int (nar .byte x4.toInt8.toInt32)), (.int (nar .byte x5.toInt8.toInt32))] (.int (0 : Int32)) ∧ n0 ≤ t ∧ h0.size ≤ t ∧ Fr n0 L) := by
  refine met_of (plainFor_of_name pn_java_lang_StringUTF16) ?_
  intro p e s m below meth c T0 X0 hx hby hml hZ hown hnm hret hlk e0 es
  have N0 := Fr.nil n0
  refine Gd.cast (ef_10_1 m ca p1 p2) ?_
  subst hp1 hp2
  have K0 : Keep h0 h0 [] := Keep.refl _ _
  refine g_iloadN X0 hx hby i10_0 rfl ?_
  refine g_newarray X0 hx hby hZ (ty := .byte) rfl (hw _ (List.mem_of_getElem? (i := 22) rfl)) e0 i10_1 (by decide) 6 (by decide) (by decide) (by decide) (by decide) fun T1 h1 b1 k1 X1 e1 E1 hb1 V1 => ?_
  have ne_ca_b1 : ca ≠ b1 := Nat.ne_of_lt (Nat.lt_of_lt_of_le Vc.lt (Nat.le_of_eq hb1.symm))
  have g_b1 : n0 ≤ b1 := Nat.le_trans Z0 (Nat.le_of_eq hb1.symm)
  have Vc := Vc.ext E1
  have sz_b1 : h0.size ≤ b1 := Nat.le_trans K0.1 (Nat.le_of_eq hb1.symm)
  have K0 := K0.ext E1
  have Z0 : n0 ≤ h1.size := Nat.le_trans Z0 E1.1
  have V1 : Arv Z h1 b1 k1 .byte (6 : Int32) [(.int (0 : Int32)), (.int (0 : Int32)), (.int (0 : Int32)), (.int (0 : Int32)), (.int (0 : Int32)), (.int (0 : Int32))] (.int (0 : Int32)) := V1.pad (pad_rep [] _ 6)
  refine g_astoreN X1 hx hby i10_3 rfl (l' := #[.val (.ref ca), .val (.int (0 : Int32)), .val (.int (6 : Int32)), .val (.ref b1), .unset, .unset]) rfl ?_
  refine g_aloadN X1 hx hby i10_4 rfl rfl ?_
  refine g_iloadN X1 hx hby i10_5 rfl ?_
  refine g_aloadN X1 hx hby i10_6 rfl rfl ?_
  refine g_iconst X1 hx hby i10_7 (z := (0 : Int32)) (by decide) ?_
  refine g_iloadN X1 hx hby i10_8 rfl ?_
  refine g_callS0 X1 hx hby hZ (y := (⟨"java/lang/StringUTF16", "compress", "([CI[BII)I"⟩ : MethodName)) (argsL := [(.ref ca), (.int (0 : Int32)), (.ref b1), (.int (0 : Int32)), (.int (6 : Int32))]) (rest := []) hown (hw _ (List.mem_of_getElem? (i := 67) rfl)) (hw _ (List.mem_of_getElem? (i := 68) rfl)) (hw _ (List.mem_of_getElem? (i := 65) rfl)) (hw _ (List.mem_of_getElem? (i := 69) rfl)) (by decide) (rm11_6 l Z a0 hw [] ca (0 : Int32) b1 (0 : Int32) (6 : Int32) kc k1 x0 x1 x2 x3 x4 x5 h1 n0 Z0 Vc V1 g_b1 ne_ca_b1 rfl rfl rfl q0_ q1_ q2_ q3_ q4_ q5_) e1 (by rw [hml]; rfl) pd_0 rfl rfl i10_9 (by decide) 0 rfl (by decide) (by decide) (by decide) fun T2 v2 L2 X2 q2 => ?_
  obtain ⟨_, rfl, rfl, K2, V2, N2⟩ := q2
  have N0 := Fr.app N0 N2
  have K0 := K0.trans K2 (fun x hx => Or.inr (by cases hx with | head => exact sz_b1 | tail _ q => cases q))
  have Vc := Vc.keep K2 (ninS ne_ca_b1 nin0)
  have Z0 : n0 ≤ T2.heap.size := Nat.le_trans Z0 K2.1
  show Gd p e below _ T2 (mkF m 12 #[.val (.ref ca), .val (.int (0 : Int32)), .val (.int (6 : Int32)), .val (.ref b1), .unset, .unset] [(.int (6 : Int32))])
  refine g_istore X2 hx hby i10_12 (l' := #[.val (.ref ca), .val (.int (0 : Int32)), .val (.int (6 : Int32)), .val (.ref b1), .val (.int (6 : Int32)), .unset]) rfl ?_
  refine g_iload X2 hx hby i10_14 rfl ?_
  refine g_iloadN X2 hx hby i10_16 rfl ?_
  refine g_icmp_eq X2 hx hby i10_17 (fun c17_3 => ?_) (fun c17_3 => False.elim (absurd c17_3 (by decide)))
  refine g_aloadN X2 hx hby i10_57 rfl rfl ?_
  refine g_areturn X2 hx hby hret rfl (fun _ => rfl) hlk rfl i10_58 (by decide) (by decide) ?_
  exact ⟨_, rfl, b1, _, rfl, K0, V2, g_b1, sz_b1, N0⟩
set_option maxRecDepth 65536 in
set_option maxHeartbeats 40000000 in
theorem rm4_6 (l : Launch) (Z : State) (a0 : Array Value) (hw : ∀ d ∈ tables_1, d.before a0 Z = true) (ws : List Jvm.Cond) (a : Addr) (ca : Addr) (p2 : Int32) (p3 : Int32) (cz : Int32) (kc : ClassId) (x0 x1 x2 x3 x4 x5 : Int32) (h0 : Heap) (n0 : Nat) (Z0 : n0 ≤ h0.size) (S0 : Sta Z Z.heap "java/lang/String" "COMPACT_STRINGS" "Z" (.int cz)) (hcz : ¬ cz = (0 : Int32)) (O : Old Z n0 h0) (E_a : Exa Z h0 a "java/lang/String") (FV : Fld Z h0 a "java/lang/String" "value" "[B" .null) (FC : Fld Z h0 a "java/lang/String" "coder" "B" (.int 0)) (g_a : n0 ≤ a) (Vc : Arv Z h0 ca kc .char (6 : Int32) [(.int x0), (.int x1), (.int x2), (.int x3), (.int x4), (.int x5)] (.int (0 : Int32))) (hp2 : p2 = 0) (hp3 : p3 = 6) (q0_ : ¬ (255 : Int32) < x0) (q1_ : ¬ (255 : Int32) < x1) (q2_ : ¬ (255 : Int32) < x2) (q3_ : ¬ (255 : Int32) < x3) (q4_ : ¬ (255 : Int32) < x4) (q5_ : ¬ (255 : Int32) < x5) :
    Met1 l (⟨"java/lang/String", "<init>", "([CIILjava/lang/Void;)V"⟩ : MethodName) jdk_42_method_149_code 6 none ws ({ frames := 2, cells := 1, slots := 6, locals := 36 } : Room) #[(.ref a), (.ref ca), (.int p2), (.int p3), .null] Z h0 (RN fun h L => Keep h0 h [a] ∧ ∃ tb kt, Exa Z h a "java/lang/String" ∧ Fld Z h a "java/lang/String" "value" "[B" (.ref tb) ∧ Fld Z h a "java/lang/String" "coder" "B" (.int 0) ∧ Arv Z h tb kt .byte (6 : Int32) [(.int (nar .byte x0.toInt8.toInt32)), (.int (nar .byte x1.toInt8.toInt32)), (.int (nar .byte x2.toInt8.toInt32)), (.int (nar .byte x3.toInt8.toInt32)), (.int (nar .byte x4.toInt8.toInt32)), (.int (nar .byte x5.toInt8.toInt32))] (.int (0 : Int32)) ∧ Fr n0 L) := by
  refine met_of (plainFor_of_name pn_java_lang_String) ?_
  intro p e s m below meth c T0 X0 hx hby hml hZ hown hnm hret hlk e0 es
  have N0 := Fr.nil n0
  refine Gd.cast (ef_4_1 m a ca p2 p3) ?_
  subst hp2 hp3
  have K0 : Keep h0 h0 [a] := Keep.refl _ _
  have n_a_ca : a ≠ ca := Exa.neArv E_a Vc (hw _ (List.mem_of_getElem? (i := 8) rfl))
  refine g_aloadN X0 hx hby i4_0 rfl rfl ?_
  refine g_objInit X0 hx hby hZ hown (hw _ (List.mem_of_getElem? (i := 18) rfl)) (hw _ (List.mem_of_getElem? (i := 19) rfl)) (hw _ (List.mem_of_getElem? (i := 20) rfl)) e0 (by rw [hml]; rfl) i4_1 0 rfl (by decide) (by decide) fun T1 X1 e1 => ?_
  refine g_iloadN X1 hx hby i4_4 rfl ?_
  refine g_if_ne X1 hx hby i4_5 (fun c5_2 => ?_) (fun c5_2 => False.elim (absurd c5_2 (by decide)))
  refine g_getstatic X1 hx hby hZ hown (host := "") (Or.inl (hw _ (List.mem_of_getElem? (i := 58) rfl))) Via.refl e1 (S0.ext O.2) i4_27 fun T3 X3 e3 => ?_
  refine g_if_eq X3 hx hby i4_30 (fun c30_4 => False.elim (hcz c30_4)) fun c30_4 => ?_
  refine g_aloadN X3 hx hby i4_33 rfl rfl ?_
  refine g_iloadN X3 hx hby i4_34 rfl ?_
  refine g_iloadN X3 hx hby i4_35 rfl ?_
  refine g_callS0 X3 hx hby hZ (y := (⟨"java/lang/StringUTF16", "compress", "([CII)[B"⟩ : MethodName)) (argsL := [(.ref ca), (.int (0 : Int32)), (.int (6 : Int32))]) (rest := []) hown (hw _ (List.mem_of_getElem? (i := 63) rfl)) (hw _ (List.mem_of_getElem? (i := 64) rfl)) (hw _ (List.mem_of_getElem? (i := 65) rfl)) (hw _ (List.mem_of_getElem? (i := 66) rfl)) (by decide) (rm10_6 l Z a0 hw [] ca (0 : Int32) (6 : Int32) kc x0 x1 x2 x3 x4 x5 h0 n0 Z0 Vc rfl rfl q0_ q1_ q2_ q3_ q4_ q5_) e3 (by rw [hml]; rfl) pd_1 rfl rfl i4_36 (by decide) 0 rfl (by decide) (by decide) (by decide) fun T5 v5 L5 X5 q5 => ?_
  obtain ⟨_, rfl, t5, kt5, rfl, K5, V5, g_t5, s5, N5⟩ := q5
  have N0 := Fr.app N0 N5
  have ne_a_t5 : a ≠ t5 := Nat.ne_of_lt (Nat.lt_of_lt_of_le E_a.lt s5)
  have ne_ca_t5 : ca ≠ t5 := Nat.ne_of_lt (Nat.lt_of_lt_of_le Vc.lt s5)
  have sz_t5 : h0.size ≤ t5 := Nat.le_trans K0.1 s5
  have K0 := K0.trans K5 (fun x hx => nomatch hx)
  have E_a := E_a.keep K5
  have FV := FV.keep K5 nin0
  have FC := FC.keep K5 nin0
  have Vc := Vc.keep K5 nin0
  have O := O.keep K5 all0
  have Z0 : n0 ≤ T5.heap.size := Nat.le_trans Z0 K5.1
  show Gd p e below _ T5 (mkF m 39 #[.val (.ref a), .val (.ref ca), .val (.int (0 : Int32)), .val (.int (6 : Int32)), .val .null, .unset] [(.ref t5)])
  refine g_astore X5 hx hby i4_39 rfl (l' := #[.val (.ref a), .val (.ref ca), .val (.int (0 : Int32)), .val (.int (6 : Int32)), .val .null, .val (.ref t5)]) rfl ?_
  refine g_aloadN X5 hx hby i4_41 rfl rfl ?_
  refine g_aload X5 hx hby i4_42 rfl rfl ?_
  refine g_iloadN X5 hx hby i4_44 rfl ?_
  refine g_callS0 X5 hx hby hZ (y := (⟨"java/lang/StringUTF16", "coderFromArrayLen", "([BI)B"⟩ : MethodName)) (argsL := [(.ref t5), (.int (6 : Int32))]) (rest := [(.ref a)]) hown (hw _ (List.mem_of_getElem? (i := 70) rfl)) (hw _ (List.mem_of_getElem? (i := 71) rfl)) (hw _ (List.mem_of_getElem? (i := 65) rfl)) (hw _ (List.mem_of_getElem? (i := 72) rfl)) (by decide) (rm12 l Z a0 hw [] t5 (6 : Int32) kt5 (6 : Int32) _ T5.heap n0 Z0 V5 rfl) rfl (by rw [hml]; rfl) pd_2 rfl rfl i4_45 (by decide) 1 rfl (by decide) (by decide) (by decide) fun T6 v6 L6 X6 q6 => ?_
  obtain ⟨_, rfl, rfl, e6, N6⟩ := q6
  have N0 := Fr.app N0 N6
  show Gd p e below _ T6 (mkF m 48 #[.val (.ref a), .val (.ref ca), .val (.int (0 : Int32)), .val (.int (6 : Int32)), .val .null, .val (.ref t5)] [(.int (0 : Int32)), (.ref a)])
  refine g_putfieldN X6 hx hby hZ hown (hw _ (List.mem_of_getElem? (i := 28) rfl)) Via.refl e6 FC E_a (Or.inr ⟨(hw _ (List.mem_of_getElem? (i := 24) rfl)), rfl, hnm⟩) (hw _ (List.mem_of_getElem? (i := 8) rfl)) (ty := .byte) (v' := (.int (nar .byte (0 : Int32)))) (by decide) rfl (fits_nar_byte _) i4_48 fun T7 h7 X7 e7 W7 => ?_
  have FC := FC.same W7
  have E_a := E_a.wr W7
  have FV := FV.other W7 (Or.inr (slot_ne (Or.inr (hw _ (List.mem_of_getElem? (i := 23) rfl))) (Or.inr (hw _ (List.mem_of_getElem? (i := 24) rfl))) (by decide) (t := (.array .byte)) (t' := .byte) (by decide) (by decide)))
  have Vc := Vc.other W7 (Ne.symm n_a_ca)
  have V5 := V5.other W7 (Ne.symm ne_a_t5)
  have O := O.wr W7 g_a
  have Z0 : n0 ≤ h7.size := Nat.le_trans Z0 (Nat.le_of_eq W7.size.symm)
  have N0 := Fr.snoc X7 N0 g_a
  have K0 := K0.wr W7 (Or.inl (List.mem_singleton.mpr rfl))
  refine g_aloadN X7 hx hby i4_51 rfl rfl ?_
  refine g_aload X7 hx hby i4_52 rfl rfl ?_
  refine g_putfield X7 hx hby hZ hown (host := "") (Or.inl (hw _ (List.mem_of_getElem? (i := 27) rfl))) Via.refl e7 FV E_a (Or.inr ⟨(hw _ (List.mem_of_getElem? (i := 23) rfl)), rfl, hnm⟩) (hw _ (List.mem_of_getElem? (i := 8) rfl)) (ty := (.array .byte)) (by decide) rfl rfl i4_54 fun T8 h8 X8 e8 W8 => ?_
  have FV := FV.same W8
  have E_a := E_a.wr W8
  have FC := FC.other W8 (Or.inr (slot_ne (Or.inr (hw _ (List.mem_of_getElem? (i := 24) rfl))) (Or.inr (hw _ (List.mem_of_getElem? (i := 23) rfl))) (by decide) (t := .byte) (t' := (.array .byte)) (by decide) (by decide)))
  have Vc := Vc.other W8 (Ne.symm n_a_ca)
  have V5 := V5.other W8 (Ne.symm ne_a_t5)
  have O := O.wr W8 g_a
  have Z0 : n0 ≤ h8.size := Nat.le_trans Z0 (Nat.le_of_eq W8.size.symm)
  have N0 := Fr.snoc X8 N0 g_a
  have K0 := K0.wr W8 (Or.inl (List.mem_singleton.mpr rfl))
  refine g_return X8 hx hby hret hlk i4_57 (by decide) (by decide) ?_
  rw [e8]
  exact ⟨rfl, K0, t5, _, E_a, FV, FC, V5, N0⟩
set_option maxRecDepth 65536 in
set_option maxHeartbeats 40000000 in
theorem rm3_6 (l : Launch) (Z : State) (a0 : Array Value) (hw : ∀ d ∈ tables_1, d.before a0 Z = true) (ws : List Jvm.Cond) (a : Addr) (ca : Addr) (cz : Int32) (kc : ClassId) (x0 x1 x2 x3 x4 x5 : Int32) (h0 : Heap) (n0 : Nat) (Z0 : n0 ≤ h0.size) (S0 : Sta Z Z.heap "java/lang/String" "COMPACT_STRINGS" "Z" (.int cz)) (hcz : ¬ cz = (0 : Int32)) (O : Old Z n0 h0) (E_a : Exa Z h0 a "java/lang/String") (FV : Fld Z h0 a "java/lang/String" "value" "[B" .null) (FC : Fld Z h0 a "java/lang/String" "coder" "B" (.int 0)) (g_a : n0 ≤ a) (Vc : Arv Z h0 ca kc .char (6 : Int32) [(.int x0), (.int x1), (.int x2), (.int x3), (.int x4), (.int x5)] (.int (0 : Int32))) (q0_ : ¬ (255 : Int32) < x0) (q1_ : ¬ (255 : Int32) < x1) (q2_ : ¬ (255 : Int32) < x2) (q3_ : ¬ (255 : Int32) < x3) (q4_ : ¬ (255 : Int32) < x4) (q5_ : ¬ (255 : Int32) < x5) :
    Met1 l (⟨"java/lang/String", "<init>", "([C)V"⟩ : MethodName) jdk_42_method_3_code 2 none ws ({ frames := 3, cells := 1, slots := 6, locals := 55 } : Room) #[(.ref a), (.ref ca)] Z h0 (RN fun h L => Keep h0 h [a] ∧ ∃ tb kt, Exa Z h a "java/lang/String" ∧ Fld Z h a "java/lang/String" "value" "[B" (.ref tb) ∧ Fld Z h a "java/lang/String" "coder" "B" (.int 0) ∧ Arv Z h tb kt .byte (6 : Int32) [(.int (nar .byte x0.toInt8.toInt32)), (.int (nar .byte x1.toInt8.toInt32)), (.int (nar .byte x2.toInt8.toInt32)), (.int (nar .byte x3.toInt8.toInt32)), (.int (nar .byte x4.toInt8.toInt32)), (.int (nar .byte x5.toInt8.toInt32))] (.int (0 : Int32)) ∧ Fr n0 L) := by
  refine met_of (plainFor_of_name pn_java_lang_String) ?_
  intro p e s m below meth c T0 X0 hx hby hml hZ hown hnm hret hlk e0 es
  have N0 := Fr.nil n0
  refine Gd.cast (ef_3_1 m a ca) ?_
  have K0 : Keep h0 h0 [a] := Keep.refl _ _
  refine g_aloadN X0 hx hby i3_0 rfl rfl ?_
  refine g_aloadN X0 hx hby i3_1 rfl rfl ?_
  refine g_iconst X0 hx hby i3_2 (z := (0 : Int32)) (by decide) ?_
  refine g_aloadN X0 hx hby i3_3 rfl rfl ?_
  refine g_arraylength X0 hx hby hZ e0 Vc i3_4 ?_
  refine g_aconst_null X0 hx hby i3_5 ?_
  refine g_callInit0 X0 hx hby hZ (y := (⟨"java/lang/String", "<init>", "([CIILjava/lang/Void;)V"⟩ : MethodName)) (argsL := [(.ref ca), (.int (0 : Int32)), (.int (6 : Int32)), .null]) (rest := []) rfl hown (hw _ (List.mem_of_getElem? (i := 14) rfl)) (hw _ (List.mem_of_getElem? (i := 15) rfl)) (hw _ (List.mem_of_getElem? (i := 9) rfl)) (hw _ (List.mem_of_getElem? (i := 17) rfl)) (by decide) (a := a) (rm4_6 l Z a0 hw [] a ca (0 : Int32) (6 : Int32) cz kc x0 x1 x2 x3 x4 x5 h0 n0 Z0 S0 hcz O E_a FV FC g_a Vc rfl rfl q0_ q1_ q2_ q3_ q4_ q5_) e0 (by rw [hml]; rfl) pd_3 rfl rfl i3_6 (by decide) 0 rfl (by decide) (by decide) (by decide) fun T1 v1 L1 X1 q1 => ?_
  obtain ⟨rfl, K1, tb1, kt1, E1, FV1, FC1, V1, N1⟩ := q1
  have N0 := Fr.app N0 N1
  have K0 := K0.trans K1 (fun x hx => Or.inl hx)
  have E_a := E_a.keep K1
  have O := O.keep K1 (allS g_a all0)
  have Z0 : n0 ≤ T1.heap.size := Nat.le_trans Z0 K1.1
  show Gd p e below _ T1 (mkF m 9 #[.val (.ref a), .val (.ref ca)] [])
  refine g_return X1 hx hby hret hlk i3_9 (by decide) (by decide) ?_
  exact ⟨rfl, K0, tb1, _, E_a, FV1, FC1, V1, N0⟩
set_option maxRecDepth 65536 in
set_option maxHeartbeats 40000000 in
theorem rm4_W (l : Launch) (Z : State) (a0 : Array Value) (hw : ∀ d ∈ tables_1, d.before a0 Z = true) (ws : List Jvm.Cond) (a : Addr) (ca : Addr) (p2 : Int32) (p3 : Int32) (cz : Int32) (kc : ClassId) (h0 : Heap) (n0 : Nat) (Z0 : n0 ≤ h0.size) (S0 : Sta Z Z.heap "java/lang/String" "COMPACT_STRINGS" "Z" (.int cz)) (hcz : ¬ cz = (0 : Int32)) (O : Old Z n0 h0) (E_a : Exa Z h0 a "java/lang/String") (FV : Fld Z h0 a "java/lang/String" "value" "[B" .null) (FC : Fld Z h0 a "java/lang/String" "coder" "B" (.int 0)) (g_a : n0 ≤ a) (hh : Jvm.Lit.constHeld Z "java/lang/String" 7) (hcw : Jvm.Lit.compactW.before a0 Z = true) (Vc : Arv Z h0 ca kc .char (0 : Int32) [] (.int (0 : Int32))) (hp2 : p2 = 0) (hp3 : p3 = 0) :
    Met1W l (⟨"java/lang/String", "<init>", "([CIILjava/lang/Void;)V"⟩ : MethodName) jdk_42_method_149_code 6 none ws ({ frames := 2, cells := 2, slots := 4, locals := 36 } : Room) #[(.ref a), (.ref ca), (.int p2), (.int p3), .null] Z h0 (RN fun h L => Keep h0 h [a] ∧ ∃ tb kt, Exa Z h a "java/lang/String" ∧ Fld Z h a "java/lang/String" "value" "[B" (.ref tb) ∧ Fld Z h a "java/lang/String" "coder" "B" (.int 0) ∧ Arv Z h tb kt .byte (0 : Int32) [] (.int (0 : Int32)) ∧ Fr n0 L) := by
  refine met_ofW (plainFor_of_name pn_java_lang_String) ?_
  intro p e s m below meth c T0 X0 hx hby hml hZ hown hnm hret hlk e0 es hI
  have N0 := Fr.nil n0
  refine Gd.cast (ef_4_1 m a ca p2 p3) ?_
  subst hp2 hp3
  have K0 : Keep h0 h0 [a] := Keep.refl _ _
  refine g_aloadN X0 hx hby i4_0 rfl rfl ?_
  refine g_objInit X0 hx hby hZ hown (hw _ (List.mem_of_getElem? (i := 18) rfl)) (hw _ (List.mem_of_getElem? (i := 19) rfl)) (hw _ (List.mem_of_getElem? (i := 20) rfl)) e0 (by rw [hml]; rfl) i4_1 0 rfl (by decide) (by decide) fun T1 X1 e1 => ?_
  refine g_iloadN X1 hx hby i4_4 rfl ?_
  refine g_if_ne X1 hx hby i4_5 (fun c5_2 => False.elim (absurd c5_2 (by decide))) fun c5_2 => ?_
  refine g_aloadN X1 hx hby i4_8 rfl rfl ?_
  have XR := X1.retabled X1.warmed.wide
  have IR : IB Z T1.vm [] := by obtain ⟨more, f1, f2⟩ := hI; exact ⟨more, (X1.warmed.interned_eq).trans f1, f2⟩
  refine g_ldcEmpty (s := s) XR hx hby (wtrans hZ X1.warmed) ((X1.warmed.wide.alike.findClass _ _).trans hown) (hw _ (List.mem_of_getElem? (i := 21) rfl)) (own_atoms hw) e1 (X1.warmed.since 0) (Nat.zero_le _) (by intro y hy; cases hy) (fun b cl q => by rw [es]; exact O.2.2 b cl q) IR hh hcw i4_9 (by decide) (by decide) fun la T3 h3 kk lb klb X3 e3 E3 hS Zk hZ hown EL FCL FVL VL LL => ?_
  have E_a := E_a.ext E3
  have FV := FV.ext E3
  have FC := FC.ext E3
  have O := O.ext E3
  have K0 := K0.ext E3
  have Z0 : n0 ≤ h3.size := Nat.le_trans Z0 E3.1
  have ne_la_a : la ≠ a := FVL.ne FV (by intro q; cases q)
  have ne_lb_a : lb ≠ a := Ne.symm (Exa.neArv E_a VL (hw _ (List.mem_of_getElem? (i := 8) rfl)))
  refine g_getfield X3 hx hby hZ hown (host := "") (Or.inl (hw _ (List.mem_of_getElem? (i := 27) rfl))) Via.refl e3 FVL i4_11 fun T4 X4 e4 => ?_
  refine g_putfield X4 hx hby hZ hown (host := "") (Or.inl (hw _ (List.mem_of_getElem? (i := 27) rfl))) Via.refl e4 FV E_a (Or.inr ⟨(hw _ (List.mem_of_getElem? (i := 23) rfl)), rfl, hnm⟩) (hw _ (List.mem_of_getElem? (i := 8) rfl)) (ty := (.array .byte)) (by decide) rfl rfl i4_14 fun T5 h5 X5 e5 W5 => ?_
  have FV := FV.same W5
  have E_a := E_a.wr W5
  have FC := FC.other W5 (Or.inr (slot_ne (Or.inr (hw _ (List.mem_of_getElem? (i := 24) rfl))) (Or.inr (hw _ (List.mem_of_getElem? (i := 23) rfl))) (by decide) (t := .byte) (t' := (.array .byte)) (by decide) (by decide)))
  have EL := EL.wr W5
  have FCL := FCL.other W5 (Or.inl ne_la_a)
  have FVL := FVL.other W5 (Or.inl ne_la_a)
  have VL := VL.other W5 ne_lb_a
  have O := O.wr W5 g_a
  have Zk : kk ≤ h5.size := Nat.le_trans Zk (Nat.le_of_eq W5.size.symm)
  have Z0 : n0 ≤ h5.size := Nat.le_trans Z0 (Nat.le_of_eq W5.size.symm)
  have N0 := Fr.snoc X5 N0 g_a
  have K0 := K0.wr W5 (Or.inl (List.mem_singleton.mpr rfl))
  refine g_aloadN X5 hx hby i4_17 rfl rfl ?_
  refine g_ldcAgain X5 hx hby hZ hown (hw _ (List.mem_of_getElem? (i := 21) rfl)) LL i4_18 ?_
  refine g_getfield X5 hx hby hZ hown (host := "") (Or.inl (hw _ (List.mem_of_getElem? (i := 28) rfl))) Via.refl e5 FCL i4_20 fun T7 X7 e7 => ?_
  refine g_putfieldN X7 hx hby hZ hown (hw _ (List.mem_of_getElem? (i := 28) rfl)) Via.refl e7 FC E_a (Or.inr ⟨(hw _ (List.mem_of_getElem? (i := 24) rfl)), rfl, hnm⟩) (hw _ (List.mem_of_getElem? (i := 8) rfl)) (ty := .byte) (v' := (.int (nar .byte (0 : Int32)))) (by decide) rfl (fits_nar_byte _) i4_23 fun T8 h8 X8 e8 W8 => ?_
  have FC := FC.same W8
  have E_a := E_a.wr W8
  have FV := FV.other W8 (Or.inr (slot_ne (Or.inr (hw _ (List.mem_of_getElem? (i := 23) rfl))) (Or.inr (hw _ (List.mem_of_getElem? (i := 24) rfl))) (by decide) (t := (.array .byte)) (t' := .byte) (by decide) (by decide)))
  have EL := EL.wr W8
  have FCL := FCL.other W8 (Or.inl ne_la_a)
  have FVL := FVL.other W8 (Or.inl ne_la_a)
  have VL := VL.other W8 ne_lb_a
  have O := O.wr W8 g_a
  have Zk : kk ≤ h8.size := Nat.le_trans Zk (Nat.le_of_eq W8.size.symm)
  have Z0 : n0 ≤ h8.size := Nat.le_trans Z0 (Nat.le_of_eq W8.size.symm)
  have N0 := Fr.snoc X8 N0 g_a
  have K0 := K0.wr W8 (Or.inl (List.mem_singleton.mpr rfl))
  refine g_returnW X8 hx hby hS (by rw [e8]; exact Zk) hret hlk i4_26 (by decide) (by decide) ?_
  rw [e8]
  exact ⟨rfl, K0, lb, _, E_a, FV, FC, VL, N0⟩
set_option maxRecDepth 65536 in
set_option maxHeartbeats 40000000 in
theorem rm3_W (l : Launch) (Z : State) (a0 : Array Value) (hw : ∀ d ∈ tables_1, d.before a0 Z = true) (ws : List Jvm.Cond) (a : Addr) (ca : Addr) (cz : Int32) (kc : ClassId) (h0 : Heap) (n0 : Nat) (Z0 : n0 ≤ h0.size) (S0 : Sta Z Z.heap "java/lang/String" "COMPACT_STRINGS" "Z" (.int cz)) (hcz : ¬ cz = (0 : Int32)) (O : Old Z n0 h0) (E_a : Exa Z h0 a "java/lang/String") (FV : Fld Z h0 a "java/lang/String" "value" "[B" .null) (FC : Fld Z h0 a "java/lang/String" "coder" "B" (.int 0)) (g_a : n0 ≤ a) (hh : Jvm.Lit.constHeld Z "java/lang/String" 7) (hcw : Jvm.Lit.compactW.before a0 Z = true) (Vc : Arv Z h0 ca kc .char (0 : Int32) [] (.int (0 : Int32))) :
    Met1W l (⟨"java/lang/String", "<init>", "([C)V"⟩ : MethodName) jdk_42_method_3_code 2 none ws ({ frames := 3, cells := 2, slots := 4, locals := 55 } : Room) #[(.ref a), (.ref ca)] Z h0 (RN fun h L => Keep h0 h [a] ∧ ∃ tb kt, Exa Z h a "java/lang/String" ∧ Fld Z h a "java/lang/String" "value" "[B" (.ref tb) ∧ Fld Z h a "java/lang/String" "coder" "B" (.int 0) ∧ Arv Z h tb kt .byte (0 : Int32) [] (.int (0 : Int32)) ∧ Fr n0 L) := by
  refine met_ofW (plainFor_of_name pn_java_lang_String) ?_
  intro p e s m below meth c T0 X0 hx hby hml hZ hown hnm hret hlk e0 es hI
  have N0 := Fr.nil n0
  refine Gd.cast (ef_3_1 m a ca) ?_
  have K0 : Keep h0 h0 [a] := Keep.refl _ _
  refine g_aloadN X0 hx hby i3_0 rfl rfl ?_
  refine g_aloadN X0 hx hby i3_1 rfl rfl ?_
  refine g_iconst X0 hx hby i3_2 (z := (0 : Int32)) (by decide) ?_
  refine g_aloadN X0 hx hby i3_3 rfl rfl ?_
  refine g_arraylength X0 hx hby hZ e0 Vc i3_4 ?_
  refine g_aconst_null X0 hx hby i3_5 ?_
  refine g_callInitW X0 hx hby hZ hI (y := (⟨"java/lang/String", "<init>", "([CIILjava/lang/Void;)V"⟩ : MethodName)) (argsL := [(.ref ca), (.int (0 : Int32)), (.int (0 : Int32)), .null]) (rest := []) rfl hown (hw _ (List.mem_of_getElem? (i := 14) rfl)) (hw _ (List.mem_of_getElem? (i := 15) rfl)) (hw _ (List.mem_of_getElem? (i := 9) rfl)) (hw _ (List.mem_of_getElem? (i := 17) rfl)) (by decide) (a := a) (rm4_W l Z a0 hw [] a ca (0 : Int32) (0 : Int32) cz kc h0 n0 Z0 S0 hcz O E_a FV FC g_a hh hcw Vc rfl rfl) e0 (by rw [hml]; rfl) pd_3 rfl rfl i3_6 (by decide) 0 rfl (by decide) (by decide) (by decide) fun T1 v1 L1 X1 hS hZ hown q1 => ?_
  obtain ⟨rfl, K1, tb1, kt1, E1, FV1, FC1, V1, N1⟩ := q1
  have N0 := Fr.app N0 N1
  have Zk : T1.heap.size ≤ T1.heap.size := Nat.le_refl _
  have K0 := K0.trans K1 (fun x hx => Or.inl hx)
  have E_a := E_a.keep K1
  have O := O.keep K1 (allS g_a all0)
  have Z0 : n0 ≤ T1.heap.size := Nat.le_trans Z0 K1.1
  show Gd p e below _ T1 (mkF m 9 #[.val (.ref a), .val (.ref ca)] [])
  refine g_returnW X1 hx hby hS Zk hret hlk i3_9 (by decide) (by decide) ?_
  exact ⟨rfl, K0, tb1, _, E_a, FV1, FC1, V1, N0⟩
theorem i1_0 : Ins1 method_3_code 0 (.iload_n 2) 1 1 := ⟨by decide +kernel, rfl⟩
theorem i1_1 : Ins1 method_3_code 1 (.iload_n 1) 1 2 := ⟨by decide +kernel, rfl⟩
theorem i1_2 : Ins1 method_3_code 2 (.ishr) 1 3 := ⟨by decide +kernel, rfl⟩
theorem i1_3 : Ins1 method_3_code 3 (.iconst 1) 1 4 := ⟨by decide +kernel, rfl⟩
theorem i1_4 : Ins1 method_3_code 4 (.iand) 1 5 := ⟨by decide +kernel, rfl⟩
theorem i1_5 : InsB method_3_code 5 (.ifCond .eq 6) 6 8 11 := ⟨by decide +kernel, rfl, by decide, by decide⟩
theorem i1_8 : Ins1 method_3_code 8 (.iload_n 3) 1 9 := ⟨by decide +kernel, rfl⟩
theorem i1_9 : Ins1 method_3_code 9 (.i2c) 1 10 := ⟨by decide +kernel, rfl⟩
theorem i1_10 : Ins1 method_3_code 10 (.ireturn) 1 11 := ⟨by decide +kernel, rfl⟩
theorem i1_11 : Ins1 method_3_code 11 (.iload_n 0) 1 12 := ⟨by decide +kernel, rfl⟩
theorem i1_12 : InsB method_3_code 12 (.ifCond .eq 21) 21 15 33 := ⟨by decide +kernel, rfl, by decide, by decide⟩
theorem i1_15 : Ins1 method_3_code 15 (.iload_n 1) 1 16 := ⟨by decide +kernel, rfl⟩
theorem i1_16 : InsB method_3_code 16 (.ifCond .ne 6) 6 19 22 := ⟨by decide +kernel, rfl, by decide, by decide⟩
theorem i1_19 : Ins1 method_3_code 19 (.bipush 112) 2 21 := ⟨by decide +kernel, rfl⟩
theorem i1_21 : Ins1 method_3_code 21 (.ireturn) 1 22 := ⟨by decide +kernel, rfl⟩
theorem i1_22 : Ins1 method_3_code 22 (.iload_n 1) 1 23 := ⟨by decide +kernel, rfl⟩
theorem i1_23 : Ins1 method_3_code 23 (.iconst 1) 1 24 := ⟨by decide +kernel, rfl⟩
theorem i1_24 : InsB method_3_code 24 (.if_icmp .ne 6) 6 27 30 := ⟨by decide +kernel, rfl, by decide, by decide⟩
theorem i1_27 : Ins1 method_3_code 27 (.bipush 98) 2 29 := ⟨by decide +kernel, rfl⟩
theorem i1_29 : Ins1 method_3_code 29 (.ireturn) 1 30 := ⟨by decide +kernel, rfl⟩
theorem i1_30 : Ins1 method_3_code 30 (.iload_n 3) 1 31 := ⟨by decide +kernel, rfl⟩
theorem i1_31 : Ins1 method_3_code 31 (.i2c) 1 32 := ⟨by decide +kernel, rfl⟩
theorem i1_32 : Ins1 method_3_code 32 (.ireturn) 1 33 := ⟨by decide +kernel, rfl⟩
theorem i1_33 : Ins1 method_3_code 33 (.iload_n 1) 1 34 := ⟨by decide +kernel, rfl⟩
theorem i1_34 : InsB method_3_code 34 (.ifCond .ne 6) 6 37 40 := ⟨by decide +kernel, rfl, by decide, by decide⟩
theorem i1_37 : Ins1 method_3_code 37 (.bipush 110) 2 39 := ⟨by decide +kernel, rfl⟩
theorem i1_39 : Ins1 method_3_code 39 (.ireturn) 1 40 := ⟨by decide +kernel, rfl⟩
theorem i1_40 : Ins1 method_3_code 40 (.iload_n 1) 1 41 := ⟨by decide +kernel, rfl⟩
theorem i1_41 : Ins1 method_3_code 41 (.iconst 1) 1 42 := ⟨by decide +kernel, rfl⟩
theorem i1_42 : InsB method_3_code 42 (.if_icmp .ne 6) 6 45 48 := ⟨by decide +kernel, rfl, by decide, by decide⟩
theorem i1_45 : Ins1 method_3_code 45 (.bipush 111) 2 47 := ⟨by decide +kernel, rfl⟩
theorem i1_47 : Ins1 method_3_code 47 (.ireturn) 1 48 := ⟨by decide +kernel, rfl⟩
theorem i1_48 : Ins1 method_3_code 48 (.iload_n 1) 1 49 := ⟨by decide +kernel, rfl⟩
theorem i1_49 : Ins1 method_3_code 49 (.iconst 2) 1 50 := ⟨by decide +kernel, rfl⟩
theorem i1_50 : InsB method_3_code 50 (.if_icmp .ne 6) 6 53 56 := ⟨by decide +kernel, rfl, by decide, by decide⟩
theorem i1_53 : Ins1 method_3_code 53 (.bipush 110) 2 55 := ⟨by decide +kernel, rfl⟩
theorem i1_55 : Ins1 method_3_code 55 (.ireturn) 1 56 := ⟨by decide +kernel, rfl⟩
theorem i1_56 : Ins1 method_3_code 56 (.iload_n 1) 1 57 := ⟨by decide +kernel, rfl⟩
theorem i1_57 : Ins1 method_3_code 57 (.iconst 3) 1 58 := ⟨by decide +kernel, rfl⟩
theorem i1_58 : InsB method_3_code 58 (.if_icmp .ne 6) 6 61 64 := ⟨by decide +kernel, rfl, by decide, by decide⟩
theorem i1_61 : Ins1 method_3_code 61 (.bipush 101) 2 63 := ⟨by decide +kernel, rfl⟩
theorem i1_63 : Ins1 method_3_code 63 (.ireturn) 1 64 := ⟨by decide +kernel, rfl⟩
theorem i1_64 : Ins1 method_3_code 64 (.iload_n 3) 1 65 := ⟨by decide +kernel, rfl⟩
theorem i1_65 : Ins1 method_3_code 65 (.i2c) 1 66 := ⟨by decide +kernel, rfl⟩
theorem i1_66 : Ins1 method_3_code 66 (.ireturn) 1 67 := ⟨by decide +kernel, rfl⟩
theorem pn_com_example_plantain_plantain_codec_ProfileNamedPinLaw : plainName "com/example/plantain/plantain/codec/ProfileNamedPinLaw" = true := by first | (simp [plainName, overriddenIn]; done) | decide +kernel
theorem ef_1 (m : MethodId) (p0 : Int32) (p1 : Int32) (p2 : Int32) (p3 : Int32) : entryFrame m #[(.int p0), (.int p1), (.int p2), (.int p3)] 4 = mkF m 0 #[.val (.int p0), .val (.int p1), .val (.int p2), .val (.int p3)] [] := by first | (simp [entryFrame, mkF, argsToLocals, Value.category]; done) | rfl
set_option maxRecDepth 65536 in
set_option maxHeartbeats 40000000 in
theorem rm1 (l : Launch) (Z : State) (a0 : Array Value) (hw : ∀ d ∈ tables_1, d.before a0 Z = true) (ws : List Jvm.Cond) (p0 : Int32) (p1 : Int32) (p2 : Int32) (p3 : Int32)  (h0 : Heap) (n0 : Nat) (Z0 : n0 ≤ h0.size) (hp : ∃ w : Int32, p3 = w &&& (255 : Int32)) :
    Met1 l (⟨"com/example/plantain/plantain/codec/ProfileNamedPinLaw", "pick", "(ZIII)C"⟩ : MethodName) method_3_code 4 (some .char) ws ({ frames := 0, cells := 0, slots := 0, locals := 0 } : Room) #[(.int p0), (.int p1), (.int p2), (.int p3)] Z h0 (RV fun vv h L => ∃ ch, vv = .int ch ∧ own_ch ch ∧ h = h0 ∧ Fr n0 L) := by
  refine met_of (plainFor_of_name pn_com_example_plantain_plantain_codec_ProfileNamedPinLaw) ?_
  intro p e s m below meth c T0 X0 hx hby hml hZ hown hnm hret hlk e0 es
  have N0 := Fr.nil n0
  refine Gd.cast (ef_1 m p0 p1 p2 p3) ?_
  refine g_iloadN X0 hx hby i1_0 rfl ?_
  refine g_iloadN X0 hx hby i1_1 rfl ?_
  refine g_ishr X0 hx hby i1_2 ?_
  refine g_iconst X0 hx hby i1_3 (z := (1 : Int32)) (by decide) ?_
  refine g_iand X0 hx hby i1_4 ?_
  refine g_if_eq X0 hx hby i1_5 (fun c5_1 => ?_) (fun c5_1 => ?_)
  · refine g_iloadN X0 hx hby i1_11 rfl ?_
    refine g_if_eq X0 hx hby i1_12 (fun c12_2 => ?_) (fun c12_2 => ?_)
    · refine g_iloadN X0 hx hby i1_33 rfl ?_
      refine g_if_ne X0 hx hby i1_34 (fun c34_3 => ?_) (fun c34_3 => ?_)
      · refine g_iloadN X0 hx hby i1_40 rfl ?_
        refine g_iconst X0 hx hby i1_41 (z := (1 : Int32)) (by decide) ?_
        refine g_icmp_ne X0 hx hby i1_42 (fun c42_4 => ?_) (fun c42_4 => ?_)
        · refine g_iloadN X0 hx hby i1_48 rfl ?_
          refine g_iconst X0 hx hby i1_49 (z := (2 : Int32)) (by decide) ?_
          refine g_icmp_ne X0 hx hby i1_50 (fun c50_5 => ?_) (fun c50_5 => ?_)
          · refine g_iloadN X0 hx hby i1_56 rfl ?_
            refine g_iconst X0 hx hby i1_57 (z := (3 : Int32)) (by decide) ?_
            refine g_icmp_ne X0 hx hby i1_58 (fun c58_6 => ?_) (fun c58_6 => ?_)
            · refine g_iloadN X0 hx hby i1_64 rfl ?_
              refine g_i2c X0 hx hby i1_65 ?_
              refine g_ireturnN X0 hx hby (ty := .char) hret (by simp) hlk i1_66 (by decide) (by decide) ?_
              exact ⟨_, rfl, _, rfl, own_chc hp, e0, N0⟩
            · refine g_bipush X0 hx hby i1_61 (z := (101 : Int32)) (by decide) ?_
              refine g_ireturnN X0 hx hby (ty := .char) hret (by simp) hlk i1_63 (by decide) (by decide) ?_
              exact ⟨_, rfl, _, rfl, ⟨⟨101, by decide⟩, by decide⟩, e0, N0⟩
          · refine g_bipush X0 hx hby i1_53 (z := (110 : Int32)) (by decide) ?_
            refine g_ireturnN X0 hx hby (ty := .char) hret (by simp) hlk i1_55 (by decide) (by decide) ?_
            exact ⟨_, rfl, _, rfl, ⟨⟨110, by decide⟩, by decide⟩, e0, N0⟩
        · refine g_bipush X0 hx hby i1_45 (z := (111 : Int32)) (by decide) ?_
          refine g_ireturnN X0 hx hby (ty := .char) hret (by simp) hlk i1_47 (by decide) (by decide) ?_
          exact ⟨_, rfl, _, rfl, ⟨⟨111, by decide⟩, by decide⟩, e0, N0⟩
      · refine g_bipush X0 hx hby i1_37 (z := (110 : Int32)) (by decide) ?_
        refine g_ireturnN X0 hx hby (ty := .char) hret (by simp) hlk i1_39 (by decide) (by decide) ?_
        exact ⟨_, rfl, _, rfl, ⟨⟨110, by decide⟩, by decide⟩, e0, N0⟩
    · refine g_iloadN X0 hx hby i1_15 rfl ?_
      refine g_if_ne X0 hx hby i1_16 (fun c16_7 => ?_) (fun c16_7 => ?_)
      · refine g_iloadN X0 hx hby i1_22 rfl ?_
        refine g_iconst X0 hx hby i1_23 (z := (1 : Int32)) (by decide) ?_
        refine g_icmp_ne X0 hx hby i1_24 (fun c24_8 => ?_) (fun c24_8 => ?_)
        · refine g_iloadN X0 hx hby i1_30 rfl ?_
          refine g_i2c X0 hx hby i1_31 ?_
          refine g_ireturnN X0 hx hby (ty := .char) hret (by simp) hlk i1_32 (by decide) (by decide) ?_
          exact ⟨_, rfl, _, rfl, own_chc hp, e0, N0⟩
        · refine g_bipush X0 hx hby i1_27 (z := (98 : Int32)) (by decide) ?_
          refine g_ireturnN X0 hx hby (ty := .char) hret (by simp) hlk i1_29 (by decide) (by decide) ?_
          exact ⟨_, rfl, _, rfl, ⟨⟨98, by decide⟩, by decide⟩, e0, N0⟩
      · refine g_bipush X0 hx hby i1_19 (z := (112 : Int32)) (by decide) ?_
        refine g_ireturnN X0 hx hby (ty := .char) hret (by simp) hlk i1_21 (by decide) (by decide) ?_
        exact ⟨_, rfl, _, rfl, ⟨⟨112, by decide⟩, by decide⟩, e0, N0⟩
  · refine g_iloadN X0 hx hby i1_8 rfl ?_
    refine g_i2c X0 hx hby i1_9 ?_
    refine g_ireturnN X0 hx hby (ty := .char) hret (by simp) hlk i1_10 (by decide) (by decide) ?_
    exact ⟨_, rfl, _, rfl, own_chc hp, e0, N0⟩
theorem i2_0 : Ins1 method_4_code 0 (.iload_n 0) 1 1 := ⟨by decide +kernel, rfl⟩
theorem i2_1 : InsB method_4_code 1 (.ifCond .ne 14) 14 4 15 := ⟨by decide +kernel, rfl, by decide, by decide⟩
theorem i2_4 : Ins1 method_4_code 4 (.new 30) 3 7 := ⟨by decide +kernel, rfl⟩
theorem i2_7 : Ins1 method_4_code 7 (.dup) 1 8 := ⟨by decide +kernel, rfl⟩
theorem i2_8 : Ins1 method_4_code 8 (.iconst 0) 1 9 := ⟨by decide +kernel, rfl⟩
theorem i2_9 : Ins1 method_4_code 9 (.newarray .char) 2 11 := ⟨by decide +kernel, rfl⟩
theorem i2_11 : Ins1 method_4_code 11 (.invokespecial 32) 3 14 := ⟨by decide +kernel, rfl⟩
theorem i2_14 : Ins1 method_4_code 14 (.areturn) 1 15 := ⟨by decide +kernel, rfl⟩
theorem i2_15 : Ins1 method_4_code 15 (.iload_n 0) 1 16 := ⟨by decide +kernel, rfl⟩
theorem i2_16 : Ins1 method_4_code 16 (.iconst 1) 1 17 := ⟨by decide +kernel, rfl⟩
theorem i2_17 : InsB method_4_code 17 (.if_icmp .ne 18) 18 20 35 := ⟨by decide +kernel, rfl, by decide, by decide⟩
theorem i2_20 : Ins1 method_4_code 20 (.new 30) 3 23 := ⟨by decide +kernel, rfl⟩
theorem i2_23 : Ins1 method_4_code 23 (.dup) 1 24 := ⟨by decide +kernel, rfl⟩
theorem i2_24 : Ins1 method_4_code 24 (.iconst 1) 1 25 := ⟨by decide +kernel, rfl⟩
theorem i2_25 : Ins1 method_4_code 25 (.newarray .char) 2 27 := ⟨by decide +kernel, rfl⟩
theorem i2_27 : Ins1 method_4_code 27 (.dup) 1 28 := ⟨by decide +kernel, rfl⟩
theorem i2_28 : Ins1 method_4_code 28 (.iconst 0) 1 29 := ⟨by decide +kernel, rfl⟩
theorem i2_29 : Ins1 method_4_code 29 (.iload_n 1) 1 30 := ⟨by decide +kernel, rfl⟩
theorem i2_30 : Ins1 method_4_code 30 (.castore) 1 31 := ⟨by decide +kernel, rfl⟩
theorem i2_31 : Ins1 method_4_code 31 (.invokespecial 32) 3 34 := ⟨by decide +kernel, rfl⟩
theorem i2_34 : Ins1 method_4_code 34 (.areturn) 1 35 := ⟨by decide +kernel, rfl⟩
theorem i2_35 : Ins1 method_4_code 35 (.iload_n 0) 1 36 := ⟨by decide +kernel, rfl⟩
theorem i2_36 : Ins1 method_4_code 36 (.iconst 2) 1 37 := ⟨by decide +kernel, rfl⟩
theorem i2_37 : InsB method_4_code 37 (.if_icmp .ne 22) 22 40 59 := ⟨by decide +kernel, rfl, by decide, by decide⟩
theorem i2_40 : Ins1 method_4_code 40 (.new 30) 3 43 := ⟨by decide +kernel, rfl⟩
theorem i2_43 : Ins1 method_4_code 43 (.dup) 1 44 := ⟨by decide +kernel, rfl⟩
theorem i2_44 : Ins1 method_4_code 44 (.iconst 2) 1 45 := ⟨by decide +kernel, rfl⟩
theorem i2_45 : Ins1 method_4_code 45 (.newarray .char) 2 47 := ⟨by decide +kernel, rfl⟩
theorem i2_47 : Ins1 method_4_code 47 (.dup) 1 48 := ⟨by decide +kernel, rfl⟩
theorem i2_48 : Ins1 method_4_code 48 (.iconst 0) 1 49 := ⟨by decide +kernel, rfl⟩
theorem i2_49 : Ins1 method_4_code 49 (.iload_n 1) 1 50 := ⟨by decide +kernel, rfl⟩
theorem i2_50 : Ins1 method_4_code 50 (.castore) 1 51 := ⟨by decide +kernel, rfl⟩
theorem i2_51 : Ins1 method_4_code 51 (.dup) 1 52 := ⟨by decide +kernel, rfl⟩
theorem i2_52 : Ins1 method_4_code 52 (.iconst 1) 1 53 := ⟨by decide +kernel, rfl⟩
theorem i2_53 : Ins1 method_4_code 53 (.iload_n 2) 1 54 := ⟨by decide +kernel, rfl⟩
theorem i2_54 : Ins1 method_4_code 54 (.castore) 1 55 := ⟨by decide +kernel, rfl⟩
theorem i2_55 : Ins1 method_4_code 55 (.invokespecial 32) 3 58 := ⟨by decide +kernel, rfl⟩
theorem i2_58 : Ins1 method_4_code 58 (.areturn) 1 59 := ⟨by decide +kernel, rfl⟩
theorem i2_59 : Ins1 method_4_code 59 (.iload_n 0) 1 60 := ⟨by decide +kernel, rfl⟩
theorem i2_60 : Ins1 method_4_code 60 (.iconst 3) 1 61 := ⟨by decide +kernel, rfl⟩
theorem i2_61 : InsB method_4_code 61 (.if_icmp .ne 26) 26 64 87 := ⟨by decide +kernel, rfl, by decide, by decide⟩
theorem i2_64 : Ins1 method_4_code 64 (.new 30) 3 67 := ⟨by decide +kernel, rfl⟩
theorem i2_67 : Ins1 method_4_code 67 (.dup) 1 68 := ⟨by decide +kernel, rfl⟩
theorem i2_68 : Ins1 method_4_code 68 (.iconst 3) 1 69 := ⟨by decide +kernel, rfl⟩
theorem i2_69 : Ins1 method_4_code 69 (.newarray .char) 2 71 := ⟨by decide +kernel, rfl⟩
theorem i2_71 : Ins1 method_4_code 71 (.dup) 1 72 := ⟨by decide +kernel, rfl⟩
theorem i2_72 : Ins1 method_4_code 72 (.iconst 0) 1 73 := ⟨by decide +kernel, rfl⟩
theorem i2_73 : Ins1 method_4_code 73 (.iload_n 1) 1 74 := ⟨by decide +kernel, rfl⟩
theorem i2_74 : Ins1 method_4_code 74 (.castore) 1 75 := ⟨by decide +kernel, rfl⟩
theorem i2_75 : Ins1 method_4_code 75 (.dup) 1 76 := ⟨by decide +kernel, rfl⟩
theorem i2_76 : Ins1 method_4_code 76 (.iconst 1) 1 77 := ⟨by decide +kernel, rfl⟩
theorem i2_77 : Ins1 method_4_code 77 (.iload_n 2) 1 78 := ⟨by decide +kernel, rfl⟩
theorem i2_78 : Ins1 method_4_code 78 (.castore) 1 79 := ⟨by decide +kernel, rfl⟩
theorem i2_79 : Ins1 method_4_code 79 (.dup) 1 80 := ⟨by decide +kernel, rfl⟩
theorem i2_80 : Ins1 method_4_code 80 (.iconst 2) 1 81 := ⟨by decide +kernel, rfl⟩
theorem i2_81 : Ins1 method_4_code 81 (.iload_n 3) 1 82 := ⟨by decide +kernel, rfl⟩
theorem i2_82 : Ins1 method_4_code 82 (.castore) 1 83 := ⟨by decide +kernel, rfl⟩
theorem i2_83 : Ins1 method_4_code 83 (.invokespecial 32) 3 86 := ⟨by decide +kernel, rfl⟩
theorem i2_86 : Ins1 method_4_code 86 (.areturn) 1 87 := ⟨by decide +kernel, rfl⟩
theorem i2_87 : Ins1 method_4_code 87 (.iload_n 0) 1 88 := ⟨by decide +kernel, rfl⟩
theorem i2_88 : Ins1 method_4_code 88 (.iconst 4) 1 89 := ⟨by decide +kernel, rfl⟩
theorem i2_89 : InsB method_4_code 89 (.if_icmp .ne 31) 31 92 120 := ⟨by decide +kernel, rfl, by decide, by decide⟩
theorem i2_92 : Ins1 method_4_code 92 (.new 30) 3 95 := ⟨by decide +kernel, rfl⟩
theorem i2_95 : Ins1 method_4_code 95 (.dup) 1 96 := ⟨by decide +kernel, rfl⟩
theorem i2_96 : Ins1 method_4_code 96 (.iconst 4) 1 97 := ⟨by decide +kernel, rfl⟩
theorem i2_97 : Ins1 method_4_code 97 (.newarray .char) 2 99 := ⟨by decide +kernel, rfl⟩
theorem i2_99 : Ins1 method_4_code 99 (.dup) 1 100 := ⟨by decide +kernel, rfl⟩
theorem i2_100 : Ins1 method_4_code 100 (.iconst 0) 1 101 := ⟨by decide +kernel, rfl⟩
theorem i2_101 : Ins1 method_4_code 101 (.iload_n 1) 1 102 := ⟨by decide +kernel, rfl⟩
theorem i2_102 : Ins1 method_4_code 102 (.castore) 1 103 := ⟨by decide +kernel, rfl⟩
theorem i2_103 : Ins1 method_4_code 103 (.dup) 1 104 := ⟨by decide +kernel, rfl⟩
theorem i2_104 : Ins1 method_4_code 104 (.iconst 1) 1 105 := ⟨by decide +kernel, rfl⟩
theorem i2_105 : Ins1 method_4_code 105 (.iload_n 2) 1 106 := ⟨by decide +kernel, rfl⟩
theorem i2_106 : Ins1 method_4_code 106 (.castore) 1 107 := ⟨by decide +kernel, rfl⟩
theorem i2_107 : Ins1 method_4_code 107 (.dup) 1 108 := ⟨by decide +kernel, rfl⟩
theorem i2_108 : Ins1 method_4_code 108 (.iconst 2) 1 109 := ⟨by decide +kernel, rfl⟩
theorem i2_109 : Ins1 method_4_code 109 (.iload_n 3) 1 110 := ⟨by decide +kernel, rfl⟩
theorem i2_110 : Ins1 method_4_code 110 (.castore) 1 111 := ⟨by decide +kernel, rfl⟩
theorem i2_111 : Ins1 method_4_code 111 (.dup) 1 112 := ⟨by decide +kernel, rfl⟩
theorem i2_112 : Ins1 method_4_code 112 (.iconst 3) 1 113 := ⟨by decide +kernel, rfl⟩
theorem i2_113 : Ins1 method_4_code 113 (.iload 4) 2 115 := ⟨by decide +kernel, rfl⟩
theorem i2_115 : Ins1 method_4_code 115 (.castore) 1 116 := ⟨by decide +kernel, rfl⟩
theorem i2_116 : Ins1 method_4_code 116 (.invokespecial 32) 3 119 := ⟨by decide +kernel, rfl⟩
theorem i2_119 : Ins1 method_4_code 119 (.areturn) 1 120 := ⟨by decide +kernel, rfl⟩
theorem i2_120 : Ins1 method_4_code 120 (.iload_n 0) 1 121 := ⟨by decide +kernel, rfl⟩
theorem i2_121 : Ins1 method_4_code 121 (.iconst 5) 1 122 := ⟨by decide +kernel, rfl⟩
theorem i2_122 : InsB method_4_code 122 (.if_icmp .ne 36) 36 125 158 := ⟨by decide +kernel, rfl, by decide, by decide⟩
theorem i2_125 : Ins1 method_4_code 125 (.new 30) 3 128 := ⟨by decide +kernel, rfl⟩
theorem i2_128 : Ins1 method_4_code 128 (.dup) 1 129 := ⟨by decide +kernel, rfl⟩
theorem i2_129 : Ins1 method_4_code 129 (.iconst 5) 1 130 := ⟨by decide +kernel, rfl⟩
theorem i2_130 : Ins1 method_4_code 130 (.newarray .char) 2 132 := ⟨by decide +kernel, rfl⟩
theorem i2_132 : Ins1 method_4_code 132 (.dup) 1 133 := ⟨by decide +kernel, rfl⟩
theorem i2_133 : Ins1 method_4_code 133 (.iconst 0) 1 134 := ⟨by decide +kernel, rfl⟩
theorem i2_134 : Ins1 method_4_code 134 (.iload_n 1) 1 135 := ⟨by decide +kernel, rfl⟩
theorem i2_135 : Ins1 method_4_code 135 (.castore) 1 136 := ⟨by decide +kernel, rfl⟩
theorem i2_136 : Ins1 method_4_code 136 (.dup) 1 137 := ⟨by decide +kernel, rfl⟩
theorem i2_137 : Ins1 method_4_code 137 (.iconst 1) 1 138 := ⟨by decide +kernel, rfl⟩
theorem i2_138 : Ins1 method_4_code 138 (.iload_n 2) 1 139 := ⟨by decide +kernel, rfl⟩
theorem i2_139 : Ins1 method_4_code 139 (.castore) 1 140 := ⟨by decide +kernel, rfl⟩
theorem i2_140 : Ins1 method_4_code 140 (.dup) 1 141 := ⟨by decide +kernel, rfl⟩
theorem i2_141 : Ins1 method_4_code 141 (.iconst 2) 1 142 := ⟨by decide +kernel, rfl⟩
theorem i2_142 : Ins1 method_4_code 142 (.iload_n 3) 1 143 := ⟨by decide +kernel, rfl⟩
theorem i2_143 : Ins1 method_4_code 143 (.castore) 1 144 := ⟨by decide +kernel, rfl⟩
theorem i2_144 : Ins1 method_4_code 144 (.dup) 1 145 := ⟨by decide +kernel, rfl⟩
theorem i2_145 : Ins1 method_4_code 145 (.iconst 3) 1 146 := ⟨by decide +kernel, rfl⟩
theorem i2_146 : Ins1 method_4_code 146 (.iload 4) 2 148 := ⟨by decide +kernel, rfl⟩
theorem i2_148 : Ins1 method_4_code 148 (.castore) 1 149 := ⟨by decide +kernel, rfl⟩
theorem i2_149 : Ins1 method_4_code 149 (.dup) 1 150 := ⟨by decide +kernel, rfl⟩
theorem i2_150 : Ins1 method_4_code 150 (.iconst 4) 1 151 := ⟨by decide +kernel, rfl⟩
theorem i2_151 : Ins1 method_4_code 151 (.iload 5) 2 153 := ⟨by decide +kernel, rfl⟩
theorem i2_153 : Ins1 method_4_code 153 (.castore) 1 154 := ⟨by decide +kernel, rfl⟩
theorem i2_154 : Ins1 method_4_code 154 (.invokespecial 32) 3 157 := ⟨by decide +kernel, rfl⟩
theorem i2_157 : Ins1 method_4_code 157 (.areturn) 1 158 := ⟨by decide +kernel, rfl⟩
theorem i2_158 : Ins1 method_4_code 158 (.new 30) 3 161 := ⟨by decide +kernel, rfl⟩
theorem i2_161 : Ins1 method_4_code 161 (.dup) 1 162 := ⟨by decide +kernel, rfl⟩
theorem i2_162 : Ins1 method_4_code 162 (.bipush 6) 2 164 := ⟨by decide +kernel, rfl⟩
theorem i2_164 : Ins1 method_4_code 164 (.newarray .char) 2 166 := ⟨by decide +kernel, rfl⟩
theorem i2_166 : Ins1 method_4_code 166 (.dup) 1 167 := ⟨by decide +kernel, rfl⟩
theorem i2_167 : Ins1 method_4_code 167 (.iconst 0) 1 168 := ⟨by decide +kernel, rfl⟩
theorem i2_168 : Ins1 method_4_code 168 (.iload_n 1) 1 169 := ⟨by decide +kernel, rfl⟩
theorem i2_169 : Ins1 method_4_code 169 (.castore) 1 170 := ⟨by decide +kernel, rfl⟩
theorem i2_170 : Ins1 method_4_code 170 (.dup) 1 171 := ⟨by decide +kernel, rfl⟩
theorem i2_171 : Ins1 method_4_code 171 (.iconst 1) 1 172 := ⟨by decide +kernel, rfl⟩
theorem i2_172 : Ins1 method_4_code 172 (.iload_n 2) 1 173 := ⟨by decide +kernel, rfl⟩
theorem i2_173 : Ins1 method_4_code 173 (.castore) 1 174 := ⟨by decide +kernel, rfl⟩
theorem i2_174 : Ins1 method_4_code 174 (.dup) 1 175 := ⟨by decide +kernel, rfl⟩
theorem i2_175 : Ins1 method_4_code 175 (.iconst 2) 1 176 := ⟨by decide +kernel, rfl⟩
theorem i2_176 : Ins1 method_4_code 176 (.iload_n 3) 1 177 := ⟨by decide +kernel, rfl⟩
theorem i2_177 : Ins1 method_4_code 177 (.castore) 1 178 := ⟨by decide +kernel, rfl⟩
theorem i2_178 : Ins1 method_4_code 178 (.dup) 1 179 := ⟨by decide +kernel, rfl⟩
theorem i2_179 : Ins1 method_4_code 179 (.iconst 3) 1 180 := ⟨by decide +kernel, rfl⟩
theorem i2_180 : Ins1 method_4_code 180 (.iload 4) 2 182 := ⟨by decide +kernel, rfl⟩
theorem i2_182 : Ins1 method_4_code 182 (.castore) 1 183 := ⟨by decide +kernel, rfl⟩
theorem i2_183 : Ins1 method_4_code 183 (.dup) 1 184 := ⟨by decide +kernel, rfl⟩
theorem i2_184 : Ins1 method_4_code 184 (.iconst 4) 1 185 := ⟨by decide +kernel, rfl⟩
theorem i2_185 : Ins1 method_4_code 185 (.iload 5) 2 187 := ⟨by decide +kernel, rfl⟩
theorem i2_187 : Ins1 method_4_code 187 (.castore) 1 188 := ⟨by decide +kernel, rfl⟩
theorem i2_188 : Ins1 method_4_code 188 (.dup) 1 189 := ⟨by decide +kernel, rfl⟩
theorem i2_189 : Ins1 method_4_code 189 (.iconst 5) 1 190 := ⟨by decide +kernel, rfl⟩
theorem i2_190 : Ins1 method_4_code 190 (.iload 6) 2 192 := ⟨by decide +kernel, rfl⟩
theorem i2_192 : Ins1 method_4_code 192 (.castore) 1 193 := ⟨by decide +kernel, rfl⟩
theorem i2_193 : Ins1 method_4_code 193 (.invokespecial 32) 3 196 := ⟨by decide +kernel, rfl⟩
theorem i2_196 : Ins1 method_4_code 196 (.areturn) 1 197 := ⟨by decide +kernel, rfl⟩
theorem ef_2_0 (m : MethodId) (p0 : Int32) (p1 : Int32) (p2 : Int32) (p3 : Int32) (p4 : Int32) (p5 : Int32) (p6 : Int32) : entryFrame m #[(.int p0), (.int p1), (.int p2), (.int p3), (.int p4), (.int p5), (.int p6)] 7 = mkF m 0 #[.val (.int p0), .val (.int p1), .val (.int p2), .val (.int p3), .val (.int p4), .val (.int p5), .val (.int p6)] [] := by first | (simp [entryFrame, mkF, argsToLocals, Value.category]; done) | rfl
theorem pd_4 : parseMethodDescriptor "([C)V" = some ⟨[(.array .char)], none⟩ := by decide +kernel
set_option maxRecDepth 65536 in
set_option maxHeartbeats 40000000 in
theorem rm2_0 (l : Launch) (Z : State) (a0 : Array Value) (hw : ∀ d ∈ tables_1, d.before a0 Z = true) (ws : List Jvm.Cond) (p0 : Int32) (p1 : Int32) (p2 : Int32) (p3 : Int32) (p4 : Int32) (p5 : Int32) (p6 : Int32) (cz : Int32)  (h0 : Heap) (n0 : Nat) (Z0 : n0 ≤ h0.size) (S0 : Sta Z Z.heap "java/lang/String" "COMPACT_STRINGS" "Z" (.int cz)) (hcz : ¬ cz = (0 : Int32)) (O : Old Z n0 h0) (hh : Jvm.Lit.constHeld Z "java/lang/String" 7) (hcw : Jvm.Lit.compactW.before a0 Z = true) (hp0 : p0 = 0) (hp1 : own_ch p1) (hp2 : own_ch p2) (hp3 : own_ch p3) (hp4 : own_ch p4) (hp5 : own_ch p5) (hp6 : own_ch p6) :
    Met1W l (⟨"com/example/plantain/plantain/codec/ProfileNamedPinLaw", "make", "(ICCCCCC)Ljava/lang/String;"⟩ : MethodName) method_4_code 7 (some (.object "java/lang/String")) ws ({ frames := 4, cells := 4, slots := 16, locals := 70 } : Room) #[(.int p0), (.int p1), (.int p2), (.int p3), (.int p4), (.int p5), (.int p6)] Z h0 (RV fun vv h L => ∃ a tb kt, vv = .ref a ∧ Keep h0 h [] ∧ Exa Z h a "java/lang/String" ∧ Fld Z h a "java/lang/String" "value" "[B" (.ref tb) ∧ Fld Z h a "java/lang/String" "coder" "B" (.int 0) ∧ Arv Z h tb kt .byte (0 : Int32) [] (.int (0 : Int32)) ∧ h0.size ≤ a ∧ Fr n0 L) := by
  refine met_ofW (plainFor_of_name pn_com_example_plantain_plantain_codec_ProfileNamedPinLaw) ?_
  intro p e s m below meth c T0 X0 hx hby hml hZ hown hnm hret hlk e0 es hI
  have N0 := Fr.nil n0
  refine Gd.cast (ef_2_0 m p0 p1 p2 p3 p4 p5 p6) ?_
  subst hp0
  have K0 : Keep h0 h0 [] := Keep.refl _ _
  refine g_iloadN X0 hx hby i2_0 rfl ?_
  refine g_if_ne X0 hx hby i2_1 (fun c1_1 => False.elim (absurd c1_1 (by decide))) fun c1_1 => ?_
  refine g_new X0 hx hby hZ hown (hw _ (List.mem_of_getElem? (i := 7) rfl)) (hw _ (List.mem_of_getElem? (i := 8) rfl)) (hw _ (List.mem_of_getElem? (i := 9) rfl)) e0 i2_4 (by decide) (by decide) fun T2 h2 b2 X2 e2 E2 hb2 A2 D2 => ?_
  have g_b2 : n0 ≤ b2 := Nat.le_trans Z0 (Nat.le_of_eq hb2.symm)
  have O := O.ext E2
  have sz_b2 : h0.size ≤ b2 := Nat.le_trans K0.1 (Nat.le_of_eq hb2.symm)
  have K0 := K0.ext E2
  have Z0 : n0 ≤ h2.size := Nat.le_trans Z0 E2.1
  have F2_value : Fld Z h2 b2 "java/lang/String" "value" "[B" .null := D2 (Or.inr (hw _ (List.mem_of_getElem? (i := 23) rfl))) (ty := (.array .byte)) (by decide)
  have F2_coder : Fld Z h2 b2 "java/lang/String" "coder" "B" (.int (0 : Int32)) := D2 (Or.inr (hw _ (List.mem_of_getElem? (i := 24) rfl))) (ty := .byte) (by decide)
  refine g_dup X2 hx hby i2_7 rfl ?_
  refine g_iconst X2 hx hby i2_8 (z := (0 : Int32)) (by decide) ?_
  refine g_newarray X2 hx hby hZ (ty := .char) rfl (hw _ (List.mem_of_getElem? (i := 10) rfl)) e2 i2_9 (by decide) 0 (by decide) (by decide) (by decide) (by decide) fun T3 h3 b3 k3 X3 e3 E3 hb3 V3 => ?_
  have ne_b2_b3 : b2 ≠ b3 := Nat.ne_of_lt (Nat.lt_of_lt_of_le A2.lt (Nat.le_of_eq hb3.symm))
  have g_b3 : n0 ≤ b3 := Nat.le_trans Z0 (Nat.le_of_eq hb3.symm)
  have A2 := A2.ext E3
  have F2_value := F2_value.ext E3
  have F2_coder := F2_coder.ext E3
  have O := O.ext E3
  have sz_b3 : h0.size ≤ b3 := Nat.le_trans K0.1 (Nat.le_of_eq hb3.symm)
  have K0 := K0.ext E3
  have Z0 : n0 ≤ h3.size := Nat.le_trans Z0 E3.1
  have V3 : Arv Z h3 b3 k3 .char (0 : Int32) [] (.int (0 : Int32)) := V3
  refine g_callInitW X3 hx hby hZ hI (y := (⟨"java/lang/String", "<init>", "([C)V"⟩ : MethodName)) (argsL := [(.ref b3)]) (rest := [(.ref b2)]) rfl hown (hw _ (List.mem_of_getElem? (i := 11) rfl)) (hw _ (List.mem_of_getElem? (i := 12) rfl)) (hw _ (List.mem_of_getElem? (i := 9) rfl)) (hw _ (List.mem_of_getElem? (i := 13) rfl)) (by decide) (a := b2) (rm3_W l Z a0 hw [] b2 b3 cz k3 h3 n0 Z0 S0 hcz O A2 F2_value F2_coder g_b2 hh hcw V3 ) e3 (by rw [hml]; rfl) pd_4 rfl rfl i2_11 (by decide) 1 rfl (by decide) (by decide) (by decide) fun T4 v4 L4 X4 hS hZ hown q4 => ?_
  obtain ⟨rfl, K4, tb4, kt4, E4, FV4, FC4, V4, N4⟩ := q4
  have N0 := Fr.app N0 N4
  have Zk : T4.heap.size ≤ T4.heap.size := Nat.le_refl _
  have K0 := K0.trans K4 (fun x hx => Or.inr (by cases hx with | head => exact sz_b2 | tail _ q => cases q))
  have A2 := A2.keep K4
  have V3 := V3.keep K4 (ninS (Ne.symm ne_b2_b3) nin0)
  have O := O.keep K4 (allS g_b2 all0)
  have Z0 : n0 ≤ T4.heap.size := Nat.le_trans Z0 K4.1
  show Gd p e below _ T4 (mkF m 14 #[.val (.int (0 : Int32)), .val (.int p1), .val (.int p2), .val (.int p3), .val (.int p4), .val (.int p5), .val (.int p6)] [(.ref b2)])
  refine g_areturnW X4 hx hby hS Zk hret rfl (fun _ => rfl) hlk rfl i2_14 (by decide) (by decide) ?_
  exact ⟨_, rfl, b2, tb4, _, rfl, K0, A2, FV4, FC4, V4, sz_b2, N0⟩
set_option maxRecDepth 65536 in
set_option maxHeartbeats 40000000 in
theorem rm2_1 (l : Launch) (Z : State) (a0 : Array Value) (hw : ∀ d ∈ tables_1, d.before a0 Z = true) (ws : List Jvm.Cond) (p0 : Int32) (p1 : Int32) (p2 : Int32) (p3 : Int32) (p4 : Int32) (p5 : Int32) (p6 : Int32) (cz : Int32)  (h0 : Heap) (n0 : Nat) (Z0 : n0 ≤ h0.size) (S0 : Sta Z Z.heap "java/lang/String" "COMPACT_STRINGS" "Z" (.int cz)) (hcz : ¬ cz = (0 : Int32)) (O : Old Z n0 h0) (hp0 : p0 = 1) (hp1 : own_ch p1) (hp2 : own_ch p2) (hp3 : own_ch p3) (hp4 : own_ch p4) (hp5 : own_ch p5) (hp6 : own_ch p6) :
    Met1 l (⟨"com/example/plantain/plantain/codec/ProfileNamedPinLaw", "make", "(ICCCCCC)Ljava/lang/String;"⟩ : MethodName) method_4_code 7 (some (.object "java/lang/String")) ws ({ frames := 4, cells := 4, slots := 16, locals := 70 } : Room) #[(.int p0), (.int p1), (.int p2), (.int p3), (.int p4), (.int p5), (.int p6)] Z h0 (RV fun vv h L => ∃ a tb kt, vv = .ref a ∧ Keep h0 h [] ∧ Exa Z h a "java/lang/String" ∧ Fld Z h a "java/lang/String" "value" "[B" (.ref tb) ∧ Fld Z h a "java/lang/String" "coder" "B" (.int 0) ∧ Arv Z h tb kt .byte (1 : Int32) [(.int (nar .byte (nar .char p1).toInt8.toInt32))] (.int (0 : Int32)) ∧ h0.size ≤ a ∧ Fr n0 L) := by
  refine met_of (plainFor_of_name pn_com_example_plantain_plantain_codec_ProfileNamedPinLaw) ?_
  intro p e s m below meth c T0 X0 hx hby hml hZ hown hnm hret hlk e0 es
  have N0 := Fr.nil n0
  refine Gd.cast (ef_2_0 m p0 p1 p2 p3 p4 p5 p6) ?_
  subst hp0
  have K0 : Keep h0 h0 [] := Keep.refl _ _
  refine g_iloadN X0 hx hby i2_0 rfl ?_
  refine g_if_ne X0 hx hby i2_1 (fun c1_1 => ?_) (fun c1_1 => False.elim (absurd c1_1 (by decide)))
  refine g_iloadN X0 hx hby i2_15 rfl ?_
  refine g_iconst X0 hx hby i2_16 (z := (1 : Int32)) (by decide) ?_
  refine g_icmp_ne X0 hx hby i2_17 (fun c17_2 => False.elim (absurd c17_2 (by decide))) fun c17_2 => ?_
  refine g_new X0 hx hby hZ hown (hw _ (List.mem_of_getElem? (i := 7) rfl)) (hw _ (List.mem_of_getElem? (i := 8) rfl)) (hw _ (List.mem_of_getElem? (i := 9) rfl)) e0 i2_20 (by decide) (by decide) fun T3 h3 b3 X3 e3 E3 hb3 A3 D3 => ?_
  have g_b3 : n0 ≤ b3 := Nat.le_trans Z0 (Nat.le_of_eq hb3.symm)
  have O := O.ext E3
  have sz_b3 : h0.size ≤ b3 := Nat.le_trans K0.1 (Nat.le_of_eq hb3.symm)
  have K0 := K0.ext E3
  have Z0 : n0 ≤ h3.size := Nat.le_trans Z0 E3.1
  have F3_value : Fld Z h3 b3 "java/lang/String" "value" "[B" .null := D3 (Or.inr (hw _ (List.mem_of_getElem? (i := 23) rfl))) (ty := (.array .byte)) (by decide)
  have F3_coder : Fld Z h3 b3 "java/lang/String" "coder" "B" (.int (0 : Int32)) := D3 (Or.inr (hw _ (List.mem_of_getElem? (i := 24) rfl))) (ty := .byte) (by decide)
  refine g_dup X3 hx hby i2_23 rfl ?_
  refine g_iconst X3 hx hby i2_24 (z := (1 : Int32)) (by decide) ?_
  refine g_newarray X3 hx hby hZ (ty := .char) rfl (hw _ (List.mem_of_getElem? (i := 10) rfl)) e3 i2_25 (by decide) 1 (by decide) (by decide) (by decide) (by decide) fun T4 h4 b4 k4 X4 e4 E4 hb4 V4 => ?_
  have ne_b3_b4 : b3 ≠ b4 := Nat.ne_of_lt (Nat.lt_of_lt_of_le A3.lt (Nat.le_of_eq hb4.symm))
  have g_b4 : n0 ≤ b4 := Nat.le_trans Z0 (Nat.le_of_eq hb4.symm)
  have A3 := A3.ext E4
  have F3_value := F3_value.ext E4
  have F3_coder := F3_coder.ext E4
  have O := O.ext E4
  have sz_b4 : h0.size ≤ b4 := Nat.le_trans K0.1 (Nat.le_of_eq hb4.symm)
  have K0 := K0.ext E4
  have Z0 : n0 ≤ h4.size := Nat.le_trans Z0 E4.1
  have V4 : Arv Z h4 b4 k4 .char (1 : Int32) [(.int (0 : Int32))] (.int (0 : Int32)) := V4.pad (pad_rep [] _ 1)
  refine g_dup X4 hx hby i2_27 rfl ?_
  refine g_iconst X4 hx hby i2_28 (z := (0 : Int32)) (by decide) ?_
  refine g_iloadN X4 hx hby i2_29 rfl ?_
  refine g_castore X4 hx hby hZ e4 V4 (i := 0) (by decide) (by decide) (by decide) (Nat.le_of_ble_eq_true rfl) i2_30 fun T5 h5 X5 e5 W5 V4 => ?_
  have V4 : Arv Z h5 b4 k4 .char (1 : Int32) [(.int (nar .char p1))] (.int (0 : Int32)) := V4
  have A3 := A3.wr W5
  have F3_value := F3_value.other W5 (Or.inl ne_b3_b4)
  have F3_coder := F3_coder.other W5 (Or.inl ne_b3_b4)
  have O := O.wr W5 g_b4
  have Z0 : n0 ≤ h5.size := Nat.le_trans Z0 (Nat.le_of_eq W5.size.symm)
  have N0 := Fr.snoc X5 N0 g_b4
  have K0 := K0.wr W5 (Or.inr sz_b4)
  refine g_callInit0 X5 hx hby hZ (y := (⟨"java/lang/String", "<init>", "([C)V"⟩ : MethodName)) (argsL := [(.ref b4)]) (rest := [(.ref b3)]) rfl hown (hw _ (List.mem_of_getElem? (i := 11) rfl)) (hw _ (List.mem_of_getElem? (i := 12) rfl)) (hw _ (List.mem_of_getElem? (i := 9) rfl)) (hw _ (List.mem_of_getElem? (i := 13) rfl)) (by decide) (a := b3) (rm3_1 l Z a0 hw [] b3 b4 cz k4 (nar .char p1) h5 n0 Z0 S0 hcz O A3 F3_value F3_coder g_b3 V4 (own_encN hp1)) e5 (by rw [hml]; rfl) pd_4 rfl rfl i2_31 (by decide) 1 rfl (by decide) (by decide) (by decide) fun T6 v6 L6 X6 q6 => ?_
  obtain ⟨rfl, K6, tb6, kt6, E6, FV6, FC6, V6, N6⟩ := q6
  have N0 := Fr.app N0 N6
  have K0 := K0.trans K6 (fun x hx => Or.inr (by cases hx with | head => exact sz_b3 | tail _ q => cases q))
  have A3 := A3.keep K6
  have V4 := V4.keep K6 (ninS (Ne.symm ne_b3_b4) nin0)
  have O := O.keep K6 (allS g_b3 all0)
  have Z0 : n0 ≤ T6.heap.size := Nat.le_trans Z0 K6.1
  show Gd p e below _ T6 (mkF m 34 #[.val (.int (1 : Int32)), .val (.int p1), .val (.int p2), .val (.int p3), .val (.int p4), .val (.int p5), .val (.int p6)] [(.ref b3)])
  refine g_areturn X6 hx hby hret rfl (fun _ => rfl) hlk rfl i2_34 (by decide) (by decide) ?_
  exact ⟨_, rfl, b3, tb6, _, rfl, K0, A3, FV6, FC6, V6, sz_b3, N0⟩
set_option maxRecDepth 65536 in
set_option maxHeartbeats 40000000 in
theorem rm2_2 (l : Launch) (Z : State) (a0 : Array Value) (hw : ∀ d ∈ tables_1, d.before a0 Z = true) (ws : List Jvm.Cond) (p0 : Int32) (p1 : Int32) (p2 : Int32) (p3 : Int32) (p4 : Int32) (p5 : Int32) (p6 : Int32) (cz : Int32)  (h0 : Heap) (n0 : Nat) (Z0 : n0 ≤ h0.size) (S0 : Sta Z Z.heap "java/lang/String" "COMPACT_STRINGS" "Z" (.int cz)) (hcz : ¬ cz = (0 : Int32)) (O : Old Z n0 h0) (hp0 : p0 = 2) (hp1 : own_ch p1) (hp2 : own_ch p2) (hp3 : own_ch p3) (hp4 : own_ch p4) (hp5 : own_ch p5) (hp6 : own_ch p6) :
    Met1 l (⟨"com/example/plantain/plantain/codec/ProfileNamedPinLaw", "make", "(ICCCCCC)Ljava/lang/String;"⟩ : MethodName) method_4_code 7 (some (.object "java/lang/String")) ws ({ frames := 4, cells := 4, slots := 16, locals := 70 } : Room) #[(.int p0), (.int p1), (.int p2), (.int p3), (.int p4), (.int p5), (.int p6)] Z h0 (RV fun vv h L => ∃ a tb kt, vv = .ref a ∧ Keep h0 h [] ∧ Exa Z h a "java/lang/String" ∧ Fld Z h a "java/lang/String" "value" "[B" (.ref tb) ∧ Fld Z h a "java/lang/String" "coder" "B" (.int 0) ∧ Arv Z h tb kt .byte (2 : Int32) [(.int (nar .byte (nar .char p1).toInt8.toInt32)), (.int (nar .byte (nar .char p2).toInt8.toInt32))] (.int (0 : Int32)) ∧ h0.size ≤ a ∧ Fr n0 L) := by
  refine met_of (plainFor_of_name pn_com_example_plantain_plantain_codec_ProfileNamedPinLaw) ?_
  intro p e s m below meth c T0 X0 hx hby hml hZ hown hnm hret hlk e0 es
  have N0 := Fr.nil n0
  refine Gd.cast (ef_2_0 m p0 p1 p2 p3 p4 p5 p6) ?_
  subst hp0
  have K0 : Keep h0 h0 [] := Keep.refl _ _
  refine g_iloadN X0 hx hby i2_0 rfl ?_
  refine g_if_ne X0 hx hby i2_1 (fun c1_1 => ?_) (fun c1_1 => False.elim (absurd c1_1 (by decide)))
  refine g_iloadN X0 hx hby i2_15 rfl ?_
  refine g_iconst X0 hx hby i2_16 (z := (1 : Int32)) (by decide) ?_
  refine g_icmp_ne X0 hx hby i2_17 (fun c17_2 => ?_) (fun c17_2 => False.elim (absurd c17_2 (by decide)))
  refine g_iloadN X0 hx hby i2_35 rfl ?_
  refine g_iconst X0 hx hby i2_36 (z := (2 : Int32)) (by decide) ?_
  refine g_icmp_ne X0 hx hby i2_37 (fun c37_3 => False.elim (absurd c37_3 (by decide))) fun c37_3 => ?_
  refine g_new X0 hx hby hZ hown (hw _ (List.mem_of_getElem? (i := 7) rfl)) (hw _ (List.mem_of_getElem? (i := 8) rfl)) (hw _ (List.mem_of_getElem? (i := 9) rfl)) e0 i2_40 (by decide) (by decide) fun T4 h4 b4 X4 e4 E4 hb4 A4 D4 => ?_
  have g_b4 : n0 ≤ b4 := Nat.le_trans Z0 (Nat.le_of_eq hb4.symm)
  have O := O.ext E4
  have sz_b4 : h0.size ≤ b4 := Nat.le_trans K0.1 (Nat.le_of_eq hb4.symm)
  have K0 := K0.ext E4
  have Z0 : n0 ≤ h4.size := Nat.le_trans Z0 E4.1
  have F4_value : Fld Z h4 b4 "java/lang/String" "value" "[B" .null := D4 (Or.inr (hw _ (List.mem_of_getElem? (i := 23) rfl))) (ty := (.array .byte)) (by decide)
  have F4_coder : Fld Z h4 b4 "java/lang/String" "coder" "B" (.int (0 : Int32)) := D4 (Or.inr (hw _ (List.mem_of_getElem? (i := 24) rfl))) (ty := .byte) (by decide)
  refine g_dup X4 hx hby i2_43 rfl ?_
  refine g_iconst X4 hx hby i2_44 (z := (2 : Int32)) (by decide) ?_
  refine g_newarray X4 hx hby hZ (ty := .char) rfl (hw _ (List.mem_of_getElem? (i := 10) rfl)) e4 i2_45 (by decide) 2 (by decide) (by decide) (by decide) (by decide) fun T5 h5 b5 k5 X5 e5 E5 hb5 V5 => ?_
  have ne_b4_b5 : b4 ≠ b5 := Nat.ne_of_lt (Nat.lt_of_lt_of_le A4.lt (Nat.le_of_eq hb5.symm))
  have g_b5 : n0 ≤ b5 := Nat.le_trans Z0 (Nat.le_of_eq hb5.symm)
  have A4 := A4.ext E5
  have F4_value := F4_value.ext E5
  have F4_coder := F4_coder.ext E5
  have O := O.ext E5
  have sz_b5 : h0.size ≤ b5 := Nat.le_trans K0.1 (Nat.le_of_eq hb5.symm)
  have K0 := K0.ext E5
  have Z0 : n0 ≤ h5.size := Nat.le_trans Z0 E5.1
  have V5 : Arv Z h5 b5 k5 .char (2 : Int32) [(.int (0 : Int32)), (.int (0 : Int32))] (.int (0 : Int32)) := V5.pad (pad_rep [] _ 2)
  refine g_dup X5 hx hby i2_47 rfl ?_
  refine g_iconst X5 hx hby i2_48 (z := (0 : Int32)) (by decide) ?_
  refine g_iloadN X5 hx hby i2_49 rfl ?_
  refine g_castore X5 hx hby hZ e5 V5 (i := 0) (by decide) (by decide) (by decide) (Nat.le_of_ble_eq_true rfl) i2_50 fun T6 h6 X6 e6 W6 V5 => ?_
  have V5 : Arv Z h6 b5 k5 .char (2 : Int32) [(.int (nar .char p1)), (.int (0 : Int32))] (.int (0 : Int32)) := V5
  have A4 := A4.wr W6
  have F4_value := F4_value.other W6 (Or.inl ne_b4_b5)
  have F4_coder := F4_coder.other W6 (Or.inl ne_b4_b5)
  have O := O.wr W6 g_b5
  have Z0 : n0 ≤ h6.size := Nat.le_trans Z0 (Nat.le_of_eq W6.size.symm)
  have N0 := Fr.snoc X6 N0 g_b5
  have K0 := K0.wr W6 (Or.inr sz_b5)
  refine g_dup X6 hx hby i2_51 rfl ?_
  refine g_iconst X6 hx hby i2_52 (z := (1 : Int32)) (by decide) ?_
  refine g_iloadN X6 hx hby i2_53 rfl ?_
  refine g_castore X6 hx hby hZ e6 V5 (i := 1) (by decide) (by decide) (by decide) (Nat.le_of_ble_eq_true rfl) i2_54 fun T7 h7 X7 e7 W7 V5 => ?_
  have V5 : Arv Z h7 b5 k5 .char (2 : Int32) [(.int (nar .char p1)), (.int (nar .char p2))] (.int (0 : Int32)) := V5
  have A4 := A4.wr W7
  have F4_value := F4_value.other W7 (Or.inl ne_b4_b5)
  have F4_coder := F4_coder.other W7 (Or.inl ne_b4_b5)
  have O := O.wr W7 g_b5
  have Z0 : n0 ≤ h7.size := Nat.le_trans Z0 (Nat.le_of_eq W7.size.symm)
  have N0 := Fr.snoc X7 N0 g_b5
  have K0 := K0.wr W7 (Or.inr sz_b5)
  refine g_callInit0 X7 hx hby hZ (y := (⟨"java/lang/String", "<init>", "([C)V"⟩ : MethodName)) (argsL := [(.ref b5)]) (rest := [(.ref b4)]) rfl hown (hw _ (List.mem_of_getElem? (i := 11) rfl)) (hw _ (List.mem_of_getElem? (i := 12) rfl)) (hw _ (List.mem_of_getElem? (i := 9) rfl)) (hw _ (List.mem_of_getElem? (i := 13) rfl)) (by decide) (a := b4) (rm3_2 l Z a0 hw [] b4 b5 cz k5 (nar .char p1) (nar .char p2) h7 n0 Z0 S0 hcz O A4 F4_value F4_coder g_b4 V5 (own_encN hp1) (own_encN hp2)) e7 (by rw [hml]; rfl) pd_4 rfl rfl i2_55 (by decide) 1 rfl (by decide) (by decide) (by decide) fun T8 v8 L8 X8 q8 => ?_
  obtain ⟨rfl, K8, tb8, kt8, E8, FV8, FC8, V8, N8⟩ := q8
  have N0 := Fr.app N0 N8
  have K0 := K0.trans K8 (fun x hx => Or.inr (by cases hx with | head => exact sz_b4 | tail _ q => cases q))
  have A4 := A4.keep K8
  have V5 := V5.keep K8 (ninS (Ne.symm ne_b4_b5) nin0)
  have O := O.keep K8 (allS g_b4 all0)
  have Z0 : n0 ≤ T8.heap.size := Nat.le_trans Z0 K8.1
  show Gd p e below _ T8 (mkF m 58 #[.val (.int (2 : Int32)), .val (.int p1), .val (.int p2), .val (.int p3), .val (.int p4), .val (.int p5), .val (.int p6)] [(.ref b4)])
  refine g_areturn X8 hx hby hret rfl (fun _ => rfl) hlk rfl i2_58 (by decide) (by decide) ?_
  exact ⟨_, rfl, b4, tb8, _, rfl, K0, A4, FV8, FC8, V8, sz_b4, N0⟩
set_option maxRecDepth 65536 in
set_option maxHeartbeats 40000000 in
theorem rm2_3 (l : Launch) (Z : State) (a0 : Array Value) (hw : ∀ d ∈ tables_1, d.before a0 Z = true) (ws : List Jvm.Cond) (p0 : Int32) (p1 : Int32) (p2 : Int32) (p3 : Int32) (p4 : Int32) (p5 : Int32) (p6 : Int32) (cz : Int32)  (h0 : Heap) (n0 : Nat) (Z0 : n0 ≤ h0.size) (S0 : Sta Z Z.heap "java/lang/String" "COMPACT_STRINGS" "Z" (.int cz)) (hcz : ¬ cz = (0 : Int32)) (O : Old Z n0 h0) (hp0 : p0 = 3) (hp1 : own_ch p1) (hp2 : own_ch p2) (hp3 : own_ch p3) (hp4 : own_ch p4) (hp5 : own_ch p5) (hp6 : own_ch p6) :
    Met1 l (⟨"com/example/plantain/plantain/codec/ProfileNamedPinLaw", "make", "(ICCCCCC)Ljava/lang/String;"⟩ : MethodName) method_4_code 7 (some (.object "java/lang/String")) ws ({ frames := 4, cells := 4, slots := 16, locals := 70 } : Room) #[(.int p0), (.int p1), (.int p2), (.int p3), (.int p4), (.int p5), (.int p6)] Z h0 (RV fun vv h L => ∃ a tb kt, vv = .ref a ∧ Keep h0 h [] ∧ Exa Z h a "java/lang/String" ∧ Fld Z h a "java/lang/String" "value" "[B" (.ref tb) ∧ Fld Z h a "java/lang/String" "coder" "B" (.int 0) ∧ Arv Z h tb kt .byte (3 : Int32) [(.int (nar .byte (nar .char p1).toInt8.toInt32)), (.int (nar .byte (nar .char p2).toInt8.toInt32)), (.int (nar .byte (nar .char p3).toInt8.toInt32))] (.int (0 : Int32)) ∧ h0.size ≤ a ∧ Fr n0 L) := by
  refine met_of (plainFor_of_name pn_com_example_plantain_plantain_codec_ProfileNamedPinLaw) ?_
  intro p e s m below meth c T0 X0 hx hby hml hZ hown hnm hret hlk e0 es
  have N0 := Fr.nil n0
  refine Gd.cast (ef_2_0 m p0 p1 p2 p3 p4 p5 p6) ?_
  subst hp0
  have K0 : Keep h0 h0 [] := Keep.refl _ _
  refine g_iloadN X0 hx hby i2_0 rfl ?_
  refine g_if_ne X0 hx hby i2_1 (fun c1_1 => ?_) (fun c1_1 => False.elim (absurd c1_1 (by decide)))
  refine g_iloadN X0 hx hby i2_15 rfl ?_
  refine g_iconst X0 hx hby i2_16 (z := (1 : Int32)) (by decide) ?_
  refine g_icmp_ne X0 hx hby i2_17 (fun c17_2 => ?_) (fun c17_2 => False.elim (absurd c17_2 (by decide)))
  refine g_iloadN X0 hx hby i2_35 rfl ?_
  refine g_iconst X0 hx hby i2_36 (z := (2 : Int32)) (by decide) ?_
  refine g_icmp_ne X0 hx hby i2_37 (fun c37_3 => ?_) (fun c37_3 => False.elim (absurd c37_3 (by decide)))
  refine g_iloadN X0 hx hby i2_59 rfl ?_
  refine g_iconst X0 hx hby i2_60 (z := (3 : Int32)) (by decide) ?_
  refine g_icmp_ne X0 hx hby i2_61 (fun c61_4 => False.elim (absurd c61_4 (by decide))) fun c61_4 => ?_
  refine g_new X0 hx hby hZ hown (hw _ (List.mem_of_getElem? (i := 7) rfl)) (hw _ (List.mem_of_getElem? (i := 8) rfl)) (hw _ (List.mem_of_getElem? (i := 9) rfl)) e0 i2_64 (by decide) (by decide) fun T5 h5 b5 X5 e5 E5 hb5 A5 D5 => ?_
  have g_b5 : n0 ≤ b5 := Nat.le_trans Z0 (Nat.le_of_eq hb5.symm)
  have O := O.ext E5
  have sz_b5 : h0.size ≤ b5 := Nat.le_trans K0.1 (Nat.le_of_eq hb5.symm)
  have K0 := K0.ext E5
  have Z0 : n0 ≤ h5.size := Nat.le_trans Z0 E5.1
  have F5_value : Fld Z h5 b5 "java/lang/String" "value" "[B" .null := D5 (Or.inr (hw _ (List.mem_of_getElem? (i := 23) rfl))) (ty := (.array .byte)) (by decide)
  have F5_coder : Fld Z h5 b5 "java/lang/String" "coder" "B" (.int (0 : Int32)) := D5 (Or.inr (hw _ (List.mem_of_getElem? (i := 24) rfl))) (ty := .byte) (by decide)
  refine g_dup X5 hx hby i2_67 rfl ?_
  refine g_iconst X5 hx hby i2_68 (z := (3 : Int32)) (by decide) ?_
  refine g_newarray X5 hx hby hZ (ty := .char) rfl (hw _ (List.mem_of_getElem? (i := 10) rfl)) e5 i2_69 (by decide) 3 (by decide) (by decide) (by decide) (by decide) fun T6 h6 b6 k6 X6 e6 E6 hb6 V6 => ?_
  have ne_b5_b6 : b5 ≠ b6 := Nat.ne_of_lt (Nat.lt_of_lt_of_le A5.lt (Nat.le_of_eq hb6.symm))
  have g_b6 : n0 ≤ b6 := Nat.le_trans Z0 (Nat.le_of_eq hb6.symm)
  have A5 := A5.ext E6
  have F5_value := F5_value.ext E6
  have F5_coder := F5_coder.ext E6
  have O := O.ext E6
  have sz_b6 : h0.size ≤ b6 := Nat.le_trans K0.1 (Nat.le_of_eq hb6.symm)
  have K0 := K0.ext E6
  have Z0 : n0 ≤ h6.size := Nat.le_trans Z0 E6.1
  have V6 : Arv Z h6 b6 k6 .char (3 : Int32) [(.int (0 : Int32)), (.int (0 : Int32)), (.int (0 : Int32))] (.int (0 : Int32)) := V6.pad (pad_rep [] _ 3)
  refine g_dup X6 hx hby i2_71 rfl ?_
  refine g_iconst X6 hx hby i2_72 (z := (0 : Int32)) (by decide) ?_
  refine g_iloadN X6 hx hby i2_73 rfl ?_
  refine g_castore X6 hx hby hZ e6 V6 (i := 0) (by decide) (by decide) (by decide) (Nat.le_of_ble_eq_true rfl) i2_74 fun T7 h7 X7 e7 W7 V6 => ?_
  have V6 : Arv Z h7 b6 k6 .char (3 : Int32) [(.int (nar .char p1)), (.int (0 : Int32)), (.int (0 : Int32))] (.int (0 : Int32)) := V6
  have A5 := A5.wr W7
  have F5_value := F5_value.other W7 (Or.inl ne_b5_b6)
  have F5_coder := F5_coder.other W7 (Or.inl ne_b5_b6)
  have O := O.wr W7 g_b6
  have Z0 : n0 ≤ h7.size := Nat.le_trans Z0 (Nat.le_of_eq W7.size.symm)
  have N0 := Fr.snoc X7 N0 g_b6
  have K0 := K0.wr W7 (Or.inr sz_b6)
  refine g_dup X7 hx hby i2_75 rfl ?_
  refine g_iconst X7 hx hby i2_76 (z := (1 : Int32)) (by decide) ?_
  refine g_iloadN X7 hx hby i2_77 rfl ?_
  refine g_castore X7 hx hby hZ e7 V6 (i := 1) (by decide) (by decide) (by decide) (Nat.le_of_ble_eq_true rfl) i2_78 fun T8 h8 X8 e8 W8 V6 => ?_
  have V6 : Arv Z h8 b6 k6 .char (3 : Int32) [(.int (nar .char p1)), (.int (nar .char p2)), (.int (0 : Int32))] (.int (0 : Int32)) := V6
  have A5 := A5.wr W8
  have F5_value := F5_value.other W8 (Or.inl ne_b5_b6)
  have F5_coder := F5_coder.other W8 (Or.inl ne_b5_b6)
  have O := O.wr W8 g_b6
  have Z0 : n0 ≤ h8.size := Nat.le_trans Z0 (Nat.le_of_eq W8.size.symm)
  have N0 := Fr.snoc X8 N0 g_b6
  have K0 := K0.wr W8 (Or.inr sz_b6)
  refine g_dup X8 hx hby i2_79 rfl ?_
  refine g_iconst X8 hx hby i2_80 (z := (2 : Int32)) (by decide) ?_
  refine g_iloadN X8 hx hby i2_81 rfl ?_
  refine g_castore X8 hx hby hZ e8 V6 (i := 2) (by decide) (by decide) (by decide) (Nat.le_of_ble_eq_true rfl) i2_82 fun T9 h9 X9 e9 W9 V6 => ?_
  have V6 : Arv Z h9 b6 k6 .char (3 : Int32) [(.int (nar .char p1)), (.int (nar .char p2)), (.int (nar .char p3))] (.int (0 : Int32)) := V6
  have A5 := A5.wr W9
  have F5_value := F5_value.other W9 (Or.inl ne_b5_b6)
  have F5_coder := F5_coder.other W9 (Or.inl ne_b5_b6)
  have O := O.wr W9 g_b6
  have Z0 : n0 ≤ h9.size := Nat.le_trans Z0 (Nat.le_of_eq W9.size.symm)
  have N0 := Fr.snoc X9 N0 g_b6
  have K0 := K0.wr W9 (Or.inr sz_b6)
  refine g_callInit0 X9 hx hby hZ (y := (⟨"java/lang/String", "<init>", "([C)V"⟩ : MethodName)) (argsL := [(.ref b6)]) (rest := [(.ref b5)]) rfl hown (hw _ (List.mem_of_getElem? (i := 11) rfl)) (hw _ (List.mem_of_getElem? (i := 12) rfl)) (hw _ (List.mem_of_getElem? (i := 9) rfl)) (hw _ (List.mem_of_getElem? (i := 13) rfl)) (by decide) (a := b5) (rm3_3 l Z a0 hw [] b5 b6 cz k6 (nar .char p1) (nar .char p2) (nar .char p3) h9 n0 Z0 S0 hcz O A5 F5_value F5_coder g_b5 V6 (own_encN hp1) (own_encN hp2) (own_encN hp3)) e9 (by rw [hml]; rfl) pd_4 rfl rfl i2_83 (by decide) 1 rfl (by decide) (by decide) (by decide) fun T10 v10 L10 X10 q10 => ?_
  obtain ⟨rfl, K10, tb10, kt10, E10, FV10, FC10, V10, N10⟩ := q10
  have N0 := Fr.app N0 N10
  have K0 := K0.trans K10 (fun x hx => Or.inr (by cases hx with | head => exact sz_b5 | tail _ q => cases q))
  have A5 := A5.keep K10
  have V6 := V6.keep K10 (ninS (Ne.symm ne_b5_b6) nin0)
  have O := O.keep K10 (allS g_b5 all0)
  have Z0 : n0 ≤ T10.heap.size := Nat.le_trans Z0 K10.1
  show Gd p e below _ T10 (mkF m 86 #[.val (.int (3 : Int32)), .val (.int p1), .val (.int p2), .val (.int p3), .val (.int p4), .val (.int p5), .val (.int p6)] [(.ref b5)])
  refine g_areturn X10 hx hby hret rfl (fun _ => rfl) hlk rfl i2_86 (by decide) (by decide) ?_
  exact ⟨_, rfl, b5, tb10, _, rfl, K0, A5, FV10, FC10, V10, sz_b5, N0⟩
set_option maxRecDepth 65536 in
set_option maxHeartbeats 40000000 in
theorem rm2_4 (l : Launch) (Z : State) (a0 : Array Value) (hw : ∀ d ∈ tables_1, d.before a0 Z = true) (ws : List Jvm.Cond) (p0 : Int32) (p1 : Int32) (p2 : Int32) (p3 : Int32) (p4 : Int32) (p5 : Int32) (p6 : Int32) (cz : Int32)  (h0 : Heap) (n0 : Nat) (Z0 : n0 ≤ h0.size) (S0 : Sta Z Z.heap "java/lang/String" "COMPACT_STRINGS" "Z" (.int cz)) (hcz : ¬ cz = (0 : Int32)) (O : Old Z n0 h0) (hp0 : p0 = 4) (hp1 : own_ch p1) (hp2 : own_ch p2) (hp3 : own_ch p3) (hp4 : own_ch p4) (hp5 : own_ch p5) (hp6 : own_ch p6) :
    Met1 l (⟨"com/example/plantain/plantain/codec/ProfileNamedPinLaw", "make", "(ICCCCCC)Ljava/lang/String;"⟩ : MethodName) method_4_code 7 (some (.object "java/lang/String")) ws ({ frames := 4, cells := 4, slots := 16, locals := 70 } : Room) #[(.int p0), (.int p1), (.int p2), (.int p3), (.int p4), (.int p5), (.int p6)] Z h0 (RV fun vv h L => ∃ a tb kt, vv = .ref a ∧ Keep h0 h [] ∧ Exa Z h a "java/lang/String" ∧ Fld Z h a "java/lang/String" "value" "[B" (.ref tb) ∧ Fld Z h a "java/lang/String" "coder" "B" (.int 0) ∧ Arv Z h tb kt .byte (4 : Int32) [(.int (nar .byte (nar .char p1).toInt8.toInt32)), (.int (nar .byte (nar .char p2).toInt8.toInt32)), (.int (nar .byte (nar .char p3).toInt8.toInt32)), (.int (nar .byte (nar .char p4).toInt8.toInt32))] (.int (0 : Int32)) ∧ h0.size ≤ a ∧ Fr n0 L) := by
  refine met_of (plainFor_of_name pn_com_example_plantain_plantain_codec_ProfileNamedPinLaw) ?_
  intro p e s m below meth c T0 X0 hx hby hml hZ hown hnm hret hlk e0 es
  have N0 := Fr.nil n0
  refine Gd.cast (ef_2_0 m p0 p1 p2 p3 p4 p5 p6) ?_
  subst hp0
  have K0 : Keep h0 h0 [] := Keep.refl _ _
  refine g_iloadN X0 hx hby i2_0 rfl ?_
  refine g_if_ne X0 hx hby i2_1 (fun c1_1 => ?_) (fun c1_1 => False.elim (absurd c1_1 (by decide)))
  refine g_iloadN X0 hx hby i2_15 rfl ?_
  refine g_iconst X0 hx hby i2_16 (z := (1 : Int32)) (by decide) ?_
  refine g_icmp_ne X0 hx hby i2_17 (fun c17_2 => ?_) (fun c17_2 => False.elim (absurd c17_2 (by decide)))
  refine g_iloadN X0 hx hby i2_35 rfl ?_
  refine g_iconst X0 hx hby i2_36 (z := (2 : Int32)) (by decide) ?_
  refine g_icmp_ne X0 hx hby i2_37 (fun c37_3 => ?_) (fun c37_3 => False.elim (absurd c37_3 (by decide)))
  refine g_iloadN X0 hx hby i2_59 rfl ?_
  refine g_iconst X0 hx hby i2_60 (z := (3 : Int32)) (by decide) ?_
  refine g_icmp_ne X0 hx hby i2_61 (fun c61_4 => ?_) (fun c61_4 => False.elim (absurd c61_4 (by decide)))
  refine g_iloadN X0 hx hby i2_87 rfl ?_
  refine g_iconst X0 hx hby i2_88 (z := (4 : Int32)) (by decide) ?_
  refine g_icmp_ne X0 hx hby i2_89 (fun c89_5 => False.elim (absurd c89_5 (by decide))) fun c89_5 => ?_
  refine g_new X0 hx hby hZ hown (hw _ (List.mem_of_getElem? (i := 7) rfl)) (hw _ (List.mem_of_getElem? (i := 8) rfl)) (hw _ (List.mem_of_getElem? (i := 9) rfl)) e0 i2_92 (by decide) (by decide) fun T6 h6 b6 X6 e6 E6 hb6 A6 D6 => ?_
  have g_b6 : n0 ≤ b6 := Nat.le_trans Z0 (Nat.le_of_eq hb6.symm)
  have O := O.ext E6
  have sz_b6 : h0.size ≤ b6 := Nat.le_trans K0.1 (Nat.le_of_eq hb6.symm)
  have K0 := K0.ext E6
  have Z0 : n0 ≤ h6.size := Nat.le_trans Z0 E6.1
  have F6_value : Fld Z h6 b6 "java/lang/String" "value" "[B" .null := D6 (Or.inr (hw _ (List.mem_of_getElem? (i := 23) rfl))) (ty := (.array .byte)) (by decide)
  have F6_coder : Fld Z h6 b6 "java/lang/String" "coder" "B" (.int (0 : Int32)) := D6 (Or.inr (hw _ (List.mem_of_getElem? (i := 24) rfl))) (ty := .byte) (by decide)
  refine g_dup X6 hx hby i2_95 rfl ?_
  refine g_iconst X6 hx hby i2_96 (z := (4 : Int32)) (by decide) ?_
  refine g_newarray X6 hx hby hZ (ty := .char) rfl (hw _ (List.mem_of_getElem? (i := 10) rfl)) e6 i2_97 (by decide) 4 (by decide) (by decide) (by decide) (by decide) fun T7 h7 b7 k7 X7 e7 E7 hb7 V7 => ?_
  have ne_b6_b7 : b6 ≠ b7 := Nat.ne_of_lt (Nat.lt_of_lt_of_le A6.lt (Nat.le_of_eq hb7.symm))
  have g_b7 : n0 ≤ b7 := Nat.le_trans Z0 (Nat.le_of_eq hb7.symm)
  have A6 := A6.ext E7
  have F6_value := F6_value.ext E7
  have F6_coder := F6_coder.ext E7
  have O := O.ext E7
  have sz_b7 : h0.size ≤ b7 := Nat.le_trans K0.1 (Nat.le_of_eq hb7.symm)
  have K0 := K0.ext E7
  have Z0 : n0 ≤ h7.size := Nat.le_trans Z0 E7.1
  have V7 : Arv Z h7 b7 k7 .char (4 : Int32) [(.int (0 : Int32)), (.int (0 : Int32)), (.int (0 : Int32)), (.int (0 : Int32))] (.int (0 : Int32)) := V7.pad (pad_rep [] _ 4)
  refine g_dup X7 hx hby i2_99 rfl ?_
  refine g_iconst X7 hx hby i2_100 (z := (0 : Int32)) (by decide) ?_
  refine g_iloadN X7 hx hby i2_101 rfl ?_
  refine g_castore X7 hx hby hZ e7 V7 (i := 0) (by decide) (by decide) (by decide) (Nat.le_of_ble_eq_true rfl) i2_102 fun T8 h8 X8 e8 W8 V7 => ?_
  have V7 : Arv Z h8 b7 k7 .char (4 : Int32) [(.int (nar .char p1)), (.int (0 : Int32)), (.int (0 : Int32)), (.int (0 : Int32))] (.int (0 : Int32)) := V7
  have A6 := A6.wr W8
  have F6_value := F6_value.other W8 (Or.inl ne_b6_b7)
  have F6_coder := F6_coder.other W8 (Or.inl ne_b6_b7)
  have O := O.wr W8 g_b7
  have Z0 : n0 ≤ h8.size := Nat.le_trans Z0 (Nat.le_of_eq W8.size.symm)
  have N0 := Fr.snoc X8 N0 g_b7
  have K0 := K0.wr W8 (Or.inr sz_b7)
  refine g_dup X8 hx hby i2_103 rfl ?_
  refine g_iconst X8 hx hby i2_104 (z := (1 : Int32)) (by decide) ?_
  refine g_iloadN X8 hx hby i2_105 rfl ?_
  refine g_castore X8 hx hby hZ e8 V7 (i := 1) (by decide) (by decide) (by decide) (Nat.le_of_ble_eq_true rfl) i2_106 fun T9 h9 X9 e9 W9 V7 => ?_
  have V7 : Arv Z h9 b7 k7 .char (4 : Int32) [(.int (nar .char p1)), (.int (nar .char p2)), (.int (0 : Int32)), (.int (0 : Int32))] (.int (0 : Int32)) := V7
  have A6 := A6.wr W9
  have F6_value := F6_value.other W9 (Or.inl ne_b6_b7)
  have F6_coder := F6_coder.other W9 (Or.inl ne_b6_b7)
  have O := O.wr W9 g_b7
  have Z0 : n0 ≤ h9.size := Nat.le_trans Z0 (Nat.le_of_eq W9.size.symm)
  have N0 := Fr.snoc X9 N0 g_b7
  have K0 := K0.wr W9 (Or.inr sz_b7)
  refine g_dup X9 hx hby i2_107 rfl ?_
  refine g_iconst X9 hx hby i2_108 (z := (2 : Int32)) (by decide) ?_
  refine g_iloadN X9 hx hby i2_109 rfl ?_
  refine g_castore X9 hx hby hZ e9 V7 (i := 2) (by decide) (by decide) (by decide) (Nat.le_of_ble_eq_true rfl) i2_110 fun T10 h10 X10 e10 W10 V7 => ?_
  have V7 : Arv Z h10 b7 k7 .char (4 : Int32) [(.int (nar .char p1)), (.int (nar .char p2)), (.int (nar .char p3)), (.int (0 : Int32))] (.int (0 : Int32)) := V7
  have A6 := A6.wr W10
  have F6_value := F6_value.other W10 (Or.inl ne_b6_b7)
  have F6_coder := F6_coder.other W10 (Or.inl ne_b6_b7)
  have O := O.wr W10 g_b7
  have Z0 : n0 ≤ h10.size := Nat.le_trans Z0 (Nat.le_of_eq W10.size.symm)
  have N0 := Fr.snoc X10 N0 g_b7
  have K0 := K0.wr W10 (Or.inr sz_b7)
  refine g_dup X10 hx hby i2_111 rfl ?_
  refine g_iconst X10 hx hby i2_112 (z := (3 : Int32)) (by decide) ?_
  refine g_iload X10 hx hby i2_113 rfl ?_
  refine g_castore X10 hx hby hZ e10 V7 (i := 3) (by decide) (by decide) (by decide) (Nat.le_of_ble_eq_true rfl) i2_115 fun T11 h11 X11 e11 W11 V7 => ?_
  have V7 : Arv Z h11 b7 k7 .char (4 : Int32) [(.int (nar .char p1)), (.int (nar .char p2)), (.int (nar .char p3)), (.int (nar .char p4))] (.int (0 : Int32)) := V7
  have A6 := A6.wr W11
  have F6_value := F6_value.other W11 (Or.inl ne_b6_b7)
  have F6_coder := F6_coder.other W11 (Or.inl ne_b6_b7)
  have O := O.wr W11 g_b7
  have Z0 : n0 ≤ h11.size := Nat.le_trans Z0 (Nat.le_of_eq W11.size.symm)
  have N0 := Fr.snoc X11 N0 g_b7
  have K0 := K0.wr W11 (Or.inr sz_b7)
  refine g_callInit0 X11 hx hby hZ (y := (⟨"java/lang/String", "<init>", "([C)V"⟩ : MethodName)) (argsL := [(.ref b7)]) (rest := [(.ref b6)]) rfl hown (hw _ (List.mem_of_getElem? (i := 11) rfl)) (hw _ (List.mem_of_getElem? (i := 12) rfl)) (hw _ (List.mem_of_getElem? (i := 9) rfl)) (hw _ (List.mem_of_getElem? (i := 13) rfl)) (by decide) (a := b6) (rm3_4 l Z a0 hw [] b6 b7 cz k7 (nar .char p1) (nar .char p2) (nar .char p3) (nar .char p4) h11 n0 Z0 S0 hcz O A6 F6_value F6_coder g_b6 V7 (own_encN hp1) (own_encN hp2) (own_encN hp3) (own_encN hp4)) e11 (by rw [hml]; rfl) pd_4 rfl rfl i2_116 (by decide) 1 rfl (by decide) (by decide) (by decide) fun T12 v12 L12 X12 q12 => ?_
  obtain ⟨rfl, K12, tb12, kt12, E12, FV12, FC12, V12, N12⟩ := q12
  have N0 := Fr.app N0 N12
  have K0 := K0.trans K12 (fun x hx => Or.inr (by cases hx with | head => exact sz_b6 | tail _ q => cases q))
  have A6 := A6.keep K12
  have V7 := V7.keep K12 (ninS (Ne.symm ne_b6_b7) nin0)
  have O := O.keep K12 (allS g_b6 all0)
  have Z0 : n0 ≤ T12.heap.size := Nat.le_trans Z0 K12.1
  show Gd p e below _ T12 (mkF m 119 #[.val (.int (4 : Int32)), .val (.int p1), .val (.int p2), .val (.int p3), .val (.int p4), .val (.int p5), .val (.int p6)] [(.ref b6)])
  refine g_areturn X12 hx hby hret rfl (fun _ => rfl) hlk rfl i2_119 (by decide) (by decide) ?_
  exact ⟨_, rfl, b6, tb12, _, rfl, K0, A6, FV12, FC12, V12, sz_b6, N0⟩
set_option maxRecDepth 65536 in
set_option maxHeartbeats 40000000 in
theorem rm2_5 (l : Launch) (Z : State) (a0 : Array Value) (hw : ∀ d ∈ tables_1, d.before a0 Z = true) (ws : List Jvm.Cond) (p0 : Int32) (p1 : Int32) (p2 : Int32) (p3 : Int32) (p4 : Int32) (p5 : Int32) (p6 : Int32) (cz : Int32)  (h0 : Heap) (n0 : Nat) (Z0 : n0 ≤ h0.size) (S0 : Sta Z Z.heap "java/lang/String" "COMPACT_STRINGS" "Z" (.int cz)) (hcz : ¬ cz = (0 : Int32)) (O : Old Z n0 h0) (hp0 : p0 = 5) (hp1 : own_ch p1) (hp2 : own_ch p2) (hp3 : own_ch p3) (hp4 : own_ch p4) (hp5 : own_ch p5) (hp6 : own_ch p6) :
    Met1 l (⟨"com/example/plantain/plantain/codec/ProfileNamedPinLaw", "make", "(ICCCCCC)Ljava/lang/String;"⟩ : MethodName) method_4_code 7 (some (.object "java/lang/String")) ws ({ frames := 4, cells := 4, slots := 16, locals := 70 } : Room) #[(.int p0), (.int p1), (.int p2), (.int p3), (.int p4), (.int p5), (.int p6)] Z h0 (RV fun vv h L => ∃ a tb kt, vv = .ref a ∧ Keep h0 h [] ∧ Exa Z h a "java/lang/String" ∧ Fld Z h a "java/lang/String" "value" "[B" (.ref tb) ∧ Fld Z h a "java/lang/String" "coder" "B" (.int 0) ∧ Arv Z h tb kt .byte (5 : Int32) [(.int (nar .byte (nar .char p1).toInt8.toInt32)), (.int (nar .byte (nar .char p2).toInt8.toInt32)), (.int (nar .byte (nar .char p3).toInt8.toInt32)), (.int (nar .byte (nar .char p4).toInt8.toInt32)), (.int (nar .byte (nar .char p5).toInt8.toInt32))] (.int (0 : Int32)) ∧ h0.size ≤ a ∧ Fr n0 L) := by
  refine met_of (plainFor_of_name pn_com_example_plantain_plantain_codec_ProfileNamedPinLaw) ?_
  intro p e s m below meth c T0 X0 hx hby hml hZ hown hnm hret hlk e0 es
  have N0 := Fr.nil n0
  refine Gd.cast (ef_2_0 m p0 p1 p2 p3 p4 p5 p6) ?_
  subst hp0
  have K0 : Keep h0 h0 [] := Keep.refl _ _
  refine g_iloadN X0 hx hby i2_0 rfl ?_
  refine g_if_ne X0 hx hby i2_1 (fun c1_1 => ?_) (fun c1_1 => False.elim (absurd c1_1 (by decide)))
  refine g_iloadN X0 hx hby i2_15 rfl ?_
  refine g_iconst X0 hx hby i2_16 (z := (1 : Int32)) (by decide) ?_
  refine g_icmp_ne X0 hx hby i2_17 (fun c17_2 => ?_) (fun c17_2 => False.elim (absurd c17_2 (by decide)))
  refine g_iloadN X0 hx hby i2_35 rfl ?_
  refine g_iconst X0 hx hby i2_36 (z := (2 : Int32)) (by decide) ?_
  refine g_icmp_ne X0 hx hby i2_37 (fun c37_3 => ?_) (fun c37_3 => False.elim (absurd c37_3 (by decide)))
  refine g_iloadN X0 hx hby i2_59 rfl ?_
  refine g_iconst X0 hx hby i2_60 (z := (3 : Int32)) (by decide) ?_
  refine g_icmp_ne X0 hx hby i2_61 (fun c61_4 => ?_) (fun c61_4 => False.elim (absurd c61_4 (by decide)))
  refine g_iloadN X0 hx hby i2_87 rfl ?_
  refine g_iconst X0 hx hby i2_88 (z := (4 : Int32)) (by decide) ?_
  refine g_icmp_ne X0 hx hby i2_89 (fun c89_5 => ?_) (fun c89_5 => False.elim (absurd c89_5 (by decide)))
  refine g_iloadN X0 hx hby i2_120 rfl ?_
  refine g_iconst X0 hx hby i2_121 (z := (5 : Int32)) (by decide) ?_
  refine g_icmp_ne X0 hx hby i2_122 (fun c122_6 => False.elim (absurd c122_6 (by decide))) fun c122_6 => ?_
  refine g_new X0 hx hby hZ hown (hw _ (List.mem_of_getElem? (i := 7) rfl)) (hw _ (List.mem_of_getElem? (i := 8) rfl)) (hw _ (List.mem_of_getElem? (i := 9) rfl)) e0 i2_125 (by decide) (by decide) fun T7 h7 b7 X7 e7 E7 hb7 A7 D7 => ?_
  have g_b7 : n0 ≤ b7 := Nat.le_trans Z0 (Nat.le_of_eq hb7.symm)
  have O := O.ext E7
  have sz_b7 : h0.size ≤ b7 := Nat.le_trans K0.1 (Nat.le_of_eq hb7.symm)
  have K0 := K0.ext E7
  have Z0 : n0 ≤ h7.size := Nat.le_trans Z0 E7.1
  have F7_value : Fld Z h7 b7 "java/lang/String" "value" "[B" .null := D7 (Or.inr (hw _ (List.mem_of_getElem? (i := 23) rfl))) (ty := (.array .byte)) (by decide)
  have F7_coder : Fld Z h7 b7 "java/lang/String" "coder" "B" (.int (0 : Int32)) := D7 (Or.inr (hw _ (List.mem_of_getElem? (i := 24) rfl))) (ty := .byte) (by decide)
  refine g_dup X7 hx hby i2_128 rfl ?_
  refine g_iconst X7 hx hby i2_129 (z := (5 : Int32)) (by decide) ?_
  refine g_newarray X7 hx hby hZ (ty := .char) rfl (hw _ (List.mem_of_getElem? (i := 10) rfl)) e7 i2_130 (by decide) 5 (by decide) (by decide) (by decide) (by decide) fun T8 h8 b8 k8 X8 e8 E8 hb8 V8 => ?_
  have ne_b7_b8 : b7 ≠ b8 := Nat.ne_of_lt (Nat.lt_of_lt_of_le A7.lt (Nat.le_of_eq hb8.symm))
  have g_b8 : n0 ≤ b8 := Nat.le_trans Z0 (Nat.le_of_eq hb8.symm)
  have A7 := A7.ext E8
  have F7_value := F7_value.ext E8
  have F7_coder := F7_coder.ext E8
  have O := O.ext E8
  have sz_b8 : h0.size ≤ b8 := Nat.le_trans K0.1 (Nat.le_of_eq hb8.symm)
  have K0 := K0.ext E8
  have Z0 : n0 ≤ h8.size := Nat.le_trans Z0 E8.1
  have V8 : Arv Z h8 b8 k8 .char (5 : Int32) [(.int (0 : Int32)), (.int (0 : Int32)), (.int (0 : Int32)), (.int (0 : Int32)), (.int (0 : Int32))] (.int (0 : Int32)) := V8.pad (pad_rep [] _ 5)
  refine g_dup X8 hx hby i2_132 rfl ?_
  refine g_iconst X8 hx hby i2_133 (z := (0 : Int32)) (by decide) ?_
  refine g_iloadN X8 hx hby i2_134 rfl ?_
  refine g_castore X8 hx hby hZ e8 V8 (i := 0) (by decide) (by decide) (by decide) (Nat.le_of_ble_eq_true rfl) i2_135 fun T9 h9 X9 e9 W9 V8 => ?_
  have V8 : Arv Z h9 b8 k8 .char (5 : Int32) [(.int (nar .char p1)), (.int (0 : Int32)), (.int (0 : Int32)), (.int (0 : Int32)), (.int (0 : Int32))] (.int (0 : Int32)) := V8
  have A7 := A7.wr W9
  have F7_value := F7_value.other W9 (Or.inl ne_b7_b8)
  have F7_coder := F7_coder.other W9 (Or.inl ne_b7_b8)
  have O := O.wr W9 g_b8
  have Z0 : n0 ≤ h9.size := Nat.le_trans Z0 (Nat.le_of_eq W9.size.symm)
  have N0 := Fr.snoc X9 N0 g_b8
  have K0 := K0.wr W9 (Or.inr sz_b8)
  refine g_dup X9 hx hby i2_136 rfl ?_
  refine g_iconst X9 hx hby i2_137 (z := (1 : Int32)) (by decide) ?_
  refine g_iloadN X9 hx hby i2_138 rfl ?_
  refine g_castore X9 hx hby hZ e9 V8 (i := 1) (by decide) (by decide) (by decide) (Nat.le_of_ble_eq_true rfl) i2_139 fun T10 h10 X10 e10 W10 V8 => ?_
  have V8 : Arv Z h10 b8 k8 .char (5 : Int32) [(.int (nar .char p1)), (.int (nar .char p2)), (.int (0 : Int32)), (.int (0 : Int32)), (.int (0 : Int32))] (.int (0 : Int32)) := V8
  have A7 := A7.wr W10
  have F7_value := F7_value.other W10 (Or.inl ne_b7_b8)
  have F7_coder := F7_coder.other W10 (Or.inl ne_b7_b8)
  have O := O.wr W10 g_b8
  have Z0 : n0 ≤ h10.size := Nat.le_trans Z0 (Nat.le_of_eq W10.size.symm)
  have N0 := Fr.snoc X10 N0 g_b8
  have K0 := K0.wr W10 (Or.inr sz_b8)
  refine g_dup X10 hx hby i2_140 rfl ?_
  refine g_iconst X10 hx hby i2_141 (z := (2 : Int32)) (by decide) ?_
  refine g_iloadN X10 hx hby i2_142 rfl ?_
  refine g_castore X10 hx hby hZ e10 V8 (i := 2) (by decide) (by decide) (by decide) (Nat.le_of_ble_eq_true rfl) i2_143 fun T11 h11 X11 e11 W11 V8 => ?_
  have V8 : Arv Z h11 b8 k8 .char (5 : Int32) [(.int (nar .char p1)), (.int (nar .char p2)), (.int (nar .char p3)), (.int (0 : Int32)), (.int (0 : Int32))] (.int (0 : Int32)) := V8
  have A7 := A7.wr W11
  have F7_value := F7_value.other W11 (Or.inl ne_b7_b8)
  have F7_coder := F7_coder.other W11 (Or.inl ne_b7_b8)
  have O := O.wr W11 g_b8
  have Z0 : n0 ≤ h11.size := Nat.le_trans Z0 (Nat.le_of_eq W11.size.symm)
  have N0 := Fr.snoc X11 N0 g_b8
  have K0 := K0.wr W11 (Or.inr sz_b8)
  refine g_dup X11 hx hby i2_144 rfl ?_
  refine g_iconst X11 hx hby i2_145 (z := (3 : Int32)) (by decide) ?_
  refine g_iload X11 hx hby i2_146 rfl ?_
  refine g_castore X11 hx hby hZ e11 V8 (i := 3) (by decide) (by decide) (by decide) (Nat.le_of_ble_eq_true rfl) i2_148 fun T12 h12 X12 e12 W12 V8 => ?_
  have V8 : Arv Z h12 b8 k8 .char (5 : Int32) [(.int (nar .char p1)), (.int (nar .char p2)), (.int (nar .char p3)), (.int (nar .char p4)), (.int (0 : Int32))] (.int (0 : Int32)) := V8
  have A7 := A7.wr W12
  have F7_value := F7_value.other W12 (Or.inl ne_b7_b8)
  have F7_coder := F7_coder.other W12 (Or.inl ne_b7_b8)
  have O := O.wr W12 g_b8
  have Z0 : n0 ≤ h12.size := Nat.le_trans Z0 (Nat.le_of_eq W12.size.symm)
  have N0 := Fr.snoc X12 N0 g_b8
  have K0 := K0.wr W12 (Or.inr sz_b8)
  refine g_dup X12 hx hby i2_149 rfl ?_
  refine g_iconst X12 hx hby i2_150 (z := (4 : Int32)) (by decide) ?_
  refine g_iload X12 hx hby i2_151 rfl ?_
  refine g_castore X12 hx hby hZ e12 V8 (i := 4) (by decide) (by decide) (by decide) (Nat.le_of_ble_eq_true rfl) i2_153 fun T13 h13 X13 e13 W13 V8 => ?_
  have V8 : Arv Z h13 b8 k8 .char (5 : Int32) [(.int (nar .char p1)), (.int (nar .char p2)), (.int (nar .char p3)), (.int (nar .char p4)), (.int (nar .char p5))] (.int (0 : Int32)) := V8
  have A7 := A7.wr W13
  have F7_value := F7_value.other W13 (Or.inl ne_b7_b8)
  have F7_coder := F7_coder.other W13 (Or.inl ne_b7_b8)
  have O := O.wr W13 g_b8
  have Z0 : n0 ≤ h13.size := Nat.le_trans Z0 (Nat.le_of_eq W13.size.symm)
  have N0 := Fr.snoc X13 N0 g_b8
  have K0 := K0.wr W13 (Or.inr sz_b8)
  refine g_callInit0 X13 hx hby hZ (y := (⟨"java/lang/String", "<init>", "([C)V"⟩ : MethodName)) (argsL := [(.ref b8)]) (rest := [(.ref b7)]) rfl hown (hw _ (List.mem_of_getElem? (i := 11) rfl)) (hw _ (List.mem_of_getElem? (i := 12) rfl)) (hw _ (List.mem_of_getElem? (i := 9) rfl)) (hw _ (List.mem_of_getElem? (i := 13) rfl)) (by decide) (a := b7) (rm3_5 l Z a0 hw [] b7 b8 cz k8 (nar .char p1) (nar .char p2) (nar .char p3) (nar .char p4) (nar .char p5) h13 n0 Z0 S0 hcz O A7 F7_value F7_coder g_b7 V8 (own_encN hp1) (own_encN hp2) (own_encN hp3) (own_encN hp4) (own_encN hp5)) e13 (by rw [hml]; rfl) pd_4 rfl rfl i2_154 (by decide) 1 rfl (by decide) (by decide) (by decide) fun T14 v14 L14 X14 q14 => ?_
  obtain ⟨rfl, K14, tb14, kt14, E14, FV14, FC14, V14, N14⟩ := q14
  have N0 := Fr.app N0 N14
  have K0 := K0.trans K14 (fun x hx => Or.inr (by cases hx with | head => exact sz_b7 | tail _ q => cases q))
  have A7 := A7.keep K14
  have V8 := V8.keep K14 (ninS (Ne.symm ne_b7_b8) nin0)
  have O := O.keep K14 (allS g_b7 all0)
  have Z0 : n0 ≤ T14.heap.size := Nat.le_trans Z0 K14.1
  show Gd p e below _ T14 (mkF m 157 #[.val (.int (5 : Int32)), .val (.int p1), .val (.int p2), .val (.int p3), .val (.int p4), .val (.int p5), .val (.int p6)] [(.ref b7)])
  refine g_areturn X14 hx hby hret rfl (fun _ => rfl) hlk rfl i2_157 (by decide) (by decide) ?_
  exact ⟨_, rfl, b7, tb14, _, rfl, K0, A7, FV14, FC14, V14, sz_b7, N0⟩
set_option maxRecDepth 65536 in
set_option maxHeartbeats 40000000 in
theorem rm2_6 (l : Launch) (Z : State) (a0 : Array Value) (hw : ∀ d ∈ tables_1, d.before a0 Z = true) (ws : List Jvm.Cond) (p0 : Int32) (p1 : Int32) (p2 : Int32) (p3 : Int32) (p4 : Int32) (p5 : Int32) (p6 : Int32) (cz : Int32)  (h0 : Heap) (n0 : Nat) (Z0 : n0 ≤ h0.size) (S0 : Sta Z Z.heap "java/lang/String" "COMPACT_STRINGS" "Z" (.int cz)) (hcz : ¬ cz = (0 : Int32)) (O : Old Z n0 h0) (hp0 : p0 = 6) (hp1 : own_ch p1) (hp2 : own_ch p2) (hp3 : own_ch p3) (hp4 : own_ch p4) (hp5 : own_ch p5) (hp6 : own_ch p6) :
    Met1 l (⟨"com/example/plantain/plantain/codec/ProfileNamedPinLaw", "make", "(ICCCCCC)Ljava/lang/String;"⟩ : MethodName) method_4_code 7 (some (.object "java/lang/String")) ws ({ frames := 4, cells := 4, slots := 16, locals := 70 } : Room) #[(.int p0), (.int p1), (.int p2), (.int p3), (.int p4), (.int p5), (.int p6)] Z h0 (RV fun vv h L => ∃ a tb kt, vv = .ref a ∧ Keep h0 h [] ∧ Exa Z h a "java/lang/String" ∧ Fld Z h a "java/lang/String" "value" "[B" (.ref tb) ∧ Fld Z h a "java/lang/String" "coder" "B" (.int 0) ∧ Arv Z h tb kt .byte (6 : Int32) [(.int (nar .byte (nar .char p1).toInt8.toInt32)), (.int (nar .byte (nar .char p2).toInt8.toInt32)), (.int (nar .byte (nar .char p3).toInt8.toInt32)), (.int (nar .byte (nar .char p4).toInt8.toInt32)), (.int (nar .byte (nar .char p5).toInt8.toInt32)), (.int (nar .byte (nar .char p6).toInt8.toInt32))] (.int (0 : Int32)) ∧ h0.size ≤ a ∧ Fr n0 L) := by
  refine met_of (plainFor_of_name pn_com_example_plantain_plantain_codec_ProfileNamedPinLaw) ?_
  intro p e s m below meth c T0 X0 hx hby hml hZ hown hnm hret hlk e0 es
  have N0 := Fr.nil n0
  refine Gd.cast (ef_2_0 m p0 p1 p2 p3 p4 p5 p6) ?_
  subst hp0
  have K0 : Keep h0 h0 [] := Keep.refl _ _
  refine g_iloadN X0 hx hby i2_0 rfl ?_
  refine g_if_ne X0 hx hby i2_1 (fun c1_1 => ?_) (fun c1_1 => False.elim (absurd c1_1 (by decide)))
  refine g_iloadN X0 hx hby i2_15 rfl ?_
  refine g_iconst X0 hx hby i2_16 (z := (1 : Int32)) (by decide) ?_
  refine g_icmp_ne X0 hx hby i2_17 (fun c17_2 => ?_) (fun c17_2 => False.elim (absurd c17_2 (by decide)))
  refine g_iloadN X0 hx hby i2_35 rfl ?_
  refine g_iconst X0 hx hby i2_36 (z := (2 : Int32)) (by decide) ?_
  refine g_icmp_ne X0 hx hby i2_37 (fun c37_3 => ?_) (fun c37_3 => False.elim (absurd c37_3 (by decide)))
  refine g_iloadN X0 hx hby i2_59 rfl ?_
  refine g_iconst X0 hx hby i2_60 (z := (3 : Int32)) (by decide) ?_
  refine g_icmp_ne X0 hx hby i2_61 (fun c61_4 => ?_) (fun c61_4 => False.elim (absurd c61_4 (by decide)))
  refine g_iloadN X0 hx hby i2_87 rfl ?_
  refine g_iconst X0 hx hby i2_88 (z := (4 : Int32)) (by decide) ?_
  refine g_icmp_ne X0 hx hby i2_89 (fun c89_5 => ?_) (fun c89_5 => False.elim (absurd c89_5 (by decide)))
  refine g_iloadN X0 hx hby i2_120 rfl ?_
  refine g_iconst X0 hx hby i2_121 (z := (5 : Int32)) (by decide) ?_
  refine g_icmp_ne X0 hx hby i2_122 (fun c122_6 => ?_) (fun c122_6 => False.elim (absurd c122_6 (by decide)))
  refine g_new X0 hx hby hZ hown (hw _ (List.mem_of_getElem? (i := 7) rfl)) (hw _ (List.mem_of_getElem? (i := 8) rfl)) (hw _ (List.mem_of_getElem? (i := 9) rfl)) e0 i2_158 (by decide) (by decide) fun T7 h7 b7 X7 e7 E7 hb7 A7 D7 => ?_
  have g_b7 : n0 ≤ b7 := Nat.le_trans Z0 (Nat.le_of_eq hb7.symm)
  have O := O.ext E7
  have sz_b7 : h0.size ≤ b7 := Nat.le_trans K0.1 (Nat.le_of_eq hb7.symm)
  have K0 := K0.ext E7
  have Z0 : n0 ≤ h7.size := Nat.le_trans Z0 E7.1
  have F7_value : Fld Z h7 b7 "java/lang/String" "value" "[B" .null := D7 (Or.inr (hw _ (List.mem_of_getElem? (i := 23) rfl))) (ty := (.array .byte)) (by decide)
  have F7_coder : Fld Z h7 b7 "java/lang/String" "coder" "B" (.int (0 : Int32)) := D7 (Or.inr (hw _ (List.mem_of_getElem? (i := 24) rfl))) (ty := .byte) (by decide)
  refine g_dup X7 hx hby i2_161 rfl ?_
  refine g_bipush X7 hx hby i2_162 (z := (6 : Int32)) (by decide) ?_
  refine g_newarray X7 hx hby hZ (ty := .char) rfl (hw _ (List.mem_of_getElem? (i := 10) rfl)) e7 i2_164 (by decide) 6 (by decide) (by decide) (by decide) (by decide) fun T8 h8 b8 k8 X8 e8 E8 hb8 V8 => ?_
  have ne_b7_b8 : b7 ≠ b8 := Nat.ne_of_lt (Nat.lt_of_lt_of_le A7.lt (Nat.le_of_eq hb8.symm))
  have g_b8 : n0 ≤ b8 := Nat.le_trans Z0 (Nat.le_of_eq hb8.symm)
  have A7 := A7.ext E8
  have F7_value := F7_value.ext E8
  have F7_coder := F7_coder.ext E8
  have O := O.ext E8
  have sz_b8 : h0.size ≤ b8 := Nat.le_trans K0.1 (Nat.le_of_eq hb8.symm)
  have K0 := K0.ext E8
  have Z0 : n0 ≤ h8.size := Nat.le_trans Z0 E8.1
  have V8 : Arv Z h8 b8 k8 .char (6 : Int32) [(.int (0 : Int32)), (.int (0 : Int32)), (.int (0 : Int32)), (.int (0 : Int32)), (.int (0 : Int32)), (.int (0 : Int32))] (.int (0 : Int32)) := V8.pad (pad_rep [] _ 6)
  refine g_dup X8 hx hby i2_166 rfl ?_
  refine g_iconst X8 hx hby i2_167 (z := (0 : Int32)) (by decide) ?_
  refine g_iloadN X8 hx hby i2_168 rfl ?_
  refine g_castore X8 hx hby hZ e8 V8 (i := 0) (by decide) (by decide) (by decide) (Nat.le_of_ble_eq_true rfl) i2_169 fun T9 h9 X9 e9 W9 V8 => ?_
  have V8 : Arv Z h9 b8 k8 .char (6 : Int32) [(.int (nar .char p1)), (.int (0 : Int32)), (.int (0 : Int32)), (.int (0 : Int32)), (.int (0 : Int32)), (.int (0 : Int32))] (.int (0 : Int32)) := V8
  have A7 := A7.wr W9
  have F7_value := F7_value.other W9 (Or.inl ne_b7_b8)
  have F7_coder := F7_coder.other W9 (Or.inl ne_b7_b8)
  have O := O.wr W9 g_b8
  have Z0 : n0 ≤ h9.size := Nat.le_trans Z0 (Nat.le_of_eq W9.size.symm)
  have N0 := Fr.snoc X9 N0 g_b8
  have K0 := K0.wr W9 (Or.inr sz_b8)
  refine g_dup X9 hx hby i2_170 rfl ?_
  refine g_iconst X9 hx hby i2_171 (z := (1 : Int32)) (by decide) ?_
  refine g_iloadN X9 hx hby i2_172 rfl ?_
  refine g_castore X9 hx hby hZ e9 V8 (i := 1) (by decide) (by decide) (by decide) (Nat.le_of_ble_eq_true rfl) i2_173 fun T10 h10 X10 e10 W10 V8 => ?_
  have V8 : Arv Z h10 b8 k8 .char (6 : Int32) [(.int (nar .char p1)), (.int (nar .char p2)), (.int (0 : Int32)), (.int (0 : Int32)), (.int (0 : Int32)), (.int (0 : Int32))] (.int (0 : Int32)) := V8
  have A7 := A7.wr W10
  have F7_value := F7_value.other W10 (Or.inl ne_b7_b8)
  have F7_coder := F7_coder.other W10 (Or.inl ne_b7_b8)
  have O := O.wr W10 g_b8
  have Z0 : n0 ≤ h10.size := Nat.le_trans Z0 (Nat.le_of_eq W10.size.symm)
  have N0 := Fr.snoc X10 N0 g_b8
  have K0 := K0.wr W10 (Or.inr sz_b8)
  refine g_dup X10 hx hby i2_174 rfl ?_
  refine g_iconst X10 hx hby i2_175 (z := (2 : Int32)) (by decide) ?_
  refine g_iloadN X10 hx hby i2_176 rfl ?_
  refine g_castore X10 hx hby hZ e10 V8 (i := 2) (by decide) (by decide) (by decide) (Nat.le_of_ble_eq_true rfl) i2_177 fun T11 h11 X11 e11 W11 V8 => ?_
  have V8 : Arv Z h11 b8 k8 .char (6 : Int32) [(.int (nar .char p1)), (.int (nar .char p2)), (.int (nar .char p3)), (.int (0 : Int32)), (.int (0 : Int32)), (.int (0 : Int32))] (.int (0 : Int32)) := V8
  have A7 := A7.wr W11
  have F7_value := F7_value.other W11 (Or.inl ne_b7_b8)
  have F7_coder := F7_coder.other W11 (Or.inl ne_b7_b8)
  have O := O.wr W11 g_b8
  have Z0 : n0 ≤ h11.size := Nat.le_trans Z0 (Nat.le_of_eq W11.size.symm)
  have N0 := Fr.snoc X11 N0 g_b8
  have K0 := K0.wr W11 (Or.inr sz_b8)
  refine g_dup X11 hx hby i2_178 rfl ?_
  refine g_iconst X11 hx hby i2_179 (z := (3 : Int32)) (by decide) ?_
  refine g_iload X11 hx hby i2_180 rfl ?_
  refine g_castore X11 hx hby hZ e11 V8 (i := 3) (by decide) (by decide) (by decide) (Nat.le_of_ble_eq_true rfl) i2_182 fun T12 h12 X12 e12 W12 V8 => ?_
  have V8 : Arv Z h12 b8 k8 .char (6 : Int32) [(.int (nar .char p1)), (.int (nar .char p2)), (.int (nar .char p3)), (.int (nar .char p4)), (.int (0 : Int32)), (.int (0 : Int32))] (.int (0 : Int32)) := V8
  have A7 := A7.wr W12
  have F7_value := F7_value.other W12 (Or.inl ne_b7_b8)
  have F7_coder := F7_coder.other W12 (Or.inl ne_b7_b8)
  have O := O.wr W12 g_b8
  have Z0 : n0 ≤ h12.size := Nat.le_trans Z0 (Nat.le_of_eq W12.size.symm)
  have N0 := Fr.snoc X12 N0 g_b8
  have K0 := K0.wr W12 (Or.inr sz_b8)
  refine g_dup X12 hx hby i2_183 rfl ?_
  refine g_iconst X12 hx hby i2_184 (z := (4 : Int32)) (by decide) ?_
  refine g_iload X12 hx hby i2_185 rfl ?_
  refine g_castore X12 hx hby hZ e12 V8 (i := 4) (by decide) (by decide) (by decide) (Nat.le_of_ble_eq_true rfl) i2_187 fun T13 h13 X13 e13 W13 V8 => ?_
  have V8 : Arv Z h13 b8 k8 .char (6 : Int32) [(.int (nar .char p1)), (.int (nar .char p2)), (.int (nar .char p3)), (.int (nar .char p4)), (.int (nar .char p5)), (.int (0 : Int32))] (.int (0 : Int32)) := V8
  have A7 := A7.wr W13
  have F7_value := F7_value.other W13 (Or.inl ne_b7_b8)
  have F7_coder := F7_coder.other W13 (Or.inl ne_b7_b8)
  have O := O.wr W13 g_b8
  have Z0 : n0 ≤ h13.size := Nat.le_trans Z0 (Nat.le_of_eq W13.size.symm)
  have N0 := Fr.snoc X13 N0 g_b8
  have K0 := K0.wr W13 (Or.inr sz_b8)
  refine g_dup X13 hx hby i2_188 rfl ?_
  refine g_iconst X13 hx hby i2_189 (z := (5 : Int32)) (by decide) ?_
  refine g_iload X13 hx hby i2_190 rfl ?_
  refine g_castore X13 hx hby hZ e13 V8 (i := 5) (by decide) (by decide) (by decide) (Nat.le_of_ble_eq_true rfl) i2_192 fun T14 h14 X14 e14 W14 V8 => ?_
  have V8 : Arv Z h14 b8 k8 .char (6 : Int32) [(.int (nar .char p1)), (.int (nar .char p2)), (.int (nar .char p3)), (.int (nar .char p4)), (.int (nar .char p5)), (.int (nar .char p6))] (.int (0 : Int32)) := V8
  have A7 := A7.wr W14
  have F7_value := F7_value.other W14 (Or.inl ne_b7_b8)
  have F7_coder := F7_coder.other W14 (Or.inl ne_b7_b8)
  have O := O.wr W14 g_b8
  have Z0 : n0 ≤ h14.size := Nat.le_trans Z0 (Nat.le_of_eq W14.size.symm)
  have N0 := Fr.snoc X14 N0 g_b8
  have K0 := K0.wr W14 (Or.inr sz_b8)
  refine g_callInit0 X14 hx hby hZ (y := (⟨"java/lang/String", "<init>", "([C)V"⟩ : MethodName)) (argsL := [(.ref b8)]) (rest := [(.ref b7)]) rfl hown (hw _ (List.mem_of_getElem? (i := 11) rfl)) (hw _ (List.mem_of_getElem? (i := 12) rfl)) (hw _ (List.mem_of_getElem? (i := 9) rfl)) (hw _ (List.mem_of_getElem? (i := 13) rfl)) (by decide) (a := b7) (rm3_6 l Z a0 hw [] b7 b8 cz k8 (nar .char p1) (nar .char p2) (nar .char p3) (nar .char p4) (nar .char p5) (nar .char p6) h14 n0 Z0 S0 hcz O A7 F7_value F7_coder g_b7 V8 (own_encN hp1) (own_encN hp2) (own_encN hp3) (own_encN hp4) (own_encN hp5) (own_encN hp6)) e14 (by rw [hml]; rfl) pd_4 rfl rfl i2_193 (by decide) 1 rfl (by decide) (by decide) (by decide) fun T15 v15 L15 X15 q15 => ?_
  obtain ⟨rfl, K15, tb15, kt15, E15, FV15, FC15, V15, N15⟩ := q15
  have N0 := Fr.app N0 N15
  have K0 := K0.trans K15 (fun x hx => Or.inr (by cases hx with | head => exact sz_b7 | tail _ q => cases q))
  have A7 := A7.keep K15
  have V8 := V8.keep K15 (ninS (Ne.symm ne_b7_b8) nin0)
  have O := O.keep K15 (allS g_b7 all0)
  have Z0 : n0 ≤ T15.heap.size := Nat.le_trans Z0 K15.1
  show Gd p e below _ T15 (mkF m 196 #[.val (.int (6 : Int32)), .val (.int p1), .val (.int p2), .val (.int p3), .val (.int p4), .val (.int p5), .val (.int p6)] [(.ref b7)])
  refine g_areturn X15 hx hby hret rfl (fun _ => rfl) hlk rfl i2_196 (by decide) (by decide) ?_
  exact ⟨_, rfl, b7, tb15, _, rfl, K0, A7, FV15, FC15, V15, sz_b7, N0⟩
theorem i9_0 : Ins1 jdk_43_method_13_code 0 (.aload_n 0) 1 1 := ⟨by decide +kernel, rfl⟩
theorem i9_1 : Ins1 jdk_43_method_13_code 1 (.arraylength) 1 2 := ⟨by decide +kernel, rfl⟩
theorem i9_2 : Ins1 jdk_43_method_13_code 2 (.aload_n 1) 1 3 := ⟨by decide +kernel, rfl⟩
theorem i9_3 : Ins1 jdk_43_method_13_code 3 (.arraylength) 1 4 := ⟨by decide +kernel, rfl⟩
theorem i9_4 : InsB jdk_43_method_13_code 4 (.if_icmp .ne 30) 30 7 34 := ⟨by decide +kernel, rfl, by decide, by decide⟩
theorem i9_7 : Ins1 jdk_43_method_13_code 7 (.iconst 0) 1 8 := ⟨by decide +kernel, rfl⟩
theorem i9_8 : Ins1 jdk_43_method_13_code 8 (.istore_n 2) 1 9 := ⟨by decide +kernel, rfl⟩
theorem i9_9 : Ins1 jdk_43_method_13_code 9 (.iload_n 2) 1 10 := ⟨by decide +kernel, rfl⟩
theorem i9_10 : Ins1 jdk_43_method_13_code 10 (.aload_n 0) 1 11 := ⟨by decide +kernel, rfl⟩
theorem i9_11 : Ins1 jdk_43_method_13_code 11 (.arraylength) 1 12 := ⟨by decide +kernel, rfl⟩
theorem i9_12 : InsB jdk_43_method_13_code 12 (.if_icmp .ge 20) 20 15 32 := ⟨by decide +kernel, rfl, by decide, by decide⟩
theorem i9_15 : Ins1 jdk_43_method_13_code 15 (.aload_n 0) 1 16 := ⟨by decide +kernel, rfl⟩
theorem i9_16 : Ins1 jdk_43_method_13_code 16 (.iload_n 2) 1 17 := ⟨by decide +kernel, rfl⟩
theorem i9_17 : Ins1 jdk_43_method_13_code 17 (.baload) 1 18 := ⟨by decide +kernel, rfl⟩
theorem i9_18 : Ins1 jdk_43_method_13_code 18 (.aload_n 1) 1 19 := ⟨by decide +kernel, rfl⟩
theorem i9_19 : Ins1 jdk_43_method_13_code 19 (.iload_n 2) 1 20 := ⟨by decide +kernel, rfl⟩
theorem i9_20 : Ins1 jdk_43_method_13_code 20 (.baload) 1 21 := ⟨by decide +kernel, rfl⟩
theorem i9_21 : InsB jdk_43_method_13_code 21 (.if_icmp .eq 5) 5 24 26 := ⟨by decide +kernel, rfl, by decide, by decide⟩
theorem i9_24 : Ins1 jdk_43_method_13_code 24 (.iconst 0) 1 25 := ⟨by decide +kernel, rfl⟩
theorem i9_25 : Ins1 jdk_43_method_13_code 25 (.ireturn) 1 26 := ⟨by decide +kernel, rfl⟩
theorem i9_26 : Ins1 jdk_43_method_13_code 26 (.iinc 2 1) 3 29 := ⟨by decide +kernel, rfl⟩
theorem i9_29 : InsB jdk_43_method_13_code 29 (.goto (-20)) (-20) 32 9 := ⟨by decide +kernel, rfl, by decide, by decide⟩
theorem i9_32 : Ins1 jdk_43_method_13_code 32 (.iconst 1) 1 33 := ⟨by decide +kernel, rfl⟩
theorem i9_33 : Ins1 jdk_43_method_13_code 33 (.ireturn) 1 34 := ⟨by decide +kernel, rfl⟩
theorem i9_34 : Ins1 jdk_43_method_13_code 34 (.iconst 0) 1 35 := ⟨by decide +kernel, rfl⟩
theorem i9_35 : Ins1 jdk_43_method_13_code 35 (.ireturn) 1 36 := ⟨by decide +kernel, rfl⟩
theorem pn_java_lang_StringLatin1 : plainName "java/lang/StringLatin1" = true := by first | (simp [plainName, overriddenIn]; done) | decide +kernel
theorem ef_9_d (m : MethodId) (b1 : Addr) (b2 : Addr) : entryFrame m #[(.ref b1), (.ref b2)] 3 = mkF m 0 #[.val (.ref b1), .val (.ref b2), .unset] [] := by first | (simp [entryFrame, mkF, argsToLocals, Value.category]; done) | rfl
set_option maxRecDepth 65536 in
set_option maxHeartbeats 40000000 in
theorem rm9_d (l : Launch) (Z : State) (a0 : Array Value) (hw : ∀ d ∈ tables_1, d.before a0 Z = true) (ws : List Jvm.Cond) (b1 : Addr) (b2 : Addr) (k1 k2 : ClassId) (z1 z2 : Int32) (v1 v2 : List Value) (h0 : Heap) (n0 : Nat) (Z0 : n0 ≤ h0.size) (V1 : Arv Z h0 b1 k1 .byte z1 v1 (.int (0 : Int32))) (V2 : Arv Z h0 b2 k2 .byte z2 v2 (.int (0 : Int32))) (hne : ¬ z1 = z2) :
    Met1 l (⟨"java/lang/StringLatin1", "equals", "([B[B)Z"⟩ : MethodName) jdk_43_method_13_code 3 (some .boolean) ws ({ frames := 0, cells := 0, slots := 0, locals := 0 } : Room) #[(.ref b1), (.ref b2)] Z h0 (RV fun vv h L => vv = .int 0 ∧ h = h0 ∧ Fr n0 L) := by
  refine met_of (plainFor_of_name pn_java_lang_StringLatin1) ?_
  intro p e s m below meth c T0 X0 hx hby hml hZ hown hnm hret hlk e0 es
  have N0 := Fr.nil n0
  refine Gd.cast (ef_9_d m b1 b2) ?_
  refine g_aloadN X0 hx hby i9_0 rfl rfl ?_
  refine g_arraylength X0 hx hby hZ e0 V1 i9_1 ?_
  refine g_aloadN X0 hx hby i9_2 rfl rfl ?_
  refine g_arraylength X0 hx hby hZ e0 V2 i9_3 ?_
  refine g_icmp_ne X0 hx hby i9_4 (fun c4_1 => ?_) (fun c4_1 => False.elim (hne c4_1))
  refine g_iconst X0 hx hby i9_34 (z := (0 : Int32)) (by decide) ?_
  refine g_ireturnN X0 hx hby (ty := .boolean) hret (by simp) hlk i9_35 (by decide) (by decide) ?_
  exact ⟨_, rfl, rfl, e0, N0⟩
set_option maxRecDepth 65536 in
set_option maxHeartbeats 40000000 in
theorem rm9_2 (l : Launch) (Z : State) (a0 : Array Value) (hw : ∀ d ∈ tables_1, d.before a0 Z = true) (ws : List Jvm.Cond) (b1 : Addr) (b2 : Addr) (k1 k2 : ClassId) (x0 x1 y0 y1 : Int32) (h0 : Heap) (n0 : Nat) (Z0 : n0 ≤ h0.size) (V1 : Arv Z h0 b1 k1 .byte (2 : Int32) [(.int x0), (.int x1)] (.int (0 : Int32))) (V2 : Arv Z h0 b2 k2 .byte (2 : Int32) [(.int y0), (.int y1)] (.int (0 : Int32))) :
    Met1 l (⟨"java/lang/StringLatin1", "equals", "([B[B)Z"⟩ : MethodName) jdk_43_method_13_code 3 (some .boolean) ws ({ frames := 0, cells := 0, slots := 0, locals := 0 } : Room) #[(.ref b1), (.ref b2)] Z h0 (RV fun vv h L => ∃ r, vv = .int r ∧ ((r = 1 ∧ (x0 = y0 ∧ x1 = y1)) ∨ (r = 0 ∧ ¬ (x0 = y0 ∧ x1 = y1))) ∧ h = h0 ∧ Fr n0 L) := by
  refine met_of (plainFor_of_name pn_java_lang_StringLatin1) ?_
  intro p e s m below meth c T0 X0 hx hby hml hZ hown hnm hret hlk e0 es
  have N0 := Fr.nil n0
  refine Gd.cast (ef_9_d m b1 b2) ?_
  refine g_aloadN X0 hx hby i9_0 rfl rfl ?_
  refine g_arraylength X0 hx hby hZ e0 V1 i9_1 ?_
  refine g_aloadN X0 hx hby i9_2 rfl rfl ?_
  refine g_arraylength X0 hx hby hZ e0 V2 i9_3 ?_
  refine g_icmp_ne X0 hx hby i9_4 (fun c4_1 => False.elim (absurd c4_1 (by decide))) fun c4_1 => ?_
  refine g_iconst X0 hx hby i9_7 (z := (0 : Int32)) (by decide) ?_
  refine g_istoreN X0 hx hby i9_8 (l' := #[.val (.ref b1), .val (.ref b2), .val (.int (0 : Int32))]) rfl ?_
  refine g_iloadN X0 hx hby i9_9 rfl ?_
  refine g_aloadN X0 hx hby i9_10 rfl rfl ?_
  refine g_arraylength X0 hx hby hZ e0 V1 i9_11 ?_
  refine g_icmp_ge X0 hx hby i9_12 (fun c12_2 => False.elim (absurd c12_2 (by decide))) fun c12_2 => ?_
  refine g_aloadN X0 hx hby i9_15 rfl rfl ?_
  refine g_iloadN X0 hx hby i9_16 rfl ?_
  refine g_baload X0 hx hby hZ e0 V1 (i := 0) (by decide) (by decide) (by decide) rfl i9_17 ?_
  refine g_aloadN X0 hx hby i9_18 rfl rfl ?_
  refine g_iloadN X0 hx hby i9_19 rfl ?_
  refine g_baload X0 hx hby hZ e0 V2 (i := 0) (by decide) (by decide) (by decide) rfl i9_20 ?_
  refine g_icmp_eq X0 hx hby i9_21 (fun c21_3 => ?_) (fun c21_3 => ?_)
  · refine g_iinc X0 hx hby i9_26 rfl (z := (1 : Int32)) (by decide) (l' := #[.val (.ref b1), .val (.ref b2), .val (.int (1 : Int32))]) rfl ?_
    refine g_goto X0 hx hby i9_29 ?_
    refine g_iloadN X0 hx hby i9_9 rfl ?_
    refine g_aloadN X0 hx hby i9_10 rfl rfl ?_
    refine g_arraylength X0 hx hby hZ e0 V1 i9_11 ?_
    refine g_icmp_ge X0 hx hby i9_12 (fun c12_4 => False.elim (absurd c12_4 (by decide))) fun c12_4 => ?_
    refine g_aloadN X0 hx hby i9_15 rfl rfl ?_
    refine g_iloadN X0 hx hby i9_16 rfl ?_
    refine g_baload X0 hx hby hZ e0 V1 (i := 1) (by decide) (by decide) (by decide) rfl i9_17 ?_
    refine g_aloadN X0 hx hby i9_18 rfl rfl ?_
    refine g_iloadN X0 hx hby i9_19 rfl ?_
    refine g_baload X0 hx hby hZ e0 V2 (i := 1) (by decide) (by decide) (by decide) rfl i9_20 ?_
    refine g_icmp_eq X0 hx hby i9_21 (fun c21_5 => ?_) (fun c21_5 => ?_)
    · refine g_iinc X0 hx hby i9_26 rfl (z := (2 : Int32)) (by decide) (l' := #[.val (.ref b1), .val (.ref b2), .val (.int (2 : Int32))]) rfl ?_
      refine g_goto X0 hx hby i9_29 ?_
      refine g_iloadN X0 hx hby i9_9 rfl ?_
      refine g_aloadN X0 hx hby i9_10 rfl rfl ?_
      refine g_arraylength X0 hx hby hZ e0 V1 i9_11 ?_
      refine g_icmp_ge X0 hx hby i9_12 (fun c12_6 => ?_) (fun c12_6 => False.elim (absurd c12_6 (by decide)))
      refine g_iconst X0 hx hby i9_32 (z := (1 : Int32)) (by decide) ?_
      refine g_ireturnN X0 hx hby (ty := .boolean) hret (by simp) hlk i9_33 (by decide) (by decide) ?_
      exact ⟨_, rfl, _, rfl, Or.inl ⟨rfl, c21_3, c21_5⟩, e0, N0⟩
    · refine g_iconst X0 hx hby i9_24 (z := (0 : Int32)) (by decide) ?_
      refine g_ireturnN X0 hx hby (ty := .boolean) hret (by simp) hlk i9_25 (by decide) (by decide) ?_
      exact ⟨_, rfl, _, rfl, Or.inr ⟨rfl, fun q => c21_5 (q.2)⟩, e0, N0⟩
  · refine g_iconst X0 hx hby i9_24 (z := (0 : Int32)) (by decide) ?_
    refine g_ireturnN X0 hx hby (ty := .boolean) hret (by simp) hlk i9_25 (by decide) (by decide) ?_
    exact ⟨_, rfl, _, rfl, Or.inr ⟨rfl, fun q => c21_3 (q.1)⟩, e0, N0⟩
set_option maxRecDepth 65536 in
set_option maxHeartbeats 40000000 in
theorem rm9_4 (l : Launch) (Z : State) (a0 : Array Value) (hw : ∀ d ∈ tables_1, d.before a0 Z = true) (ws : List Jvm.Cond) (b1 : Addr) (b2 : Addr) (k1 k2 : ClassId) (x0 x1 x2 x3 y0 y1 y2 y3 : Int32) (h0 : Heap) (n0 : Nat) (Z0 : n0 ≤ h0.size) (V1 : Arv Z h0 b1 k1 .byte (4 : Int32) [(.int x0), (.int x1), (.int x2), (.int x3)] (.int (0 : Int32))) (V2 : Arv Z h0 b2 k2 .byte (4 : Int32) [(.int y0), (.int y1), (.int y2), (.int y3)] (.int (0 : Int32))) :
    Met1 l (⟨"java/lang/StringLatin1", "equals", "([B[B)Z"⟩ : MethodName) jdk_43_method_13_code 3 (some .boolean) ws ({ frames := 0, cells := 0, slots := 0, locals := 0 } : Room) #[(.ref b1), (.ref b2)] Z h0 (RV fun vv h L => ∃ r, vv = .int r ∧ ((r = 1 ∧ (x0 = y0 ∧ x1 = y1 ∧ x2 = y2 ∧ x3 = y3)) ∨ (r = 0 ∧ ¬ (x0 = y0 ∧ x1 = y1 ∧ x2 = y2 ∧ x3 = y3))) ∧ h = h0 ∧ Fr n0 L) := by
  refine met_of (plainFor_of_name pn_java_lang_StringLatin1) ?_
  intro p e s m below meth c T0 X0 hx hby hml hZ hown hnm hret hlk e0 es
  have N0 := Fr.nil n0
  refine Gd.cast (ef_9_d m b1 b2) ?_
  refine g_aloadN X0 hx hby i9_0 rfl rfl ?_
  refine g_arraylength X0 hx hby hZ e0 V1 i9_1 ?_
  refine g_aloadN X0 hx hby i9_2 rfl rfl ?_
  refine g_arraylength X0 hx hby hZ e0 V2 i9_3 ?_
  refine g_icmp_ne X0 hx hby i9_4 (fun c4_1 => False.elim (absurd c4_1 (by decide))) fun c4_1 => ?_
  refine g_iconst X0 hx hby i9_7 (z := (0 : Int32)) (by decide) ?_
  refine g_istoreN X0 hx hby i9_8 (l' := #[.val (.ref b1), .val (.ref b2), .val (.int (0 : Int32))]) rfl ?_
  refine g_iloadN X0 hx hby i9_9 rfl ?_
  refine g_aloadN X0 hx hby i9_10 rfl rfl ?_
  refine g_arraylength X0 hx hby hZ e0 V1 i9_11 ?_
  refine g_icmp_ge X0 hx hby i9_12 (fun c12_2 => False.elim (absurd c12_2 (by decide))) fun c12_2 => ?_
  refine g_aloadN X0 hx hby i9_15 rfl rfl ?_
  refine g_iloadN X0 hx hby i9_16 rfl ?_
  refine g_baload X0 hx hby hZ e0 V1 (i := 0) (by decide) (by decide) (by decide) rfl i9_17 ?_
  refine g_aloadN X0 hx hby i9_18 rfl rfl ?_
  refine g_iloadN X0 hx hby i9_19 rfl ?_
  refine g_baload X0 hx hby hZ e0 V2 (i := 0) (by decide) (by decide) (by decide) rfl i9_20 ?_
  refine g_icmp_eq X0 hx hby i9_21 (fun c21_3 => ?_) (fun c21_3 => ?_)
  · refine g_iinc X0 hx hby i9_26 rfl (z := (1 : Int32)) (by decide) (l' := #[.val (.ref b1), .val (.ref b2), .val (.int (1 : Int32))]) rfl ?_
    refine g_goto X0 hx hby i9_29 ?_
    refine g_iloadN X0 hx hby i9_9 rfl ?_
    refine g_aloadN X0 hx hby i9_10 rfl rfl ?_
    refine g_arraylength X0 hx hby hZ e0 V1 i9_11 ?_
    refine g_icmp_ge X0 hx hby i9_12 (fun c12_4 => False.elim (absurd c12_4 (by decide))) fun c12_4 => ?_
    refine g_aloadN X0 hx hby i9_15 rfl rfl ?_
    refine g_iloadN X0 hx hby i9_16 rfl ?_
    refine g_baload X0 hx hby hZ e0 V1 (i := 1) (by decide) (by decide) (by decide) rfl i9_17 ?_
    refine g_aloadN X0 hx hby i9_18 rfl rfl ?_
    refine g_iloadN X0 hx hby i9_19 rfl ?_
    refine g_baload X0 hx hby hZ e0 V2 (i := 1) (by decide) (by decide) (by decide) rfl i9_20 ?_
    refine g_icmp_eq X0 hx hby i9_21 (fun c21_5 => ?_) (fun c21_5 => ?_)
    · refine g_iinc X0 hx hby i9_26 rfl (z := (2 : Int32)) (by decide) (l' := #[.val (.ref b1), .val (.ref b2), .val (.int (2 : Int32))]) rfl ?_
      refine g_goto X0 hx hby i9_29 ?_
      refine g_iloadN X0 hx hby i9_9 rfl ?_
      refine g_aloadN X0 hx hby i9_10 rfl rfl ?_
      refine g_arraylength X0 hx hby hZ e0 V1 i9_11 ?_
      refine g_icmp_ge X0 hx hby i9_12 (fun c12_6 => False.elim (absurd c12_6 (by decide))) fun c12_6 => ?_
      refine g_aloadN X0 hx hby i9_15 rfl rfl ?_
      refine g_iloadN X0 hx hby i9_16 rfl ?_
      refine g_baload X0 hx hby hZ e0 V1 (i := 2) (by decide) (by decide) (by decide) rfl i9_17 ?_
      refine g_aloadN X0 hx hby i9_18 rfl rfl ?_
      refine g_iloadN X0 hx hby i9_19 rfl ?_
      refine g_baload X0 hx hby hZ e0 V2 (i := 2) (by decide) (by decide) (by decide) rfl i9_20 ?_
      refine g_icmp_eq X0 hx hby i9_21 (fun c21_7 => ?_) (fun c21_7 => ?_)
      · refine g_iinc X0 hx hby i9_26 rfl (z := (3 : Int32)) (by decide) (l' := #[.val (.ref b1), .val (.ref b2), .val (.int (3 : Int32))]) rfl ?_
        refine g_goto X0 hx hby i9_29 ?_
        refine g_iloadN X0 hx hby i9_9 rfl ?_
        refine g_aloadN X0 hx hby i9_10 rfl rfl ?_
        refine g_arraylength X0 hx hby hZ e0 V1 i9_11 ?_
        refine g_icmp_ge X0 hx hby i9_12 (fun c12_8 => False.elim (absurd c12_8 (by decide))) fun c12_8 => ?_
        refine g_aloadN X0 hx hby i9_15 rfl rfl ?_
        refine g_iloadN X0 hx hby i9_16 rfl ?_
        refine g_baload X0 hx hby hZ e0 V1 (i := 3) (by decide) (by decide) (by decide) rfl i9_17 ?_
        refine g_aloadN X0 hx hby i9_18 rfl rfl ?_
        refine g_iloadN X0 hx hby i9_19 rfl ?_
        refine g_baload X0 hx hby hZ e0 V2 (i := 3) (by decide) (by decide) (by decide) rfl i9_20 ?_
        refine g_icmp_eq X0 hx hby i9_21 (fun c21_9 => ?_) (fun c21_9 => ?_)
        · refine g_iinc X0 hx hby i9_26 rfl (z := (4 : Int32)) (by decide) (l' := #[.val (.ref b1), .val (.ref b2), .val (.int (4 : Int32))]) rfl ?_
          refine g_goto X0 hx hby i9_29 ?_
          refine g_iloadN X0 hx hby i9_9 rfl ?_
          refine g_aloadN X0 hx hby i9_10 rfl rfl ?_
          refine g_arraylength X0 hx hby hZ e0 V1 i9_11 ?_
          refine g_icmp_ge X0 hx hby i9_12 (fun c12_10 => ?_) (fun c12_10 => False.elim (absurd c12_10 (by decide)))
          refine g_iconst X0 hx hby i9_32 (z := (1 : Int32)) (by decide) ?_
          refine g_ireturnN X0 hx hby (ty := .boolean) hret (by simp) hlk i9_33 (by decide) (by decide) ?_
          exact ⟨_, rfl, _, rfl, Or.inl ⟨rfl, c21_3, c21_5, c21_7, c21_9⟩, e0, N0⟩
        · refine g_iconst X0 hx hby i9_24 (z := (0 : Int32)) (by decide) ?_
          refine g_ireturnN X0 hx hby (ty := .boolean) hret (by simp) hlk i9_25 (by decide) (by decide) ?_
          exact ⟨_, rfl, _, rfl, Or.inr ⟨rfl, fun q => c21_9 (q.2.2.2)⟩, e0, N0⟩
      · refine g_iconst X0 hx hby i9_24 (z := (0 : Int32)) (by decide) ?_
        refine g_ireturnN X0 hx hby (ty := .boolean) hret (by simp) hlk i9_25 (by decide) (by decide) ?_
        exact ⟨_, rfl, _, rfl, Or.inr ⟨rfl, fun q => c21_7 (q.2.2.1)⟩, e0, N0⟩
    · refine g_iconst X0 hx hby i9_24 (z := (0 : Int32)) (by decide) ?_
      refine g_ireturnN X0 hx hby (ty := .boolean) hret (by simp) hlk i9_25 (by decide) (by decide) ?_
      exact ⟨_, rfl, _, rfl, Or.inr ⟨rfl, fun q => c21_5 (q.2.1)⟩, e0, N0⟩
  · refine g_iconst X0 hx hby i9_24 (z := (0 : Int32)) (by decide) ?_
    refine g_ireturnN X0 hx hby (ty := .boolean) hret (by simp) hlk i9_25 (by decide) (by decide) ?_
    exact ⟨_, rfl, _, rfl, Or.inr ⟨rfl, fun q => c21_3 (q.1)⟩, e0, N0⟩
theorem i8_0 : Ins1 jdk_42_method_66_code 0 (.aload_n 0) 1 1 := ⟨by decide +kernel, rfl⟩
theorem i8_1 : Ins1 jdk_42_method_66_code 1 (.aload_n 1) 1 2 := ⟨by decide +kernel, rfl⟩
theorem i8_2 : InsB jdk_42_method_66_code 2 (.if_acmp .ne 5) 5 5 7 := ⟨by decide +kernel, rfl, by decide, by decide⟩
theorem i8_5 : Ins1 jdk_42_method_66_code 5 (.iconst 1) 1 6 := ⟨by decide +kernel, rfl⟩
theorem i8_6 : Ins1 jdk_42_method_66_code 6 (.ireturn) 1 7 := ⟨by decide +kernel, rfl⟩
theorem i8_7 : Ins1 jdk_42_method_66_code 7 (.aload_n 1) 1 8 := ⟨by decide +kernel, rfl⟩
theorem i8_8 : Ins1 jdk_42_method_66_code 8 (.instanceof 10) 3 11 := ⟨by decide +kernel, rfl⟩
theorem i8_11 : InsB jdk_42_method_66_code 11 (.ifCond .eq 43) 43 14 54 := ⟨by decide +kernel, rfl, by decide, by decide⟩
theorem i8_14 : Ins1 jdk_42_method_66_code 14 (.aload_n 1) 1 15 := ⟨by decide +kernel, rfl⟩
theorem i8_15 : Ins1 jdk_42_method_66_code 15 (.checkcast 10) 3 18 := ⟨by decide +kernel, rfl⟩
theorem i8_18 : Ins1 jdk_42_method_66_code 18 (.astore_n 2) 1 19 := ⟨by decide +kernel, rfl⟩
theorem i8_19 : Ins1 jdk_42_method_66_code 19 (.getstatic 38) 3 22 := ⟨by decide +kernel, rfl⟩
theorem i8_22 : InsB jdk_42_method_66_code 22 (.ifCond .eq 14) 14 25 36 := ⟨by decide +kernel, rfl, by decide, by decide⟩
theorem i8_25 : Ins1 jdk_42_method_66_code 25 (.aload_n 0) 1 26 := ⟨by decide +kernel, rfl⟩
theorem i8_26 : Ins1 jdk_42_method_66_code 26 (.getfield 15) 3 29 := ⟨by decide +kernel, rfl⟩
theorem i8_29 : Ins1 jdk_42_method_66_code 29 (.aload_n 2) 1 30 := ⟨by decide +kernel, rfl⟩
theorem i8_30 : Ins1 jdk_42_method_66_code 30 (.getfield 15) 3 33 := ⟨by decide +kernel, rfl⟩
theorem i8_33 : InsB jdk_42_method_66_code 33 (.if_icmp .ne 21) 21 36 54 := ⟨by decide +kernel, rfl, by decide, by decide⟩
theorem i8_36 : Ins1 jdk_42_method_66_code 36 (.aload_n 0) 1 37 := ⟨by decide +kernel, rfl⟩
theorem i8_37 : Ins1 jdk_42_method_66_code 37 (.getfield 9) 3 40 := ⟨by decide +kernel, rfl⟩
theorem i8_40 : Ins1 jdk_42_method_66_code 40 (.aload_n 2) 1 41 := ⟨by decide +kernel, rfl⟩
theorem i8_41 : Ins1 jdk_42_method_66_code 41 (.getfield 9) 3 44 := ⟨by decide +kernel, rfl⟩
theorem i8_44 : Ins1 jdk_42_method_66_code 44 (.invokestatic 541) 3 47 := ⟨by decide +kernel, rfl⟩
theorem i8_47 : InsB jdk_42_method_66_code 47 (.ifCond .eq 7) 7 50 54 := ⟨by decide +kernel, rfl, by decide, by decide⟩
theorem i8_50 : Ins1 jdk_42_method_66_code 50 (.iconst 1) 1 51 := ⟨by decide +kernel, rfl⟩
theorem i8_51 : InsB jdk_42_method_66_code 51 (.goto 4) 4 54 55 := ⟨by decide +kernel, rfl, by decide, by decide⟩
theorem i8_54 : Ins1 jdk_42_method_66_code 54 (.iconst 0) 1 55 := ⟨by decide +kernel, rfl⟩
theorem i8_55 : Ins1 jdk_42_method_66_code 55 (.ireturn) 1 56 := ⟨by decide +kernel, rfl⟩
theorem ef_8_n (m : MethodId) (a : Addr) : entryFrame m #[(.ref a), .null] 3 = mkF m 0 #[.val (.ref a), .val .null, .unset] [] := by first | (simp [entryFrame, mkF, argsToLocals, Value.category]; done) | rfl
set_option maxRecDepth 65536 in
set_option maxHeartbeats 40000000 in
theorem rm8_n (l : Launch) (Z : State) (a0 : Array Value) (hw : ∀ d ∈ tables_1, d.before a0 Z = true) (ws : List Jvm.Cond) (a : Addr)  (h0 : Heap) (n0 : Nat) (Z0 : n0 ≤ h0.size)  :
    Met1 l (⟨"java/lang/String", "equals", "(Ljava/lang/Object;)Z"⟩ : MethodName) jdk_42_method_66_code 3 (some .boolean) ws ({ frames := 1, cells := 0, slots := 0, locals := 14 } : Room) #[(.ref a), .null] Z h0 (RV fun vv h L => vv = .int 0 ∧ h = h0 ∧ Fr n0 L) := by
  refine met_of (plainFor_of_name pn_java_lang_String) ?_
  intro p e s m below meth c T0 X0 hx hby hml hZ hown hnm hret hlk e0 es
  have N0 := Fr.nil n0
  refine Gd.cast (ef_8_n m a) ?_
  refine g_aloadN X0 hx hby i8_0 rfl rfl ?_
  refine g_aloadN X0 hx hby i8_1 rfl rfl ?_
  refine g_acmp_ne X0 hx hby i8_2 rfl rfl (fun c2_1 => ?_) (fun c2_1 => False.elim (by cases c2_1))
  refine g_aloadN X0 hx hby i8_7 rfl rfl ?_
  refine g_instNull X0 hx hby i8_8 ?_
  refine g_if_eq X0 hx hby i8_11 (fun c11_2 => ?_) (fun c11_2 => False.elim (absurd c11_2 (by decide)))
  refine g_iconst X0 hx hby i8_54 (z := (0 : Int32)) (by decide) ?_
  refine g_ireturnN X0 hx hby (ty := .boolean) hret (by simp) hlk i8_55 (by decide) (by decide) ?_
  exact ⟨_, rfl, rfl, e0, N0⟩
theorem ef_8_d (m : MethodId) (a : Addr) (o : Addr) : entryFrame m #[(.ref a), (.ref o)] 3 = mkF m 0 #[.val (.ref a), .val (.ref o), .unset] [] := by first | (simp [entryFrame, mkF, argsToLocals, Value.category]; done) | rfl
theorem pd_5 : parseMethodDescriptor "([B[B)Z" = some ⟨[(.array .byte), (.array .byte)], some .boolean⟩ := by decide +kernel
set_option maxRecDepth 65536 in
set_option maxHeartbeats 40000000 in
theorem rm8_d (l : Launch) (Z : State) (a0 : Array Value) (hw : ∀ d ∈ tables_1, d.before a0 Z = true) (ws : List Jvm.Cond) (a : Addr) (o : Addr) (cz : Int32) (b1 b2 : Addr) (k1 k2 : ClassId) (z1 z2 : Int32) (v1 v2 : List Value) (h0 : Heap) (n0 : Nat) (Z0 : n0 ≤ h0.size) (S0 : Sta Z Z.heap "java/lang/String" "COMPACT_STRINGS" "Z" (.int cz)) (hcz : ¬ cz = (0 : Int32)) (O : Old Z n0 h0) (E1 : Exa Z h0 a "java/lang/String") (FC1_ : Fld Z h0 a "java/lang/String" "coder" "B" (.int 0)) (FV1_ : Fld Z h0 a "java/lang/String" "value" "[B" (.ref b1)) (E2 : Exa Z h0 o "java/lang/String") (FC2_ : Fld Z h0 o "java/lang/String" "coder" "B" (.int 0)) (FV2_ : Fld Z h0 o "java/lang/String" "value" "[B" (.ref b2)) (V1 : Arv Z h0 b1 k1 .byte z1 v1 (.int (0 : Int32))) (V2 : Arv Z h0 b2 k2 .byte z2 v2 (.int (0 : Int32))) (hao : a ≠ o) (hne : ¬ z1 = z2) :
    Met1 l (⟨"java/lang/String", "equals", "(Ljava/lang/Object;)Z"⟩ : MethodName) jdk_42_method_66_code 3 (some .boolean) ws ({ frames := 1, cells := 0, slots := 0, locals := 14 } : Room) #[(.ref a), (.ref o)] Z h0 (RV fun vv h L => vv = .int 0 ∧ h = h0 ∧ Fr n0 L) := by
  refine met_of (plainFor_of_name pn_java_lang_String) ?_
  intro p e s m below meth c T0 X0 hx hby hml hZ hown hnm hret hlk e0 es
  have N0 := Fr.nil n0
  refine Gd.cast (ef_8_d m a o) ?_
  refine g_aloadN X0 hx hby i8_0 rfl rfl ?_
  refine g_aloadN X0 hx hby i8_1 rfl rfl ?_
  refine g_acmp_ne X0 hx hby i8_2 rfl rfl (fun c2_1 => ?_) (fun c2_1 => False.elim (hao (Value.ref.inj c2_1)))
  refine g_aloadN X0 hx hby i8_7 rfl rfl ?_
  refine g_instY X0 hx hby hZ hown (hw _ (List.mem_of_getElem? (i := 57) rfl)) e0 (Ins.self E2) i8_8 fun T2 X2 e2 => ?_
  refine g_if_eq X2 hx hby i8_11 (fun c11_3 => False.elim (absurd c11_3 (by decide))) fun c11_3 => ?_
  refine g_aloadN X2 hx hby i8_14 rfl rfl ?_
  refine g_castY X2 hx hby hZ hown (hw _ (List.mem_of_getElem? (i := 57) rfl)) e2 (Ins.self E2) i8_15 fun T4 X4 e4 => ?_
  refine g_astoreN X4 hx hby i8_18 rfl (l' := #[.val (.ref a), .val (.ref o), .val (.ref o)]) rfl ?_
  refine g_getstatic X4 hx hby hZ hown (host := "") (Or.inl (hw _ (List.mem_of_getElem? (i := 58) rfl))) Via.refl e4 (S0.ext O.2) i8_19 fun T5 X5 e5 => ?_
  refine g_if_eq X5 hx hby i8_22 (fun c22_6 => False.elim (hcz c22_6)) fun c22_6 => ?_
  refine g_aloadN X5 hx hby i8_25 rfl rfl ?_
  refine g_getfield X5 hx hby hZ hown (host := "") (Or.inl (hw _ (List.mem_of_getElem? (i := 28) rfl))) Via.refl e5 FC1_ i8_26 fun T7 X7 e7 => ?_
  refine g_aloadN X7 hx hby i8_29 rfl rfl ?_
  refine g_getfield X7 hx hby hZ hown (host := "") (Or.inl (hw _ (List.mem_of_getElem? (i := 28) rfl))) Via.refl e7 FC2_ i8_30 fun T8 X8 e8 => ?_
  refine g_icmp_ne X8 hx hby i8_33 (fun c33_9 => False.elim (absurd c33_9 (by decide))) fun c33_9 => ?_
  refine g_aloadN X8 hx hby i8_36 rfl rfl ?_
  refine g_getfield X8 hx hby hZ hown (host := "") (Or.inl (hw _ (List.mem_of_getElem? (i := 27) rfl))) Via.refl e8 FV1_ i8_37 fun T10 X10 e10 => ?_
  refine g_aloadN X10 hx hby i8_40 rfl rfl ?_
  refine g_getfield X10 hx hby hZ hown (host := "") (Or.inl (hw _ (List.mem_of_getElem? (i := 27) rfl))) Via.refl e10 FV2_ i8_41 fun T11 X11 e11 => ?_
  refine g_callS0 X11 hx hby hZ (y := (⟨"java/lang/StringLatin1", "equals", "([B[B)Z"⟩ : MethodName)) (argsL := [(.ref b1), (.ref b2)]) (rest := []) hown (hw _ (List.mem_of_getElem? (i := 59) rfl)) (hw _ (List.mem_of_getElem? (i := 60) rfl)) (hw _ (List.mem_of_getElem? (i := 61) rfl)) (hw _ (List.mem_of_getElem? (i := 62) rfl)) (by decide) (rm9_d l Z a0 hw [] b1 b2 k1 k2 z1 z2 _ _ h0 n0 Z0 V1 V2 hne) e11 (by rw [hml]; rfl) pd_5 rfl rfl i8_44 (by decide) 0 rfl (by decide) (by decide) (by decide) fun T12 v12 L12 X12 q12 => ?_
  obtain ⟨_, rfl, rfl, e12, N12⟩ := q12
  have N0 := Fr.app N0 N12
  show Gd p e below _ T12 (mkF m 47 #[.val (.ref a), .val (.ref o), .val (.ref o)] [(.int (0 : Int32))])
  refine g_if_eq X12 hx hby i8_47 (fun c47_13 => ?_) (fun c47_13 => False.elim (absurd c47_13 (by decide)))
  refine g_iconst X12 hx hby i8_54 (z := (0 : Int32)) (by decide) ?_
  refine g_ireturnN X12 hx hby (ty := .boolean) hret (by simp) hlk i8_55 (by decide) (by decide) ?_
  exact ⟨_, rfl, rfl, e12, N0⟩
set_option maxRecDepth 65536 in
set_option maxHeartbeats 40000000 in
theorem rm8_2 (l : Launch) (Z : State) (a0 : Array Value) (hw : ∀ d ∈ tables_1, d.before a0 Z = true) (ws : List Jvm.Cond) (a : Addr) (o : Addr) (cz : Int32) (b1 b2 : Addr) (k1 k2 : ClassId) (x0 x1 y0 y1 : Int32) (h0 : Heap) (n0 : Nat) (Z0 : n0 ≤ h0.size) (S0 : Sta Z Z.heap "java/lang/String" "COMPACT_STRINGS" "Z" (.int cz)) (hcz : ¬ cz = (0 : Int32)) (O : Old Z n0 h0) (E1 : Exa Z h0 a "java/lang/String") (FC1_ : Fld Z h0 a "java/lang/String" "coder" "B" (.int 0)) (FV1_ : Fld Z h0 a "java/lang/String" "value" "[B" (.ref b1)) (E2 : Exa Z h0 o "java/lang/String") (FC2_ : Fld Z h0 o "java/lang/String" "coder" "B" (.int 0)) (FV2_ : Fld Z h0 o "java/lang/String" "value" "[B" (.ref b2)) (V1 : Arv Z h0 b1 k1 .byte (2 : Int32) [(.int x0), (.int x1)] (.int (0 : Int32))) (V2 : Arv Z h0 b2 k2 .byte (2 : Int32) [(.int y0), (.int y1)] (.int (0 : Int32))) (hao : a ≠ o) :
    Met1 l (⟨"java/lang/String", "equals", "(Ljava/lang/Object;)Z"⟩ : MethodName) jdk_42_method_66_code 3 (some .boolean) ws ({ frames := 1, cells := 0, slots := 0, locals := 14 } : Room) #[(.ref a), (.ref o)] Z h0 (RV fun vv h L => ∃ r, vv = .int r ∧ ((r = 1 ∧ (x0 = y0 ∧ x1 = y1)) ∨ (r = 0 ∧ ¬ (x0 = y0 ∧ x1 = y1))) ∧ h = h0 ∧ Fr n0 L) := by
  refine met_of (plainFor_of_name pn_java_lang_String) ?_
  intro p e s m below meth c T0 X0 hx hby hml hZ hown hnm hret hlk e0 es
  have N0 := Fr.nil n0
  refine Gd.cast (ef_8_d m a o) ?_
  refine g_aloadN X0 hx hby i8_0 rfl rfl ?_
  refine g_aloadN X0 hx hby i8_1 rfl rfl ?_
  refine g_acmp_ne X0 hx hby i8_2 rfl rfl (fun c2_1 => ?_) (fun c2_1 => False.elim (hao (Value.ref.inj c2_1)))
  refine g_aloadN X0 hx hby i8_7 rfl rfl ?_
  refine g_instY X0 hx hby hZ hown (hw _ (List.mem_of_getElem? (i := 57) rfl)) e0 (Ins.self E2) i8_8 fun T2 X2 e2 => ?_
  refine g_if_eq X2 hx hby i8_11 (fun c11_3 => False.elim (absurd c11_3 (by decide))) fun c11_3 => ?_
  refine g_aloadN X2 hx hby i8_14 rfl rfl ?_
  refine g_castY X2 hx hby hZ hown (hw _ (List.mem_of_getElem? (i := 57) rfl)) e2 (Ins.self E2) i8_15 fun T4 X4 e4 => ?_
  refine g_astoreN X4 hx hby i8_18 rfl (l' := #[.val (.ref a), .val (.ref o), .val (.ref o)]) rfl ?_
  refine g_getstatic X4 hx hby hZ hown (host := "") (Or.inl (hw _ (List.mem_of_getElem? (i := 58) rfl))) Via.refl e4 (S0.ext O.2) i8_19 fun T5 X5 e5 => ?_
  refine g_if_eq X5 hx hby i8_22 (fun c22_6 => False.elim (hcz c22_6)) fun c22_6 => ?_
  refine g_aloadN X5 hx hby i8_25 rfl rfl ?_
  refine g_getfield X5 hx hby hZ hown (host := "") (Or.inl (hw _ (List.mem_of_getElem? (i := 28) rfl))) Via.refl e5 FC1_ i8_26 fun T7 X7 e7 => ?_
  refine g_aloadN X7 hx hby i8_29 rfl rfl ?_
  refine g_getfield X7 hx hby hZ hown (host := "") (Or.inl (hw _ (List.mem_of_getElem? (i := 28) rfl))) Via.refl e7 FC2_ i8_30 fun T8 X8 e8 => ?_
  refine g_icmp_ne X8 hx hby i8_33 (fun c33_9 => False.elim (absurd c33_9 (by decide))) fun c33_9 => ?_
  refine g_aloadN X8 hx hby i8_36 rfl rfl ?_
  refine g_getfield X8 hx hby hZ hown (host := "") (Or.inl (hw _ (List.mem_of_getElem? (i := 27) rfl))) Via.refl e8 FV1_ i8_37 fun T10 X10 e10 => ?_
  refine g_aloadN X10 hx hby i8_40 rfl rfl ?_
  refine g_getfield X10 hx hby hZ hown (host := "") (Or.inl (hw _ (List.mem_of_getElem? (i := 27) rfl))) Via.refl e10 FV2_ i8_41 fun T11 X11 e11 => ?_
  refine g_callS0 X11 hx hby hZ (y := (⟨"java/lang/StringLatin1", "equals", "([B[B)Z"⟩ : MethodName)) (argsL := [(.ref b1), (.ref b2)]) (rest := []) hown (hw _ (List.mem_of_getElem? (i := 59) rfl)) (hw _ (List.mem_of_getElem? (i := 60) rfl)) (hw _ (List.mem_of_getElem? (i := 61) rfl)) (hw _ (List.mem_of_getElem? (i := 62) rfl)) (by decide) (rm9_2 l Z a0 hw [] b1 b2 k1 k2 x0 x1 y0 y1 h0 n0 Z0 V1 V2) e11 (by rw [hml]; rfl) pd_5 rfl rfl i8_44 (by decide) 0 rfl (by decide) (by decide) (by decide) fun T12 v12 L12 X12 q12 => ?_
  obtain ⟨_, rfl, r12, rfl, hr12, e12, N12⟩ := q12
  have N0 := Fr.app N0 N12
  show Gd p e below _ T12 (mkF m 47 #[.val (.ref a), .val (.ref o), .val (.ref o)] [(.int r12)])
  refine g_if_eq X12 hx hby i8_47 (fun c47_13 => ?_) (fun c47_13 => ?_)
  · refine g_iconst X12 hx hby i8_54 (z := (0 : Int32)) (by decide) ?_
    refine g_ireturnN X12 hx hby (ty := .boolean) hret (by simp) hlk i8_55 (by decide) (by decide) ?_
    exact ⟨_, rfl, _, rfl, Or.inr ⟨rfl, own_no hr12 c47_13⟩, e12, N0⟩
  · refine g_iconst X12 hx hby i8_50 (z := (1 : Int32)) (by decide) ?_
    refine g_goto X12 hx hby i8_51 ?_
    refine g_ireturnN X12 hx hby (ty := .boolean) hret (by simp) hlk i8_55 (by decide) (by decide) ?_
    exact ⟨_, rfl, _, rfl, Or.inl ⟨rfl, own_yes hr12 c47_13⟩, e12, N0⟩
set_option maxRecDepth 65536 in
set_option maxHeartbeats 40000000 in
theorem rm8_4 (l : Launch) (Z : State) (a0 : Array Value) (hw : ∀ d ∈ tables_1, d.before a0 Z = true) (ws : List Jvm.Cond) (a : Addr) (o : Addr) (cz : Int32) (b1 b2 : Addr) (k1 k2 : ClassId) (x0 x1 x2 x3 y0 y1 y2 y3 : Int32) (h0 : Heap) (n0 : Nat) (Z0 : n0 ≤ h0.size) (S0 : Sta Z Z.heap "java/lang/String" "COMPACT_STRINGS" "Z" (.int cz)) (hcz : ¬ cz = (0 : Int32)) (O : Old Z n0 h0) (E1 : Exa Z h0 a "java/lang/String") (FC1_ : Fld Z h0 a "java/lang/String" "coder" "B" (.int 0)) (FV1_ : Fld Z h0 a "java/lang/String" "value" "[B" (.ref b1)) (E2 : Exa Z h0 o "java/lang/String") (FC2_ : Fld Z h0 o "java/lang/String" "coder" "B" (.int 0)) (FV2_ : Fld Z h0 o "java/lang/String" "value" "[B" (.ref b2)) (V1 : Arv Z h0 b1 k1 .byte (4 : Int32) [(.int x0), (.int x1), (.int x2), (.int x3)] (.int (0 : Int32))) (V2 : Arv Z h0 b2 k2 .byte (4 : Int32) [(.int y0), (.int y1), (.int y2), (.int y3)] (.int (0 : Int32))) (hao : a ≠ o) :
    Met1 l (⟨"java/lang/String", "equals", "(Ljava/lang/Object;)Z"⟩ : MethodName) jdk_42_method_66_code 3 (some .boolean) ws ({ frames := 1, cells := 0, slots := 0, locals := 14 } : Room) #[(.ref a), (.ref o)] Z h0 (RV fun vv h L => ∃ r, vv = .int r ∧ ((r = 1 ∧ (x0 = y0 ∧ x1 = y1 ∧ x2 = y2 ∧ x3 = y3)) ∨ (r = 0 ∧ ¬ (x0 = y0 ∧ x1 = y1 ∧ x2 = y2 ∧ x3 = y3))) ∧ h = h0 ∧ Fr n0 L) := by
  refine met_of (plainFor_of_name pn_java_lang_String) ?_
  intro p e s m below meth c T0 X0 hx hby hml hZ hown hnm hret hlk e0 es
  have N0 := Fr.nil n0
  refine Gd.cast (ef_8_d m a o) ?_
  refine g_aloadN X0 hx hby i8_0 rfl rfl ?_
  refine g_aloadN X0 hx hby i8_1 rfl rfl ?_
  refine g_acmp_ne X0 hx hby i8_2 rfl rfl (fun c2_1 => ?_) (fun c2_1 => False.elim (hao (Value.ref.inj c2_1)))
  refine g_aloadN X0 hx hby i8_7 rfl rfl ?_
  refine g_instY X0 hx hby hZ hown (hw _ (List.mem_of_getElem? (i := 57) rfl)) e0 (Ins.self E2) i8_8 fun T2 X2 e2 => ?_
  refine g_if_eq X2 hx hby i8_11 (fun c11_3 => False.elim (absurd c11_3 (by decide))) fun c11_3 => ?_
  refine g_aloadN X2 hx hby i8_14 rfl rfl ?_
  refine g_castY X2 hx hby hZ hown (hw _ (List.mem_of_getElem? (i := 57) rfl)) e2 (Ins.self E2) i8_15 fun T4 X4 e4 => ?_
  refine g_astoreN X4 hx hby i8_18 rfl (l' := #[.val (.ref a), .val (.ref o), .val (.ref o)]) rfl ?_
  refine g_getstatic X4 hx hby hZ hown (host := "") (Or.inl (hw _ (List.mem_of_getElem? (i := 58) rfl))) Via.refl e4 (S0.ext O.2) i8_19 fun T5 X5 e5 => ?_
  refine g_if_eq X5 hx hby i8_22 (fun c22_6 => False.elim (hcz c22_6)) fun c22_6 => ?_
  refine g_aloadN X5 hx hby i8_25 rfl rfl ?_
  refine g_getfield X5 hx hby hZ hown (host := "") (Or.inl (hw _ (List.mem_of_getElem? (i := 28) rfl))) Via.refl e5 FC1_ i8_26 fun T7 X7 e7 => ?_
  refine g_aloadN X7 hx hby i8_29 rfl rfl ?_
  refine g_getfield X7 hx hby hZ hown (host := "") (Or.inl (hw _ (List.mem_of_getElem? (i := 28) rfl))) Via.refl e7 FC2_ i8_30 fun T8 X8 e8 => ?_
  refine g_icmp_ne X8 hx hby i8_33 (fun c33_9 => False.elim (absurd c33_9 (by decide))) fun c33_9 => ?_
  refine g_aloadN X8 hx hby i8_36 rfl rfl ?_
  refine g_getfield X8 hx hby hZ hown (host := "") (Or.inl (hw _ (List.mem_of_getElem? (i := 27) rfl))) Via.refl e8 FV1_ i8_37 fun T10 X10 e10 => ?_
  refine g_aloadN X10 hx hby i8_40 rfl rfl ?_
  refine g_getfield X10 hx hby hZ hown (host := "") (Or.inl (hw _ (List.mem_of_getElem? (i := 27) rfl))) Via.refl e10 FV2_ i8_41 fun T11 X11 e11 => ?_
  refine g_callS0 X11 hx hby hZ (y := (⟨"java/lang/StringLatin1", "equals", "([B[B)Z"⟩ : MethodName)) (argsL := [(.ref b1), (.ref b2)]) (rest := []) hown (hw _ (List.mem_of_getElem? (i := 59) rfl)) (hw _ (List.mem_of_getElem? (i := 60) rfl)) (hw _ (List.mem_of_getElem? (i := 61) rfl)) (hw _ (List.mem_of_getElem? (i := 62) rfl)) (by decide) (rm9_4 l Z a0 hw [] b1 b2 k1 k2 x0 x1 x2 x3 y0 y1 y2 y3 h0 n0 Z0 V1 V2) e11 (by rw [hml]; rfl) pd_5 rfl rfl i8_44 (by decide) 0 rfl (by decide) (by decide) (by decide) fun T12 v12 L12 X12 q12 => ?_
  obtain ⟨_, rfl, r12, rfl, hr12, e12, N12⟩ := q12
  have N0 := Fr.app N0 N12
  show Gd p e below _ T12 (mkF m 47 #[.val (.ref a), .val (.ref o), .val (.ref o)] [(.int r12)])
  refine g_if_eq X12 hx hby i8_47 (fun c47_13 => ?_) (fun c47_13 => ?_)
  · refine g_iconst X12 hx hby i8_54 (z := (0 : Int32)) (by decide) ?_
    refine g_ireturnN X12 hx hby (ty := .boolean) hret (by simp) hlk i8_55 (by decide) (by decide) ?_
    exact ⟨_, rfl, _, rfl, Or.inr ⟨rfl, own_no hr12 c47_13⟩, e12, N0⟩
  · refine g_iconst X12 hx hby i8_50 (z := (1 : Int32)) (by decide) ?_
    refine g_goto X12 hx hby i8_51 ?_
    refine g_ireturnN X12 hx hby (ty := .boolean) hret (by simp) hlk i8_55 (by decide) (by decide) ?_
    exact ⟨_, rfl, _, rfl, Or.inl ⟨rfl, own_yes hr12 c47_13⟩, e12, N0⟩
theorem i7_0 : Ins1 prog_9_method_1_code 0 (.getstatic 10) 3 3 := ⟨by decide +kernel, rfl⟩
theorem i7_3 : Ins1 prog_9_method_1_code 3 (.invokevirtual 14) 3 6 := ⟨by decide +kernel, rfl⟩
theorem i7_6 : Ins1 prog_9_method_1_code 6 (.checkcast 15) 3 9 := ⟨by decide +kernel, rfl⟩
theorem i7_9 : Ins1 prog_9_method_1_code 9 (.areturn) 1 10 := ⟨by decide +kernel, rfl⟩
theorem pn_com_example_plantain_plantain_codec_Profile : plainName "com/example/plantain/plantain/codec/Profile" = true := by first | (simp [plainName, overriddenIn]; done) | decide +kernel
theorem ef_7 (m : MethodId)  : entryFrame m #[] 0 = mkF m 0 #[] [] := by first | (simp [entryFrame, mkF, argsToLocals, Value.category]; done) | rfl
set_option maxRecDepth 65536 in
set_option maxHeartbeats 40000000 in
theorem rm7 (l : Launch) (Z : State) (a0 : Array Value) (hw : ∀ d ∈ tables_1, d.before a0 Z = true) (ws : List Jvm.Cond)  (cz : Int32) (va na pa ns ps nb pb : Addr) (kv kn kp : ClassId)  (h0 : Heap) (n0 : Nat) (Z0 : n0 ≤ h0.size) (S0 : Sta Z Z.heap "java/lang/String" "COMPACT_STRINGS" "Z" (.int cz)) (hcz : ¬ cz = (0 : Int32)) (O : Old Z n0 h0) (SV : Sta Z Z.heap "com/example/plantain/plantain/codec/Profile" "$VALUES" "[Lcom/example/plantain/plantain/codec/Profile;" (.ref va)) (SN : Sta Z Z.heap "com/example/plantain/plantain/codec/Profile" "NONE" "Lcom/example/plantain/plantain/codec/Profile;" (.ref na)) (SP : Sta Z Z.heap "com/example/plantain/plantain/codec/Profile" "PB" "Lcom/example/plantain/plantain/codec/Profile;" (.ref pa)) (E_va : Exa Z Z.heap va "[Lcom/example/plantain/plantain/codec/Profile;") (V_va : Arv Z Z.heap va kv (.object "com/example/plantain/plantain/codec/Profile") (2 : Int32) [(.ref na), (.ref pa)] .null) (E_na : Exa Z Z.heap na "com/example/plantain/plantain/codec/Profile") (F_na : Fld Z Z.heap na "com/example/plantain/plantain/codec/Profile" "wireName" "Ljava/lang/String;" (.ref ns)) (E_ns : Exa Z Z.heap ns "java/lang/String") (FC_ns : Fld Z Z.heap ns "java/lang/String" "coder" "B" (.int 0)) (FV_ns : Fld Z Z.heap ns "java/lang/String" "value" "[B" (.ref nb)) (V_nb : Arv Z Z.heap nb kn .byte (4 : Int32) [(.int (110 : Int32)), (.int (111 : Int32)), (.int (110 : Int32)), (.int (101 : Int32))] (.int (0 : Int32))) (E_pa : Exa Z Z.heap pa "com/example/plantain/plantain/codec/Profile") (F_pa : Fld Z Z.heap pa "com/example/plantain/plantain/codec/Profile" "wireName" "Ljava/lang/String;" (.ref ps)) (E_ps : Exa Z Z.heap ps "java/lang/String") (FC_ps : Fld Z Z.heap ps "java/lang/String" "coder" "B" (.int 0)) (FV_ps : Fld Z Z.heap ps "java/lang/String" "value" "[B" (.ref pb)) (V_pb : Arv Z Z.heap pb kp .byte (2 : Int32) [(.int (112 : Int32)), (.int (98 : Int32))] (.int (0 : Int32)))  :
    Met1 l (⟨"com/example/plantain/plantain/codec/Profile", "values", "()[Lcom/example/plantain/plantain/codec/Profile;"⟩ : MethodName) prog_9_method_1_code 0 (some (.array (.object "com/example/plantain/plantain/codec/Profile"))) ws ({ frames := 1, cells := 1, slots := 2, locals := 14 } : Room) #[] Z h0 (RV fun vv h L => ∃ t, vv = .ref t ∧ Keep h0 h [] ∧ Arv Z h t kv (.object "com/example/plantain/plantain/codec/Profile") (2 : Int32) [(.ref na), (.ref pa)] .null ∧ h0.size ≤ t ∧ Fr n0 L) := by
  refine met_of (plainFor_of_name pn_com_example_plantain_plantain_codec_Profile) ?_
  intro p e s m below meth c T0 X0 hx hby hml hZ hown hnm hret hlk e0 es
  have N0 := Fr.nil n0
  refine Gd.cast (ef_7 m ) ?_
  have K0 : Keep h0 h0 [] := Keep.refl _ _
  refine g_getstatic X0 hx hby hZ hown (host := "") (Or.inl (hw _ (List.mem_of_getElem? (i := 36) rfl))) Via.refl e0 (SV.ext O.2) i7_0 fun T1 X1 e1 => ?_
  refine g_clone X1 hx hby hZ hown (hw _ (List.mem_of_getElem? (i := 38) rfl)) (hw _ (List.mem_of_getElem? (i := 39) rfl)) (hw _ (List.mem_of_getElem? (i := 43) rfl)) (hw _ (List.mem_of_getElem? (i := 41) rfl)) (hw _ (List.mem_of_getElem? (i := 42) rfl)) (hw _ (List.mem_of_getElem? (i := 44) rfl)) e1 (V_va.ext O.2) (E_va.ext O.2) (by rw [hml]; rfl) i7_3 (by decide) 0 rfl (by decide) 2 (by decide) (by decide) (by decide) fun T2 h2 b2 X2 e2 E2 hb2 V2 A2 => ?_
  have g_b2 : n0 ≤ b2 := Nat.le_trans Z0 (Nat.le_of_eq hb2.symm)
  have O := O.ext E2
  have sz_b2 : h0.size ≤ b2 := Nat.le_trans K0.1 (Nat.le_of_eq hb2.symm)
  have K0 := K0.ext E2
  have Z0 : n0 ≤ h2.size := Nat.le_trans Z0 E2.1
  show Gd p e below _ T2 (mkF m 6 #[] [(.ref b2)])
  refine g_castY X2 hx hby hZ hown (hw _ (List.mem_of_getElem? (i := 48) rfl)) e2 (Ins.self A2) i7_6 fun T3 X3 e3 => ?_
  refine g_areturn X3 hx hby hret rfl (fun _ => rfl) hlk rfl i7_9 (by decide) (by decide) ?_
  rw [e3]
  exact ⟨_, rfl, b2, rfl, K0, V2, sz_b2, N0⟩
theorem i6_0 : Ins1 prog_9_method_5_code 0 (.invokestatic 81) 3 3 := ⟨by decide +kernel, rfl⟩
theorem i6_3 : Ins1 prog_9_method_5_code 3 (.astore_n 1) 1 4 := ⟨by decide +kernel, rfl⟩
theorem i6_4 : Ins1 prog_9_method_5_code 4 (.aload_n 1) 1 5 := ⟨by decide +kernel, rfl⟩
theorem i6_5 : Ins1 prog_9_method_5_code 5 (.arraylength) 1 6 := ⟨by decide +kernel, rfl⟩
theorem i6_6 : Ins1 prog_9_method_5_code 6 (.istore_n 2) 1 7 := ⟨by decide +kernel, rfl⟩
theorem i6_7 : Ins1 prog_9_method_5_code 7 (.iconst 0) 1 8 := ⟨by decide +kernel, rfl⟩
theorem i6_8 : Ins1 prog_9_method_5_code 8 (.istore_n 3) 1 9 := ⟨by decide +kernel, rfl⟩
theorem i6_9 : Ins1 prog_9_method_5_code 9 (.iload_n 3) 1 10 := ⟨by decide +kernel, rfl⟩
theorem i6_10 : Ins1 prog_9_method_5_code 10 (.iload_n 2) 1 11 := ⟨by decide +kernel, rfl⟩
theorem i6_11 : InsB prog_9_method_5_code 11 (.if_icmp .ge 29) 29 14 40 := ⟨by decide +kernel, rfl, by decide, by decide⟩
theorem i6_14 : Ins1 prog_9_method_5_code 14 (.aload_n 1) 1 15 := ⟨by decide +kernel, rfl⟩
theorem i6_15 : Ins1 prog_9_method_5_code 15 (.iload_n 3) 1 16 := ⟨by decide +kernel, rfl⟩
theorem i6_16 : Ins1 prog_9_method_5_code 16 (.aaload) 1 17 := ⟨by decide +kernel, rfl⟩
theorem i6_17 : Ins1 prog_9_method_5_code 17 (.astore 4) 2 19 := ⟨by decide +kernel, rfl⟩
theorem i6_19 : Ins1 prog_9_method_5_code 19 (.aload 4) 2 21 := ⟨by decide +kernel, rfl⟩
theorem i6_21 : Ins1 prog_9_method_5_code 21 (.getfield 38) 3 24 := ⟨by decide +kernel, rfl⟩
theorem i6_24 : Ins1 prog_9_method_5_code 24 (.aload_n 0) 1 25 := ⟨by decide +kernel, rfl⟩
theorem i6_25 : Ins1 prog_9_method_5_code 25 (.invokevirtual 85) 3 28 := ⟨by decide +kernel, rfl⟩
theorem i6_28 : InsB prog_9_method_5_code 28 (.ifCond .eq 6) 6 31 34 := ⟨by decide +kernel, rfl, by decide, by decide⟩
theorem i6_31 : Ins1 prog_9_method_5_code 31 (.aload 4) 2 33 := ⟨by decide +kernel, rfl⟩
theorem i6_33 : Ins1 prog_9_method_5_code 33 (.areturn) 1 34 := ⟨by decide +kernel, rfl⟩
theorem i6_34 : Ins1 prog_9_method_5_code 34 (.iinc 3 1) 3 37 := ⟨by decide +kernel, rfl⟩
theorem i6_37 : InsB prog_9_method_5_code 37 (.goto (-28)) (-28) 40 9 := ⟨by decide +kernel, rfl, by decide, by decide⟩
theorem i6_40 : Ins1 prog_9_method_5_code 40 (.aconst_null) 1 41 := ⟨by decide +kernel, rfl⟩
theorem i6_41 : Ins1 prog_9_method_5_code 41 (.areturn) 1 42 := ⟨by decide +kernel, rfl⟩
theorem ef_6_n (m : MethodId)  : entryFrame m #[.null] 5 = mkF m 0 #[.val .null, .unset, .unset, .unset, .unset] [] := by first | (simp [entryFrame, mkF, argsToLocals, Value.category]; done) | rfl
theorem pd_6 : parseMethodDescriptor "()[Lcom/example/plantain/plantain/codec/Profile;" = some ⟨[], some (.array (.object "com/example/plantain/plantain/codec/Profile"))⟩ := by decide +kernel
theorem pd_7 : parseMethodDescriptor "(Ljava/lang/Object;)Z" = some ⟨[(.object "java/lang/Object")], some .boolean⟩ := by decide +kernel
set_option maxRecDepth 65536 in
set_option maxHeartbeats 40000000 in
theorem rm6_n (l : Launch) (Z : State) (a0 : Array Value) (hw : ∀ d ∈ tables_1, d.before a0 Z = true) (ws : List Jvm.Cond)  (cz : Int32) (va na pa ns ps nb pb : Addr) (kv kn kp : ClassId)  (h0 : Heap) (n0 : Nat) (Z0 : n0 ≤ h0.size) (S0 : Sta Z Z.heap "java/lang/String" "COMPACT_STRINGS" "Z" (.int cz)) (hcz : ¬ cz = (0 : Int32)) (O : Old Z n0 h0) (SV : Sta Z Z.heap "com/example/plantain/plantain/codec/Profile" "$VALUES" "[Lcom/example/plantain/plantain/codec/Profile;" (.ref va)) (SN : Sta Z Z.heap "com/example/plantain/plantain/codec/Profile" "NONE" "Lcom/example/plantain/plantain/codec/Profile;" (.ref na)) (SP : Sta Z Z.heap "com/example/plantain/plantain/codec/Profile" "PB" "Lcom/example/plantain/plantain/codec/Profile;" (.ref pa)) (E_va : Exa Z Z.heap va "[Lcom/example/plantain/plantain/codec/Profile;") (V_va : Arv Z Z.heap va kv (.object "com/example/plantain/plantain/codec/Profile") (2 : Int32) [(.ref na), (.ref pa)] .null) (E_na : Exa Z Z.heap na "com/example/plantain/plantain/codec/Profile") (F_na : Fld Z Z.heap na "com/example/plantain/plantain/codec/Profile" "wireName" "Ljava/lang/String;" (.ref ns)) (E_ns : Exa Z Z.heap ns "java/lang/String") (FC_ns : Fld Z Z.heap ns "java/lang/String" "coder" "B" (.int 0)) (FV_ns : Fld Z Z.heap ns "java/lang/String" "value" "[B" (.ref nb)) (V_nb : Arv Z Z.heap nb kn .byte (4 : Int32) [(.int (110 : Int32)), (.int (111 : Int32)), (.int (110 : Int32)), (.int (101 : Int32))] (.int (0 : Int32))) (E_pa : Exa Z Z.heap pa "com/example/plantain/plantain/codec/Profile") (F_pa : Fld Z Z.heap pa "com/example/plantain/plantain/codec/Profile" "wireName" "Ljava/lang/String;" (.ref ps)) (E_ps : Exa Z Z.heap ps "java/lang/String") (FC_ps : Fld Z Z.heap ps "java/lang/String" "coder" "B" (.int 0)) (FV_ps : Fld Z Z.heap ps "java/lang/String" "value" "[B" (.ref pb)) (V_pb : Arv Z Z.heap pb kp .byte (2 : Int32) [(.int (112 : Int32)), (.int (98 : Int32))] (.int (0 : Int32)))  :
    Met1 l (⟨"com/example/plantain/plantain/codec/Profile", "named", "(Ljava/lang/String;)Lcom/example/plantain/plantain/codec/Profile;"⟩ : MethodName) prog_9_method_5_code 5 (some (.object "com/example/plantain/plantain/codec/Profile")) ws ({ frames := 2, cells := 1, slots := 2, locals := 28 } : Room) #[.null] Z h0 (RV fun vv h L => vv = .null ∧ Keep h0 h [] ∧ Fr n0 L) := by
  refine met_of (plainFor_of_name pn_com_example_plantain_plantain_codec_Profile) ?_
  intro p e s m below meth c T0 X0 hx hby hml hZ hown hnm hret hlk e0 es
  have N0 := Fr.nil n0
  refine Gd.cast (ef_6_n m ) ?_
  have K0 : Keep h0 h0 [] := Keep.refl _ _
  refine g_callS0 X0 hx hby hZ (y := (⟨"com/example/plantain/plantain/codec/Profile", "values", "()[Lcom/example/plantain/plantain/codec/Profile;"⟩ : MethodName)) (argsL := []) (rest := []) hown (hw _ (List.mem_of_getElem? (i := 33) rfl)) (hw _ (List.mem_of_getElem? (i := 34) rfl)) (hw _ (List.mem_of_getElem? (i := 31) rfl)) (hw _ (List.mem_of_getElem? (i := 35) rfl)) (by decide) (rm7 l Z a0 hw [] cz va na pa ns ps nb pb kv kn kp h0 n0 Z0 S0 hcz O SV SN SP E_va V_va E_na F_na E_ns FC_ns FV_ns V_nb E_pa F_pa E_ps FC_ps FV_ps V_pb) e0 (by rw [hml]; rfl) pd_6 rfl rfl i6_0 (by decide) 0 rfl (by decide) (by decide) (by decide) fun T1 v1 L1 X1 q1 => ?_
  obtain ⟨_, rfl, t1, rfl, K1, V1, s1, N1⟩ := q1
  have N0 := Fr.app N0 N1
  have K0 := K0.trans K1 (fun x hx => nomatch hx)
  have O := O.keep K1 all0
  have Z0 : n0 ≤ T1.heap.size := Nat.le_trans Z0 K1.1
  show Gd p e below _ T1 (mkF m 3 #[.val .null, .unset, .unset, .unset, .unset] [(.ref t1)])
  refine g_astoreN X1 hx hby i6_3 rfl (l' := #[.val .null, .val (.ref t1), .unset, .unset, .unset]) rfl ?_
  refine g_aloadN X1 hx hby i6_4 rfl rfl ?_
  refine g_arraylength X1 hx hby hZ rfl V1 i6_5 ?_
  refine g_istoreN X1 hx hby i6_6 (l' := #[.val .null, .val (.ref t1), .val (.int (2 : Int32)), .unset, .unset]) rfl ?_
  refine g_iconst X1 hx hby i6_7 (z := (0 : Int32)) (by decide) ?_
  refine g_istoreN X1 hx hby i6_8 (l' := #[.val .null, .val (.ref t1), .val (.int (2 : Int32)), .val (.int (0 : Int32)), .unset]) rfl ?_
  refine g_iloadN X1 hx hby i6_9 rfl ?_
  refine g_iloadN X1 hx hby i6_10 rfl ?_
  refine g_icmp_ge X1 hx hby i6_11 (fun c11_2 => False.elim (absurd c11_2 (by decide))) fun c11_2 => ?_
  refine g_aloadN X1 hx hby i6_14 rfl rfl ?_
  refine g_iloadN X1 hx hby i6_15 rfl ?_
  refine g_aaload X1 hx hby hZ rfl V1 rfl (i := 0) (by decide) (by decide) (by decide) rfl i6_16 ?_
  refine g_astore X1 hx hby i6_17 rfl (l' := #[.val .null, .val (.ref t1), .val (.int (2 : Int32)), .val (.int (0 : Int32)), .val (.ref na)]) rfl ?_
  refine g_aload X1 hx hby i6_19 rfl rfl ?_
  refine g_getfield X1 hx hby hZ hown (host := "") (Or.inl (hw _ (List.mem_of_getElem? (i := 50) rfl))) Via.refl rfl (F_na.ext O.2) i6_21 fun T3 X3 e3 => ?_
  refine g_aloadN X3 hx hby i6_24 rfl rfl ?_
  refine g_callV0 X3 hx hby hZ (y0 := (⟨"java/lang/String", "equals", "(Ljava/lang/Object;)Z"⟩ : MethodName)) (y := (⟨"java/lang/String", "equals", "(Ljava/lang/Object;)Z"⟩ : MethodName)) (argsL := [.null]) (rest := []) hown (hw _ (List.mem_of_getElem? (i := 52) rfl)) (hw _ (List.mem_of_getElem? (i := 53) rfl)) (notFace_of_selects (args := #[]) (mvT hZ (hw _ (List.mem_of_getElem? (i := 55) rfl)))) (hw _ (List.mem_of_getElem? (i := 55) rfl)) (hw _ (List.mem_of_getElem? (i := 54) rfl)) (hw _ (List.mem_of_getElem? (i := 9) rfl)) (hw _ (List.mem_of_getElem? (i := 56) rfl)) (by decide) (a := ns) (E_ns.ext O.2) (rm8_n l Z a0 hw [] ns T1.heap n0 Z0) e3 (by rw [hml]; rfl) pd_7 rfl rfl i6_25 (by decide) 0 rfl (by decide) (by decide) (by decide) fun T4 v4 L4 X4 q4 => ?_
  obtain ⟨_, rfl, rfl, e4, N4⟩ := q4
  have N0 := Fr.app N0 N4
  show Gd p e below _ T4 (mkF m 28 #[.val .null, .val (.ref t1), .val (.int (2 : Int32)), .val (.int (0 : Int32)), .val (.ref na)] [(.int (0 : Int32))])
  refine g_if_eq X4 hx hby i6_28 (fun c28_5 => ?_) (fun c28_5 => False.elim (absurd c28_5 (by decide)))
  refine g_iinc X4 hx hby i6_34 rfl (z := (1 : Int32)) (by decide) (l' := #[.val .null, .val (.ref t1), .val (.int (2 : Int32)), .val (.int (1 : Int32)), .val (.ref na)]) rfl ?_
  refine g_goto X4 hx hby i6_37 ?_
  refine g_iloadN X4 hx hby i6_9 rfl ?_
  refine g_iloadN X4 hx hby i6_10 rfl ?_
  refine g_icmp_ge X4 hx hby i6_11 (fun c11_6 => False.elim (absurd c11_6 (by decide))) fun c11_6 => ?_
  refine g_aloadN X4 hx hby i6_14 rfl rfl ?_
  refine g_iloadN X4 hx hby i6_15 rfl ?_
  refine g_aaload X4 hx hby hZ e4 V1 rfl (i := 1) (by decide) (by decide) (by decide) rfl i6_16 ?_
  refine g_astore X4 hx hby i6_17 rfl (l' := #[.val .null, .val (.ref t1), .val (.int (2 : Int32)), .val (.int (1 : Int32)), .val (.ref pa)]) rfl ?_
  refine g_aload X4 hx hby i6_19 rfl rfl ?_
  refine g_getfield X4 hx hby hZ hown (host := "") (Or.inl (hw _ (List.mem_of_getElem? (i := 50) rfl))) Via.refl e4 (F_pa.ext O.2) i6_21 fun T7 X7 e7 => ?_
  refine g_aloadN X7 hx hby i6_24 rfl rfl ?_
  refine g_callV0 X7 hx hby hZ (y0 := (⟨"java/lang/String", "equals", "(Ljava/lang/Object;)Z"⟩ : MethodName)) (y := (⟨"java/lang/String", "equals", "(Ljava/lang/Object;)Z"⟩ : MethodName)) (argsL := [.null]) (rest := []) hown (hw _ (List.mem_of_getElem? (i := 52) rfl)) (hw _ (List.mem_of_getElem? (i := 53) rfl)) (notFace_of_selects (args := #[]) (mvT hZ (hw _ (List.mem_of_getElem? (i := 55) rfl)))) (hw _ (List.mem_of_getElem? (i := 55) rfl)) (hw _ (List.mem_of_getElem? (i := 54) rfl)) (hw _ (List.mem_of_getElem? (i := 9) rfl)) (hw _ (List.mem_of_getElem? (i := 56) rfl)) (by decide) (a := ps) (E_ps.ext O.2) (rm8_n l Z a0 hw [] ps T1.heap n0 Z0) e7 (by rw [hml]; rfl) pd_7 rfl rfl i6_25 (by decide) 0 rfl (by decide) (by decide) (by decide) fun T8 v8 L8 X8 q8 => ?_
  obtain ⟨_, rfl, rfl, e8, N8⟩ := q8
  have N0 := Fr.app N0 N8
  show Gd p e below _ T8 (mkF m 28 #[.val .null, .val (.ref t1), .val (.int (2 : Int32)), .val (.int (1 : Int32)), .val (.ref pa)] [(.int (0 : Int32))])
  refine g_if_eq X8 hx hby i6_28 (fun c28_9 => ?_) (fun c28_9 => False.elim (absurd c28_9 (by decide)))
  refine g_iinc X8 hx hby i6_34 rfl (z := (2 : Int32)) (by decide) (l' := #[.val .null, .val (.ref t1), .val (.int (2 : Int32)), .val (.int (2 : Int32)), .val (.ref pa)]) rfl ?_
  refine g_goto X8 hx hby i6_37 ?_
  refine g_iloadN X8 hx hby i6_9 rfl ?_
  refine g_iloadN X8 hx hby i6_10 rfl ?_
  refine g_icmp_ge X8 hx hby i6_11 (fun c11_10 => ?_) (fun c11_10 => False.elim (absurd c11_10 (by decide)))
  refine g_aconst_null X8 hx hby i6_40 ?_
  refine g_areturn X8 hx hby hret rfl (fun _ => rfl) hlk rfl i6_41 (by decide) (by decide) ?_
  rw [e8]
  exact ⟨_, rfl, rfl, K0, N0⟩
theorem ef_6_0 (m : MethodId) (sn : Addr) : entryFrame m #[(.ref sn)] 5 = mkF m 0 #[.val (.ref sn), .unset, .unset, .unset, .unset] [] := by first | (simp [entryFrame, mkF, argsToLocals, Value.category]; done) | rfl
set_option maxRecDepth 65536 in
set_option maxHeartbeats 40000000 in
theorem rm6_0 (l : Launch) (Z : State) (a0 : Array Value) (hw : ∀ d ∈ tables_1, d.before a0 Z = true) (ws : List Jvm.Cond) (sn : Addr) (cz : Int32) (va na pa ns ps nb pb : Addr) (kv kn kp : ClassId) (tb : Addr) (kt : ClassId) (h0 : Heap) (n0 : Nat) (Z0 : n0 ≤ h0.size) (S0 : Sta Z Z.heap "java/lang/String" "COMPACT_STRINGS" "Z" (.int cz)) (hcz : ¬ cz = (0 : Int32)) (O : Old Z n0 h0) (SV : Sta Z Z.heap "com/example/plantain/plantain/codec/Profile" "$VALUES" "[Lcom/example/plantain/plantain/codec/Profile;" (.ref va)) (SN : Sta Z Z.heap "com/example/plantain/plantain/codec/Profile" "NONE" "Lcom/example/plantain/plantain/codec/Profile;" (.ref na)) (SP : Sta Z Z.heap "com/example/plantain/plantain/codec/Profile" "PB" "Lcom/example/plantain/plantain/codec/Profile;" (.ref pa)) (E_va : Exa Z Z.heap va "[Lcom/example/plantain/plantain/codec/Profile;") (V_va : Arv Z Z.heap va kv (.object "com/example/plantain/plantain/codec/Profile") (2 : Int32) [(.ref na), (.ref pa)] .null) (E_na : Exa Z Z.heap na "com/example/plantain/plantain/codec/Profile") (F_na : Fld Z Z.heap na "com/example/plantain/plantain/codec/Profile" "wireName" "Ljava/lang/String;" (.ref ns)) (E_ns : Exa Z Z.heap ns "java/lang/String") (FC_ns : Fld Z Z.heap ns "java/lang/String" "coder" "B" (.int 0)) (FV_ns : Fld Z Z.heap ns "java/lang/String" "value" "[B" (.ref nb)) (V_nb : Arv Z Z.heap nb kn .byte (4 : Int32) [(.int (110 : Int32)), (.int (111 : Int32)), (.int (110 : Int32)), (.int (101 : Int32))] (.int (0 : Int32))) (E_pa : Exa Z Z.heap pa "com/example/plantain/plantain/codec/Profile") (F_pa : Fld Z Z.heap pa "com/example/plantain/plantain/codec/Profile" "wireName" "Ljava/lang/String;" (.ref ps)) (E_ps : Exa Z Z.heap ps "java/lang/String") (FC_ps : Fld Z Z.heap ps "java/lang/String" "coder" "B" (.int 0)) (FV_ps : Fld Z Z.heap ps "java/lang/String" "value" "[B" (.ref pb)) (V_pb : Arv Z Z.heap pb kp .byte (2 : Int32) [(.int (112 : Int32)), (.int (98 : Int32))] (.int (0 : Int32))) (E_s : Exa Z h0 sn "java/lang/String") (FC_s : Fld Z h0 sn "java/lang/String" "coder" "B" (.int 0)) (FV_s : Fld Z h0 sn "java/lang/String" "value" "[B" (.ref tb)) (V_s : Arv Z h0 tb kt .byte (0 : Int32) [] (.int (0 : Int32))) (hns : ns ≠ sn) (hps : ps ≠ sn) :
    Met1 l (⟨"com/example/plantain/plantain/codec/Profile", "named", "(Ljava/lang/String;)Lcom/example/plantain/plantain/codec/Profile;"⟩ : MethodName) prog_9_method_5_code 5 (some (.object "com/example/plantain/plantain/codec/Profile")) ws ({ frames := 2, cells := 1, slots := 2, locals := 28 } : Room) #[(.ref sn)] Z h0 (RV fun vv h L => vv = .null ∧ Keep h0 h [] ∧ Fr n0 L) := by
  refine met_of (plainFor_of_name pn_com_example_plantain_plantain_codec_Profile) ?_
  intro p e s m below meth c T0 X0 hx hby hml hZ hown hnm hret hlk e0 es
  have N0 := Fr.nil n0
  refine Gd.cast (ef_6_0 m sn) ?_
  have K0 : Keep h0 h0 [] := Keep.refl _ _
  refine g_callS0 X0 hx hby hZ (y := (⟨"com/example/plantain/plantain/codec/Profile", "values", "()[Lcom/example/plantain/plantain/codec/Profile;"⟩ : MethodName)) (argsL := []) (rest := []) hown (hw _ (List.mem_of_getElem? (i := 33) rfl)) (hw _ (List.mem_of_getElem? (i := 34) rfl)) (hw _ (List.mem_of_getElem? (i := 31) rfl)) (hw _ (List.mem_of_getElem? (i := 35) rfl)) (by decide) (rm7 l Z a0 hw [] cz va na pa ns ps nb pb kv kn kp h0 n0 Z0 S0 hcz O SV SN SP E_va V_va E_na F_na E_ns FC_ns FV_ns V_nb E_pa F_pa E_ps FC_ps FV_ps V_pb) e0 (by rw [hml]; rfl) pd_6 rfl rfl i6_0 (by decide) 0 rfl (by decide) (by decide) (by decide) fun T1 v1 L1 X1 q1 => ?_
  obtain ⟨_, rfl, t1, rfl, K1, V1, s1, N1⟩ := q1
  have N0 := Fr.app N0 N1
  have K0 := K0.trans K1 (fun x hx => nomatch hx)
  have E_s := E_s.keep K1
  have FC_s := FC_s.keep K1 nin0
  have FV_s := FV_s.keep K1 nin0
  have V_s := V_s.keep K1 nin0
  have O := O.keep K1 all0
  have Z0 : n0 ≤ T1.heap.size := Nat.le_trans Z0 K1.1
  show Gd p e below _ T1 (mkF m 3 #[.val (.ref sn), .unset, .unset, .unset, .unset] [(.ref t1)])
  refine g_astoreN X1 hx hby i6_3 rfl (l' := #[.val (.ref sn), .val (.ref t1), .unset, .unset, .unset]) rfl ?_
  refine g_aloadN X1 hx hby i6_4 rfl rfl ?_
  refine g_arraylength X1 hx hby hZ rfl V1 i6_5 ?_
  refine g_istoreN X1 hx hby i6_6 (l' := #[.val (.ref sn), .val (.ref t1), .val (.int (2 : Int32)), .unset, .unset]) rfl ?_
  refine g_iconst X1 hx hby i6_7 (z := (0 : Int32)) (by decide) ?_
  refine g_istoreN X1 hx hby i6_8 (l' := #[.val (.ref sn), .val (.ref t1), .val (.int (2 : Int32)), .val (.int (0 : Int32)), .unset]) rfl ?_
  refine g_iloadN X1 hx hby i6_9 rfl ?_
  refine g_iloadN X1 hx hby i6_10 rfl ?_
  refine g_icmp_ge X1 hx hby i6_11 (fun c11_2 => False.elim (absurd c11_2 (by decide))) fun c11_2 => ?_
  refine g_aloadN X1 hx hby i6_14 rfl rfl ?_
  refine g_iloadN X1 hx hby i6_15 rfl ?_
  refine g_aaload X1 hx hby hZ rfl V1 rfl (i := 0) (by decide) (by decide) (by decide) rfl i6_16 ?_
  refine g_astore X1 hx hby i6_17 rfl (l' := #[.val (.ref sn), .val (.ref t1), .val (.int (2 : Int32)), .val (.int (0 : Int32)), .val (.ref na)]) rfl ?_
  refine g_aload X1 hx hby i6_19 rfl rfl ?_
  refine g_getfield X1 hx hby hZ hown (host := "") (Or.inl (hw _ (List.mem_of_getElem? (i := 50) rfl))) Via.refl rfl (F_na.ext O.2) i6_21 fun T3 X3 e3 => ?_
  refine g_aloadN X3 hx hby i6_24 rfl rfl ?_
  refine g_callV0 X3 hx hby hZ (y0 := (⟨"java/lang/String", "equals", "(Ljava/lang/Object;)Z"⟩ : MethodName)) (y := (⟨"java/lang/String", "equals", "(Ljava/lang/Object;)Z"⟩ : MethodName)) (argsL := [(.ref sn)]) (rest := []) hown (hw _ (List.mem_of_getElem? (i := 52) rfl)) (hw _ (List.mem_of_getElem? (i := 53) rfl)) (notFace_of_selects (args := #[]) (mvT hZ (hw _ (List.mem_of_getElem? (i := 55) rfl)))) (hw _ (List.mem_of_getElem? (i := 55) rfl)) (hw _ (List.mem_of_getElem? (i := 54) rfl)) (hw _ (List.mem_of_getElem? (i := 9) rfl)) (hw _ (List.mem_of_getElem? (i := 56) rfl)) (by decide) (a := ns) (E_ns.ext O.2) (rm8_d l Z a0 hw [] ns sn cz nb tb kn kt (4 : Int32) (0 : Int32) _ _ T1.heap n0 Z0 S0 hcz O (E_ns.ext O.2) (FC_ns.ext O.2) (FV_ns.ext O.2) E_s FC_s FV_s (V_nb.ext O.2) V_s hns (by decide)) e3 (by rw [hml]; rfl) pd_7 rfl rfl i6_25 (by decide) 0 rfl (by decide) (by decide) (by decide) fun T4 v4 L4 X4 q4 => ?_
  obtain ⟨_, rfl, rfl, e4, N4⟩ := q4
  have N0 := Fr.app N0 N4
  show Gd p e below _ T4 (mkF m 28 #[.val (.ref sn), .val (.ref t1), .val (.int (2 : Int32)), .val (.int (0 : Int32)), .val (.ref na)] [(.int (0 : Int32))])
  refine g_if_eq X4 hx hby i6_28 (fun c28_5 => ?_) (fun c28_5 => False.elim (absurd c28_5 (by decide)))
  refine g_iinc X4 hx hby i6_34 rfl (z := (1 : Int32)) (by decide) (l' := #[.val (.ref sn), .val (.ref t1), .val (.int (2 : Int32)), .val (.int (1 : Int32)), .val (.ref na)]) rfl ?_
  refine g_goto X4 hx hby i6_37 ?_
  refine g_iloadN X4 hx hby i6_9 rfl ?_
  refine g_iloadN X4 hx hby i6_10 rfl ?_
  refine g_icmp_ge X4 hx hby i6_11 (fun c11_6 => False.elim (absurd c11_6 (by decide))) fun c11_6 => ?_
  refine g_aloadN X4 hx hby i6_14 rfl rfl ?_
  refine g_iloadN X4 hx hby i6_15 rfl ?_
  refine g_aaload X4 hx hby hZ e4 V1 rfl (i := 1) (by decide) (by decide) (by decide) rfl i6_16 ?_
  refine g_astore X4 hx hby i6_17 rfl (l' := #[.val (.ref sn), .val (.ref t1), .val (.int (2 : Int32)), .val (.int (1 : Int32)), .val (.ref pa)]) rfl ?_
  refine g_aload X4 hx hby i6_19 rfl rfl ?_
  refine g_getfield X4 hx hby hZ hown (host := "") (Or.inl (hw _ (List.mem_of_getElem? (i := 50) rfl))) Via.refl e4 (F_pa.ext O.2) i6_21 fun T7 X7 e7 => ?_
  refine g_aloadN X7 hx hby i6_24 rfl rfl ?_
  refine g_callV0 X7 hx hby hZ (y0 := (⟨"java/lang/String", "equals", "(Ljava/lang/Object;)Z"⟩ : MethodName)) (y := (⟨"java/lang/String", "equals", "(Ljava/lang/Object;)Z"⟩ : MethodName)) (argsL := [(.ref sn)]) (rest := []) hown (hw _ (List.mem_of_getElem? (i := 52) rfl)) (hw _ (List.mem_of_getElem? (i := 53) rfl)) (notFace_of_selects (args := #[]) (mvT hZ (hw _ (List.mem_of_getElem? (i := 55) rfl)))) (hw _ (List.mem_of_getElem? (i := 55) rfl)) (hw _ (List.mem_of_getElem? (i := 54) rfl)) (hw _ (List.mem_of_getElem? (i := 9) rfl)) (hw _ (List.mem_of_getElem? (i := 56) rfl)) (by decide) (a := ps) (E_ps.ext O.2) (rm8_d l Z a0 hw [] ps sn cz pb tb kp kt (2 : Int32) (0 : Int32) _ _ T1.heap n0 Z0 S0 hcz O (E_ps.ext O.2) (FC_ps.ext O.2) (FV_ps.ext O.2) E_s FC_s FV_s (V_pb.ext O.2) V_s hps (by decide)) e7 (by rw [hml]; rfl) pd_7 rfl rfl i6_25 (by decide) 0 rfl (by decide) (by decide) (by decide) fun T8 v8 L8 X8 q8 => ?_
  obtain ⟨_, rfl, rfl, e8, N8⟩ := q8
  have N0 := Fr.app N0 N8
  show Gd p e below _ T8 (mkF m 28 #[.val (.ref sn), .val (.ref t1), .val (.int (2 : Int32)), .val (.int (1 : Int32)), .val (.ref pa)] [(.int (0 : Int32))])
  refine g_if_eq X8 hx hby i6_28 (fun c28_9 => ?_) (fun c28_9 => False.elim (absurd c28_9 (by decide)))
  refine g_iinc X8 hx hby i6_34 rfl (z := (2 : Int32)) (by decide) (l' := #[.val (.ref sn), .val (.ref t1), .val (.int (2 : Int32)), .val (.int (2 : Int32)), .val (.ref pa)]) rfl ?_
  refine g_goto X8 hx hby i6_37 ?_
  refine g_iloadN X8 hx hby i6_9 rfl ?_
  refine g_iloadN X8 hx hby i6_10 rfl ?_
  refine g_icmp_ge X8 hx hby i6_11 (fun c11_10 => ?_) (fun c11_10 => False.elim (absurd c11_10 (by decide)))
  refine g_aconst_null X8 hx hby i6_40 ?_
  refine g_areturn X8 hx hby hret rfl (fun _ => rfl) hlk rfl i6_41 (by decide) (by decide) ?_
  rw [e8]
  exact ⟨_, rfl, rfl, K0, N0⟩
set_option maxRecDepth 65536 in
set_option maxHeartbeats 40000000 in
theorem rm6_1 (l : Launch) (Z : State) (a0 : Array Value) (hw : ∀ d ∈ tables_1, d.before a0 Z = true) (ws : List Jvm.Cond) (sn : Addr) (cz : Int32) (va na pa ns ps nb pb : Addr) (kv kn kp : ClassId) (tb : Addr) (kt : ClassId) (x0 : Int32) (h0 : Heap) (n0 : Nat) (Z0 : n0 ≤ h0.size) (S0 : Sta Z Z.heap "java/lang/String" "COMPACT_STRINGS" "Z" (.int cz)) (hcz : ¬ cz = (0 : Int32)) (O : Old Z n0 h0) (SV : Sta Z Z.heap "com/example/plantain/plantain/codec/Profile" "$VALUES" "[Lcom/example/plantain/plantain/codec/Profile;" (.ref va)) (SN : Sta Z Z.heap "com/example/plantain/plantain/codec/Profile" "NONE" "Lcom/example/plantain/plantain/codec/Profile;" (.ref na)) (SP : Sta Z Z.heap "com/example/plantain/plantain/codec/Profile" "PB" "Lcom/example/plantain/plantain/codec/Profile;" (.ref pa)) (E_va : Exa Z Z.heap va "[Lcom/example/plantain/plantain/codec/Profile;") (V_va : Arv Z Z.heap va kv (.object "com/example/plantain/plantain/codec/Profile") (2 : Int32) [(.ref na), (.ref pa)] .null) (E_na : Exa Z Z.heap na "com/example/plantain/plantain/codec/Profile") (F_na : Fld Z Z.heap na "com/example/plantain/plantain/codec/Profile" "wireName" "Ljava/lang/String;" (.ref ns)) (E_ns : Exa Z Z.heap ns "java/lang/String") (FC_ns : Fld Z Z.heap ns "java/lang/String" "coder" "B" (.int 0)) (FV_ns : Fld Z Z.heap ns "java/lang/String" "value" "[B" (.ref nb)) (V_nb : Arv Z Z.heap nb kn .byte (4 : Int32) [(.int (110 : Int32)), (.int (111 : Int32)), (.int (110 : Int32)), (.int (101 : Int32))] (.int (0 : Int32))) (E_pa : Exa Z Z.heap pa "com/example/plantain/plantain/codec/Profile") (F_pa : Fld Z Z.heap pa "com/example/plantain/plantain/codec/Profile" "wireName" "Ljava/lang/String;" (.ref ps)) (E_ps : Exa Z Z.heap ps "java/lang/String") (FC_ps : Fld Z Z.heap ps "java/lang/String" "coder" "B" (.int 0)) (FV_ps : Fld Z Z.heap ps "java/lang/String" "value" "[B" (.ref pb)) (V_pb : Arv Z Z.heap pb kp .byte (2 : Int32) [(.int (112 : Int32)), (.int (98 : Int32))] (.int (0 : Int32))) (E_s : Exa Z h0 sn "java/lang/String") (FC_s : Fld Z h0 sn "java/lang/String" "coder" "B" (.int 0)) (FV_s : Fld Z h0 sn "java/lang/String" "value" "[B" (.ref tb)) (V_s : Arv Z h0 tb kt .byte (1 : Int32) [(.int x0)] (.int (0 : Int32))) (hns : ns ≠ sn) (hps : ps ≠ sn) :
    Met1 l (⟨"com/example/plantain/plantain/codec/Profile", "named", "(Ljava/lang/String;)Lcom/example/plantain/plantain/codec/Profile;"⟩ : MethodName) prog_9_method_5_code 5 (some (.object "com/example/plantain/plantain/codec/Profile")) ws ({ frames := 2, cells := 1, slots := 2, locals := 28 } : Room) #[(.ref sn)] Z h0 (RV fun vv h L => vv = .null ∧ Keep h0 h [] ∧ Fr n0 L) := by
  refine met_of (plainFor_of_name pn_com_example_plantain_plantain_codec_Profile) ?_
  intro p e s m below meth c T0 X0 hx hby hml hZ hown hnm hret hlk e0 es
  have N0 := Fr.nil n0
  refine Gd.cast (ef_6_0 m sn) ?_
  have K0 : Keep h0 h0 [] := Keep.refl _ _
  refine g_callS0 X0 hx hby hZ (y := (⟨"com/example/plantain/plantain/codec/Profile", "values", "()[Lcom/example/plantain/plantain/codec/Profile;"⟩ : MethodName)) (argsL := []) (rest := []) hown (hw _ (List.mem_of_getElem? (i := 33) rfl)) (hw _ (List.mem_of_getElem? (i := 34) rfl)) (hw _ (List.mem_of_getElem? (i := 31) rfl)) (hw _ (List.mem_of_getElem? (i := 35) rfl)) (by decide) (rm7 l Z a0 hw [] cz va na pa ns ps nb pb kv kn kp h0 n0 Z0 S0 hcz O SV SN SP E_va V_va E_na F_na E_ns FC_ns FV_ns V_nb E_pa F_pa E_ps FC_ps FV_ps V_pb) e0 (by rw [hml]; rfl) pd_6 rfl rfl i6_0 (by decide) 0 rfl (by decide) (by decide) (by decide) fun T1 v1 L1 X1 q1 => ?_
  obtain ⟨_, rfl, t1, rfl, K1, V1, s1, N1⟩ := q1
  have N0 := Fr.app N0 N1
  have K0 := K0.trans K1 (fun x hx => nomatch hx)
  have E_s := E_s.keep K1
  have FC_s := FC_s.keep K1 nin0
  have FV_s := FV_s.keep K1 nin0
  have V_s := V_s.keep K1 nin0
  have O := O.keep K1 all0
  have Z0 : n0 ≤ T1.heap.size := Nat.le_trans Z0 K1.1
  show Gd p e below _ T1 (mkF m 3 #[.val (.ref sn), .unset, .unset, .unset, .unset] [(.ref t1)])
  refine g_astoreN X1 hx hby i6_3 rfl (l' := #[.val (.ref sn), .val (.ref t1), .unset, .unset, .unset]) rfl ?_
  refine g_aloadN X1 hx hby i6_4 rfl rfl ?_
  refine g_arraylength X1 hx hby hZ rfl V1 i6_5 ?_
  refine g_istoreN X1 hx hby i6_6 (l' := #[.val (.ref sn), .val (.ref t1), .val (.int (2 : Int32)), .unset, .unset]) rfl ?_
  refine g_iconst X1 hx hby i6_7 (z := (0 : Int32)) (by decide) ?_
  refine g_istoreN X1 hx hby i6_8 (l' := #[.val (.ref sn), .val (.ref t1), .val (.int (2 : Int32)), .val (.int (0 : Int32)), .unset]) rfl ?_
  refine g_iloadN X1 hx hby i6_9 rfl ?_
  refine g_iloadN X1 hx hby i6_10 rfl ?_
  refine g_icmp_ge X1 hx hby i6_11 (fun c11_2 => False.elim (absurd c11_2 (by decide))) fun c11_2 => ?_
  refine g_aloadN X1 hx hby i6_14 rfl rfl ?_
  refine g_iloadN X1 hx hby i6_15 rfl ?_
  refine g_aaload X1 hx hby hZ rfl V1 rfl (i := 0) (by decide) (by decide) (by decide) rfl i6_16 ?_
  refine g_astore X1 hx hby i6_17 rfl (l' := #[.val (.ref sn), .val (.ref t1), .val (.int (2 : Int32)), .val (.int (0 : Int32)), .val (.ref na)]) rfl ?_
  refine g_aload X1 hx hby i6_19 rfl rfl ?_
  refine g_getfield X1 hx hby hZ hown (host := "") (Or.inl (hw _ (List.mem_of_getElem? (i := 50) rfl))) Via.refl rfl (F_na.ext O.2) i6_21 fun T3 X3 e3 => ?_
  refine g_aloadN X3 hx hby i6_24 rfl rfl ?_
  refine g_callV0 X3 hx hby hZ (y0 := (⟨"java/lang/String", "equals", "(Ljava/lang/Object;)Z"⟩ : MethodName)) (y := (⟨"java/lang/String", "equals", "(Ljava/lang/Object;)Z"⟩ : MethodName)) (argsL := [(.ref sn)]) (rest := []) hown (hw _ (List.mem_of_getElem? (i := 52) rfl)) (hw _ (List.mem_of_getElem? (i := 53) rfl)) (notFace_of_selects (args := #[]) (mvT hZ (hw _ (List.mem_of_getElem? (i := 55) rfl)))) (hw _ (List.mem_of_getElem? (i := 55) rfl)) (hw _ (List.mem_of_getElem? (i := 54) rfl)) (hw _ (List.mem_of_getElem? (i := 9) rfl)) (hw _ (List.mem_of_getElem? (i := 56) rfl)) (by decide) (a := ns) (E_ns.ext O.2) (rm8_d l Z a0 hw [] ns sn cz nb tb kn kt (4 : Int32) (1 : Int32) _ _ T1.heap n0 Z0 S0 hcz O (E_ns.ext O.2) (FC_ns.ext O.2) (FV_ns.ext O.2) E_s FC_s FV_s (V_nb.ext O.2) V_s hns (by decide)) e3 (by rw [hml]; rfl) pd_7 rfl rfl i6_25 (by decide) 0 rfl (by decide) (by decide) (by decide) fun T4 v4 L4 X4 q4 => ?_
  obtain ⟨_, rfl, rfl, e4, N4⟩ := q4
  have N0 := Fr.app N0 N4
  show Gd p e below _ T4 (mkF m 28 #[.val (.ref sn), .val (.ref t1), .val (.int (2 : Int32)), .val (.int (0 : Int32)), .val (.ref na)] [(.int (0 : Int32))])
  refine g_if_eq X4 hx hby i6_28 (fun c28_5 => ?_) (fun c28_5 => False.elim (absurd c28_5 (by decide)))
  refine g_iinc X4 hx hby i6_34 rfl (z := (1 : Int32)) (by decide) (l' := #[.val (.ref sn), .val (.ref t1), .val (.int (2 : Int32)), .val (.int (1 : Int32)), .val (.ref na)]) rfl ?_
  refine g_goto X4 hx hby i6_37 ?_
  refine g_iloadN X4 hx hby i6_9 rfl ?_
  refine g_iloadN X4 hx hby i6_10 rfl ?_
  refine g_icmp_ge X4 hx hby i6_11 (fun c11_6 => False.elim (absurd c11_6 (by decide))) fun c11_6 => ?_
  refine g_aloadN X4 hx hby i6_14 rfl rfl ?_
  refine g_iloadN X4 hx hby i6_15 rfl ?_
  refine g_aaload X4 hx hby hZ e4 V1 rfl (i := 1) (by decide) (by decide) (by decide) rfl i6_16 ?_
  refine g_astore X4 hx hby i6_17 rfl (l' := #[.val (.ref sn), .val (.ref t1), .val (.int (2 : Int32)), .val (.int (1 : Int32)), .val (.ref pa)]) rfl ?_
  refine g_aload X4 hx hby i6_19 rfl rfl ?_
  refine g_getfield X4 hx hby hZ hown (host := "") (Or.inl (hw _ (List.mem_of_getElem? (i := 50) rfl))) Via.refl e4 (F_pa.ext O.2) i6_21 fun T7 X7 e7 => ?_
  refine g_aloadN X7 hx hby i6_24 rfl rfl ?_
  refine g_callV0 X7 hx hby hZ (y0 := (⟨"java/lang/String", "equals", "(Ljava/lang/Object;)Z"⟩ : MethodName)) (y := (⟨"java/lang/String", "equals", "(Ljava/lang/Object;)Z"⟩ : MethodName)) (argsL := [(.ref sn)]) (rest := []) hown (hw _ (List.mem_of_getElem? (i := 52) rfl)) (hw _ (List.mem_of_getElem? (i := 53) rfl)) (notFace_of_selects (args := #[]) (mvT hZ (hw _ (List.mem_of_getElem? (i := 55) rfl)))) (hw _ (List.mem_of_getElem? (i := 55) rfl)) (hw _ (List.mem_of_getElem? (i := 54) rfl)) (hw _ (List.mem_of_getElem? (i := 9) rfl)) (hw _ (List.mem_of_getElem? (i := 56) rfl)) (by decide) (a := ps) (E_ps.ext O.2) (rm8_d l Z a0 hw [] ps sn cz pb tb kp kt (2 : Int32) (1 : Int32) _ _ T1.heap n0 Z0 S0 hcz O (E_ps.ext O.2) (FC_ps.ext O.2) (FV_ps.ext O.2) E_s FC_s FV_s (V_pb.ext O.2) V_s hps (by decide)) e7 (by rw [hml]; rfl) pd_7 rfl rfl i6_25 (by decide) 0 rfl (by decide) (by decide) (by decide) fun T8 v8 L8 X8 q8 => ?_
  obtain ⟨_, rfl, rfl, e8, N8⟩ := q8
  have N0 := Fr.app N0 N8
  show Gd p e below _ T8 (mkF m 28 #[.val (.ref sn), .val (.ref t1), .val (.int (2 : Int32)), .val (.int (1 : Int32)), .val (.ref pa)] [(.int (0 : Int32))])
  refine g_if_eq X8 hx hby i6_28 (fun c28_9 => ?_) (fun c28_9 => False.elim (absurd c28_9 (by decide)))
  refine g_iinc X8 hx hby i6_34 rfl (z := (2 : Int32)) (by decide) (l' := #[.val (.ref sn), .val (.ref t1), .val (.int (2 : Int32)), .val (.int (2 : Int32)), .val (.ref pa)]) rfl ?_
  refine g_goto X8 hx hby i6_37 ?_
  refine g_iloadN X8 hx hby i6_9 rfl ?_
  refine g_iloadN X8 hx hby i6_10 rfl ?_
  refine g_icmp_ge X8 hx hby i6_11 (fun c11_10 => ?_) (fun c11_10 => False.elim (absurd c11_10 (by decide)))
  refine g_aconst_null X8 hx hby i6_40 ?_
  refine g_areturn X8 hx hby hret rfl (fun _ => rfl) hlk rfl i6_41 (by decide) (by decide) ?_
  rw [e8]
  exact ⟨_, rfl, rfl, K0, N0⟩
set_option maxRecDepth 65536 in
set_option maxHeartbeats 40000000 in
theorem rm6_2 (l : Launch) (Z : State) (a0 : Array Value) (hw : ∀ d ∈ tables_1, d.before a0 Z = true) (ws : List Jvm.Cond) (sn : Addr) (cz : Int32) (va na pa ns ps nb pb : Addr) (kv kn kp : ClassId) (tb : Addr) (kt : ClassId) (x0 x1 : Int32) (h0 : Heap) (n0 : Nat) (Z0 : n0 ≤ h0.size) (S0 : Sta Z Z.heap "java/lang/String" "COMPACT_STRINGS" "Z" (.int cz)) (hcz : ¬ cz = (0 : Int32)) (O : Old Z n0 h0) (SV : Sta Z Z.heap "com/example/plantain/plantain/codec/Profile" "$VALUES" "[Lcom/example/plantain/plantain/codec/Profile;" (.ref va)) (SN : Sta Z Z.heap "com/example/plantain/plantain/codec/Profile" "NONE" "Lcom/example/plantain/plantain/codec/Profile;" (.ref na)) (SP : Sta Z Z.heap "com/example/plantain/plantain/codec/Profile" "PB" "Lcom/example/plantain/plantain/codec/Profile;" (.ref pa)) (E_va : Exa Z Z.heap va "[Lcom/example/plantain/plantain/codec/Profile;") (V_va : Arv Z Z.heap va kv (.object "com/example/plantain/plantain/codec/Profile") (2 : Int32) [(.ref na), (.ref pa)] .null) (E_na : Exa Z Z.heap na "com/example/plantain/plantain/codec/Profile") (F_na : Fld Z Z.heap na "com/example/plantain/plantain/codec/Profile" "wireName" "Ljava/lang/String;" (.ref ns)) (E_ns : Exa Z Z.heap ns "java/lang/String") (FC_ns : Fld Z Z.heap ns "java/lang/String" "coder" "B" (.int 0)) (FV_ns : Fld Z Z.heap ns "java/lang/String" "value" "[B" (.ref nb)) (V_nb : Arv Z Z.heap nb kn .byte (4 : Int32) [(.int (110 : Int32)), (.int (111 : Int32)), (.int (110 : Int32)), (.int (101 : Int32))] (.int (0 : Int32))) (E_pa : Exa Z Z.heap pa "com/example/plantain/plantain/codec/Profile") (F_pa : Fld Z Z.heap pa "com/example/plantain/plantain/codec/Profile" "wireName" "Ljava/lang/String;" (.ref ps)) (E_ps : Exa Z Z.heap ps "java/lang/String") (FC_ps : Fld Z Z.heap ps "java/lang/String" "coder" "B" (.int 0)) (FV_ps : Fld Z Z.heap ps "java/lang/String" "value" "[B" (.ref pb)) (V_pb : Arv Z Z.heap pb kp .byte (2 : Int32) [(.int (112 : Int32)), (.int (98 : Int32))] (.int (0 : Int32))) (E_s : Exa Z h0 sn "java/lang/String") (FC_s : Fld Z h0 sn "java/lang/String" "coder" "B" (.int 0)) (FV_s : Fld Z h0 sn "java/lang/String" "value" "[B" (.ref tb)) (V_s : Arv Z h0 tb kt .byte (2 : Int32) [(.int x0), (.int x1)] (.int (0 : Int32))) (hns : ns ≠ sn) (hps : ps ≠ sn) :
    Met1 l (⟨"com/example/plantain/plantain/codec/Profile", "named", "(Ljava/lang/String;)Lcom/example/plantain/plantain/codec/Profile;"⟩ : MethodName) prog_9_method_5_code 5 (some (.object "com/example/plantain/plantain/codec/Profile")) ws ({ frames := 2, cells := 1, slots := 2, locals := 28 } : Room) #[(.ref sn)] Z h0 (RV fun vv h L => (((112 : Int32) = x0 ∧ (98 : Int32) = x1) ∧ vv = .ref pa ∨ ¬ ((112 : Int32) = x0 ∧ (98 : Int32) = x1) ∧ vv = .null) ∧ Keep h0 h [] ∧ Fr n0 L) := by
  refine met_of (plainFor_of_name pn_com_example_plantain_plantain_codec_Profile) ?_
  intro p e s m below meth c T0 X0 hx hby hml hZ hown hnm hret hlk e0 es
  have N0 := Fr.nil n0
  refine Gd.cast (ef_6_0 m sn) ?_
  have K0 : Keep h0 h0 [] := Keep.refl _ _
  refine g_callS0 X0 hx hby hZ (y := (⟨"com/example/plantain/plantain/codec/Profile", "values", "()[Lcom/example/plantain/plantain/codec/Profile;"⟩ : MethodName)) (argsL := []) (rest := []) hown (hw _ (List.mem_of_getElem? (i := 33) rfl)) (hw _ (List.mem_of_getElem? (i := 34) rfl)) (hw _ (List.mem_of_getElem? (i := 31) rfl)) (hw _ (List.mem_of_getElem? (i := 35) rfl)) (by decide) (rm7 l Z a0 hw [] cz va na pa ns ps nb pb kv kn kp h0 n0 Z0 S0 hcz O SV SN SP E_va V_va E_na F_na E_ns FC_ns FV_ns V_nb E_pa F_pa E_ps FC_ps FV_ps V_pb) e0 (by rw [hml]; rfl) pd_6 rfl rfl i6_0 (by decide) 0 rfl (by decide) (by decide) (by decide) fun T1 v1 L1 X1 q1 => ?_
  obtain ⟨_, rfl, t1, rfl, K1, V1, s1, N1⟩ := q1
  have N0 := Fr.app N0 N1
  have K0 := K0.trans K1 (fun x hx => nomatch hx)
  have E_s := E_s.keep K1
  have FC_s := FC_s.keep K1 nin0
  have FV_s := FV_s.keep K1 nin0
  have V_s := V_s.keep K1 nin0
  have O := O.keep K1 all0
  have Z0 : n0 ≤ T1.heap.size := Nat.le_trans Z0 K1.1
  show Gd p e below _ T1 (mkF m 3 #[.val (.ref sn), .unset, .unset, .unset, .unset] [(.ref t1)])
  refine g_astoreN X1 hx hby i6_3 rfl (l' := #[.val (.ref sn), .val (.ref t1), .unset, .unset, .unset]) rfl ?_
  refine g_aloadN X1 hx hby i6_4 rfl rfl ?_
  refine g_arraylength X1 hx hby hZ rfl V1 i6_5 ?_
  refine g_istoreN X1 hx hby i6_6 (l' := #[.val (.ref sn), .val (.ref t1), .val (.int (2 : Int32)), .unset, .unset]) rfl ?_
  refine g_iconst X1 hx hby i6_7 (z := (0 : Int32)) (by decide) ?_
  refine g_istoreN X1 hx hby i6_8 (l' := #[.val (.ref sn), .val (.ref t1), .val (.int (2 : Int32)), .val (.int (0 : Int32)), .unset]) rfl ?_
  refine g_iloadN X1 hx hby i6_9 rfl ?_
  refine g_iloadN X1 hx hby i6_10 rfl ?_
  refine g_icmp_ge X1 hx hby i6_11 (fun c11_2 => False.elim (absurd c11_2 (by decide))) fun c11_2 => ?_
  refine g_aloadN X1 hx hby i6_14 rfl rfl ?_
  refine g_iloadN X1 hx hby i6_15 rfl ?_
  refine g_aaload X1 hx hby hZ rfl V1 rfl (i := 0) (by decide) (by decide) (by decide) rfl i6_16 ?_
  refine g_astore X1 hx hby i6_17 rfl (l' := #[.val (.ref sn), .val (.ref t1), .val (.int (2 : Int32)), .val (.int (0 : Int32)), .val (.ref na)]) rfl ?_
  refine g_aload X1 hx hby i6_19 rfl rfl ?_
  refine g_getfield X1 hx hby hZ hown (host := "") (Or.inl (hw _ (List.mem_of_getElem? (i := 50) rfl))) Via.refl rfl (F_na.ext O.2) i6_21 fun T3 X3 e3 => ?_
  refine g_aloadN X3 hx hby i6_24 rfl rfl ?_
  refine g_callV0 X3 hx hby hZ (y0 := (⟨"java/lang/String", "equals", "(Ljava/lang/Object;)Z"⟩ : MethodName)) (y := (⟨"java/lang/String", "equals", "(Ljava/lang/Object;)Z"⟩ : MethodName)) (argsL := [(.ref sn)]) (rest := []) hown (hw _ (List.mem_of_getElem? (i := 52) rfl)) (hw _ (List.mem_of_getElem? (i := 53) rfl)) (notFace_of_selects (args := #[]) (mvT hZ (hw _ (List.mem_of_getElem? (i := 55) rfl)))) (hw _ (List.mem_of_getElem? (i := 55) rfl)) (hw _ (List.mem_of_getElem? (i := 54) rfl)) (hw _ (List.mem_of_getElem? (i := 9) rfl)) (hw _ (List.mem_of_getElem? (i := 56) rfl)) (by decide) (a := ns) (E_ns.ext O.2) (rm8_d l Z a0 hw [] ns sn cz nb tb kn kt (4 : Int32) (2 : Int32) _ _ T1.heap n0 Z0 S0 hcz O (E_ns.ext O.2) (FC_ns.ext O.2) (FV_ns.ext O.2) E_s FC_s FV_s (V_nb.ext O.2) V_s hns (by decide)) e3 (by rw [hml]; rfl) pd_7 rfl rfl i6_25 (by decide) 0 rfl (by decide) (by decide) (by decide) fun T4 v4 L4 X4 q4 => ?_
  obtain ⟨_, rfl, rfl, e4, N4⟩ := q4
  have N0 := Fr.app N0 N4
  show Gd p e below _ T4 (mkF m 28 #[.val (.ref sn), .val (.ref t1), .val (.int (2 : Int32)), .val (.int (0 : Int32)), .val (.ref na)] [(.int (0 : Int32))])
  refine g_if_eq X4 hx hby i6_28 (fun c28_5 => ?_) (fun c28_5 => False.elim (absurd c28_5 (by decide)))
  refine g_iinc X4 hx hby i6_34 rfl (z := (1 : Int32)) (by decide) (l' := #[.val (.ref sn), .val (.ref t1), .val (.int (2 : Int32)), .val (.int (1 : Int32)), .val (.ref na)]) rfl ?_
  refine g_goto X4 hx hby i6_37 ?_
  refine g_iloadN X4 hx hby i6_9 rfl ?_
  refine g_iloadN X4 hx hby i6_10 rfl ?_
  refine g_icmp_ge X4 hx hby i6_11 (fun c11_6 => False.elim (absurd c11_6 (by decide))) fun c11_6 => ?_
  refine g_aloadN X4 hx hby i6_14 rfl rfl ?_
  refine g_iloadN X4 hx hby i6_15 rfl ?_
  refine g_aaload X4 hx hby hZ e4 V1 rfl (i := 1) (by decide) (by decide) (by decide) rfl i6_16 ?_
  refine g_astore X4 hx hby i6_17 rfl (l' := #[.val (.ref sn), .val (.ref t1), .val (.int (2 : Int32)), .val (.int (1 : Int32)), .val (.ref pa)]) rfl ?_
  refine g_aload X4 hx hby i6_19 rfl rfl ?_
  refine g_getfield X4 hx hby hZ hown (host := "") (Or.inl (hw _ (List.mem_of_getElem? (i := 50) rfl))) Via.refl e4 (F_pa.ext O.2) i6_21 fun T7 X7 e7 => ?_
  refine g_aloadN X7 hx hby i6_24 rfl rfl ?_
  refine g_callV0 X7 hx hby hZ (y0 := (⟨"java/lang/String", "equals", "(Ljava/lang/Object;)Z"⟩ : MethodName)) (y := (⟨"java/lang/String", "equals", "(Ljava/lang/Object;)Z"⟩ : MethodName)) (argsL := [(.ref sn)]) (rest := []) hown (hw _ (List.mem_of_getElem? (i := 52) rfl)) (hw _ (List.mem_of_getElem? (i := 53) rfl)) (notFace_of_selects (args := #[]) (mvT hZ (hw _ (List.mem_of_getElem? (i := 55) rfl)))) (hw _ (List.mem_of_getElem? (i := 55) rfl)) (hw _ (List.mem_of_getElem? (i := 54) rfl)) (hw _ (List.mem_of_getElem? (i := 9) rfl)) (hw _ (List.mem_of_getElem? (i := 56) rfl)) (by decide) (a := ps) (E_ps.ext O.2) (rm8_2 l Z a0 hw [] ps sn cz pb tb kp kt (112 : Int32) (98 : Int32) x0 x1 T1.heap n0 Z0 S0 hcz O (E_ps.ext O.2) (FC_ps.ext O.2) (FV_ps.ext O.2) E_s FC_s FV_s (V_pb.ext O.2) V_s hps) e7 (by rw [hml]; rfl) pd_7 rfl rfl i6_25 (by decide) 0 rfl (by decide) (by decide) (by decide) fun T8 v8 L8 X8 q8 => ?_
  obtain ⟨_, rfl, r8, rfl, hr8, e8, N8⟩ := q8
  have N0 := Fr.app N0 N8
  show Gd p e below _ T8 (mkF m 28 #[.val (.ref sn), .val (.ref t1), .val (.int (2 : Int32)), .val (.int (1 : Int32)), .val (.ref pa)] [(.int r8)])
  refine g_if_eq X8 hx hby i6_28 (fun c28_9 => ?_) (fun c28_9 => ?_)
  · refine g_iinc X8 hx hby i6_34 rfl (z := (2 : Int32)) (by decide) (l' := #[.val (.ref sn), .val (.ref t1), .val (.int (2 : Int32)), .val (.int (2 : Int32)), .val (.ref pa)]) rfl ?_
    refine g_goto X8 hx hby i6_37 ?_
    refine g_iloadN X8 hx hby i6_9 rfl ?_
    refine g_iloadN X8 hx hby i6_10 rfl ?_
    refine g_icmp_ge X8 hx hby i6_11 (fun c11_10 => ?_) (fun c11_10 => False.elim (absurd c11_10 (by decide)))
    refine g_aconst_null X8 hx hby i6_40 ?_
    refine g_areturn X8 hx hby hret rfl (fun _ => rfl) hlk rfl i6_41 (by decide) (by decide) ?_
    rw [e8]
    exact ⟨_, rfl, Or.inr ⟨own_no hr8 c28_9, rfl⟩, K0, N0⟩
  · refine g_aload X8 hx hby i6_31 rfl rfl ?_
    refine g_areturn X8 hx hby hret rfl (fun _ => rfl) hlk rfl i6_33 (by decide) (by decide) ?_
    rw [e8]
    exact ⟨_, rfl, Or.inl ⟨own_yes hr8 c28_9, rfl⟩, K0, N0⟩
set_option maxRecDepth 65536 in
set_option maxHeartbeats 40000000 in
theorem rm6_3 (l : Launch) (Z : State) (a0 : Array Value) (hw : ∀ d ∈ tables_1, d.before a0 Z = true) (ws : List Jvm.Cond) (sn : Addr) (cz : Int32) (va na pa ns ps nb pb : Addr) (kv kn kp : ClassId) (tb : Addr) (kt : ClassId) (x0 x1 x2 : Int32) (h0 : Heap) (n0 : Nat) (Z0 : n0 ≤ h0.size) (S0 : Sta Z Z.heap "java/lang/String" "COMPACT_STRINGS" "Z" (.int cz)) (hcz : ¬ cz = (0 : Int32)) (O : Old Z n0 h0) (SV : Sta Z Z.heap "com/example/plantain/plantain/codec/Profile" "$VALUES" "[Lcom/example/plantain/plantain/codec/Profile;" (.ref va)) (SN : Sta Z Z.heap "com/example/plantain/plantain/codec/Profile" "NONE" "Lcom/example/plantain/plantain/codec/Profile;" (.ref na)) (SP : Sta Z Z.heap "com/example/plantain/plantain/codec/Profile" "PB" "Lcom/example/plantain/plantain/codec/Profile;" (.ref pa)) (E_va : Exa Z Z.heap va "[Lcom/example/plantain/plantain/codec/Profile;") (V_va : Arv Z Z.heap va kv (.object "com/example/plantain/plantain/codec/Profile") (2 : Int32) [(.ref na), (.ref pa)] .null) (E_na : Exa Z Z.heap na "com/example/plantain/plantain/codec/Profile") (F_na : Fld Z Z.heap na "com/example/plantain/plantain/codec/Profile" "wireName" "Ljava/lang/String;" (.ref ns)) (E_ns : Exa Z Z.heap ns "java/lang/String") (FC_ns : Fld Z Z.heap ns "java/lang/String" "coder" "B" (.int 0)) (FV_ns : Fld Z Z.heap ns "java/lang/String" "value" "[B" (.ref nb)) (V_nb : Arv Z Z.heap nb kn .byte (4 : Int32) [(.int (110 : Int32)), (.int (111 : Int32)), (.int (110 : Int32)), (.int (101 : Int32))] (.int (0 : Int32))) (E_pa : Exa Z Z.heap pa "com/example/plantain/plantain/codec/Profile") (F_pa : Fld Z Z.heap pa "com/example/plantain/plantain/codec/Profile" "wireName" "Ljava/lang/String;" (.ref ps)) (E_ps : Exa Z Z.heap ps "java/lang/String") (FC_ps : Fld Z Z.heap ps "java/lang/String" "coder" "B" (.int 0)) (FV_ps : Fld Z Z.heap ps "java/lang/String" "value" "[B" (.ref pb)) (V_pb : Arv Z Z.heap pb kp .byte (2 : Int32) [(.int (112 : Int32)), (.int (98 : Int32))] (.int (0 : Int32))) (E_s : Exa Z h0 sn "java/lang/String") (FC_s : Fld Z h0 sn "java/lang/String" "coder" "B" (.int 0)) (FV_s : Fld Z h0 sn "java/lang/String" "value" "[B" (.ref tb)) (V_s : Arv Z h0 tb kt .byte (3 : Int32) [(.int x0), (.int x1), (.int x2)] (.int (0 : Int32))) (hns : ns ≠ sn) (hps : ps ≠ sn) :
    Met1 l (⟨"com/example/plantain/plantain/codec/Profile", "named", "(Ljava/lang/String;)Lcom/example/plantain/plantain/codec/Profile;"⟩ : MethodName) prog_9_method_5_code 5 (some (.object "com/example/plantain/plantain/codec/Profile")) ws ({ frames := 2, cells := 1, slots := 2, locals := 28 } : Room) #[(.ref sn)] Z h0 (RV fun vv h L => vv = .null ∧ Keep h0 h [] ∧ Fr n0 L) := by
  refine met_of (plainFor_of_name pn_com_example_plantain_plantain_codec_Profile) ?_
  intro p e s m below meth c T0 X0 hx hby hml hZ hown hnm hret hlk e0 es
  have N0 := Fr.nil n0
  refine Gd.cast (ef_6_0 m sn) ?_
  have K0 : Keep h0 h0 [] := Keep.refl _ _
  refine g_callS0 X0 hx hby hZ (y := (⟨"com/example/plantain/plantain/codec/Profile", "values", "()[Lcom/example/plantain/plantain/codec/Profile;"⟩ : MethodName)) (argsL := []) (rest := []) hown (hw _ (List.mem_of_getElem? (i := 33) rfl)) (hw _ (List.mem_of_getElem? (i := 34) rfl)) (hw _ (List.mem_of_getElem? (i := 31) rfl)) (hw _ (List.mem_of_getElem? (i := 35) rfl)) (by decide) (rm7 l Z a0 hw [] cz va na pa ns ps nb pb kv kn kp h0 n0 Z0 S0 hcz O SV SN SP E_va V_va E_na F_na E_ns FC_ns FV_ns V_nb E_pa F_pa E_ps FC_ps FV_ps V_pb) e0 (by rw [hml]; rfl) pd_6 rfl rfl i6_0 (by decide) 0 rfl (by decide) (by decide) (by decide) fun T1 v1 L1 X1 q1 => ?_
  obtain ⟨_, rfl, t1, rfl, K1, V1, s1, N1⟩ := q1
  have N0 := Fr.app N0 N1
  have K0 := K0.trans K1 (fun x hx => nomatch hx)
  have E_s := E_s.keep K1
  have FC_s := FC_s.keep K1 nin0
  have FV_s := FV_s.keep K1 nin0
  have V_s := V_s.keep K1 nin0
  have O := O.keep K1 all0
  have Z0 : n0 ≤ T1.heap.size := Nat.le_trans Z0 K1.1
  show Gd p e below _ T1 (mkF m 3 #[.val (.ref sn), .unset, .unset, .unset, .unset] [(.ref t1)])
  refine g_astoreN X1 hx hby i6_3 rfl (l' := #[.val (.ref sn), .val (.ref t1), .unset, .unset, .unset]) rfl ?_
  refine g_aloadN X1 hx hby i6_4 rfl rfl ?_
  refine g_arraylength X1 hx hby hZ rfl V1 i6_5 ?_
  refine g_istoreN X1 hx hby i6_6 (l' := #[.val (.ref sn), .val (.ref t1), .val (.int (2 : Int32)), .unset, .unset]) rfl ?_
  refine g_iconst X1 hx hby i6_7 (z := (0 : Int32)) (by decide) ?_
  refine g_istoreN X1 hx hby i6_8 (l' := #[.val (.ref sn), .val (.ref t1), .val (.int (2 : Int32)), .val (.int (0 : Int32)), .unset]) rfl ?_
  refine g_iloadN X1 hx hby i6_9 rfl ?_
  refine g_iloadN X1 hx hby i6_10 rfl ?_
  refine g_icmp_ge X1 hx hby i6_11 (fun c11_2 => False.elim (absurd c11_2 (by decide))) fun c11_2 => ?_
  refine g_aloadN X1 hx hby i6_14 rfl rfl ?_
  refine g_iloadN X1 hx hby i6_15 rfl ?_
  refine g_aaload X1 hx hby hZ rfl V1 rfl (i := 0) (by decide) (by decide) (by decide) rfl i6_16 ?_
  refine g_astore X1 hx hby i6_17 rfl (l' := #[.val (.ref sn), .val (.ref t1), .val (.int (2 : Int32)), .val (.int (0 : Int32)), .val (.ref na)]) rfl ?_
  refine g_aload X1 hx hby i6_19 rfl rfl ?_
  refine g_getfield X1 hx hby hZ hown (host := "") (Or.inl (hw _ (List.mem_of_getElem? (i := 50) rfl))) Via.refl rfl (F_na.ext O.2) i6_21 fun T3 X3 e3 => ?_
  refine g_aloadN X3 hx hby i6_24 rfl rfl ?_
  refine g_callV0 X3 hx hby hZ (y0 := (⟨"java/lang/String", "equals", "(Ljava/lang/Object;)Z"⟩ : MethodName)) (y := (⟨"java/lang/String", "equals", "(Ljava/lang/Object;)Z"⟩ : MethodName)) (argsL := [(.ref sn)]) (rest := []) hown (hw _ (List.mem_of_getElem? (i := 52) rfl)) (hw _ (List.mem_of_getElem? (i := 53) rfl)) (notFace_of_selects (args := #[]) (mvT hZ (hw _ (List.mem_of_getElem? (i := 55) rfl)))) (hw _ (List.mem_of_getElem? (i := 55) rfl)) (hw _ (List.mem_of_getElem? (i := 54) rfl)) (hw _ (List.mem_of_getElem? (i := 9) rfl)) (hw _ (List.mem_of_getElem? (i := 56) rfl)) (by decide) (a := ns) (E_ns.ext O.2) (rm8_d l Z a0 hw [] ns sn cz nb tb kn kt (4 : Int32) (3 : Int32) _ _ T1.heap n0 Z0 S0 hcz O (E_ns.ext O.2) (FC_ns.ext O.2) (FV_ns.ext O.2) E_s FC_s FV_s (V_nb.ext O.2) V_s hns (by decide)) e3 (by rw [hml]; rfl) pd_7 rfl rfl i6_25 (by decide) 0 rfl (by decide) (by decide) (by decide) fun T4 v4 L4 X4 q4 => ?_
  obtain ⟨_, rfl, rfl, e4, N4⟩ := q4
  have N0 := Fr.app N0 N4
  show Gd p e below _ T4 (mkF m 28 #[.val (.ref sn), .val (.ref t1), .val (.int (2 : Int32)), .val (.int (0 : Int32)), .val (.ref na)] [(.int (0 : Int32))])
  refine g_if_eq X4 hx hby i6_28 (fun c28_5 => ?_) (fun c28_5 => False.elim (absurd c28_5 (by decide)))
  refine g_iinc X4 hx hby i6_34 rfl (z := (1 : Int32)) (by decide) (l' := #[.val (.ref sn), .val (.ref t1), .val (.int (2 : Int32)), .val (.int (1 : Int32)), .val (.ref na)]) rfl ?_
  refine g_goto X4 hx hby i6_37 ?_
  refine g_iloadN X4 hx hby i6_9 rfl ?_
  refine g_iloadN X4 hx hby i6_10 rfl ?_
  refine g_icmp_ge X4 hx hby i6_11 (fun c11_6 => False.elim (absurd c11_6 (by decide))) fun c11_6 => ?_
  refine g_aloadN X4 hx hby i6_14 rfl rfl ?_
  refine g_iloadN X4 hx hby i6_15 rfl ?_
  refine g_aaload X4 hx hby hZ e4 V1 rfl (i := 1) (by decide) (by decide) (by decide) rfl i6_16 ?_
  refine g_astore X4 hx hby i6_17 rfl (l' := #[.val (.ref sn), .val (.ref t1), .val (.int (2 : Int32)), .val (.int (1 : Int32)), .val (.ref pa)]) rfl ?_
  refine g_aload X4 hx hby i6_19 rfl rfl ?_
  refine g_getfield X4 hx hby hZ hown (host := "") (Or.inl (hw _ (List.mem_of_getElem? (i := 50) rfl))) Via.refl e4 (F_pa.ext O.2) i6_21 fun T7 X7 e7 => ?_
  refine g_aloadN X7 hx hby i6_24 rfl rfl ?_
  refine g_callV0 X7 hx hby hZ (y0 := (⟨"java/lang/String", "equals", "(Ljava/lang/Object;)Z"⟩ : MethodName)) (y := (⟨"java/lang/String", "equals", "(Ljava/lang/Object;)Z"⟩ : MethodName)) (argsL := [(.ref sn)]) (rest := []) hown (hw _ (List.mem_of_getElem? (i := 52) rfl)) (hw _ (List.mem_of_getElem? (i := 53) rfl)) (notFace_of_selects (args := #[]) (mvT hZ (hw _ (List.mem_of_getElem? (i := 55) rfl)))) (hw _ (List.mem_of_getElem? (i := 55) rfl)) (hw _ (List.mem_of_getElem? (i := 54) rfl)) (hw _ (List.mem_of_getElem? (i := 9) rfl)) (hw _ (List.mem_of_getElem? (i := 56) rfl)) (by decide) (a := ps) (E_ps.ext O.2) (rm8_d l Z a0 hw [] ps sn cz pb tb kp kt (2 : Int32) (3 : Int32) _ _ T1.heap n0 Z0 S0 hcz O (E_ps.ext O.2) (FC_ps.ext O.2) (FV_ps.ext O.2) E_s FC_s FV_s (V_pb.ext O.2) V_s hps (by decide)) e7 (by rw [hml]; rfl) pd_7 rfl rfl i6_25 (by decide) 0 rfl (by decide) (by decide) (by decide) fun T8 v8 L8 X8 q8 => ?_
  obtain ⟨_, rfl, rfl, e8, N8⟩ := q8
  have N0 := Fr.app N0 N8
  show Gd p e below _ T8 (mkF m 28 #[.val (.ref sn), .val (.ref t1), .val (.int (2 : Int32)), .val (.int (1 : Int32)), .val (.ref pa)] [(.int (0 : Int32))])
  refine g_if_eq X8 hx hby i6_28 (fun c28_9 => ?_) (fun c28_9 => False.elim (absurd c28_9 (by decide)))
  refine g_iinc X8 hx hby i6_34 rfl (z := (2 : Int32)) (by decide) (l' := #[.val (.ref sn), .val (.ref t1), .val (.int (2 : Int32)), .val (.int (2 : Int32)), .val (.ref pa)]) rfl ?_
  refine g_goto X8 hx hby i6_37 ?_
  refine g_iloadN X8 hx hby i6_9 rfl ?_
  refine g_iloadN X8 hx hby i6_10 rfl ?_
  refine g_icmp_ge X8 hx hby i6_11 (fun c11_10 => ?_) (fun c11_10 => False.elim (absurd c11_10 (by decide)))
  refine g_aconst_null X8 hx hby i6_40 ?_
  refine g_areturn X8 hx hby hret rfl (fun _ => rfl) hlk rfl i6_41 (by decide) (by decide) ?_
  rw [e8]
  exact ⟨_, rfl, rfl, K0, N0⟩
set_option maxRecDepth 65536 in
set_option maxHeartbeats 40000000 in
theorem rm6_4 (l : Launch) (Z : State) (a0 : Array Value) (hw : ∀ d ∈ tables_1, d.before a0 Z = true) (ws : List Jvm.Cond) (sn : Addr) (cz : Int32) (va na pa ns ps nb pb : Addr) (kv kn kp : ClassId) (tb : Addr) (kt : ClassId) (x0 x1 x2 x3 : Int32) (h0 : Heap) (n0 : Nat) (Z0 : n0 ≤ h0.size) (S0 : Sta Z Z.heap "java/lang/String" "COMPACT_STRINGS" "Z" (.int cz)) (hcz : ¬ cz = (0 : Int32)) (O : Old Z n0 h0) (SV : Sta Z Z.heap "com/example/plantain/plantain/codec/Profile" "$VALUES" "[Lcom/example/plantain/plantain/codec/Profile;" (.ref va)) (SN : Sta Z Z.heap "com/example/plantain/plantain/codec/Profile" "NONE" "Lcom/example/plantain/plantain/codec/Profile;" (.ref na)) (SP : Sta Z Z.heap "com/example/plantain/plantain/codec/Profile" "PB" "Lcom/example/plantain/plantain/codec/Profile;" (.ref pa)) (E_va : Exa Z Z.heap va "[Lcom/example/plantain/plantain/codec/Profile;") (V_va : Arv Z Z.heap va kv (.object "com/example/plantain/plantain/codec/Profile") (2 : Int32) [(.ref na), (.ref pa)] .null) (E_na : Exa Z Z.heap na "com/example/plantain/plantain/codec/Profile") (F_na : Fld Z Z.heap na "com/example/plantain/plantain/codec/Profile" "wireName" "Ljava/lang/String;" (.ref ns)) (E_ns : Exa Z Z.heap ns "java/lang/String") (FC_ns : Fld Z Z.heap ns "java/lang/String" "coder" "B" (.int 0)) (FV_ns : Fld Z Z.heap ns "java/lang/String" "value" "[B" (.ref nb)) (V_nb : Arv Z Z.heap nb kn .byte (4 : Int32) [(.int (110 : Int32)), (.int (111 : Int32)), (.int (110 : Int32)), (.int (101 : Int32))] (.int (0 : Int32))) (E_pa : Exa Z Z.heap pa "com/example/plantain/plantain/codec/Profile") (F_pa : Fld Z Z.heap pa "com/example/plantain/plantain/codec/Profile" "wireName" "Ljava/lang/String;" (.ref ps)) (E_ps : Exa Z Z.heap ps "java/lang/String") (FC_ps : Fld Z Z.heap ps "java/lang/String" "coder" "B" (.int 0)) (FV_ps : Fld Z Z.heap ps "java/lang/String" "value" "[B" (.ref pb)) (V_pb : Arv Z Z.heap pb kp .byte (2 : Int32) [(.int (112 : Int32)), (.int (98 : Int32))] (.int (0 : Int32))) (E_s : Exa Z h0 sn "java/lang/String") (FC_s : Fld Z h0 sn "java/lang/String" "coder" "B" (.int 0)) (FV_s : Fld Z h0 sn "java/lang/String" "value" "[B" (.ref tb)) (V_s : Arv Z h0 tb kt .byte (4 : Int32) [(.int x0), (.int x1), (.int x2), (.int x3)] (.int (0 : Int32))) (hns : ns ≠ sn) (hps : ps ≠ sn) :
    Met1 l (⟨"com/example/plantain/plantain/codec/Profile", "named", "(Ljava/lang/String;)Lcom/example/plantain/plantain/codec/Profile;"⟩ : MethodName) prog_9_method_5_code 5 (some (.object "com/example/plantain/plantain/codec/Profile")) ws ({ frames := 2, cells := 1, slots := 2, locals := 28 } : Room) #[(.ref sn)] Z h0 (RV fun vv h L => (((110 : Int32) = x0 ∧ (111 : Int32) = x1 ∧ (110 : Int32) = x2 ∧ (101 : Int32) = x3) ∧ vv = .ref na ∨ ¬ ((110 : Int32) = x0 ∧ (111 : Int32) = x1 ∧ (110 : Int32) = x2 ∧ (101 : Int32) = x3) ∧ vv = .null) ∧ Keep h0 h [] ∧ Fr n0 L) := by
  refine met_of (plainFor_of_name pn_com_example_plantain_plantain_codec_Profile) ?_
  intro p e s m below meth c T0 X0 hx hby hml hZ hown hnm hret hlk e0 es
  have N0 := Fr.nil n0
  refine Gd.cast (ef_6_0 m sn) ?_
  have K0 : Keep h0 h0 [] := Keep.refl _ _
  refine g_callS0 X0 hx hby hZ (y := (⟨"com/example/plantain/plantain/codec/Profile", "values", "()[Lcom/example/plantain/plantain/codec/Profile;"⟩ : MethodName)) (argsL := []) (rest := []) hown (hw _ (List.mem_of_getElem? (i := 33) rfl)) (hw _ (List.mem_of_getElem? (i := 34) rfl)) (hw _ (List.mem_of_getElem? (i := 31) rfl)) (hw _ (List.mem_of_getElem? (i := 35) rfl)) (by decide) (rm7 l Z a0 hw [] cz va na pa ns ps nb pb kv kn kp h0 n0 Z0 S0 hcz O SV SN SP E_va V_va E_na F_na E_ns FC_ns FV_ns V_nb E_pa F_pa E_ps FC_ps FV_ps V_pb) e0 (by rw [hml]; rfl) pd_6 rfl rfl i6_0 (by decide) 0 rfl (by decide) (by decide) (by decide) fun T1 v1 L1 X1 q1 => ?_
  obtain ⟨_, rfl, t1, rfl, K1, V1, s1, N1⟩ := q1
  have N0 := Fr.app N0 N1
  have K0 := K0.trans K1 (fun x hx => nomatch hx)
  have E_s := E_s.keep K1
  have FC_s := FC_s.keep K1 nin0
  have FV_s := FV_s.keep K1 nin0
  have V_s := V_s.keep K1 nin0
  have O := O.keep K1 all0
  have Z0 : n0 ≤ T1.heap.size := Nat.le_trans Z0 K1.1
  show Gd p e below _ T1 (mkF m 3 #[.val (.ref sn), .unset, .unset, .unset, .unset] [(.ref t1)])
  refine g_astoreN X1 hx hby i6_3 rfl (l' := #[.val (.ref sn), .val (.ref t1), .unset, .unset, .unset]) rfl ?_
  refine g_aloadN X1 hx hby i6_4 rfl rfl ?_
  refine g_arraylength X1 hx hby hZ rfl V1 i6_5 ?_
  refine g_istoreN X1 hx hby i6_6 (l' := #[.val (.ref sn), .val (.ref t1), .val (.int (2 : Int32)), .unset, .unset]) rfl ?_
  refine g_iconst X1 hx hby i6_7 (z := (0 : Int32)) (by decide) ?_
  refine g_istoreN X1 hx hby i6_8 (l' := #[.val (.ref sn), .val (.ref t1), .val (.int (2 : Int32)), .val (.int (0 : Int32)), .unset]) rfl ?_
  refine g_iloadN X1 hx hby i6_9 rfl ?_
  refine g_iloadN X1 hx hby i6_10 rfl ?_
  refine g_icmp_ge X1 hx hby i6_11 (fun c11_2 => False.elim (absurd c11_2 (by decide))) fun c11_2 => ?_
  refine g_aloadN X1 hx hby i6_14 rfl rfl ?_
  refine g_iloadN X1 hx hby i6_15 rfl ?_
  refine g_aaload X1 hx hby hZ rfl V1 rfl (i := 0) (by decide) (by decide) (by decide) rfl i6_16 ?_
  refine g_astore X1 hx hby i6_17 rfl (l' := #[.val (.ref sn), .val (.ref t1), .val (.int (2 : Int32)), .val (.int (0 : Int32)), .val (.ref na)]) rfl ?_
  refine g_aload X1 hx hby i6_19 rfl rfl ?_
  refine g_getfield X1 hx hby hZ hown (host := "") (Or.inl (hw _ (List.mem_of_getElem? (i := 50) rfl))) Via.refl rfl (F_na.ext O.2) i6_21 fun T3 X3 e3 => ?_
  refine g_aloadN X3 hx hby i6_24 rfl rfl ?_
  refine g_callV0 X3 hx hby hZ (y0 := (⟨"java/lang/String", "equals", "(Ljava/lang/Object;)Z"⟩ : MethodName)) (y := (⟨"java/lang/String", "equals", "(Ljava/lang/Object;)Z"⟩ : MethodName)) (argsL := [(.ref sn)]) (rest := []) hown (hw _ (List.mem_of_getElem? (i := 52) rfl)) (hw _ (List.mem_of_getElem? (i := 53) rfl)) (notFace_of_selects (args := #[]) (mvT hZ (hw _ (List.mem_of_getElem? (i := 55) rfl)))) (hw _ (List.mem_of_getElem? (i := 55) rfl)) (hw _ (List.mem_of_getElem? (i := 54) rfl)) (hw _ (List.mem_of_getElem? (i := 9) rfl)) (hw _ (List.mem_of_getElem? (i := 56) rfl)) (by decide) (a := ns) (E_ns.ext O.2) (rm8_4 l Z a0 hw [] ns sn cz nb tb kn kt (110 : Int32) (111 : Int32) (110 : Int32) (101 : Int32) x0 x1 x2 x3 T1.heap n0 Z0 S0 hcz O (E_ns.ext O.2) (FC_ns.ext O.2) (FV_ns.ext O.2) E_s FC_s FV_s (V_nb.ext O.2) V_s hns) e3 (by rw [hml]; rfl) pd_7 rfl rfl i6_25 (by decide) 0 rfl (by decide) (by decide) (by decide) fun T4 v4 L4 X4 q4 => ?_
  obtain ⟨_, rfl, r4, rfl, hr4, e4, N4⟩ := q4
  have N0 := Fr.app N0 N4
  show Gd p e below _ T4 (mkF m 28 #[.val (.ref sn), .val (.ref t1), .val (.int (2 : Int32)), .val (.int (0 : Int32)), .val (.ref na)] [(.int r4)])
  refine g_if_eq X4 hx hby i6_28 (fun c28_5 => ?_) (fun c28_5 => ?_)
  · refine g_iinc X4 hx hby i6_34 rfl (z := (1 : Int32)) (by decide) (l' := #[.val (.ref sn), .val (.ref t1), .val (.int (2 : Int32)), .val (.int (1 : Int32)), .val (.ref na)]) rfl ?_
    refine g_goto X4 hx hby i6_37 ?_
    refine g_iloadN X4 hx hby i6_9 rfl ?_
    refine g_iloadN X4 hx hby i6_10 rfl ?_
    refine g_icmp_ge X4 hx hby i6_11 (fun c11_6 => False.elim (absurd c11_6 (by decide))) fun c11_6 => ?_
    refine g_aloadN X4 hx hby i6_14 rfl rfl ?_
    refine g_iloadN X4 hx hby i6_15 rfl ?_
    refine g_aaload X4 hx hby hZ e4 V1 rfl (i := 1) (by decide) (by decide) (by decide) rfl i6_16 ?_
    refine g_astore X4 hx hby i6_17 rfl (l' := #[.val (.ref sn), .val (.ref t1), .val (.int (2 : Int32)), .val (.int (1 : Int32)), .val (.ref pa)]) rfl ?_
    refine g_aload X4 hx hby i6_19 rfl rfl ?_
    refine g_getfield X4 hx hby hZ hown (host := "") (Or.inl (hw _ (List.mem_of_getElem? (i := 50) rfl))) Via.refl e4 (F_pa.ext O.2) i6_21 fun T7 X7 e7 => ?_
    refine g_aloadN X7 hx hby i6_24 rfl rfl ?_
    refine g_callV0 X7 hx hby hZ (y0 := (⟨"java/lang/String", "equals", "(Ljava/lang/Object;)Z"⟩ : MethodName)) (y := (⟨"java/lang/String", "equals", "(Ljava/lang/Object;)Z"⟩ : MethodName)) (argsL := [(.ref sn)]) (rest := []) hown (hw _ (List.mem_of_getElem? (i := 52) rfl)) (hw _ (List.mem_of_getElem? (i := 53) rfl)) (notFace_of_selects (args := #[]) (mvT hZ (hw _ (List.mem_of_getElem? (i := 55) rfl)))) (hw _ (List.mem_of_getElem? (i := 55) rfl)) (hw _ (List.mem_of_getElem? (i := 54) rfl)) (hw _ (List.mem_of_getElem? (i := 9) rfl)) (hw _ (List.mem_of_getElem? (i := 56) rfl)) (by decide) (a := ps) (E_ps.ext O.2) (rm8_d l Z a0 hw [] ps sn cz pb tb kp kt (2 : Int32) (4 : Int32) _ _ T1.heap n0 Z0 S0 hcz O (E_ps.ext O.2) (FC_ps.ext O.2) (FV_ps.ext O.2) E_s FC_s FV_s (V_pb.ext O.2) V_s hps (by decide)) e7 (by rw [hml]; rfl) pd_7 rfl rfl i6_25 (by decide) 0 rfl (by decide) (by decide) (by decide) fun T8 v8 L8 X8 q8 => ?_
    obtain ⟨_, rfl, rfl, e8, N8⟩ := q8
    have N0 := Fr.app N0 N8
    show Gd p e below _ T8 (mkF m 28 #[.val (.ref sn), .val (.ref t1), .val (.int (2 : Int32)), .val (.int (1 : Int32)), .val (.ref pa)] [(.int (0 : Int32))])
    refine g_if_eq X8 hx hby i6_28 (fun c28_9 => ?_) (fun c28_9 => False.elim (absurd c28_9 (by decide)))
    refine g_iinc X8 hx hby i6_34 rfl (z := (2 : Int32)) (by decide) (l' := #[.val (.ref sn), .val (.ref t1), .val (.int (2 : Int32)), .val (.int (2 : Int32)), .val (.ref pa)]) rfl ?_
    refine g_goto X8 hx hby i6_37 ?_
    refine g_iloadN X8 hx hby i6_9 rfl ?_
    refine g_iloadN X8 hx hby i6_10 rfl ?_
    refine g_icmp_ge X8 hx hby i6_11 (fun c11_10 => ?_) (fun c11_10 => False.elim (absurd c11_10 (by decide)))
    refine g_aconst_null X8 hx hby i6_40 ?_
    refine g_areturn X8 hx hby hret rfl (fun _ => rfl) hlk rfl i6_41 (by decide) (by decide) ?_
    rw [e8]
    exact ⟨_, rfl, Or.inr ⟨own_no hr4 c28_5, rfl⟩, K0, N0⟩
  · refine g_aload X4 hx hby i6_31 rfl rfl ?_
    refine g_areturn X4 hx hby hret rfl (fun _ => rfl) hlk rfl i6_33 (by decide) (by decide) ?_
    rw [e4]
    exact ⟨_, rfl, Or.inl ⟨own_yes hr4 c28_5, rfl⟩, K0, N0⟩
set_option maxRecDepth 65536 in
set_option maxHeartbeats 40000000 in
theorem rm6_5 (l : Launch) (Z : State) (a0 : Array Value) (hw : ∀ d ∈ tables_1, d.before a0 Z = true) (ws : List Jvm.Cond) (sn : Addr) (cz : Int32) (va na pa ns ps nb pb : Addr) (kv kn kp : ClassId) (tb : Addr) (kt : ClassId) (x0 x1 x2 x3 x4 : Int32) (h0 : Heap) (n0 : Nat) (Z0 : n0 ≤ h0.size) (S0 : Sta Z Z.heap "java/lang/String" "COMPACT_STRINGS" "Z" (.int cz)) (hcz : ¬ cz = (0 : Int32)) (O : Old Z n0 h0) (SV : Sta Z Z.heap "com/example/plantain/plantain/codec/Profile" "$VALUES" "[Lcom/example/plantain/plantain/codec/Profile;" (.ref va)) (SN : Sta Z Z.heap "com/example/plantain/plantain/codec/Profile" "NONE" "Lcom/example/plantain/plantain/codec/Profile;" (.ref na)) (SP : Sta Z Z.heap "com/example/plantain/plantain/codec/Profile" "PB" "Lcom/example/plantain/plantain/codec/Profile;" (.ref pa)) (E_va : Exa Z Z.heap va "[Lcom/example/plantain/plantain/codec/Profile;") (V_va : Arv Z Z.heap va kv (.object "com/example/plantain/plantain/codec/Profile") (2 : Int32) [(.ref na), (.ref pa)] .null) (E_na : Exa Z Z.heap na "com/example/plantain/plantain/codec/Profile") (F_na : Fld Z Z.heap na "com/example/plantain/plantain/codec/Profile" "wireName" "Ljava/lang/String;" (.ref ns)) (E_ns : Exa Z Z.heap ns "java/lang/String") (FC_ns : Fld Z Z.heap ns "java/lang/String" "coder" "B" (.int 0)) (FV_ns : Fld Z Z.heap ns "java/lang/String" "value" "[B" (.ref nb)) (V_nb : Arv Z Z.heap nb kn .byte (4 : Int32) [(.int (110 : Int32)), (.int (111 : Int32)), (.int (110 : Int32)), (.int (101 : Int32))] (.int (0 : Int32))) (E_pa : Exa Z Z.heap pa "com/example/plantain/plantain/codec/Profile") (F_pa : Fld Z Z.heap pa "com/example/plantain/plantain/codec/Profile" "wireName" "Ljava/lang/String;" (.ref ps)) (E_ps : Exa Z Z.heap ps "java/lang/String") (FC_ps : Fld Z Z.heap ps "java/lang/String" "coder" "B" (.int 0)) (FV_ps : Fld Z Z.heap ps "java/lang/String" "value" "[B" (.ref pb)) (V_pb : Arv Z Z.heap pb kp .byte (2 : Int32) [(.int (112 : Int32)), (.int (98 : Int32))] (.int (0 : Int32))) (E_s : Exa Z h0 sn "java/lang/String") (FC_s : Fld Z h0 sn "java/lang/String" "coder" "B" (.int 0)) (FV_s : Fld Z h0 sn "java/lang/String" "value" "[B" (.ref tb)) (V_s : Arv Z h0 tb kt .byte (5 : Int32) [(.int x0), (.int x1), (.int x2), (.int x3), (.int x4)] (.int (0 : Int32))) (hns : ns ≠ sn) (hps : ps ≠ sn) :
    Met1 l (⟨"com/example/plantain/plantain/codec/Profile", "named", "(Ljava/lang/String;)Lcom/example/plantain/plantain/codec/Profile;"⟩ : MethodName) prog_9_method_5_code 5 (some (.object "com/example/plantain/plantain/codec/Profile")) ws ({ frames := 2, cells := 1, slots := 2, locals := 28 } : Room) #[(.ref sn)] Z h0 (RV fun vv h L => vv = .null ∧ Keep h0 h [] ∧ Fr n0 L) := by
  refine met_of (plainFor_of_name pn_com_example_plantain_plantain_codec_Profile) ?_
  intro p e s m below meth c T0 X0 hx hby hml hZ hown hnm hret hlk e0 es
  have N0 := Fr.nil n0
  refine Gd.cast (ef_6_0 m sn) ?_
  have K0 : Keep h0 h0 [] := Keep.refl _ _
  refine g_callS0 X0 hx hby hZ (y := (⟨"com/example/plantain/plantain/codec/Profile", "values", "()[Lcom/example/plantain/plantain/codec/Profile;"⟩ : MethodName)) (argsL := []) (rest := []) hown (hw _ (List.mem_of_getElem? (i := 33) rfl)) (hw _ (List.mem_of_getElem? (i := 34) rfl)) (hw _ (List.mem_of_getElem? (i := 31) rfl)) (hw _ (List.mem_of_getElem? (i := 35) rfl)) (by decide) (rm7 l Z a0 hw [] cz va na pa ns ps nb pb kv kn kp h0 n0 Z0 S0 hcz O SV SN SP E_va V_va E_na F_na E_ns FC_ns FV_ns V_nb E_pa F_pa E_ps FC_ps FV_ps V_pb) e0 (by rw [hml]; rfl) pd_6 rfl rfl i6_0 (by decide) 0 rfl (by decide) (by decide) (by decide) fun T1 v1 L1 X1 q1 => ?_
  obtain ⟨_, rfl, t1, rfl, K1, V1, s1, N1⟩ := q1
  have N0 := Fr.app N0 N1
  have K0 := K0.trans K1 (fun x hx => nomatch hx)
  have E_s := E_s.keep K1
  have FC_s := FC_s.keep K1 nin0
  have FV_s := FV_s.keep K1 nin0
  have V_s := V_s.keep K1 nin0
  have O := O.keep K1 all0
  have Z0 : n0 ≤ T1.heap.size := Nat.le_trans Z0 K1.1
  show Gd p e below _ T1 (mkF m 3 #[.val (.ref sn), .unset, .unset, .unset, .unset] [(.ref t1)])
  refine g_astoreN X1 hx hby i6_3 rfl (l' := #[.val (.ref sn), .val (.ref t1), .unset, .unset, .unset]) rfl ?_
  refine g_aloadN X1 hx hby i6_4 rfl rfl ?_
  refine g_arraylength X1 hx hby hZ rfl V1 i6_5 ?_
  refine g_istoreN X1 hx hby i6_6 (l' := #[.val (.ref sn), .val (.ref t1), .val (.int (2 : Int32)), .unset, .unset]) rfl ?_
  refine g_iconst X1 hx hby i6_7 (z := (0 : Int32)) (by decide) ?_
  refine g_istoreN X1 hx hby i6_8 (l' := #[.val (.ref sn), .val (.ref t1), .val (.int (2 : Int32)), .val (.int (0 : Int32)), .unset]) rfl ?_
  refine g_iloadN X1 hx hby i6_9 rfl ?_
  refine g_iloadN X1 hx hby i6_10 rfl ?_
  refine g_icmp_ge X1 hx hby i6_11 (fun c11_2 => False.elim (absurd c11_2 (by decide))) fun c11_2 => ?_
  refine g_aloadN X1 hx hby i6_14 rfl rfl ?_
  refine g_iloadN X1 hx hby i6_15 rfl ?_
  refine g_aaload X1 hx hby hZ rfl V1 rfl (i := 0) (by decide) (by decide) (by decide) rfl i6_16 ?_
  refine g_astore X1 hx hby i6_17 rfl (l' := #[.val (.ref sn), .val (.ref t1), .val (.int (2 : Int32)), .val (.int (0 : Int32)), .val (.ref na)]) rfl ?_
  refine g_aload X1 hx hby i6_19 rfl rfl ?_
  refine g_getfield X1 hx hby hZ hown (host := "") (Or.inl (hw _ (List.mem_of_getElem? (i := 50) rfl))) Via.refl rfl (F_na.ext O.2) i6_21 fun T3 X3 e3 => ?_
  refine g_aloadN X3 hx hby i6_24 rfl rfl ?_
  refine g_callV0 X3 hx hby hZ (y0 := (⟨"java/lang/String", "equals", "(Ljava/lang/Object;)Z"⟩ : MethodName)) (y := (⟨"java/lang/String", "equals", "(Ljava/lang/Object;)Z"⟩ : MethodName)) (argsL := [(.ref sn)]) (rest := []) hown (hw _ (List.mem_of_getElem? (i := 52) rfl)) (hw _ (List.mem_of_getElem? (i := 53) rfl)) (notFace_of_selects (args := #[]) (mvT hZ (hw _ (List.mem_of_getElem? (i := 55) rfl)))) (hw _ (List.mem_of_getElem? (i := 55) rfl)) (hw _ (List.mem_of_getElem? (i := 54) rfl)) (hw _ (List.mem_of_getElem? (i := 9) rfl)) (hw _ (List.mem_of_getElem? (i := 56) rfl)) (by decide) (a := ns) (E_ns.ext O.2) (rm8_d l Z a0 hw [] ns sn cz nb tb kn kt (4 : Int32) (5 : Int32) _ _ T1.heap n0 Z0 S0 hcz O (E_ns.ext O.2) (FC_ns.ext O.2) (FV_ns.ext O.2) E_s FC_s FV_s (V_nb.ext O.2) V_s hns (by decide)) e3 (by rw [hml]; rfl) pd_7 rfl rfl i6_25 (by decide) 0 rfl (by decide) (by decide) (by decide) fun T4 v4 L4 X4 q4 => ?_
  obtain ⟨_, rfl, rfl, e4, N4⟩ := q4
  have N0 := Fr.app N0 N4
  show Gd p e below _ T4 (mkF m 28 #[.val (.ref sn), .val (.ref t1), .val (.int (2 : Int32)), .val (.int (0 : Int32)), .val (.ref na)] [(.int (0 : Int32))])
  refine g_if_eq X4 hx hby i6_28 (fun c28_5 => ?_) (fun c28_5 => False.elim (absurd c28_5 (by decide)))
  refine g_iinc X4 hx hby i6_34 rfl (z := (1 : Int32)) (by decide) (l' := #[.val (.ref sn), .val (.ref t1), .val (.int (2 : Int32)), .val (.int (1 : Int32)), .val (.ref na)]) rfl ?_
  refine g_goto X4 hx hby i6_37 ?_
  refine g_iloadN X4 hx hby i6_9 rfl ?_
  refine g_iloadN X4 hx hby i6_10 rfl ?_
  refine g_icmp_ge X4 hx hby i6_11 (fun c11_6 => False.elim (absurd c11_6 (by decide))) fun c11_6 => ?_
  refine g_aloadN X4 hx hby i6_14 rfl rfl ?_
  refine g_iloadN X4 hx hby i6_15 rfl ?_
  refine g_aaload X4 hx hby hZ e4 V1 rfl (i := 1) (by decide) (by decide) (by decide) rfl i6_16 ?_
  refine g_astore X4 hx hby i6_17 rfl (l' := #[.val (.ref sn), .val (.ref t1), .val (.int (2 : Int32)), .val (.int (1 : Int32)), .val (.ref pa)]) rfl ?_
  refine g_aload X4 hx hby i6_19 rfl rfl ?_
  refine g_getfield X4 hx hby hZ hown (host := "") (Or.inl (hw _ (List.mem_of_getElem? (i := 50) rfl))) Via.refl e4 (F_pa.ext O.2) i6_21 fun T7 X7 e7 => ?_
  refine g_aloadN X7 hx hby i6_24 rfl rfl ?_
  refine g_callV0 X7 hx hby hZ (y0 := (⟨"java/lang/String", "equals", "(Ljava/lang/Object;)Z"⟩ : MethodName)) (y := (⟨"java/lang/String", "equals", "(Ljava/lang/Object;)Z"⟩ : MethodName)) (argsL := [(.ref sn)]) (rest := []) hown (hw _ (List.mem_of_getElem? (i := 52) rfl)) (hw _ (List.mem_of_getElem? (i := 53) rfl)) (notFace_of_selects (args := #[]) (mvT hZ (hw _ (List.mem_of_getElem? (i := 55) rfl)))) (hw _ (List.mem_of_getElem? (i := 55) rfl)) (hw _ (List.mem_of_getElem? (i := 54) rfl)) (hw _ (List.mem_of_getElem? (i := 9) rfl)) (hw _ (List.mem_of_getElem? (i := 56) rfl)) (by decide) (a := ps) (E_ps.ext O.2) (rm8_d l Z a0 hw [] ps sn cz pb tb kp kt (2 : Int32) (5 : Int32) _ _ T1.heap n0 Z0 S0 hcz O (E_ps.ext O.2) (FC_ps.ext O.2) (FV_ps.ext O.2) E_s FC_s FV_s (V_pb.ext O.2) V_s hps (by decide)) e7 (by rw [hml]; rfl) pd_7 rfl rfl i6_25 (by decide) 0 rfl (by decide) (by decide) (by decide) fun T8 v8 L8 X8 q8 => ?_
  obtain ⟨_, rfl, rfl, e8, N8⟩ := q8
  have N0 := Fr.app N0 N8
  show Gd p e below _ T8 (mkF m 28 #[.val (.ref sn), .val (.ref t1), .val (.int (2 : Int32)), .val (.int (1 : Int32)), .val (.ref pa)] [(.int (0 : Int32))])
  refine g_if_eq X8 hx hby i6_28 (fun c28_9 => ?_) (fun c28_9 => False.elim (absurd c28_9 (by decide)))
  refine g_iinc X8 hx hby i6_34 rfl (z := (2 : Int32)) (by decide) (l' := #[.val (.ref sn), .val (.ref t1), .val (.int (2 : Int32)), .val (.int (2 : Int32)), .val (.ref pa)]) rfl ?_
  refine g_goto X8 hx hby i6_37 ?_
  refine g_iloadN X8 hx hby i6_9 rfl ?_
  refine g_iloadN X8 hx hby i6_10 rfl ?_
  refine g_icmp_ge X8 hx hby i6_11 (fun c11_10 => ?_) (fun c11_10 => False.elim (absurd c11_10 (by decide)))
  refine g_aconst_null X8 hx hby i6_40 ?_
  refine g_areturn X8 hx hby hret rfl (fun _ => rfl) hlk rfl i6_41 (by decide) (by decide) ?_
  rw [e8]
  exact ⟨_, rfl, rfl, K0, N0⟩
set_option maxRecDepth 65536 in
set_option maxHeartbeats 40000000 in
theorem rm6_6 (l : Launch) (Z : State) (a0 : Array Value) (hw : ∀ d ∈ tables_1, d.before a0 Z = true) (ws : List Jvm.Cond) (sn : Addr) (cz : Int32) (va na pa ns ps nb pb : Addr) (kv kn kp : ClassId) (tb : Addr) (kt : ClassId) (x0 x1 x2 x3 x4 x5 : Int32) (h0 : Heap) (n0 : Nat) (Z0 : n0 ≤ h0.size) (S0 : Sta Z Z.heap "java/lang/String" "COMPACT_STRINGS" "Z" (.int cz)) (hcz : ¬ cz = (0 : Int32)) (O : Old Z n0 h0) (SV : Sta Z Z.heap "com/example/plantain/plantain/codec/Profile" "$VALUES" "[Lcom/example/plantain/plantain/codec/Profile;" (.ref va)) (SN : Sta Z Z.heap "com/example/plantain/plantain/codec/Profile" "NONE" "Lcom/example/plantain/plantain/codec/Profile;" (.ref na)) (SP : Sta Z Z.heap "com/example/plantain/plantain/codec/Profile" "PB" "Lcom/example/plantain/plantain/codec/Profile;" (.ref pa)) (E_va : Exa Z Z.heap va "[Lcom/example/plantain/plantain/codec/Profile;") (V_va : Arv Z Z.heap va kv (.object "com/example/plantain/plantain/codec/Profile") (2 : Int32) [(.ref na), (.ref pa)] .null) (E_na : Exa Z Z.heap na "com/example/plantain/plantain/codec/Profile") (F_na : Fld Z Z.heap na "com/example/plantain/plantain/codec/Profile" "wireName" "Ljava/lang/String;" (.ref ns)) (E_ns : Exa Z Z.heap ns "java/lang/String") (FC_ns : Fld Z Z.heap ns "java/lang/String" "coder" "B" (.int 0)) (FV_ns : Fld Z Z.heap ns "java/lang/String" "value" "[B" (.ref nb)) (V_nb : Arv Z Z.heap nb kn .byte (4 : Int32) [(.int (110 : Int32)), (.int (111 : Int32)), (.int (110 : Int32)), (.int (101 : Int32))] (.int (0 : Int32))) (E_pa : Exa Z Z.heap pa "com/example/plantain/plantain/codec/Profile") (F_pa : Fld Z Z.heap pa "com/example/plantain/plantain/codec/Profile" "wireName" "Ljava/lang/String;" (.ref ps)) (E_ps : Exa Z Z.heap ps "java/lang/String") (FC_ps : Fld Z Z.heap ps "java/lang/String" "coder" "B" (.int 0)) (FV_ps : Fld Z Z.heap ps "java/lang/String" "value" "[B" (.ref pb)) (V_pb : Arv Z Z.heap pb kp .byte (2 : Int32) [(.int (112 : Int32)), (.int (98 : Int32))] (.int (0 : Int32))) (E_s : Exa Z h0 sn "java/lang/String") (FC_s : Fld Z h0 sn "java/lang/String" "coder" "B" (.int 0)) (FV_s : Fld Z h0 sn "java/lang/String" "value" "[B" (.ref tb)) (V_s : Arv Z h0 tb kt .byte (6 : Int32) [(.int x0), (.int x1), (.int x2), (.int x3), (.int x4), (.int x5)] (.int (0 : Int32))) (hns : ns ≠ sn) (hps : ps ≠ sn) :
    Met1 l (⟨"com/example/plantain/plantain/codec/Profile", "named", "(Ljava/lang/String;)Lcom/example/plantain/plantain/codec/Profile;"⟩ : MethodName) prog_9_method_5_code 5 (some (.object "com/example/plantain/plantain/codec/Profile")) ws ({ frames := 2, cells := 1, slots := 2, locals := 28 } : Room) #[(.ref sn)] Z h0 (RV fun vv h L => vv = .null ∧ Keep h0 h [] ∧ Fr n0 L) := by
  refine met_of (plainFor_of_name pn_com_example_plantain_plantain_codec_Profile) ?_
  intro p e s m below meth c T0 X0 hx hby hml hZ hown hnm hret hlk e0 es
  have N0 := Fr.nil n0
  refine Gd.cast (ef_6_0 m sn) ?_
  have K0 : Keep h0 h0 [] := Keep.refl _ _
  refine g_callS0 X0 hx hby hZ (y := (⟨"com/example/plantain/plantain/codec/Profile", "values", "()[Lcom/example/plantain/plantain/codec/Profile;"⟩ : MethodName)) (argsL := []) (rest := []) hown (hw _ (List.mem_of_getElem? (i := 33) rfl)) (hw _ (List.mem_of_getElem? (i := 34) rfl)) (hw _ (List.mem_of_getElem? (i := 31) rfl)) (hw _ (List.mem_of_getElem? (i := 35) rfl)) (by decide) (rm7 l Z a0 hw [] cz va na pa ns ps nb pb kv kn kp h0 n0 Z0 S0 hcz O SV SN SP E_va V_va E_na F_na E_ns FC_ns FV_ns V_nb E_pa F_pa E_ps FC_ps FV_ps V_pb) e0 (by rw [hml]; rfl) pd_6 rfl rfl i6_0 (by decide) 0 rfl (by decide) (by decide) (by decide) fun T1 v1 L1 X1 q1 => ?_
  obtain ⟨_, rfl, t1, rfl, K1, V1, s1, N1⟩ := q1
  have N0 := Fr.app N0 N1
  have K0 := K0.trans K1 (fun x hx => nomatch hx)
  have E_s := E_s.keep K1
  have FC_s := FC_s.keep K1 nin0
  have FV_s := FV_s.keep K1 nin0
  have V_s := V_s.keep K1 nin0
  have O := O.keep K1 all0
  have Z0 : n0 ≤ T1.heap.size := Nat.le_trans Z0 K1.1
  show Gd p e below _ T1 (mkF m 3 #[.val (.ref sn), .unset, .unset, .unset, .unset] [(.ref t1)])
  refine g_astoreN X1 hx hby i6_3 rfl (l' := #[.val (.ref sn), .val (.ref t1), .unset, .unset, .unset]) rfl ?_
  refine g_aloadN X1 hx hby i6_4 rfl rfl ?_
  refine g_arraylength X1 hx hby hZ rfl V1 i6_5 ?_
  refine g_istoreN X1 hx hby i6_6 (l' := #[.val (.ref sn), .val (.ref t1), .val (.int (2 : Int32)), .unset, .unset]) rfl ?_
  refine g_iconst X1 hx hby i6_7 (z := (0 : Int32)) (by decide) ?_
  refine g_istoreN X1 hx hby i6_8 (l' := #[.val (.ref sn), .val (.ref t1), .val (.int (2 : Int32)), .val (.int (0 : Int32)), .unset]) rfl ?_
  refine g_iloadN X1 hx hby i6_9 rfl ?_
  refine g_iloadN X1 hx hby i6_10 rfl ?_
  refine g_icmp_ge X1 hx hby i6_11 (fun c11_2 => False.elim (absurd c11_2 (by decide))) fun c11_2 => ?_
  refine g_aloadN X1 hx hby i6_14 rfl rfl ?_
  refine g_iloadN X1 hx hby i6_15 rfl ?_
  refine g_aaload X1 hx hby hZ rfl V1 rfl (i := 0) (by decide) (by decide) (by decide) rfl i6_16 ?_
  refine g_astore X1 hx hby i6_17 rfl (l' := #[.val (.ref sn), .val (.ref t1), .val (.int (2 : Int32)), .val (.int (0 : Int32)), .val (.ref na)]) rfl ?_
  refine g_aload X1 hx hby i6_19 rfl rfl ?_
  refine g_getfield X1 hx hby hZ hown (host := "") (Or.inl (hw _ (List.mem_of_getElem? (i := 50) rfl))) Via.refl rfl (F_na.ext O.2) i6_21 fun T3 X3 e3 => ?_
  refine g_aloadN X3 hx hby i6_24 rfl rfl ?_
  refine g_callV0 X3 hx hby hZ (y0 := (⟨"java/lang/String", "equals", "(Ljava/lang/Object;)Z"⟩ : MethodName)) (y := (⟨"java/lang/String", "equals", "(Ljava/lang/Object;)Z"⟩ : MethodName)) (argsL := [(.ref sn)]) (rest := []) hown (hw _ (List.mem_of_getElem? (i := 52) rfl)) (hw _ (List.mem_of_getElem? (i := 53) rfl)) (notFace_of_selects (args := #[]) (mvT hZ (hw _ (List.mem_of_getElem? (i := 55) rfl)))) (hw _ (List.mem_of_getElem? (i := 55) rfl)) (hw _ (List.mem_of_getElem? (i := 54) rfl)) (hw _ (List.mem_of_getElem? (i := 9) rfl)) (hw _ (List.mem_of_getElem? (i := 56) rfl)) (by decide) (a := ns) (E_ns.ext O.2) (rm8_d l Z a0 hw [] ns sn cz nb tb kn kt (4 : Int32) (6 : Int32) _ _ T1.heap n0 Z0 S0 hcz O (E_ns.ext O.2) (FC_ns.ext O.2) (FV_ns.ext O.2) E_s FC_s FV_s (V_nb.ext O.2) V_s hns (by decide)) e3 (by rw [hml]; rfl) pd_7 rfl rfl i6_25 (by decide) 0 rfl (by decide) (by decide) (by decide) fun T4 v4 L4 X4 q4 => ?_
  obtain ⟨_, rfl, rfl, e4, N4⟩ := q4
  have N0 := Fr.app N0 N4
  show Gd p e below _ T4 (mkF m 28 #[.val (.ref sn), .val (.ref t1), .val (.int (2 : Int32)), .val (.int (0 : Int32)), .val (.ref na)] [(.int (0 : Int32))])
  refine g_if_eq X4 hx hby i6_28 (fun c28_5 => ?_) (fun c28_5 => False.elim (absurd c28_5 (by decide)))
  refine g_iinc X4 hx hby i6_34 rfl (z := (1 : Int32)) (by decide) (l' := #[.val (.ref sn), .val (.ref t1), .val (.int (2 : Int32)), .val (.int (1 : Int32)), .val (.ref na)]) rfl ?_
  refine g_goto X4 hx hby i6_37 ?_
  refine g_iloadN X4 hx hby i6_9 rfl ?_
  refine g_iloadN X4 hx hby i6_10 rfl ?_
  refine g_icmp_ge X4 hx hby i6_11 (fun c11_6 => False.elim (absurd c11_6 (by decide))) fun c11_6 => ?_
  refine g_aloadN X4 hx hby i6_14 rfl rfl ?_
  refine g_iloadN X4 hx hby i6_15 rfl ?_
  refine g_aaload X4 hx hby hZ e4 V1 rfl (i := 1) (by decide) (by decide) (by decide) rfl i6_16 ?_
  refine g_astore X4 hx hby i6_17 rfl (l' := #[.val (.ref sn), .val (.ref t1), .val (.int (2 : Int32)), .val (.int (1 : Int32)), .val (.ref pa)]) rfl ?_
  refine g_aload X4 hx hby i6_19 rfl rfl ?_
  refine g_getfield X4 hx hby hZ hown (host := "") (Or.inl (hw _ (List.mem_of_getElem? (i := 50) rfl))) Via.refl e4 (F_pa.ext O.2) i6_21 fun T7 X7 e7 => ?_
  refine g_aloadN X7 hx hby i6_24 rfl rfl ?_
  refine g_callV0 X7 hx hby hZ (y0 := (⟨"java/lang/String", "equals", "(Ljava/lang/Object;)Z"⟩ : MethodName)) (y := (⟨"java/lang/String", "equals", "(Ljava/lang/Object;)Z"⟩ : MethodName)) (argsL := [(.ref sn)]) (rest := []) hown (hw _ (List.mem_of_getElem? (i := 52) rfl)) (hw _ (List.mem_of_getElem? (i := 53) rfl)) (notFace_of_selects (args := #[]) (mvT hZ (hw _ (List.mem_of_getElem? (i := 55) rfl)))) (hw _ (List.mem_of_getElem? (i := 55) rfl)) (hw _ (List.mem_of_getElem? (i := 54) rfl)) (hw _ (List.mem_of_getElem? (i := 9) rfl)) (hw _ (List.mem_of_getElem? (i := 56) rfl)) (by decide) (a := ps) (E_ps.ext O.2) (rm8_d l Z a0 hw [] ps sn cz pb tb kp kt (2 : Int32) (6 : Int32) _ _ T1.heap n0 Z0 S0 hcz O (E_ps.ext O.2) (FC_ps.ext O.2) (FV_ps.ext O.2) E_s FC_s FV_s (V_pb.ext O.2) V_s hps (by decide)) e7 (by rw [hml]; rfl) pd_7 rfl rfl i6_25 (by decide) 0 rfl (by decide) (by decide) (by decide) fun T8 v8 L8 X8 q8 => ?_
  obtain ⟨_, rfl, rfl, e8, N8⟩ := q8
  have N0 := Fr.app N0 N8
  show Gd p e below _ T8 (mkF m 28 #[.val (.ref sn), .val (.ref t1), .val (.int (2 : Int32)), .val (.int (1 : Int32)), .val (.ref pa)] [(.int (0 : Int32))])
  refine g_if_eq X8 hx hby i6_28 (fun c28_9 => ?_) (fun c28_9 => False.elim (absurd c28_9 (by decide)))
  refine g_iinc X8 hx hby i6_34 rfl (z := (2 : Int32)) (by decide) (l' := #[.val (.ref sn), .val (.ref t1), .val (.int (2 : Int32)), .val (.int (2 : Int32)), .val (.ref pa)]) rfl ?_
  refine g_goto X8 hx hby i6_37 ?_
  refine g_iloadN X8 hx hby i6_9 rfl ?_
  refine g_iloadN X8 hx hby i6_10 rfl ?_
  refine g_icmp_ge X8 hx hby i6_11 (fun c11_10 => ?_) (fun c11_10 => False.elim (absurd c11_10 (by decide)))
  refine g_aconst_null X8 hx hby i6_40 ?_
  refine g_areturn X8 hx hby hret rfl (fun _ => rfl) hlk rfl i6_41 (by decide) (by decide) ?_
  rw [e8]
  exact ⟨_, rfl, rfl, K0, N0⟩
theorem i0_0 : Ins1 code 0 (.iload_n 0) 1 1 := ⟨at_0, rfl⟩
theorem i0_1 : Ins1 code 1 (.bipush 7) 2 3 := ⟨at_1, rfl⟩
theorem i0_3 : Ins1 code 3 (.iand) 1 4 := ⟨at_3, rfl⟩
theorem i0_4 : Ins1 code 4 (.istore_n 3) 1 5 := ⟨at_4, rfl⟩
theorem i0_5 : Ins1 code 5 (.iload_n 0) 1 6 := ⟨at_5, rfl⟩
theorem i0_6 : Ins1 code 6 (.iconst 3) 1 7 := ⟨at_6, rfl⟩
theorem i0_7 : Ins1 code 7 (.ishr) 1 8 := ⟨at_7, rfl⟩
theorem i0_8 : Ins1 code 8 (.iconst 1) 1 9 := ⟨at_8, rfl⟩
theorem i0_9 : Ins1 code 9 (.iand) 1 10 := ⟨at_9, rfl⟩
theorem i0_10 : InsB code 10 (.ifCond .eq 7) 7 13 17 := ⟨at_10, rfl, by decide, by decide⟩
theorem i0_13 : Ins1 code 13 (.iconst 1) 1 14 := ⟨at_13, rfl⟩
theorem i0_14 : InsB code 14 (.goto 4) 4 17 18 := ⟨at_14, rfl, by decide, by decide⟩
theorem i0_17 : Ins1 code 17 (.iconst 0) 1 18 := ⟨at_17, rfl⟩
theorem i0_18 : Ins1 code 18 (.istore 4) 2 20 := ⟨at_18, rfl⟩
theorem i0_20 : Ins1 code 20 (.iload_n 0) 1 21 := ⟨at_20, rfl⟩
theorem i0_21 : Ins1 code 21 (.iconst 4) 1 22 := ⟨at_21, rfl⟩
theorem i0_22 : Ins1 code 22 (.ishr) 1 23 := ⟨at_22, rfl⟩
theorem i0_23 : Ins1 code 23 (.iconst 1) 1 24 := ⟨at_23, rfl⟩
theorem i0_24 : Ins1 code 24 (.iand) 1 25 := ⟨at_24, rfl⟩
theorem i0_25 : InsB code 25 (.ifCond .eq 7) 7 28 32 := ⟨at_25, rfl, by decide, by decide⟩
theorem i0_28 : Ins1 code 28 (.iconst 1) 1 29 := ⟨at_28, rfl⟩
theorem i0_29 : InsB code 29 (.goto 4) 4 32 33 := ⟨at_29, rfl, by decide, by decide⟩
theorem i0_32 : Ins1 code 32 (.iconst 0) 1 33 := ⟨at_32, rfl⟩
theorem i0_33 : Ins1 code 33 (.istore 5) 2 35 := ⟨at_33, rfl⟩
theorem i0_35 : Ins1 code 35 (.iload 5) 2 37 := ⟨at_35, rfl⟩
theorem i0_37 : InsB code 37 (.ifCond .eq 12) 12 40 49 := ⟨at_37, rfl, by decide, by decide⟩
theorem i0_40 : Ins1 code 40 (.iload_n 0) 1 41 := ⟨at_40, rfl⟩
theorem i0_41 : Ins1 code 41 (.iconst 5) 1 42 := ⟨at_41, rfl⟩
theorem i0_42 : Ins1 code 42 (.ishr) 1 43 := ⟨at_42, rfl⟩
theorem i0_43 : Ins1 code 43 (.bipush 63) 2 45 := ⟨at_43, rfl⟩
theorem i0_45 : Ins1 code 45 (.iand) 1 46 := ⟨at_45, rfl⟩
theorem i0_46 : InsB code 46 (.goto 4) 4 49 50 := ⟨at_46, rfl, by decide, by decide⟩
theorem i0_49 : Ins1 code 49 (.iconst 0) 1 50 := ⟨at_49, rfl⟩
theorem i0_50 : Ins1 code 50 (.istore 6) 2 52 := ⟨at_50, rfl⟩
theorem i0_52 : Ins1 code 52 (.iload 4) 2 54 := ⟨at_52, rfl⟩
theorem i0_54 : Ins1 code 54 (.iconst 0) 1 55 := ⟨at_54, rfl⟩
theorem i0_55 : Ins1 code 55 (.iload 6) 2 57 := ⟨at_55, rfl⟩
theorem i0_57 : Ins1 code 57 (.iload_n 1) 1 58 := ⟨at_57, rfl⟩
theorem i0_58 : Ins1 code 58 (.sipush 255) 3 61 := ⟨at_58, rfl⟩
theorem i0_61 : Ins1 code 61 (.iand) 1 62 := ⟨at_61, rfl⟩
theorem i0_62 : Ins1 code 62 (.invokestatic 7) 3 65 := ⟨at_62, rfl⟩
theorem i0_65 : Ins1 code 65 (.istore 7) 2 67 := ⟨at_65, rfl⟩
theorem i0_67 : Ins1 code 67 (.iload 4) 2 69 := ⟨at_67, rfl⟩
theorem i0_69 : Ins1 code 69 (.iconst 1) 1 70 := ⟨at_69, rfl⟩
theorem i0_70 : Ins1 code 70 (.iload 6) 2 72 := ⟨at_70, rfl⟩
theorem i0_72 : Ins1 code 72 (.iload_n 1) 1 73 := ⟨at_72, rfl⟩
theorem i0_73 : Ins1 code 73 (.bipush 8) 2 75 := ⟨at_73, rfl⟩
theorem i0_75 : Ins1 code 75 (.iushr) 1 76 := ⟨at_75, rfl⟩
theorem i0_76 : Ins1 code 76 (.sipush 255) 3 79 := ⟨at_76, rfl⟩
theorem i0_79 : Ins1 code 79 (.iand) 1 80 := ⟨at_79, rfl⟩
theorem i0_80 : Ins1 code 80 (.invokestatic 7) 3 83 := ⟨at_80, rfl⟩
theorem i0_83 : Ins1 code 83 (.istore 8) 2 85 := ⟨at_83, rfl⟩
theorem i0_85 : Ins1 code 85 (.iload 4) 2 87 := ⟨at_85, rfl⟩
theorem i0_87 : Ins1 code 87 (.iconst 2) 1 88 := ⟨at_87, rfl⟩
theorem i0_88 : Ins1 code 88 (.iload 6) 2 90 := ⟨at_88, rfl⟩
theorem i0_90 : Ins1 code 90 (.iload_n 1) 1 91 := ⟨at_90, rfl⟩
theorem i0_91 : Ins1 code 91 (.bipush 16) 2 93 := ⟨at_91, rfl⟩
theorem i0_93 : Ins1 code 93 (.iushr) 1 94 := ⟨at_93, rfl⟩
theorem i0_94 : Ins1 code 94 (.sipush 255) 3 97 := ⟨at_94, rfl⟩
theorem i0_97 : Ins1 code 97 (.iand) 1 98 := ⟨at_97, rfl⟩
theorem i0_98 : Ins1 code 98 (.invokestatic 7) 3 101 := ⟨at_98, rfl⟩
theorem i0_101 : Ins1 code 101 (.istore 9) 2 103 := ⟨at_101, rfl⟩
theorem i0_103 : Ins1 code 103 (.iload 4) 2 105 := ⟨at_103, rfl⟩
theorem i0_105 : Ins1 code 105 (.iconst 3) 1 106 := ⟨at_105, rfl⟩
theorem i0_106 : Ins1 code 106 (.iload 6) 2 108 := ⟨at_106, rfl⟩
theorem i0_108 : Ins1 code 108 (.iload_n 1) 1 109 := ⟨at_108, rfl⟩
theorem i0_109 : Ins1 code 109 (.bipush 24) 2 111 := ⟨at_109, rfl⟩
theorem i0_111 : Ins1 code 111 (.iushr) 1 112 := ⟨at_111, rfl⟩
theorem i0_112 : Ins1 code 112 (.sipush 255) 3 115 := ⟨at_112, rfl⟩
theorem i0_115 : Ins1 code 115 (.iand) 1 116 := ⟨at_115, rfl⟩
theorem i0_116 : Ins1 code 116 (.invokestatic 7) 3 119 := ⟨at_116, rfl⟩
theorem i0_119 : Ins1 code 119 (.istore 10) 2 121 := ⟨at_119, rfl⟩
theorem i0_121 : Ins1 code 121 (.iload 4) 2 123 := ⟨at_121, rfl⟩
theorem i0_123 : Ins1 code 123 (.iconst 4) 1 124 := ⟨at_123, rfl⟩
theorem i0_124 : Ins1 code 124 (.iload 6) 2 126 := ⟨at_124, rfl⟩
theorem i0_126 : Ins1 code 126 (.iload_n 2) 1 127 := ⟨at_126, rfl⟩
theorem i0_127 : Ins1 code 127 (.sipush 255) 3 130 := ⟨at_127, rfl⟩
theorem i0_130 : Ins1 code 130 (.iand) 1 131 := ⟨at_130, rfl⟩
theorem i0_131 : Ins1 code 131 (.invokestatic 7) 3 134 := ⟨at_131, rfl⟩
theorem i0_134 : Ins1 code 134 (.istore 11) 2 136 := ⟨at_134, rfl⟩
theorem i0_136 : Ins1 code 136 (.iload 4) 2 138 := ⟨at_136, rfl⟩
theorem i0_138 : Ins1 code 138 (.iconst 5) 1 139 := ⟨at_138, rfl⟩
theorem i0_139 : Ins1 code 139 (.iload 6) 2 141 := ⟨at_139, rfl⟩
theorem i0_141 : Ins1 code 141 (.iload_n 2) 1 142 := ⟨at_141, rfl⟩
theorem i0_142 : Ins1 code 142 (.bipush 8) 2 144 := ⟨at_142, rfl⟩
theorem i0_144 : Ins1 code 144 (.iushr) 1 145 := ⟨at_144, rfl⟩
theorem i0_145 : Ins1 code 145 (.sipush 255) 3 148 := ⟨at_145, rfl⟩
theorem i0_148 : Ins1 code 148 (.iand) 1 149 := ⟨at_148, rfl⟩
theorem i0_149 : Ins1 code 149 (.invokestatic 7) 3 152 := ⟨at_149, rfl⟩
theorem i0_152 : Ins1 code 152 (.istore 12) 2 154 := ⟨at_152, rfl⟩
theorem i0_154 : Ins1 code 154 (.iload_n 3) 1 155 := ⟨at_154, rfl⟩
theorem i0_155 : Ins1 code 155 (.bipush 7) 2 157 := ⟨at_155, rfl⟩
theorem i0_157 : InsB code 157 (.if_icmp .ne 7) 7 160 164 := ⟨at_157, rfl, by decide, by decide⟩
theorem i0_160 : Ins1 code 160 (.aconst_null) 1 161 := ⟨at_160, rfl⟩
theorem i0_161 : InsB code 161 (.goto 19) 19 164 180 := ⟨at_161, rfl, by decide, by decide⟩
theorem i0_164 : Ins1 code 164 (.iload_n 3) 1 165 := ⟨at_164, rfl⟩
theorem i0_165 : Ins1 code 165 (.iload 7) 2 167 := ⟨at_165, rfl⟩
theorem i0_167 : Ins1 code 167 (.iload 8) 2 169 := ⟨at_167, rfl⟩
theorem i0_169 : Ins1 code 169 (.iload 9) 2 171 := ⟨at_169, rfl⟩
theorem i0_171 : Ins1 code 171 (.iload 10) 2 173 := ⟨at_171, rfl⟩
theorem i0_173 : Ins1 code 173 (.iload 11) 2 175 := ⟨at_173, rfl⟩
theorem i0_175 : Ins1 code 175 (.iload 12) 2 177 := ⟨at_175, rfl⟩
theorem i0_177 : Ins1 code 177 (.invokestatic 13) 3 180 := ⟨at_177, rfl⟩
theorem i0_180 : Ins1 code 180 (.astore 13) 2 182 := ⟨at_180, rfl⟩
theorem i0_182 : Ins1 code 182 (.iload_n 3) 1 183 := ⟨at_182, rfl⟩
theorem i0_183 : Ins1 code 183 (.iconst 4) 1 184 := ⟨at_183, rfl⟩
theorem i0_184 : InsB code 184 (.if_icmp .ne 39) 39 187 223 := ⟨at_184, rfl, by decide, by decide⟩
theorem i0_187 : Ins1 code 187 (.iload 7) 2 189 := ⟨at_187, rfl⟩
theorem i0_189 : Ins1 code 189 (.bipush 110) 2 191 := ⟨at_189, rfl⟩
theorem i0_191 : InsB code 191 (.if_icmp .ne 32) 32 194 223 := ⟨at_191, rfl, by decide, by decide⟩
theorem i0_194 : Ins1 code 194 (.iload 8) 2 196 := ⟨at_194, rfl⟩
theorem i0_196 : Ins1 code 196 (.bipush 111) 2 198 := ⟨at_196, rfl⟩
theorem i0_198 : InsB code 198 (.if_icmp .ne 25) 25 201 223 := ⟨at_198, rfl, by decide, by decide⟩
theorem i0_201 : Ins1 code 201 (.iload 9) 2 203 := ⟨at_201, rfl⟩
theorem i0_203 : Ins1 code 203 (.bipush 110) 2 205 := ⟨at_203, rfl⟩
theorem i0_205 : InsB code 205 (.if_icmp .ne 18) 18 208 223 := ⟨at_205, rfl, by decide, by decide⟩
theorem i0_208 : Ins1 code 208 (.iload 10) 2 210 := ⟨at_208, rfl⟩
theorem i0_210 : Ins1 code 210 (.bipush 101) 2 212 := ⟨at_210, rfl⟩
theorem i0_212 : InsB code 212 (.if_icmp .ne 11) 11 215 223 := ⟨at_212, rfl, by decide, by decide⟩
theorem i0_215 : Ins1 code 215 (.getstatic 17) 3 218 := ⟨at_215, rfl⟩
theorem i0_218 : Ins1 code 218 (.astore 14) 2 220 := ⟨at_218, rfl⟩
theorem i0_220 : InsB code 220 (.goto 33) 33 223 253 := ⟨at_220, rfl, by decide, by decide⟩
theorem i0_223 : Ins1 code 223 (.iload_n 3) 1 224 := ⟨at_223, rfl⟩
theorem i0_224 : Ins1 code 224 (.iconst 2) 1 225 := ⟨at_224, rfl⟩
theorem i0_225 : InsB code 225 (.if_icmp .ne 25) 25 228 250 := ⟨at_225, rfl, by decide, by decide⟩
theorem i0_228 : Ins1 code 228 (.iload 7) 2 230 := ⟨at_228, rfl⟩
theorem i0_230 : Ins1 code 230 (.bipush 112) 2 232 := ⟨at_230, rfl⟩
theorem i0_232 : InsB code 232 (.if_icmp .ne 18) 18 235 250 := ⟨at_232, rfl, by decide, by decide⟩
theorem i0_235 : Ins1 code 235 (.iload 8) 2 237 := ⟨at_235, rfl⟩
theorem i0_237 : Ins1 code 237 (.bipush 98) 2 239 := ⟨at_237, rfl⟩
theorem i0_239 : InsB code 239 (.if_icmp .ne 11) 11 242 250 := ⟨at_239, rfl, by decide, by decide⟩
theorem i0_242 : Ins1 code 242 (.getstatic 23) 3 245 := ⟨at_242, rfl⟩
theorem i0_245 : Ins1 code 245 (.astore 14) 2 247 := ⟨at_245, rfl⟩
theorem i0_247 : InsB code 247 (.goto 6) 6 250 253 := ⟨at_247, rfl, by decide, by decide⟩
theorem i0_250 : Ins1 code 250 (.aconst_null) 1 251 := ⟨at_250, rfl⟩
theorem i0_251 : Ins1 code 251 (.astore 14) 2 253 := ⟨at_251, rfl⟩
theorem i0_253 : Ins1 code 253 (.aload 13) 2 255 := ⟨at_253, rfl⟩
theorem i0_255 : Ins1 code 255 (.invokestatic 26) 3 258 := ⟨at_255, rfl⟩
theorem i0_258 : Ins1 code 258 (.aload 14) 2 260 := ⟨at_258, rfl⟩
theorem i0_260 : InsB code 260 (.if_acmp .ne 7) 7 263 267 := ⟨at_260, rfl, by decide, by decide⟩
theorem i0_263 : Ins1 code 263 (.iconst 1) 1 264 := ⟨at_263, rfl⟩
theorem i0_264 : InsB code 264 (.goto 4) 4 267 268 := ⟨at_264, rfl, by decide, by decide⟩
theorem i0_267 : Ins1 code 267 (.iconst 0) 1 268 := ⟨at_267, rfl⟩
theorem i0_268 : Ins1 code 268 (.ireturn) 1 269 := ⟨at_268, rfl⟩
theorem ef_0 (m : MethodId) (p0 : Int32) (p1 : Int32) (p2 : Int32) : entryFrame m #[(.int p0), (.int p1), (.int p2)] maxLocals = mkF m 0 #[.val (.int p0), .val (.int p1), .val (.int p2), .unset, .unset, .unset, .unset, .unset, .unset, .unset, .unset, .unset, .unset, .unset, .unset] [] := by first | (simp [entryFrame, mkF, argsToLocals, Value.category, maxLocals]; done) | rfl
theorem pd_8 : parseMethodDescriptor "(ZIII)C" = some ⟨[.boolean, .int, .int, .int], some .char⟩ := by decide +kernel
theorem pd_9 : parseMethodDescriptor "(ICCCCCC)Ljava/lang/String;" = some ⟨[.int, .char, .char, .char, .char, .char, .char], some (.object "java/lang/String")⟩ := by decide +kernel
theorem pd_10 : parseMethodDescriptor "(Ljava/lang/String;)Lcom/example/plantain/plantain/codec/Profile;" = some ⟨[(.object "java/lang/String")], some (.object "com/example/plantain/plantain/codec/Profile")⟩ := by decide +kernel
set_option maxRecDepth 65536 in
set_option maxHeartbeats 40000000 in
theorem rm0 (l : Launch) (Z : State) (a0 : Array Value) (hw : ∀ d ∈ tables_1, d.before a0 Z = true) (ws : List Jvm.Cond) (p0 : Int32) (p1 : Int32) (p2 : Int32) (cz : Int32) (va na pa ns ps nb pb : Addr) (kv kn kp : ClassId)  (h0 : Heap) (n0 : Nat) (Z0 : n0 ≤ h0.size) (S0 : Sta Z Z.heap "java/lang/String" "COMPACT_STRINGS" "Z" (.int cz)) (hcz : ¬ cz = (0 : Int32)) (O : Old Z n0 h0) (SV : Sta Z Z.heap "com/example/plantain/plantain/codec/Profile" "$VALUES" "[Lcom/example/plantain/plantain/codec/Profile;" (.ref va)) (SN : Sta Z Z.heap "com/example/plantain/plantain/codec/Profile" "NONE" "Lcom/example/plantain/plantain/codec/Profile;" (.ref na)) (SP : Sta Z Z.heap "com/example/plantain/plantain/codec/Profile" "PB" "Lcom/example/plantain/plantain/codec/Profile;" (.ref pa)) (E_va : Exa Z Z.heap va "[Lcom/example/plantain/plantain/codec/Profile;") (V_va : Arv Z Z.heap va kv (.object "com/example/plantain/plantain/codec/Profile") (2 : Int32) [(.ref na), (.ref pa)] .null) (E_na : Exa Z Z.heap na "com/example/plantain/plantain/codec/Profile") (F_na : Fld Z Z.heap na "com/example/plantain/plantain/codec/Profile" "wireName" "Ljava/lang/String;" (.ref ns)) (E_ns : Exa Z Z.heap ns "java/lang/String") (FC_ns : Fld Z Z.heap ns "java/lang/String" "coder" "B" (.int 0)) (FV_ns : Fld Z Z.heap ns "java/lang/String" "value" "[B" (.ref nb)) (V_nb : Arv Z Z.heap nb kn .byte (4 : Int32) [(.int (110 : Int32)), (.int (111 : Int32)), (.int (110 : Int32)), (.int (101 : Int32))] (.int (0 : Int32))) (E_pa : Exa Z Z.heap pa "com/example/plantain/plantain/codec/Profile") (F_pa : Fld Z Z.heap pa "com/example/plantain/plantain/codec/Profile" "wireName" "Ljava/lang/String;" (.ref ps)) (E_ps : Exa Z Z.heap ps "java/lang/String") (FC_ps : Fld Z Z.heap ps "java/lang/String" "coder" "B" (.int 0)) (FV_ps : Fld Z Z.heap ps "java/lang/String" "value" "[B" (.ref pb)) (V_pb : Arv Z Z.heap pb kp .byte (2 : Int32) [(.int (112 : Int32)), (.int (98 : Int32))] (.int (0 : Int32))) (hh : Jvm.Lit.constHeld Z "java/lang/String" 7) (hcw : Jvm.Lit.compactW.before a0 Z = true) :
    Met1W l x code maxLocals ret ws room_1 #[(.int p0), (.int p1), (.int p2)] Z h0 (RV fun z _ L => z = .int 1 ∧ Fr n0 L) := by
  refine met_ofW (plainFor_of_name pn_com_example_plantain_plantain_codec_ProfileNamedPinLaw) ?_
  intro p e s m below meth c T0 X0 hx hby hml hZ hown hnm hret hlk e0 es hI
  have N0 := Fr.nil n0
  refine Gd.cast (ef_0 m p0 p1 p2) ?_
  replace hown : s.vm.findClass "com/example/plantain/plantain/codec/ProfileNamedPinLaw" = some m.cls := hown
  refine g_iloadN X0 hx hby i0_0 rfl ?_
  refine g_bipush X0 hx hby i0_1 (z := (7 : Int32)) (by decide) ?_
  refine g_iand X0 hx hby i0_3 ?_
  refine g_istoreNW X0 hx hby i0_4 (l' := fun v1 => #[.val (.int p0), .val (.int p1), .val (.int p2), .val (.int v1), .unset, .unset, .unset, .unset, .unset, .unset, .unset, .unset, .unset, .unset, .unset]) (fun _ => rfl) fun v1 hv1 => ?_
  refine g_iloadN X0 hx hby i0_5 rfl ?_
  refine g_iconst X0 hx hby i0_6 (z := (3 : Int32)) (by decide) ?_
  refine g_ishr X0 hx hby i0_7 ?_
  refine g_iconst X0 hx hby i0_8 (z := (1 : Int32)) (by decide) ?_
  refine g_iand X0 hx hby i0_9 ?_
  refine g_if_eq X0 hx hby i0_10 (fun c10_2 => ?_) (fun c10_2 => ?_)
  · refine g_iconst X0 hx hby i0_17 (z := (0 : Int32)) (by decide) ?_
    refine g_istore X0 hx hby i0_18 (l' := #[.val (.int p0), .val (.int p1), .val (.int p2), .val (.int v1), .val (.int (0 : Int32)), .unset, .unset, .unset, .unset, .unset, .unset, .unset, .unset, .unset, .unset]) rfl ?_
    refine g_iloadN X0 hx hby i0_20 rfl ?_
    refine g_iconst X0 hx hby i0_21 (z := (4 : Int32)) (by decide) ?_
    refine g_ishr X0 hx hby i0_22 ?_
    refine g_iconst X0 hx hby i0_23 (z := (1 : Int32)) (by decide) ?_
    refine g_iand X0 hx hby i0_24 ?_
    refine g_if_eq X0 hx hby i0_25 (fun c25_3 => ?_) (fun c25_3 => ?_)
    · refine g_iconst X0 hx hby i0_32 (z := (0 : Int32)) (by decide) ?_
      refine g_istore X0 hx hby i0_33 (l' := #[.val (.int p0), .val (.int p1), .val (.int p2), .val (.int v1), .val (.int (0 : Int32)), .val (.int (0 : Int32)), .unset, .unset, .unset, .unset, .unset, .unset, .unset, .unset, .unset]) rfl ?_
      refine g_iload X0 hx hby i0_35 rfl ?_
      refine g_if_eq X0 hx hby i0_37 (fun c37_4 => ?_) (fun c37_4 => False.elim (absurd c37_4 (by decide)))
      refine g_iconst X0 hx hby i0_49 (z := (0 : Int32)) (by decide) ?_
      refine g_istore X0 hx hby i0_50 (l' := #[.val (.int p0), .val (.int p1), .val (.int p2), .val (.int v1), .val (.int (0 : Int32)), .val (.int (0 : Int32)), .val (.int (0 : Int32)), .unset, .unset, .unset, .unset, .unset, .unset, .unset, .unset]) rfl ?_
      refine g_iload X0 hx hby i0_52 rfl ?_
      refine g_iconst X0 hx hby i0_54 (z := (0 : Int32)) (by decide) ?_
      refine g_iload X0 hx hby i0_55 rfl ?_
      refine g_iloadN X0 hx hby i0_57 rfl ?_
      refine g_sipush X0 hx hby i0_58 (z := (255 : Int32)) (by decide) ?_
      refine g_iand X0 hx hby i0_61 ?_
      refine g_callS0 X0 hx hby hZ (y := (⟨"com/example/plantain/plantain/codec/ProfileNamedPinLaw", "pick", "(ZIII)C"⟩ : MethodName)) (argsL := [(.int (0 : Int32)), (.int (0 : Int32)), (.int (0 : Int32)), (.int (p1 &&& (255 : Int32)))]) (rest := []) hown (hw _ (List.mem_of_getElem? (i := 0) rfl)) (hw _ (List.mem_of_getElem? (i := 1) rfl)) (hw _ (List.mem_of_getElem? (i := 2) rfl)) (hw _ (List.mem_of_getElem? (i := 3) rfl)) (by decide) (rm1 l Z a0 hw [] (0 : Int32) (0 : Int32) (0 : Int32) (p1 &&& (255 : Int32)) h0 n0 Z0 ⟨_, rfl⟩) e0 (by rw [hml]; rfl) pd_8 rfl rfl i0_62 (by decide) 0 rfl (by decide) (by decide) (by decide) fun T5 v5 L5 X5 q5 => ?_
      obtain ⟨_, rfl, ch5, rfl, hch5, e5, N5⟩ := q5
      have N0 := Fr.app N0 N5
      show Gd p e below _ T5 (mkF m 65 #[.val (.int p0), .val (.int p1), .val (.int p2), .val (.int v1), .val (.int (0 : Int32)), .val (.int (0 : Int32)), .val (.int (0 : Int32)), .unset, .unset, .unset, .unset, .unset, .unset, .unset, .unset] [(.int ch5)])
      refine g_istore X5 hx hby i0_65 (l' := #[.val (.int p0), .val (.int p1), .val (.int p2), .val (.int v1), .val (.int (0 : Int32)), .val (.int (0 : Int32)), .val (.int (0 : Int32)), .val (.int ch5), .unset, .unset, .unset, .unset, .unset, .unset, .unset]) rfl ?_
      refine g_iload X5 hx hby i0_67 rfl ?_
      refine g_iconst X5 hx hby i0_69 (z := (1 : Int32)) (by decide) ?_
      refine g_iload X5 hx hby i0_70 rfl ?_
      refine g_iloadN X5 hx hby i0_72 rfl ?_
      refine g_bipush X5 hx hby i0_73 (z := (8 : Int32)) (by decide) ?_
      refine g_iushr X5 hx hby i0_75 ?_
      refine g_sipush X5 hx hby i0_76 (z := (255 : Int32)) (by decide) ?_
      refine g_iand X5 hx hby i0_79 ?_
      refine g_callS0 X5 hx hby hZ (y := (⟨"com/example/plantain/plantain/codec/ProfileNamedPinLaw", "pick", "(ZIII)C"⟩ : MethodName)) (argsL := [(.int (0 : Int32)), (.int (1 : Int32)), (.int (0 : Int32)), (.int (((p1.toUInt32 >>> ((8 : Int32) &&& 31).toUInt32).toInt32) &&& (255 : Int32)))]) (rest := []) hown (hw _ (List.mem_of_getElem? (i := 0) rfl)) (hw _ (List.mem_of_getElem? (i := 1) rfl)) (hw _ (List.mem_of_getElem? (i := 2) rfl)) (hw _ (List.mem_of_getElem? (i := 3) rfl)) (by decide) (rm1 l Z a0 hw [] (0 : Int32) (1 : Int32) (0 : Int32) (((p1.toUInt32 >>> ((8 : Int32) &&& 31).toUInt32).toInt32) &&& (255 : Int32)) h0 n0 Z0 ⟨_, rfl⟩) e5 (by rw [hml]; rfl) pd_8 rfl rfl i0_80 (by decide) 0 rfl (by decide) (by decide) (by decide) fun T6 v6 L6 X6 q6 => ?_
      obtain ⟨_, rfl, ch6, rfl, hch6, e6, N6⟩ := q6
      have N0 := Fr.app N0 N6
      show Gd p e below _ T6 (mkF m 83 #[.val (.int p0), .val (.int p1), .val (.int p2), .val (.int v1), .val (.int (0 : Int32)), .val (.int (0 : Int32)), .val (.int (0 : Int32)), .val (.int ch5), .unset, .unset, .unset, .unset, .unset, .unset, .unset] [(.int ch6)])
      refine g_istore X6 hx hby i0_83 (l' := #[.val (.int p0), .val (.int p1), .val (.int p2), .val (.int v1), .val (.int (0 : Int32)), .val (.int (0 : Int32)), .val (.int (0 : Int32)), .val (.int ch5), .val (.int ch6), .unset, .unset, .unset, .unset, .unset, .unset]) rfl ?_
      refine g_iload X6 hx hby i0_85 rfl ?_
      refine g_iconst X6 hx hby i0_87 (z := (2 : Int32)) (by decide) ?_
      refine g_iload X6 hx hby i0_88 rfl ?_
      refine g_iloadN X6 hx hby i0_90 rfl ?_
      refine g_bipush X6 hx hby i0_91 (z := (16 : Int32)) (by decide) ?_
      refine g_iushr X6 hx hby i0_93 ?_
      refine g_sipush X6 hx hby i0_94 (z := (255 : Int32)) (by decide) ?_
      refine g_iand X6 hx hby i0_97 ?_
      refine g_callS0 X6 hx hby hZ (y := (⟨"com/example/plantain/plantain/codec/ProfileNamedPinLaw", "pick", "(ZIII)C"⟩ : MethodName)) (argsL := [(.int (0 : Int32)), (.int (2 : Int32)), (.int (0 : Int32)), (.int (((p1.toUInt32 >>> ((16 : Int32) &&& 31).toUInt32).toInt32) &&& (255 : Int32)))]) (rest := []) hown (hw _ (List.mem_of_getElem? (i := 0) rfl)) (hw _ (List.mem_of_getElem? (i := 1) rfl)) (hw _ (List.mem_of_getElem? (i := 2) rfl)) (hw _ (List.mem_of_getElem? (i := 3) rfl)) (by decide) (rm1 l Z a0 hw [] (0 : Int32) (2 : Int32) (0 : Int32) (((p1.toUInt32 >>> ((16 : Int32) &&& 31).toUInt32).toInt32) &&& (255 : Int32)) h0 n0 Z0 ⟨_, rfl⟩) e6 (by rw [hml]; rfl) pd_8 rfl rfl i0_98 (by decide) 0 rfl (by decide) (by decide) (by decide) fun T7 v7 L7 X7 q7 => ?_
      obtain ⟨_, rfl, ch7, rfl, hch7, e7, N7⟩ := q7
      have N0 := Fr.app N0 N7
      show Gd p e below _ T7 (mkF m 101 #[.val (.int p0), .val (.int p1), .val (.int p2), .val (.int v1), .val (.int (0 : Int32)), .val (.int (0 : Int32)), .val (.int (0 : Int32)), .val (.int ch5), .val (.int ch6), .unset, .unset, .unset, .unset, .unset, .unset] [(.int ch7)])
      refine g_istore X7 hx hby i0_101 (l' := #[.val (.int p0), .val (.int p1), .val (.int p2), .val (.int v1), .val (.int (0 : Int32)), .val (.int (0 : Int32)), .val (.int (0 : Int32)), .val (.int ch5), .val (.int ch6), .val (.int ch7), .unset, .unset, .unset, .unset, .unset]) rfl ?_
      refine g_iload X7 hx hby i0_103 rfl ?_
      refine g_iconst X7 hx hby i0_105 (z := (3 : Int32)) (by decide) ?_
      refine g_iload X7 hx hby i0_106 rfl ?_
      refine g_iloadN X7 hx hby i0_108 rfl ?_
      refine g_bipush X7 hx hby i0_109 (z := (24 : Int32)) (by decide) ?_
      refine g_iushr X7 hx hby i0_111 ?_
      refine g_sipush X7 hx hby i0_112 (z := (255 : Int32)) (by decide) ?_
      refine g_iand X7 hx hby i0_115 ?_
      refine g_callS0 X7 hx hby hZ (y := (⟨"com/example/plantain/plantain/codec/ProfileNamedPinLaw", "pick", "(ZIII)C"⟩ : MethodName)) (argsL := [(.int (0 : Int32)), (.int (3 : Int32)), (.int (0 : Int32)), (.int (((p1.toUInt32 >>> ((24 : Int32) &&& 31).toUInt32).toInt32) &&& (255 : Int32)))]) (rest := []) hown (hw _ (List.mem_of_getElem? (i := 0) rfl)) (hw _ (List.mem_of_getElem? (i := 1) rfl)) (hw _ (List.mem_of_getElem? (i := 2) rfl)) (hw _ (List.mem_of_getElem? (i := 3) rfl)) (by decide) (rm1 l Z a0 hw [] (0 : Int32) (3 : Int32) (0 : Int32) (((p1.toUInt32 >>> ((24 : Int32) &&& 31).toUInt32).toInt32) &&& (255 : Int32)) h0 n0 Z0 ⟨_, rfl⟩) e7 (by rw [hml]; rfl) pd_8 rfl rfl i0_116 (by decide) 0 rfl (by decide) (by decide) (by decide) fun T8 v8 L8 X8 q8 => ?_
      obtain ⟨_, rfl, ch8, rfl, hch8, e8, N8⟩ := q8
      have N0 := Fr.app N0 N8
      show Gd p e below _ T8 (mkF m 119 #[.val (.int p0), .val (.int p1), .val (.int p2), .val (.int v1), .val (.int (0 : Int32)), .val (.int (0 : Int32)), .val (.int (0 : Int32)), .val (.int ch5), .val (.int ch6), .val (.int ch7), .unset, .unset, .unset, .unset, .unset] [(.int ch8)])
      refine g_istore X8 hx hby i0_119 (l' := #[.val (.int p0), .val (.int p1), .val (.int p2), .val (.int v1), .val (.int (0 : Int32)), .val (.int (0 : Int32)), .val (.int (0 : Int32)), .val (.int ch5), .val (.int ch6), .val (.int ch7), .val (.int ch8), .unset, .unset, .unset, .unset]) rfl ?_
      refine g_iload X8 hx hby i0_121 rfl ?_
      refine g_iconst X8 hx hby i0_123 (z := (4 : Int32)) (by decide) ?_
      refine g_iload X8 hx hby i0_124 rfl ?_
      refine g_iloadN X8 hx hby i0_126 rfl ?_
      refine g_sipush X8 hx hby i0_127 (z := (255 : Int32)) (by decide) ?_
      refine g_iand X8 hx hby i0_130 ?_
      refine g_callS0 X8 hx hby hZ (y := (⟨"com/example/plantain/plantain/codec/ProfileNamedPinLaw", "pick", "(ZIII)C"⟩ : MethodName)) (argsL := [(.int (0 : Int32)), (.int (4 : Int32)), (.int (0 : Int32)), (.int (p2 &&& (255 : Int32)))]) (rest := []) hown (hw _ (List.mem_of_getElem? (i := 0) rfl)) (hw _ (List.mem_of_getElem? (i := 1) rfl)) (hw _ (List.mem_of_getElem? (i := 2) rfl)) (hw _ (List.mem_of_getElem? (i := 3) rfl)) (by decide) (rm1 l Z a0 hw [] (0 : Int32) (4 : Int32) (0 : Int32) (p2 &&& (255 : Int32)) h0 n0 Z0 ⟨_, rfl⟩) e8 (by rw [hml]; rfl) pd_8 rfl rfl i0_131 (by decide) 0 rfl (by decide) (by decide) (by decide) fun T9 v9 L9 X9 q9 => ?_
      obtain ⟨_, rfl, ch9, rfl, hch9, e9, N9⟩ := q9
      have N0 := Fr.app N0 N9
      show Gd p e below _ T9 (mkF m 134 #[.val (.int p0), .val (.int p1), .val (.int p2), .val (.int v1), .val (.int (0 : Int32)), .val (.int (0 : Int32)), .val (.int (0 : Int32)), .val (.int ch5), .val (.int ch6), .val (.int ch7), .val (.int ch8), .unset, .unset, .unset, .unset] [(.int ch9)])
      refine g_istore X9 hx hby i0_134 (l' := #[.val (.int p0), .val (.int p1), .val (.int p2), .val (.int v1), .val (.int (0 : Int32)), .val (.int (0 : Int32)), .val (.int (0 : Int32)), .val (.int ch5), .val (.int ch6), .val (.int ch7), .val (.int ch8), .val (.int ch9), .unset, .unset, .unset]) rfl ?_
      refine g_iload X9 hx hby i0_136 rfl ?_
      refine g_iconst X9 hx hby i0_138 (z := (5 : Int32)) (by decide) ?_
      refine g_iload X9 hx hby i0_139 rfl ?_
      refine g_iloadN X9 hx hby i0_141 rfl ?_
      refine g_bipush X9 hx hby i0_142 (z := (8 : Int32)) (by decide) ?_
      refine g_iushr X9 hx hby i0_144 ?_
      refine g_sipush X9 hx hby i0_145 (z := (255 : Int32)) (by decide) ?_
      refine g_iand X9 hx hby i0_148 ?_
      refine g_callS0 X9 hx hby hZ (y := (⟨"com/example/plantain/plantain/codec/ProfileNamedPinLaw", "pick", "(ZIII)C"⟩ : MethodName)) (argsL := [(.int (0 : Int32)), (.int (5 : Int32)), (.int (0 : Int32)), (.int (((p2.toUInt32 >>> ((8 : Int32) &&& 31).toUInt32).toInt32) &&& (255 : Int32)))]) (rest := []) hown (hw _ (List.mem_of_getElem? (i := 0) rfl)) (hw _ (List.mem_of_getElem? (i := 1) rfl)) (hw _ (List.mem_of_getElem? (i := 2) rfl)) (hw _ (List.mem_of_getElem? (i := 3) rfl)) (by decide) (rm1 l Z a0 hw [] (0 : Int32) (5 : Int32) (0 : Int32) (((p2.toUInt32 >>> ((8 : Int32) &&& 31).toUInt32).toInt32) &&& (255 : Int32)) h0 n0 Z0 ⟨_, rfl⟩) e9 (by rw [hml]; rfl) pd_8 rfl rfl i0_149 (by decide) 0 rfl (by decide) (by decide) (by decide) fun T10 v10 L10 X10 q10 => ?_
      obtain ⟨_, rfl, ch10, rfl, hch10, e10, N10⟩ := q10
      have N0 := Fr.app N0 N10
      show Gd p e below _ T10 (mkF m 152 #[.val (.int p0), .val (.int p1), .val (.int p2), .val (.int v1), .val (.int (0 : Int32)), .val (.int (0 : Int32)), .val (.int (0 : Int32)), .val (.int ch5), .val (.int ch6), .val (.int ch7), .val (.int ch8), .val (.int ch9), .unset, .unset, .unset] [(.int ch10)])
      refine g_istore X10 hx hby i0_152 (l' := #[.val (.int p0), .val (.int p1), .val (.int p2), .val (.int v1), .val (.int (0 : Int32)), .val (.int (0 : Int32)), .val (.int (0 : Int32)), .val (.int ch5), .val (.int ch6), .val (.int ch7), .val (.int ch8), .val (.int ch9), .val (.int ch10), .unset, .unset]) rfl ?_
      refine g_iloadN X10 hx hby i0_154 rfl ?_
      refine g_bipush X10 hx hby i0_155 (z := (7 : Int32)) (by decide) ?_
      refine g_icmp_ne X10 hx hby i0_157 (fun c157_11 => ?_) (fun c157_11 => ?_)
      · rcases own_cases hv1 c157_11 with rfl | rfl | rfl | rfl | rfl | rfl | rfl
        · refine g_iloadN X10 hx hby i0_164 rfl ?_
          refine g_iload X10 hx hby i0_165 rfl ?_
          refine g_iload X10 hx hby i0_167 rfl ?_
          refine g_iload X10 hx hby i0_169 rfl ?_
          refine g_iload X10 hx hby i0_171 rfl ?_
          refine g_iload X10 hx hby i0_173 rfl ?_
          refine g_iload X10 hx hby i0_175 rfl ?_
          refine g_callSW X10 hx hby hZ hI (y := (⟨"com/example/plantain/plantain/codec/ProfileNamedPinLaw", "make", "(ICCCCCC)Ljava/lang/String;"⟩ : MethodName)) (argsL := [(.int (0 : Int32)), (.int ch5), (.int ch6), (.int ch7), (.int ch8), (.int ch9), (.int ch10)]) (rest := []) hown (hw _ (List.mem_of_getElem? (i := 4) rfl)) (hw _ (List.mem_of_getElem? (i := 5) rfl)) (hw _ (List.mem_of_getElem? (i := 2) rfl)) (hw _ (List.mem_of_getElem? (i := 6) rfl)) (by decide) (rm2_0 l Z a0 hw [] (0 : Int32) ch5 ch6 ch7 ch8 ch9 ch10 cz h0 n0 Z0 S0 hcz O hh hcw rfl hch5 hch6 hch7 hch8 hch9 hch10) e10 (by rw [hml]; rfl) pd_9 rfl rfl i0_177 (by decide) 0 rfl (by decide) (by decide) (by decide) fun T12 v12 L12 X12 hS hZ hown q12 => ?_
          obtain ⟨_, rfl, a12, tb12, kt12, rfl, K12, E12, FV12, FC12, V12, sa12, N12⟩ := q12
          have N0 := Fr.app N0 N12
          have Zk : T12.heap.size ≤ T12.heap.size := Nat.le_refl _
          have ne_ns_a12 : ns ≠ a12 := Nat.ne_of_lt (Nat.lt_of_lt_of_le (E_ns.ext O.2).lt sa12)
          have ne_ps_a12 : ps ≠ a12 := Nat.ne_of_lt (Nat.lt_of_lt_of_le (E_ps.ext O.2).lt sa12)
          have O := O.keep K12 all0
          have Z0 : n0 ≤ T12.heap.size := Nat.le_trans Z0 K12.1
          show Gd p e below _ T12 (mkF m 180 #[.val (.int p0), .val (.int p1), .val (.int p2), .val (.int (0 : Int32)), .val (.int (0 : Int32)), .val (.int (0 : Int32)), .val (.int (0 : Int32)), .val (.int ch5), .val (.int ch6), .val (.int ch7), .val (.int ch8), .val (.int ch9), .val (.int ch10), .unset, .unset] [(.ref a12)])
          refine g_astore X12 hx hby i0_180 rfl (l' := #[.val (.int p0), .val (.int p1), .val (.int p2), .val (.int (0 : Int32)), .val (.int (0 : Int32)), .val (.int (0 : Int32)), .val (.int (0 : Int32)), .val (.int ch5), .val (.int ch6), .val (.int ch7), .val (.int ch8), .val (.int ch9), .val (.int ch10), .val (.ref a12), .unset]) rfl ?_
          refine g_iloadN X12 hx hby i0_182 rfl ?_
          refine g_iconst X12 hx hby i0_183 (z := (4 : Int32)) (by decide) ?_
          refine g_icmp_ne X12 hx hby i0_184 (fun c184_13 => ?_) (fun c184_13 => False.elim (absurd c184_13 (by decide)))
          refine g_iloadN X12 hx hby i0_223 rfl ?_
          refine g_iconst X12 hx hby i0_224 (z := (2 : Int32)) (by decide) ?_
          refine g_icmp_ne X12 hx hby i0_225 (fun c225_14 => ?_) (fun c225_14 => False.elim (absurd c225_14 (by decide)))
          refine g_aconst_null X12 hx hby i0_250 ?_
          refine g_astore X12 hx hby i0_251 rfl (l' := #[.val (.int p0), .val (.int p1), .val (.int p2), .val (.int (0 : Int32)), .val (.int (0 : Int32)), .val (.int (0 : Int32)), .val (.int (0 : Int32)), .val (.int ch5), .val (.int ch6), .val (.int ch7), .val (.int ch8), .val (.int ch9), .val (.int ch10), .val (.ref a12), .val .null]) rfl ?_
          refine g_aload X12 hx hby i0_253 rfl rfl ?_
          refine g_callS0 X12 hx hby hZ (y := (⟨"com/example/plantain/plantain/codec/Profile", "named", "(Ljava/lang/String;)Lcom/example/plantain/plantain/codec/Profile;"⟩ : MethodName)) (argsL := [(.ref a12)]) (rest := []) hown (hw _ (List.mem_of_getElem? (i := 29) rfl)) (hw _ (List.mem_of_getElem? (i := 30) rfl)) (hw _ (List.mem_of_getElem? (i := 31) rfl)) (hw _ (List.mem_of_getElem? (i := 32) rfl)) (by decide) (rm6_0 l Z a0 hw [] a12 cz va na pa ns ps nb pb kv kn kp tb12 kt12  T12.heap n0 Z0 S0 hcz O SV SN SP E_va V_va E_na F_na E_ns FC_ns FV_ns V_nb E_pa F_pa E_ps FC_ps FV_ps V_pb E12 FC12 FV12 V12 ne_ns_a12 ne_ps_a12) rfl (by rw [hml]; rfl) pd_10 rfl rfl i0_255 (by decide) 0 rfl (by decide) (by decide) (by decide) fun T15 v15 L15 X15 q15 => ?_
          obtain ⟨_, rfl, rfl, K15, N15⟩ := q15
          have N0 := Fr.app N0 N15
          have E12 := E12.keep K15
          have FV12 := FV12.keep K15 nin0
          have FC12 := FC12.keep K15 nin0
          have V12 := V12.keep K15 nin0
          have O := O.keep K15 all0
          have Z0 : n0 ≤ T15.heap.size := Nat.le_trans Z0 K15.1
          have Zk : T12.heap.size ≤ T15.heap.size := Nat.le_trans Zk K15.1
          show Gd p e below _ T15 (mkF m 258 #[.val (.int p0), .val (.int p1), .val (.int p2), .val (.int (0 : Int32)), .val (.int (0 : Int32)), .val (.int (0 : Int32)), .val (.int (0 : Int32)), .val (.int ch5), .val (.int ch6), .val (.int ch7), .val (.int ch8), .val (.int ch9), .val (.int ch10), .val (.ref a12), .val .null] [.null])
          refine g_aload X15 hx hby i0_258 rfl rfl ?_
          refine g_acmp_ne X15 hx hby i0_260 rfl rfl (fun c260_16 => False.elim (c260_16 rfl)) fun c260_16 => ?_
          refine g_iconst X15 hx hby i0_263 (z := (1 : Int32)) (by decide) ?_
          refine g_goto X15 hx hby i0_264 ?_
          refine g_ireturnNW X15 hx hby hS Zk (ty := .boolean) hret (by simp) hlk i0_268 (by decide) (by decide) ?_
          exact ⟨_, rfl, rfl, N0⟩
        · refine g_iloadN X10 hx hby i0_164 rfl ?_
          refine g_iload X10 hx hby i0_165 rfl ?_
          refine g_iload X10 hx hby i0_167 rfl ?_
          refine g_iload X10 hx hby i0_169 rfl ?_
          refine g_iload X10 hx hby i0_171 rfl ?_
          refine g_iload X10 hx hby i0_173 rfl ?_
          refine g_iload X10 hx hby i0_175 rfl ?_
          refine g_callS0 X10 hx hby hZ (y := (⟨"com/example/plantain/plantain/codec/ProfileNamedPinLaw", "make", "(ICCCCCC)Ljava/lang/String;"⟩ : MethodName)) (argsL := [(.int (1 : Int32)), (.int ch5), (.int ch6), (.int ch7), (.int ch8), (.int ch9), (.int ch10)]) (rest := []) hown (hw _ (List.mem_of_getElem? (i := 4) rfl)) (hw _ (List.mem_of_getElem? (i := 5) rfl)) (hw _ (List.mem_of_getElem? (i := 2) rfl)) (hw _ (List.mem_of_getElem? (i := 6) rfl)) (by decide) (rm2_1 l Z a0 hw [] (1 : Int32) ch5 ch6 ch7 ch8 ch9 ch10 cz h0 n0 Z0 S0 hcz O rfl hch5 hch6 hch7 hch8 hch9 hch10) e10 (by rw [hml]; rfl) pd_9 rfl rfl i0_177 (by decide) 0 rfl (by decide) (by decide) (by decide) fun T17 v17 L17 X17 q17 => ?_
          obtain ⟨_, rfl, a17, tb17, kt17, rfl, K17, E17, FV17, FC17, V17, sa17, N17⟩ := q17
          have N0 := Fr.app N0 N17
          have ne_ns_a17 : ns ≠ a17 := Nat.ne_of_lt (Nat.lt_of_lt_of_le (E_ns.ext O.2).lt sa17)
          have ne_ps_a17 : ps ≠ a17 := Nat.ne_of_lt (Nat.lt_of_lt_of_le (E_ps.ext O.2).lt sa17)
          have O := O.keep K17 all0
          have Z0 : n0 ≤ T17.heap.size := Nat.le_trans Z0 K17.1
          show Gd p e below _ T17 (mkF m 180 #[.val (.int p0), .val (.int p1), .val (.int p2), .val (.int (1 : Int32)), .val (.int (0 : Int32)), .val (.int (0 : Int32)), .val (.int (0 : Int32)), .val (.int ch5), .val (.int ch6), .val (.int ch7), .val (.int ch8), .val (.int ch9), .val (.int ch10), .unset, .unset] [(.ref a17)])
          refine g_astore X17 hx hby i0_180 rfl (l' := #[.val (.int p0), .val (.int p1), .val (.int p2), .val (.int (1 : Int32)), .val (.int (0 : Int32)), .val (.int (0 : Int32)), .val (.int (0 : Int32)), .val (.int ch5), .val (.int ch6), .val (.int ch7), .val (.int ch8), .val (.int ch9), .val (.int ch10), .val (.ref a17), .unset]) rfl ?_
          refine g_iloadN X17 hx hby i0_182 rfl ?_
          refine g_iconst X17 hx hby i0_183 (z := (4 : Int32)) (by decide) ?_
          refine g_icmp_ne X17 hx hby i0_184 (fun c184_18 => ?_) (fun c184_18 => False.elim (absurd c184_18 (by decide)))
          refine g_iloadN X17 hx hby i0_223 rfl ?_
          refine g_iconst X17 hx hby i0_224 (z := (2 : Int32)) (by decide) ?_
          refine g_icmp_ne X17 hx hby i0_225 (fun c225_19 => ?_) (fun c225_19 => False.elim (absurd c225_19 (by decide)))
          refine g_aconst_null X17 hx hby i0_250 ?_
          refine g_astore X17 hx hby i0_251 rfl (l' := #[.val (.int p0), .val (.int p1), .val (.int p2), .val (.int (1 : Int32)), .val (.int (0 : Int32)), .val (.int (0 : Int32)), .val (.int (0 : Int32)), .val (.int ch5), .val (.int ch6), .val (.int ch7), .val (.int ch8), .val (.int ch9), .val (.int ch10), .val (.ref a17), .val .null]) rfl ?_
          refine g_aload X17 hx hby i0_253 rfl rfl ?_
          refine g_callS0 X17 hx hby hZ (y := (⟨"com/example/plantain/plantain/codec/Profile", "named", "(Ljava/lang/String;)Lcom/example/plantain/plantain/codec/Profile;"⟩ : MethodName)) (argsL := [(.ref a17)]) (rest := []) hown (hw _ (List.mem_of_getElem? (i := 29) rfl)) (hw _ (List.mem_of_getElem? (i := 30) rfl)) (hw _ (List.mem_of_getElem? (i := 31) rfl)) (hw _ (List.mem_of_getElem? (i := 32) rfl)) (by decide) (rm6_1 l Z a0 hw [] a17 cz va na pa ns ps nb pb kv kn kp tb17 kt17 (nar .byte (nar .char ch5).toInt8.toInt32) T17.heap n0 Z0 S0 hcz O SV SN SP E_va V_va E_na F_na E_ns FC_ns FV_ns V_nb E_pa F_pa E_ps FC_ps FV_ps V_pb E17 FC17 FV17 V17 ne_ns_a17 ne_ps_a17) rfl (by rw [hml]; rfl) pd_10 rfl rfl i0_255 (by decide) 0 rfl (by decide) (by decide) (by decide) fun T20 v20 L20 X20 q20 => ?_
          obtain ⟨_, rfl, rfl, K20, N20⟩ := q20
          have N0 := Fr.app N0 N20
          have E17 := E17.keep K20
          have FV17 := FV17.keep K20 nin0
          have FC17 := FC17.keep K20 nin0
          have V17 := V17.keep K20 nin0
          have O := O.keep K20 all0
          have Z0 : n0 ≤ T20.heap.size := Nat.le_trans Z0 K20.1
          show Gd p e below _ T20 (mkF m 258 #[.val (.int p0), .val (.int p1), .val (.int p2), .val (.int (1 : Int32)), .val (.int (0 : Int32)), .val (.int (0 : Int32)), .val (.int (0 : Int32)), .val (.int ch5), .val (.int ch6), .val (.int ch7), .val (.int ch8), .val (.int ch9), .val (.int ch10), .val (.ref a17), .val .null] [.null])
          refine g_aload X20 hx hby i0_258 rfl rfl ?_
          refine g_acmp_ne X20 hx hby i0_260 rfl rfl (fun c260_21 => False.elim (c260_21 rfl)) fun c260_21 => ?_
          refine g_iconst X20 hx hby i0_263 (z := (1 : Int32)) (by decide) ?_
          refine g_goto X20 hx hby i0_264 ?_
          refine Gd.toW ?_
          refine g_ireturnN X20 hx hby (ty := .boolean) hret (by simp) hlk i0_268 (by decide) (by decide) ?_
          exact ⟨_, rfl, rfl, N0⟩
        · refine g_iloadN X10 hx hby i0_164 rfl ?_
          refine g_iload X10 hx hby i0_165 rfl ?_
          refine g_iload X10 hx hby i0_167 rfl ?_
          refine g_iload X10 hx hby i0_169 rfl ?_
          refine g_iload X10 hx hby i0_171 rfl ?_
          refine g_iload X10 hx hby i0_173 rfl ?_
          refine g_iload X10 hx hby i0_175 rfl ?_
          refine g_callS0 X10 hx hby hZ (y := (⟨"com/example/plantain/plantain/codec/ProfileNamedPinLaw", "make", "(ICCCCCC)Ljava/lang/String;"⟩ : MethodName)) (argsL := [(.int (2 : Int32)), (.int ch5), (.int ch6), (.int ch7), (.int ch8), (.int ch9), (.int ch10)]) (rest := []) hown (hw _ (List.mem_of_getElem? (i := 4) rfl)) (hw _ (List.mem_of_getElem? (i := 5) rfl)) (hw _ (List.mem_of_getElem? (i := 2) rfl)) (hw _ (List.mem_of_getElem? (i := 6) rfl)) (by decide) (rm2_2 l Z a0 hw [] (2 : Int32) ch5 ch6 ch7 ch8 ch9 ch10 cz h0 n0 Z0 S0 hcz O rfl hch5 hch6 hch7 hch8 hch9 hch10) e10 (by rw [hml]; rfl) pd_9 rfl rfl i0_177 (by decide) 0 rfl (by decide) (by decide) (by decide) fun T22 v22 L22 X22 q22 => ?_
          obtain ⟨_, rfl, a22, tb22, kt22, rfl, K22, E22, FV22, FC22, V22, sa22, N22⟩ := q22
          have N0 := Fr.app N0 N22
          have ne_ns_a22 : ns ≠ a22 := Nat.ne_of_lt (Nat.lt_of_lt_of_le (E_ns.ext O.2).lt sa22)
          have ne_ps_a22 : ps ≠ a22 := Nat.ne_of_lt (Nat.lt_of_lt_of_le (E_ps.ext O.2).lt sa22)
          have O := O.keep K22 all0
          have Z0 : n0 ≤ T22.heap.size := Nat.le_trans Z0 K22.1
          show Gd p e below _ T22 (mkF m 180 #[.val (.int p0), .val (.int p1), .val (.int p2), .val (.int (2 : Int32)), .val (.int (0 : Int32)), .val (.int (0 : Int32)), .val (.int (0 : Int32)), .val (.int ch5), .val (.int ch6), .val (.int ch7), .val (.int ch8), .val (.int ch9), .val (.int ch10), .unset, .unset] [(.ref a22)])
          refine g_astore X22 hx hby i0_180 rfl (l' := #[.val (.int p0), .val (.int p1), .val (.int p2), .val (.int (2 : Int32)), .val (.int (0 : Int32)), .val (.int (0 : Int32)), .val (.int (0 : Int32)), .val (.int ch5), .val (.int ch6), .val (.int ch7), .val (.int ch8), .val (.int ch9), .val (.int ch10), .val (.ref a22), .unset]) rfl ?_
          refine g_iloadN X22 hx hby i0_182 rfl ?_
          refine g_iconst X22 hx hby i0_183 (z := (4 : Int32)) (by decide) ?_
          refine g_icmp_ne X22 hx hby i0_184 (fun c184_23 => ?_) (fun c184_23 => False.elim (absurd c184_23 (by decide)))
          refine g_iloadN X22 hx hby i0_223 rfl ?_
          refine g_iconst X22 hx hby i0_224 (z := (2 : Int32)) (by decide) ?_
          refine g_icmp_ne X22 hx hby i0_225 (fun c225_24 => False.elim (absurd c225_24 (by decide))) fun c225_24 => ?_
          refine g_iload X22 hx hby i0_228 rfl ?_
          refine g_bipush X22 hx hby i0_230 (z := (112 : Int32)) (by decide) ?_
          refine g_icmp_ne X22 hx hby i0_232 (fun c232_25 => ?_) (fun c232_25 => ?_)
          · refine g_aconst_null X22 hx hby i0_250 ?_
            refine g_astore X22 hx hby i0_251 rfl (l' := #[.val (.int p0), .val (.int p1), .val (.int p2), .val (.int (2 : Int32)), .val (.int (0 : Int32)), .val (.int (0 : Int32)), .val (.int (0 : Int32)), .val (.int ch5), .val (.int ch6), .val (.int ch7), .val (.int ch8), .val (.int ch9), .val (.int ch10), .val (.ref a22), .val .null]) rfl ?_
            refine g_aload X22 hx hby i0_253 rfl rfl ?_
            refine g_callS0 X22 hx hby hZ (y := (⟨"com/example/plantain/plantain/codec/Profile", "named", "(Ljava/lang/String;)Lcom/example/plantain/plantain/codec/Profile;"⟩ : MethodName)) (argsL := [(.ref a22)]) (rest := []) hown (hw _ (List.mem_of_getElem? (i := 29) rfl)) (hw _ (List.mem_of_getElem? (i := 30) rfl)) (hw _ (List.mem_of_getElem? (i := 31) rfl)) (hw _ (List.mem_of_getElem? (i := 32) rfl)) (by decide) (rm6_2 l Z a0 hw [] a22 cz va na pa ns ps nb pb kv kn kp tb22 kt22 (nar .byte (nar .char ch5).toInt8.toInt32) (nar .byte (nar .char ch6).toInt8.toInt32) T22.heap n0 Z0 S0 hcz O SV SN SP E_va V_va E_na F_na E_ns FC_ns FV_ns V_nb E_pa F_pa E_ps FC_ps FV_ps V_pb E22 FC22 FV22 V22 ne_ns_a22 ne_ps_a22) rfl (by rw [hml]; rfl) pd_10 rfl rfl i0_255 (by decide) 0 rfl (by decide) (by decide) (by decide) fun T26 v26 L26 X26 q26 => ?_
            obtain ⟨vv26, rfl, hq26, K26, N26⟩ := q26
            have N0 := Fr.app N0 N26
            obtain rfl : vv26 = .null := own_pickN hq26 (fun q => c232_25 ((own_beq hch5 112 (by decide)).mp (q.1)))
            have E22 := E22.keep K26
            have FV22 := FV22.keep K26 nin0
            have FC22 := FC22.keep K26 nin0
            have V22 := V22.keep K26 nin0
            have O := O.keep K26 all0
            have Z0 : n0 ≤ T26.heap.size := Nat.le_trans Z0 K26.1
            show Gd p e below _ T26 (mkF m 258 #[.val (.int p0), .val (.int p1), .val (.int p2), .val (.int (2 : Int32)), .val (.int (0 : Int32)), .val (.int (0 : Int32)), .val (.int (0 : Int32)), .val (.int ch5), .val (.int ch6), .val (.int ch7), .val (.int ch8), .val (.int ch9), .val (.int ch10), .val (.ref a22), .val .null] [.null])
            refine g_aload X26 hx hby i0_258 rfl rfl ?_
            refine g_acmp_ne X26 hx hby i0_260 rfl rfl (fun c260_27 => False.elim (c260_27 rfl)) fun c260_27 => ?_
            refine g_iconst X26 hx hby i0_263 (z := (1 : Int32)) (by decide) ?_
            refine g_goto X26 hx hby i0_264 ?_
            refine Gd.toW ?_
            refine g_ireturnN X26 hx hby (ty := .boolean) hret (by simp) hlk i0_268 (by decide) (by decide) ?_
            exact ⟨_, rfl, rfl, N0⟩
          · refine g_iload X22 hx hby i0_235 rfl ?_
            refine g_bipush X22 hx hby i0_237 (z := (98 : Int32)) (by decide) ?_
            refine g_icmp_ne X22 hx hby i0_239 (fun c239_28 => ?_) (fun c239_28 => ?_)
            · refine g_aconst_null X22 hx hby i0_250 ?_
              refine g_astore X22 hx hby i0_251 rfl (l' := #[.val (.int p0), .val (.int p1), .val (.int p2), .val (.int (2 : Int32)), .val (.int (0 : Int32)), .val (.int (0 : Int32)), .val (.int (0 : Int32)), .val (.int ch5), .val (.int ch6), .val (.int ch7), .val (.int ch8), .val (.int ch9), .val (.int ch10), .val (.ref a22), .val .null]) rfl ?_
              refine g_aload X22 hx hby i0_253 rfl rfl ?_
              refine g_callS0 X22 hx hby hZ (y := (⟨"com/example/plantain/plantain/codec/Profile", "named", "(Ljava/lang/String;)Lcom/example/plantain/plantain/codec/Profile;"⟩ : MethodName)) (argsL := [(.ref a22)]) (rest := []) hown (hw _ (List.mem_of_getElem? (i := 29) rfl)) (hw _ (List.mem_of_getElem? (i := 30) rfl)) (hw _ (List.mem_of_getElem? (i := 31) rfl)) (hw _ (List.mem_of_getElem? (i := 32) rfl)) (by decide) (rm6_2 l Z a0 hw [] a22 cz va na pa ns ps nb pb kv kn kp tb22 kt22 (nar .byte (nar .char ch5).toInt8.toInt32) (nar .byte (nar .char ch6).toInt8.toInt32) T22.heap n0 Z0 S0 hcz O SV SN SP E_va V_va E_na F_na E_ns FC_ns FV_ns V_nb E_pa F_pa E_ps FC_ps FV_ps V_pb E22 FC22 FV22 V22 ne_ns_a22 ne_ps_a22) rfl (by rw [hml]; rfl) pd_10 rfl rfl i0_255 (by decide) 0 rfl (by decide) (by decide) (by decide) fun T29 v29 L29 X29 q29 => ?_
              obtain ⟨vv29, rfl, hq29, K29, N29⟩ := q29
              have N0 := Fr.app N0 N29
              obtain rfl : vv29 = .null := own_pickN hq29 (fun q => c239_28 ((own_beq hch6 98 (by decide)).mp (q.2)))
              have E22 := E22.keep K29
              have FV22 := FV22.keep K29 nin0
              have FC22 := FC22.keep K29 nin0
              have V22 := V22.keep K29 nin0
              have O := O.keep K29 all0
              have Z0 : n0 ≤ T29.heap.size := Nat.le_trans Z0 K29.1
              show Gd p e below _ T29 (mkF m 258 #[.val (.int p0), .val (.int p1), .val (.int p2), .val (.int (2 : Int32)), .val (.int (0 : Int32)), .val (.int (0 : Int32)), .val (.int (0 : Int32)), .val (.int ch5), .val (.int ch6), .val (.int ch7), .val (.int ch8), .val (.int ch9), .val (.int ch10), .val (.ref a22), .val .null] [.null])
              refine g_aload X29 hx hby i0_258 rfl rfl ?_
              refine g_acmp_ne X29 hx hby i0_260 rfl rfl (fun c260_30 => False.elim (c260_30 rfl)) fun c260_30 => ?_
              refine g_iconst X29 hx hby i0_263 (z := (1 : Int32)) (by decide) ?_
              refine g_goto X29 hx hby i0_264 ?_
              refine Gd.toW ?_
              refine g_ireturnN X29 hx hby (ty := .boolean) hret (by simp) hlk i0_268 (by decide) (by decide) ?_
              exact ⟨_, rfl, rfl, N0⟩
            · refine g_getstatic X22 hx hby hZ hown (host := "") (Or.inl (hw _ (List.mem_of_getElem? (i := 74) rfl))) Via.refl rfl (SP.ext O.2) i0_242 fun T31 X31 e31 => ?_
              refine g_astore X31 hx hby i0_245 rfl (l' := #[.val (.int p0), .val (.int p1), .val (.int p2), .val (.int (2 : Int32)), .val (.int (0 : Int32)), .val (.int (0 : Int32)), .val (.int (0 : Int32)), .val (.int ch5), .val (.int ch6), .val (.int ch7), .val (.int ch8), .val (.int ch9), .val (.int ch10), .val (.ref a22), .val (.ref pa)]) rfl ?_
              refine g_goto X31 hx hby i0_247 ?_
              refine g_aload X31 hx hby i0_253 rfl rfl ?_
              refine g_callS0 X31 hx hby hZ (y := (⟨"com/example/plantain/plantain/codec/Profile", "named", "(Ljava/lang/String;)Lcom/example/plantain/plantain/codec/Profile;"⟩ : MethodName)) (argsL := [(.ref a22)]) (rest := []) hown (hw _ (List.mem_of_getElem? (i := 29) rfl)) (hw _ (List.mem_of_getElem? (i := 30) rfl)) (hw _ (List.mem_of_getElem? (i := 31) rfl)) (hw _ (List.mem_of_getElem? (i := 32) rfl)) (by decide) (rm6_2 l Z a0 hw [] a22 cz va na pa ns ps nb pb kv kn kp tb22 kt22 (nar .byte (nar .char ch5).toInt8.toInt32) (nar .byte (nar .char ch6).toInt8.toInt32) T22.heap n0 Z0 S0 hcz O SV SN SP E_va V_va E_na F_na E_ns FC_ns FV_ns V_nb E_pa F_pa E_ps FC_ps FV_ps V_pb E22 FC22 FV22 V22 ne_ns_a22 ne_ps_a22) e31 (by rw [hml]; rfl) pd_10 rfl rfl i0_255 (by decide) 0 rfl (by decide) (by decide) (by decide) fun T32 v32 L32 X32 q32 => ?_
              obtain ⟨vv32, rfl, hq32, K32, N32⟩ := q32
              have N0 := Fr.app N0 N32
              obtain rfl : vv32 = .ref pa := own_pickY hq32 ⟨(own_beq hch5 112 (by decide)).mpr c232_25, (own_beq hch6 98 (by decide)).mpr c239_28⟩
              have E22 := E22.keep K32
              have FV22 := FV22.keep K32 nin0
              have FC22 := FC22.keep K32 nin0
              have V22 := V22.keep K32 nin0
              have O := O.keep K32 all0
              have Z0 : n0 ≤ T32.heap.size := Nat.le_trans Z0 K32.1
              show Gd p e below _ T32 (mkF m 258 #[.val (.int p0), .val (.int p1), .val (.int p2), .val (.int (2 : Int32)), .val (.int (0 : Int32)), .val (.int (0 : Int32)), .val (.int (0 : Int32)), .val (.int ch5), .val (.int ch6), .val (.int ch7), .val (.int ch8), .val (.int ch9), .val (.int ch10), .val (.ref a22), .val (.ref pa)] [(.ref pa)])
              refine g_aload X32 hx hby i0_258 rfl rfl ?_
              refine g_acmp_ne X32 hx hby i0_260 rfl rfl (fun c260_33 => False.elim (c260_33 rfl)) fun c260_33 => ?_
              refine g_iconst X32 hx hby i0_263 (z := (1 : Int32)) (by decide) ?_
              refine g_goto X32 hx hby i0_264 ?_
              refine Gd.toW ?_
              refine g_ireturnN X32 hx hby (ty := .boolean) hret (by simp) hlk i0_268 (by decide) (by decide) ?_
              exact ⟨_, rfl, rfl, N0⟩
        · refine g_iloadN X10 hx hby i0_164 rfl ?_
          refine g_iload X10 hx hby i0_165 rfl ?_
          refine g_iload X10 hx hby i0_167 rfl ?_
          refine g_iload X10 hx hby i0_169 rfl ?_
          refine g_iload X10 hx hby i0_171 rfl ?_
          refine g_iload X10 hx hby i0_173 rfl ?_
          refine g_iload X10 hx hby i0_175 rfl ?_
          refine g_callS0 X10 hx hby hZ (y := (⟨"com/example/plantain/plantain/codec/ProfileNamedPinLaw", "make", "(ICCCCCC)Ljava/lang/String;"⟩ : MethodName)) (argsL := [(.int (3 : Int32)), (.int ch5), (.int ch6), (.int ch7), (.int ch8), (.int ch9), (.int ch10)]) (rest := []) hown (hw _ (List.mem_of_getElem? (i := 4) rfl)) (hw _ (List.mem_of_getElem? (i := 5) rfl)) (hw _ (List.mem_of_getElem? (i := 2) rfl)) (hw _ (List.mem_of_getElem? (i := 6) rfl)) (by decide) (rm2_3 l Z a0 hw [] (3 : Int32) ch5 ch6 ch7 ch8 ch9 ch10 cz h0 n0 Z0 S0 hcz O rfl hch5 hch6 hch7 hch8 hch9 hch10) e10 (by rw [hml]; rfl) pd_9 rfl rfl i0_177 (by decide) 0 rfl (by decide) (by decide) (by decide) fun T34 v34 L34 X34 q34 => ?_
          obtain ⟨_, rfl, a34, tb34, kt34, rfl, K34, E34, FV34, FC34, V34, sa34, N34⟩ := q34
          have N0 := Fr.app N0 N34
          have ne_ns_a34 : ns ≠ a34 := Nat.ne_of_lt (Nat.lt_of_lt_of_le (E_ns.ext O.2).lt sa34)
          have ne_ps_a34 : ps ≠ a34 := Nat.ne_of_lt (Nat.lt_of_lt_of_le (E_ps.ext O.2).lt sa34)
          have O := O.keep K34 all0
          have Z0 : n0 ≤ T34.heap.size := Nat.le_trans Z0 K34.1
          show Gd p e below _ T34 (mkF m 180 #[.val (.int p0), .val (.int p1), .val (.int p2), .val (.int (3 : Int32)), .val (.int (0 : Int32)), .val (.int (0 : Int32)), .val (.int (0 : Int32)), .val (.int ch5), .val (.int ch6), .val (.int ch7), .val (.int ch8), .val (.int ch9), .val (.int ch10), .unset, .unset] [(.ref a34)])
          refine g_astore X34 hx hby i0_180 rfl (l' := #[.val (.int p0), .val (.int p1), .val (.int p2), .val (.int (3 : Int32)), .val (.int (0 : Int32)), .val (.int (0 : Int32)), .val (.int (0 : Int32)), .val (.int ch5), .val (.int ch6), .val (.int ch7), .val (.int ch8), .val (.int ch9), .val (.int ch10), .val (.ref a34), .unset]) rfl ?_
          refine g_iloadN X34 hx hby i0_182 rfl ?_
          refine g_iconst X34 hx hby i0_183 (z := (4 : Int32)) (by decide) ?_
          refine g_icmp_ne X34 hx hby i0_184 (fun c184_35 => ?_) (fun c184_35 => False.elim (absurd c184_35 (by decide)))
          refine g_iloadN X34 hx hby i0_223 rfl ?_
          refine g_iconst X34 hx hby i0_224 (z := (2 : Int32)) (by decide) ?_
          refine g_icmp_ne X34 hx hby i0_225 (fun c225_36 => ?_) (fun c225_36 => False.elim (absurd c225_36 (by decide)))
          refine g_aconst_null X34 hx hby i0_250 ?_
          refine g_astore X34 hx hby i0_251 rfl (l' := #[.val (.int p0), .val (.int p1), .val (.int p2), .val (.int (3 : Int32)), .val (.int (0 : Int32)), .val (.int (0 : Int32)), .val (.int (0 : Int32)), .val (.int ch5), .val (.int ch6), .val (.int ch7), .val (.int ch8), .val (.int ch9), .val (.int ch10), .val (.ref a34), .val .null]) rfl ?_
          refine g_aload X34 hx hby i0_253 rfl rfl ?_
          refine g_callS0 X34 hx hby hZ (y := (⟨"com/example/plantain/plantain/codec/Profile", "named", "(Ljava/lang/String;)Lcom/example/plantain/plantain/codec/Profile;"⟩ : MethodName)) (argsL := [(.ref a34)]) (rest := []) hown (hw _ (List.mem_of_getElem? (i := 29) rfl)) (hw _ (List.mem_of_getElem? (i := 30) rfl)) (hw _ (List.mem_of_getElem? (i := 31) rfl)) (hw _ (List.mem_of_getElem? (i := 32) rfl)) (by decide) (rm6_3 l Z a0 hw [] a34 cz va na pa ns ps nb pb kv kn kp tb34 kt34 (nar .byte (nar .char ch5).toInt8.toInt32) (nar .byte (nar .char ch6).toInt8.toInt32) (nar .byte (nar .char ch7).toInt8.toInt32) T34.heap n0 Z0 S0 hcz O SV SN SP E_va V_va E_na F_na E_ns FC_ns FV_ns V_nb E_pa F_pa E_ps FC_ps FV_ps V_pb E34 FC34 FV34 V34 ne_ns_a34 ne_ps_a34) rfl (by rw [hml]; rfl) pd_10 rfl rfl i0_255 (by decide) 0 rfl (by decide) (by decide) (by decide) fun T37 v37 L37 X37 q37 => ?_
          obtain ⟨_, rfl, rfl, K37, N37⟩ := q37
          have N0 := Fr.app N0 N37
          have E34 := E34.keep K37
          have FV34 := FV34.keep K37 nin0
          have FC34 := FC34.keep K37 nin0
          have V34 := V34.keep K37 nin0
          have O := O.keep K37 all0
          have Z0 : n0 ≤ T37.heap.size := Nat.le_trans Z0 K37.1
          show Gd p e below _ T37 (mkF m 258 #[.val (.int p0), .val (.int p1), .val (.int p2), .val (.int (3 : Int32)), .val (.int (0 : Int32)), .val (.int (0 : Int32)), .val (.int (0 : Int32)), .val (.int ch5), .val (.int ch6), .val (.int ch7), .val (.int ch8), .val (.int ch9), .val (.int ch10), .val (.ref a34), .val .null] [.null])
          refine g_aload X37 hx hby i0_258 rfl rfl ?_
          refine g_acmp_ne X37 hx hby i0_260 rfl rfl (fun c260_38 => False.elim (c260_38 rfl)) fun c260_38 => ?_
          refine g_iconst X37 hx hby i0_263 (z := (1 : Int32)) (by decide) ?_
          refine g_goto X37 hx hby i0_264 ?_
          refine Gd.toW ?_
          refine g_ireturnN X37 hx hby (ty := .boolean) hret (by simp) hlk i0_268 (by decide) (by decide) ?_
          exact ⟨_, rfl, rfl, N0⟩
        · refine g_iloadN X10 hx hby i0_164 rfl ?_
          refine g_iload X10 hx hby i0_165 rfl ?_
          refine g_iload X10 hx hby i0_167 rfl ?_
          refine g_iload X10 hx hby i0_169 rfl ?_
          refine g_iload X10 hx hby i0_171 rfl ?_
          refine g_iload X10 hx hby i0_173 rfl ?_
          refine g_iload X10 hx hby i0_175 rfl ?_
          refine g_callS0 X10 hx hby hZ (y := (⟨"com/example/plantain/plantain/codec/ProfileNamedPinLaw", "make", "(ICCCCCC)Ljava/lang/String;"⟩ : MethodName)) (argsL := [(.int (4 : Int32)), (.int ch5), (.int ch6), (.int ch7), (.int ch8), (.int ch9), (.int ch10)]) (rest := []) hown (hw _ (List.mem_of_getElem? (i := 4) rfl)) (hw _ (List.mem_of_getElem? (i := 5) rfl)) (hw _ (List.mem_of_getElem? (i := 2) rfl)) (hw _ (List.mem_of_getElem? (i := 6) rfl)) (by decide) (rm2_4 l Z a0 hw [] (4 : Int32) ch5 ch6 ch7 ch8 ch9 ch10 cz h0 n0 Z0 S0 hcz O rfl hch5 hch6 hch7 hch8 hch9 hch10) e10 (by rw [hml]; rfl) pd_9 rfl rfl i0_177 (by decide) 0 rfl (by decide) (by decide) (by decide) fun T39 v39 L39 X39 q39 => ?_
          obtain ⟨_, rfl, a39, tb39, kt39, rfl, K39, E39, FV39, FC39, V39, sa39, N39⟩ := q39
          have N0 := Fr.app N0 N39
          have ne_ns_a39 : ns ≠ a39 := Nat.ne_of_lt (Nat.lt_of_lt_of_le (E_ns.ext O.2).lt sa39)
          have ne_ps_a39 : ps ≠ a39 := Nat.ne_of_lt (Nat.lt_of_lt_of_le (E_ps.ext O.2).lt sa39)
          have O := O.keep K39 all0
          have Z0 : n0 ≤ T39.heap.size := Nat.le_trans Z0 K39.1
          show Gd p e below _ T39 (mkF m 180 #[.val (.int p0), .val (.int p1), .val (.int p2), .val (.int (4 : Int32)), .val (.int (0 : Int32)), .val (.int (0 : Int32)), .val (.int (0 : Int32)), .val (.int ch5), .val (.int ch6), .val (.int ch7), .val (.int ch8), .val (.int ch9), .val (.int ch10), .unset, .unset] [(.ref a39)])
          refine g_astore X39 hx hby i0_180 rfl (l' := #[.val (.int p0), .val (.int p1), .val (.int p2), .val (.int (4 : Int32)), .val (.int (0 : Int32)), .val (.int (0 : Int32)), .val (.int (0 : Int32)), .val (.int ch5), .val (.int ch6), .val (.int ch7), .val (.int ch8), .val (.int ch9), .val (.int ch10), .val (.ref a39), .unset]) rfl ?_
          refine g_iloadN X39 hx hby i0_182 rfl ?_
          refine g_iconst X39 hx hby i0_183 (z := (4 : Int32)) (by decide) ?_
          refine g_icmp_ne X39 hx hby i0_184 (fun c184_40 => False.elim (absurd c184_40 (by decide))) fun c184_40 => ?_
          refine g_iload X39 hx hby i0_187 rfl ?_
          refine g_bipush X39 hx hby i0_189 (z := (110 : Int32)) (by decide) ?_
          refine g_icmp_ne X39 hx hby i0_191 (fun c191_41 => ?_) (fun c191_41 => ?_)
          · refine g_iloadN X39 hx hby i0_223 rfl ?_
            refine g_iconst X39 hx hby i0_224 (z := (2 : Int32)) (by decide) ?_
            refine g_icmp_ne X39 hx hby i0_225 (fun c225_42 => ?_) (fun c225_42 => False.elim (absurd c225_42 (by decide)))
            refine g_aconst_null X39 hx hby i0_250 ?_
            refine g_astore X39 hx hby i0_251 rfl (l' := #[.val (.int p0), .val (.int p1), .val (.int p2), .val (.int (4 : Int32)), .val (.int (0 : Int32)), .val (.int (0 : Int32)), .val (.int (0 : Int32)), .val (.int ch5), .val (.int ch6), .val (.int ch7), .val (.int ch8), .val (.int ch9), .val (.int ch10), .val (.ref a39), .val .null]) rfl ?_
            refine g_aload X39 hx hby i0_253 rfl rfl ?_
            refine g_callS0 X39 hx hby hZ (y := (⟨"com/example/plantain/plantain/codec/Profile", "named", "(Ljava/lang/String;)Lcom/example/plantain/plantain/codec/Profile;"⟩ : MethodName)) (argsL := [(.ref a39)]) (rest := []) hown (hw _ (List.mem_of_getElem? (i := 29) rfl)) (hw _ (List.mem_of_getElem? (i := 30) rfl)) (hw _ (List.mem_of_getElem? (i := 31) rfl)) (hw _ (List.mem_of_getElem? (i := 32) rfl)) (by decide) (rm6_4 l Z a0 hw [] a39 cz va na pa ns ps nb pb kv kn kp tb39 kt39 (nar .byte (nar .char ch5).toInt8.toInt32) (nar .byte (nar .char ch6).toInt8.toInt32) (nar .byte (nar .char ch7).toInt8.toInt32) (nar .byte (nar .char ch8).toInt8.toInt32) T39.heap n0 Z0 S0 hcz O SV SN SP E_va V_va E_na F_na E_ns FC_ns FV_ns V_nb E_pa F_pa E_ps FC_ps FV_ps V_pb E39 FC39 FV39 V39 ne_ns_a39 ne_ps_a39) rfl (by rw [hml]; rfl) pd_10 rfl rfl i0_255 (by decide) 0 rfl (by decide) (by decide) (by decide) fun T43 v43 L43 X43 q43 => ?_
            obtain ⟨vv43, rfl, hq43, K43, N43⟩ := q43
            have N0 := Fr.app N0 N43
            obtain rfl : vv43 = .null := own_pickN hq43 (fun q => c191_41 ((own_beq hch5 110 (by decide)).mp (q.1)))
            have E39 := E39.keep K43
            have FV39 := FV39.keep K43 nin0
            have FC39 := FC39.keep K43 nin0
            have V39 := V39.keep K43 nin0
            have O := O.keep K43 all0
            have Z0 : n0 ≤ T43.heap.size := Nat.le_trans Z0 K43.1
            show Gd p e below _ T43 (mkF m 258 #[.val (.int p0), .val (.int p1), .val (.int p2), .val (.int (4 : Int32)), .val (.int (0 : Int32)), .val (.int (0 : Int32)), .val (.int (0 : Int32)), .val (.int ch5), .val (.int ch6), .val (.int ch7), .val (.int ch8), .val (.int ch9), .val (.int ch10), .val (.ref a39), .val .null] [.null])
            refine g_aload X43 hx hby i0_258 rfl rfl ?_
            refine g_acmp_ne X43 hx hby i0_260 rfl rfl (fun c260_44 => False.elim (c260_44 rfl)) fun c260_44 => ?_
            refine g_iconst X43 hx hby i0_263 (z := (1 : Int32)) (by decide) ?_
            refine g_goto X43 hx hby i0_264 ?_
            refine Gd.toW ?_
            refine g_ireturnN X43 hx hby (ty := .boolean) hret (by simp) hlk i0_268 (by decide) (by decide) ?_
            exact ⟨_, rfl, rfl, N0⟩
          · refine g_iload X39 hx hby i0_194 rfl ?_
            refine g_bipush X39 hx hby i0_196 (z := (111 : Int32)) (by decide) ?_
            refine g_icmp_ne X39 hx hby i0_198 (fun c198_45 => ?_) (fun c198_45 => ?_)
            · refine g_iloadN X39 hx hby i0_223 rfl ?_
              refine g_iconst X39 hx hby i0_224 (z := (2 : Int32)) (by decide) ?_
              refine g_icmp_ne X39 hx hby i0_225 (fun c225_46 => ?_) (fun c225_46 => False.elim (absurd c225_46 (by decide)))
              refine g_aconst_null X39 hx hby i0_250 ?_
              refine g_astore X39 hx hby i0_251 rfl (l' := #[.val (.int p0), .val (.int p1), .val (.int p2), .val (.int (4 : Int32)), .val (.int (0 : Int32)), .val (.int (0 : Int32)), .val (.int (0 : Int32)), .val (.int ch5), .val (.int ch6), .val (.int ch7), .val (.int ch8), .val (.int ch9), .val (.int ch10), .val (.ref a39), .val .null]) rfl ?_
              refine g_aload X39 hx hby i0_253 rfl rfl ?_
              refine g_callS0 X39 hx hby hZ (y := (⟨"com/example/plantain/plantain/codec/Profile", "named", "(Ljava/lang/String;)Lcom/example/plantain/plantain/codec/Profile;"⟩ : MethodName)) (argsL := [(.ref a39)]) (rest := []) hown (hw _ (List.mem_of_getElem? (i := 29) rfl)) (hw _ (List.mem_of_getElem? (i := 30) rfl)) (hw _ (List.mem_of_getElem? (i := 31) rfl)) (hw _ (List.mem_of_getElem? (i := 32) rfl)) (by decide) (rm6_4 l Z a0 hw [] a39 cz va na pa ns ps nb pb kv kn kp tb39 kt39 (nar .byte (nar .char ch5).toInt8.toInt32) (nar .byte (nar .char ch6).toInt8.toInt32) (nar .byte (nar .char ch7).toInt8.toInt32) (nar .byte (nar .char ch8).toInt8.toInt32) T39.heap n0 Z0 S0 hcz O SV SN SP E_va V_va E_na F_na E_ns FC_ns FV_ns V_nb E_pa F_pa E_ps FC_ps FV_ps V_pb E39 FC39 FV39 V39 ne_ns_a39 ne_ps_a39) rfl (by rw [hml]; rfl) pd_10 rfl rfl i0_255 (by decide) 0 rfl (by decide) (by decide) (by decide) fun T47 v47 L47 X47 q47 => ?_
              obtain ⟨vv47, rfl, hq47, K47, N47⟩ := q47
              have N0 := Fr.app N0 N47
              obtain rfl : vv47 = .null := own_pickN hq47 (fun q => c198_45 ((own_beq hch6 111 (by decide)).mp (q.2.1)))
              have E39 := E39.keep K47
              have FV39 := FV39.keep K47 nin0
              have FC39 := FC39.keep K47 nin0
              have V39 := V39.keep K47 nin0
              have O := O.keep K47 all0
              have Z0 : n0 ≤ T47.heap.size := Nat.le_trans Z0 K47.1
              show Gd p e below _ T47 (mkF m 258 #[.val (.int p0), .val (.int p1), .val (.int p2), .val (.int (4 : Int32)), .val (.int (0 : Int32)), .val (.int (0 : Int32)), .val (.int (0 : Int32)), .val (.int ch5), .val (.int ch6), .val (.int ch7), .val (.int ch8), .val (.int ch9), .val (.int ch10), .val (.ref a39), .val .null] [.null])
              refine g_aload X47 hx hby i0_258 rfl rfl ?_
              refine g_acmp_ne X47 hx hby i0_260 rfl rfl (fun c260_48 => False.elim (c260_48 rfl)) fun c260_48 => ?_
              refine g_iconst X47 hx hby i0_263 (z := (1 : Int32)) (by decide) ?_
              refine g_goto X47 hx hby i0_264 ?_
              refine Gd.toW ?_
              refine g_ireturnN X47 hx hby (ty := .boolean) hret (by simp) hlk i0_268 (by decide) (by decide) ?_
              exact ⟨_, rfl, rfl, N0⟩
            · refine g_iload X39 hx hby i0_201 rfl ?_
              refine g_bipush X39 hx hby i0_203 (z := (110 : Int32)) (by decide) ?_
              refine g_icmp_ne X39 hx hby i0_205 (fun c205_49 => ?_) (fun c205_49 => ?_)
              · refine g_iloadN X39 hx hby i0_223 rfl ?_
                refine g_iconst X39 hx hby i0_224 (z := (2 : Int32)) (by decide) ?_
                refine g_icmp_ne X39 hx hby i0_225 (fun c225_50 => ?_) (fun c225_50 => False.elim (absurd c225_50 (by decide)))
                refine g_aconst_null X39 hx hby i0_250 ?_
                refine g_astore X39 hx hby i0_251 rfl (l' := #[.val (.int p0), .val (.int p1), .val (.int p2), .val (.int (4 : Int32)), .val (.int (0 : Int32)), .val (.int (0 : Int32)), .val (.int (0 : Int32)), .val (.int ch5), .val (.int ch6), .val (.int ch7), .val (.int ch8), .val (.int ch9), .val (.int ch10), .val (.ref a39), .val .null]) rfl ?_
                refine g_aload X39 hx hby i0_253 rfl rfl ?_
                refine g_callS0 X39 hx hby hZ (y := (⟨"com/example/plantain/plantain/codec/Profile", "named", "(Ljava/lang/String;)Lcom/example/plantain/plantain/codec/Profile;"⟩ : MethodName)) (argsL := [(.ref a39)]) (rest := []) hown (hw _ (List.mem_of_getElem? (i := 29) rfl)) (hw _ (List.mem_of_getElem? (i := 30) rfl)) (hw _ (List.mem_of_getElem? (i := 31) rfl)) (hw _ (List.mem_of_getElem? (i := 32) rfl)) (by decide) (rm6_4 l Z a0 hw [] a39 cz va na pa ns ps nb pb kv kn kp tb39 kt39 (nar .byte (nar .char ch5).toInt8.toInt32) (nar .byte (nar .char ch6).toInt8.toInt32) (nar .byte (nar .char ch7).toInt8.toInt32) (nar .byte (nar .char ch8).toInt8.toInt32) T39.heap n0 Z0 S0 hcz O SV SN SP E_va V_va E_na F_na E_ns FC_ns FV_ns V_nb E_pa F_pa E_ps FC_ps FV_ps V_pb E39 FC39 FV39 V39 ne_ns_a39 ne_ps_a39) rfl (by rw [hml]; rfl) pd_10 rfl rfl i0_255 (by decide) 0 rfl (by decide) (by decide) (by decide) fun T51 v51 L51 X51 q51 => ?_
                obtain ⟨vv51, rfl, hq51, K51, N51⟩ := q51
                have N0 := Fr.app N0 N51
                obtain rfl : vv51 = .null := own_pickN hq51 (fun q => c205_49 ((own_beq hch7 110 (by decide)).mp (q.2.2.1)))
                have E39 := E39.keep K51
                have FV39 := FV39.keep K51 nin0
                have FC39 := FC39.keep K51 nin0
                have V39 := V39.keep K51 nin0
                have O := O.keep K51 all0
                have Z0 : n0 ≤ T51.heap.size := Nat.le_trans Z0 K51.1
                show Gd p e below _ T51 (mkF m 258 #[.val (.int p0), .val (.int p1), .val (.int p2), .val (.int (4 : Int32)), .val (.int (0 : Int32)), .val (.int (0 : Int32)), .val (.int (0 : Int32)), .val (.int ch5), .val (.int ch6), .val (.int ch7), .val (.int ch8), .val (.int ch9), .val (.int ch10), .val (.ref a39), .val .null] [.null])
                refine g_aload X51 hx hby i0_258 rfl rfl ?_
                refine g_acmp_ne X51 hx hby i0_260 rfl rfl (fun c260_52 => False.elim (c260_52 rfl)) fun c260_52 => ?_
                refine g_iconst X51 hx hby i0_263 (z := (1 : Int32)) (by decide) ?_
                refine g_goto X51 hx hby i0_264 ?_
                refine Gd.toW ?_
                refine g_ireturnN X51 hx hby (ty := .boolean) hret (by simp) hlk i0_268 (by decide) (by decide) ?_
                exact ⟨_, rfl, rfl, N0⟩
              · refine g_iload X39 hx hby i0_208 rfl ?_
                refine g_bipush X39 hx hby i0_210 (z := (101 : Int32)) (by decide) ?_
                refine g_icmp_ne X39 hx hby i0_212 (fun c212_53 => ?_) (fun c212_53 => ?_)
                · refine g_iloadN X39 hx hby i0_223 rfl ?_
                  refine g_iconst X39 hx hby i0_224 (z := (2 : Int32)) (by decide) ?_
                  refine g_icmp_ne X39 hx hby i0_225 (fun c225_54 => ?_) (fun c225_54 => False.elim (absurd c225_54 (by decide)))
                  refine g_aconst_null X39 hx hby i0_250 ?_
                  refine g_astore X39 hx hby i0_251 rfl (l' := #[.val (.int p0), .val (.int p1), .val (.int p2), .val (.int (4 : Int32)), .val (.int (0 : Int32)), .val (.int (0 : Int32)), .val (.int (0 : Int32)), .val (.int ch5), .val (.int ch6), .val (.int ch7), .val (.int ch8), .val (.int ch9), .val (.int ch10), .val (.ref a39), .val .null]) rfl ?_
                  refine g_aload X39 hx hby i0_253 rfl rfl ?_
                  refine g_callS0 X39 hx hby hZ (y := (⟨"com/example/plantain/plantain/codec/Profile", "named", "(Ljava/lang/String;)Lcom/example/plantain/plantain/codec/Profile;"⟩ : MethodName)) (argsL := [(.ref a39)]) (rest := []) hown (hw _ (List.mem_of_getElem? (i := 29) rfl)) (hw _ (List.mem_of_getElem? (i := 30) rfl)) (hw _ (List.mem_of_getElem? (i := 31) rfl)) (hw _ (List.mem_of_getElem? (i := 32) rfl)) (by decide) (rm6_4 l Z a0 hw [] a39 cz va na pa ns ps nb pb kv kn kp tb39 kt39 (nar .byte (nar .char ch5).toInt8.toInt32) (nar .byte (nar .char ch6).toInt8.toInt32) (nar .byte (nar .char ch7).toInt8.toInt32) (nar .byte (nar .char ch8).toInt8.toInt32) T39.heap n0 Z0 S0 hcz O SV SN SP E_va V_va E_na F_na E_ns FC_ns FV_ns V_nb E_pa F_pa E_ps FC_ps FV_ps V_pb E39 FC39 FV39 V39 ne_ns_a39 ne_ps_a39) rfl (by rw [hml]; rfl) pd_10 rfl rfl i0_255 (by decide) 0 rfl (by decide) (by decide) (by decide) fun T55 v55 L55 X55 q55 => ?_
                  obtain ⟨vv55, rfl, hq55, K55, N55⟩ := q55
                  have N0 := Fr.app N0 N55
                  obtain rfl : vv55 = .null := own_pickN hq55 (fun q => c212_53 ((own_beq hch8 101 (by decide)).mp (q.2.2.2)))
                  have E39 := E39.keep K55
                  have FV39 := FV39.keep K55 nin0
                  have FC39 := FC39.keep K55 nin0
                  have V39 := V39.keep K55 nin0
                  have O := O.keep K55 all0
                  have Z0 : n0 ≤ T55.heap.size := Nat.le_trans Z0 K55.1
                  show Gd p e below _ T55 (mkF m 258 #[.val (.int p0), .val (.int p1), .val (.int p2), .val (.int (4 : Int32)), .val (.int (0 : Int32)), .val (.int (0 : Int32)), .val (.int (0 : Int32)), .val (.int ch5), .val (.int ch6), .val (.int ch7), .val (.int ch8), .val (.int ch9), .val (.int ch10), .val (.ref a39), .val .null] [.null])
                  refine g_aload X55 hx hby i0_258 rfl rfl ?_
                  refine g_acmp_ne X55 hx hby i0_260 rfl rfl (fun c260_56 => False.elim (c260_56 rfl)) fun c260_56 => ?_
                  refine g_iconst X55 hx hby i0_263 (z := (1 : Int32)) (by decide) ?_
                  refine g_goto X55 hx hby i0_264 ?_
                  refine Gd.toW ?_
                  refine g_ireturnN X55 hx hby (ty := .boolean) hret (by simp) hlk i0_268 (by decide) (by decide) ?_
                  exact ⟨_, rfl, rfl, N0⟩
                · refine g_getstatic X39 hx hby hZ hown (host := "") (Or.inl (hw _ (List.mem_of_getElem? (i := 73) rfl))) Via.refl rfl (SN.ext O.2) i0_215 fun T57 X57 e57 => ?_
                  refine g_astore X57 hx hby i0_218 rfl (l' := #[.val (.int p0), .val (.int p1), .val (.int p2), .val (.int (4 : Int32)), .val (.int (0 : Int32)), .val (.int (0 : Int32)), .val (.int (0 : Int32)), .val (.int ch5), .val (.int ch6), .val (.int ch7), .val (.int ch8), .val (.int ch9), .val (.int ch10), .val (.ref a39), .val (.ref na)]) rfl ?_
                  refine g_goto X57 hx hby i0_220 ?_
                  refine g_aload X57 hx hby i0_253 rfl rfl ?_
                  refine g_callS0 X57 hx hby hZ (y := (⟨"com/example/plantain/plantain/codec/Profile", "named", "(Ljava/lang/String;)Lcom/example/plantain/plantain/codec/Profile;"⟩ : MethodName)) (argsL := [(.ref a39)]) (rest := []) hown (hw _ (List.mem_of_getElem? (i := 29) rfl)) (hw _ (List.mem_of_getElem? (i := 30) rfl)) (hw _ (List.mem_of_getElem? (i := 31) rfl)) (hw _ (List.mem_of_getElem? (i := 32) rfl)) (by decide) (rm6_4 l Z a0 hw [] a39 cz va na pa ns ps nb pb kv kn kp tb39 kt39 (nar .byte (nar .char ch5).toInt8.toInt32) (nar .byte (nar .char ch6).toInt8.toInt32) (nar .byte (nar .char ch7).toInt8.toInt32) (nar .byte (nar .char ch8).toInt8.toInt32) T39.heap n0 Z0 S0 hcz O SV SN SP E_va V_va E_na F_na E_ns FC_ns FV_ns V_nb E_pa F_pa E_ps FC_ps FV_ps V_pb E39 FC39 FV39 V39 ne_ns_a39 ne_ps_a39) e57 (by rw [hml]; rfl) pd_10 rfl rfl i0_255 (by decide) 0 rfl (by decide) (by decide) (by decide) fun T58 v58 L58 X58 q58 => ?_
                  obtain ⟨vv58, rfl, hq58, K58, N58⟩ := q58
                  have N0 := Fr.app N0 N58
                  obtain rfl : vv58 = .ref na := own_pickY hq58 ⟨(own_beq hch5 110 (by decide)).mpr c191_41, (own_beq hch6 111 (by decide)).mpr c198_45, (own_beq hch7 110 (by decide)).mpr c205_49, (own_beq hch8 101 (by decide)).mpr c212_53⟩
                  have E39 := E39.keep K58
                  have FV39 := FV39.keep K58 nin0
                  have FC39 := FC39.keep K58 nin0
                  have V39 := V39.keep K58 nin0
                  have O := O.keep K58 all0
                  have Z0 : n0 ≤ T58.heap.size := Nat.le_trans Z0 K58.1
                  show Gd p e below _ T58 (mkF m 258 #[.val (.int p0), .val (.int p1), .val (.int p2), .val (.int (4 : Int32)), .val (.int (0 : Int32)), .val (.int (0 : Int32)), .val (.int (0 : Int32)), .val (.int ch5), .val (.int ch6), .val (.int ch7), .val (.int ch8), .val (.int ch9), .val (.int ch10), .val (.ref a39), .val (.ref na)] [(.ref na)])
                  refine g_aload X58 hx hby i0_258 rfl rfl ?_
                  refine g_acmp_ne X58 hx hby i0_260 rfl rfl (fun c260_59 => False.elim (c260_59 rfl)) fun c260_59 => ?_
                  refine g_iconst X58 hx hby i0_263 (z := (1 : Int32)) (by decide) ?_
                  refine g_goto X58 hx hby i0_264 ?_
                  refine Gd.toW ?_
                  refine g_ireturnN X58 hx hby (ty := .boolean) hret (by simp) hlk i0_268 (by decide) (by decide) ?_
                  exact ⟨_, rfl, rfl, N0⟩
        · refine g_iloadN X10 hx hby i0_164 rfl ?_
          refine g_iload X10 hx hby i0_165 rfl ?_
          refine g_iload X10 hx hby i0_167 rfl ?_
          refine g_iload X10 hx hby i0_169 rfl ?_
          refine g_iload X10 hx hby i0_171 rfl ?_
          refine g_iload X10 hx hby i0_173 rfl ?_
          refine g_iload X10 hx hby i0_175 rfl ?_
          refine g_callS0 X10 hx hby hZ (y := (⟨"com/example/plantain/plantain/codec/ProfileNamedPinLaw", "make", "(ICCCCCC)Ljava/lang/String;"⟩ : MethodName)) (argsL := [(.int (5 : Int32)), (.int ch5), (.int ch6), (.int ch7), (.int ch8), (.int ch9), (.int ch10)]) (rest := []) hown (hw _ (List.mem_of_getElem? (i := 4) rfl)) (hw _ (List.mem_of_getElem? (i := 5) rfl)) (hw _ (List.mem_of_getElem? (i := 2) rfl)) (hw _ (List.mem_of_getElem? (i := 6) rfl)) (by decide) (rm2_5 l Z a0 hw [] (5 : Int32) ch5 ch6 ch7 ch8 ch9 ch10 cz h0 n0 Z0 S0 hcz O rfl hch5 hch6 hch7 hch8 hch9 hch10) e10 (by rw [hml]; rfl) pd_9 rfl rfl i0_177 (by decide) 0 rfl (by decide) (by decide) (by decide) fun T60 v60 L60 X60 q60 => ?_
          obtain ⟨_, rfl, a60, tb60, kt60, rfl, K60, E60, FV60, FC60, V60, sa60, N60⟩ := q60
          have N0 := Fr.app N0 N60
          have ne_ns_a60 : ns ≠ a60 := Nat.ne_of_lt (Nat.lt_of_lt_of_le (E_ns.ext O.2).lt sa60)
          have ne_ps_a60 : ps ≠ a60 := Nat.ne_of_lt (Nat.lt_of_lt_of_le (E_ps.ext O.2).lt sa60)
          have O := O.keep K60 all0
          have Z0 : n0 ≤ T60.heap.size := Nat.le_trans Z0 K60.1
          show Gd p e below _ T60 (mkF m 180 #[.val (.int p0), .val (.int p1), .val (.int p2), .val (.int (5 : Int32)), .val (.int (0 : Int32)), .val (.int (0 : Int32)), .val (.int (0 : Int32)), .val (.int ch5), .val (.int ch6), .val (.int ch7), .val (.int ch8), .val (.int ch9), .val (.int ch10), .unset, .unset] [(.ref a60)])
          refine g_astore X60 hx hby i0_180 rfl (l' := #[.val (.int p0), .val (.int p1), .val (.int p2), .val (.int (5 : Int32)), .val (.int (0 : Int32)), .val (.int (0 : Int32)), .val (.int (0 : Int32)), .val (.int ch5), .val (.int ch6), .val (.int ch7), .val (.int ch8), .val (.int ch9), .val (.int ch10), .val (.ref a60), .unset]) rfl ?_
          refine g_iloadN X60 hx hby i0_182 rfl ?_
          refine g_iconst X60 hx hby i0_183 (z := (4 : Int32)) (by decide) ?_
          refine g_icmp_ne X60 hx hby i0_184 (fun c184_61 => ?_) (fun c184_61 => False.elim (absurd c184_61 (by decide)))
          refine g_iloadN X60 hx hby i0_223 rfl ?_
          refine g_iconst X60 hx hby i0_224 (z := (2 : Int32)) (by decide) ?_
          refine g_icmp_ne X60 hx hby i0_225 (fun c225_62 => ?_) (fun c225_62 => False.elim (absurd c225_62 (by decide)))
          refine g_aconst_null X60 hx hby i0_250 ?_
          refine g_astore X60 hx hby i0_251 rfl (l' := #[.val (.int p0), .val (.int p1), .val (.int p2), .val (.int (5 : Int32)), .val (.int (0 : Int32)), .val (.int (0 : Int32)), .val (.int (0 : Int32)), .val (.int ch5), .val (.int ch6), .val (.int ch7), .val (.int ch8), .val (.int ch9), .val (.int ch10), .val (.ref a60), .val .null]) rfl ?_
          refine g_aload X60 hx hby i0_253 rfl rfl ?_
          refine g_callS0 X60 hx hby hZ (y := (⟨"com/example/plantain/plantain/codec/Profile", "named", "(Ljava/lang/String;)Lcom/example/plantain/plantain/codec/Profile;"⟩ : MethodName)) (argsL := [(.ref a60)]) (rest := []) hown (hw _ (List.mem_of_getElem? (i := 29) rfl)) (hw _ (List.mem_of_getElem? (i := 30) rfl)) (hw _ (List.mem_of_getElem? (i := 31) rfl)) (hw _ (List.mem_of_getElem? (i := 32) rfl)) (by decide) (rm6_5 l Z a0 hw [] a60 cz va na pa ns ps nb pb kv kn kp tb60 kt60 (nar .byte (nar .char ch5).toInt8.toInt32) (nar .byte (nar .char ch6).toInt8.toInt32) (nar .byte (nar .char ch7).toInt8.toInt32) (nar .byte (nar .char ch8).toInt8.toInt32) (nar .byte (nar .char ch9).toInt8.toInt32) T60.heap n0 Z0 S0 hcz O SV SN SP E_va V_va E_na F_na E_ns FC_ns FV_ns V_nb E_pa F_pa E_ps FC_ps FV_ps V_pb E60 FC60 FV60 V60 ne_ns_a60 ne_ps_a60) rfl (by rw [hml]; rfl) pd_10 rfl rfl i0_255 (by decide) 0 rfl (by decide) (by decide) (by decide) fun T63 v63 L63 X63 q63 => ?_
          obtain ⟨_, rfl, rfl, K63, N63⟩ := q63
          have N0 := Fr.app N0 N63
          have E60 := E60.keep K63
          have FV60 := FV60.keep K63 nin0
          have FC60 := FC60.keep K63 nin0
          have V60 := V60.keep K63 nin0
          have O := O.keep K63 all0
          have Z0 : n0 ≤ T63.heap.size := Nat.le_trans Z0 K63.1
          show Gd p e below _ T63 (mkF m 258 #[.val (.int p0), .val (.int p1), .val (.int p2), .val (.int (5 : Int32)), .val (.int (0 : Int32)), .val (.int (0 : Int32)), .val (.int (0 : Int32)), .val (.int ch5), .val (.int ch6), .val (.int ch7), .val (.int ch8), .val (.int ch9), .val (.int ch10), .val (.ref a60), .val .null] [.null])
          refine g_aload X63 hx hby i0_258 rfl rfl ?_
          refine g_acmp_ne X63 hx hby i0_260 rfl rfl (fun c260_64 => False.elim (c260_64 rfl)) fun c260_64 => ?_
          refine g_iconst X63 hx hby i0_263 (z := (1 : Int32)) (by decide) ?_
          refine g_goto X63 hx hby i0_264 ?_
          refine Gd.toW ?_
          refine g_ireturnN X63 hx hby (ty := .boolean) hret (by simp) hlk i0_268 (by decide) (by decide) ?_
          exact ⟨_, rfl, rfl, N0⟩
        · refine g_iloadN X10 hx hby i0_164 rfl ?_
          refine g_iload X10 hx hby i0_165 rfl ?_
          refine g_iload X10 hx hby i0_167 rfl ?_
          refine g_iload X10 hx hby i0_169 rfl ?_
          refine g_iload X10 hx hby i0_171 rfl ?_
          refine g_iload X10 hx hby i0_173 rfl ?_
          refine g_iload X10 hx hby i0_175 rfl ?_
          refine g_callS0 X10 hx hby hZ (y := (⟨"com/example/plantain/plantain/codec/ProfileNamedPinLaw", "make", "(ICCCCCC)Ljava/lang/String;"⟩ : MethodName)) (argsL := [(.int (6 : Int32)), (.int ch5), (.int ch6), (.int ch7), (.int ch8), (.int ch9), (.int ch10)]) (rest := []) hown (hw _ (List.mem_of_getElem? (i := 4) rfl)) (hw _ (List.mem_of_getElem? (i := 5) rfl)) (hw _ (List.mem_of_getElem? (i := 2) rfl)) (hw _ (List.mem_of_getElem? (i := 6) rfl)) (by decide) (rm2_6 l Z a0 hw [] (6 : Int32) ch5 ch6 ch7 ch8 ch9 ch10 cz h0 n0 Z0 S0 hcz O rfl hch5 hch6 hch7 hch8 hch9 hch10) e10 (by rw [hml]; rfl) pd_9 rfl rfl i0_177 (by decide) 0 rfl (by decide) (by decide) (by decide) fun T65 v65 L65 X65 q65 => ?_
          obtain ⟨_, rfl, a65, tb65, kt65, rfl, K65, E65, FV65, FC65, V65, sa65, N65⟩ := q65
          have N0 := Fr.app N0 N65
          have ne_ns_a65 : ns ≠ a65 := Nat.ne_of_lt (Nat.lt_of_lt_of_le (E_ns.ext O.2).lt sa65)
          have ne_ps_a65 : ps ≠ a65 := Nat.ne_of_lt (Nat.lt_of_lt_of_le (E_ps.ext O.2).lt sa65)
          have O := O.keep K65 all0
          have Z0 : n0 ≤ T65.heap.size := Nat.le_trans Z0 K65.1
          show Gd p e below _ T65 (mkF m 180 #[.val (.int p0), .val (.int p1), .val (.int p2), .val (.int (6 : Int32)), .val (.int (0 : Int32)), .val (.int (0 : Int32)), .val (.int (0 : Int32)), .val (.int ch5), .val (.int ch6), .val (.int ch7), .val (.int ch8), .val (.int ch9), .val (.int ch10), .unset, .unset] [(.ref a65)])
          refine g_astore X65 hx hby i0_180 rfl (l' := #[.val (.int p0), .val (.int p1), .val (.int p2), .val (.int (6 : Int32)), .val (.int (0 : Int32)), .val (.int (0 : Int32)), .val (.int (0 : Int32)), .val (.int ch5), .val (.int ch6), .val (.int ch7), .val (.int ch8), .val (.int ch9), .val (.int ch10), .val (.ref a65), .unset]) rfl ?_
          refine g_iloadN X65 hx hby i0_182 rfl ?_
          refine g_iconst X65 hx hby i0_183 (z := (4 : Int32)) (by decide) ?_
          refine g_icmp_ne X65 hx hby i0_184 (fun c184_66 => ?_) (fun c184_66 => False.elim (absurd c184_66 (by decide)))
          refine g_iloadN X65 hx hby i0_223 rfl ?_
          refine g_iconst X65 hx hby i0_224 (z := (2 : Int32)) (by decide) ?_
          refine g_icmp_ne X65 hx hby i0_225 (fun c225_67 => ?_) (fun c225_67 => False.elim (absurd c225_67 (by decide)))
          refine g_aconst_null X65 hx hby i0_250 ?_
          refine g_astore X65 hx hby i0_251 rfl (l' := #[.val (.int p0), .val (.int p1), .val (.int p2), .val (.int (6 : Int32)), .val (.int (0 : Int32)), .val (.int (0 : Int32)), .val (.int (0 : Int32)), .val (.int ch5), .val (.int ch6), .val (.int ch7), .val (.int ch8), .val (.int ch9), .val (.int ch10), .val (.ref a65), .val .null]) rfl ?_
          refine g_aload X65 hx hby i0_253 rfl rfl ?_
          refine g_callS0 X65 hx hby hZ (y := (⟨"com/example/plantain/plantain/codec/Profile", "named", "(Ljava/lang/String;)Lcom/example/plantain/plantain/codec/Profile;"⟩ : MethodName)) (argsL := [(.ref a65)]) (rest := []) hown (hw _ (List.mem_of_getElem? (i := 29) rfl)) (hw _ (List.mem_of_getElem? (i := 30) rfl)) (hw _ (List.mem_of_getElem? (i := 31) rfl)) (hw _ (List.mem_of_getElem? (i := 32) rfl)) (by decide) (rm6_6 l Z a0 hw [] a65 cz va na pa ns ps nb pb kv kn kp tb65 kt65 (nar .byte (nar .char ch5).toInt8.toInt32) (nar .byte (nar .char ch6).toInt8.toInt32) (nar .byte (nar .char ch7).toInt8.toInt32) (nar .byte (nar .char ch8).toInt8.toInt32) (nar .byte (nar .char ch9).toInt8.toInt32) (nar .byte (nar .char ch10).toInt8.toInt32) T65.heap n0 Z0 S0 hcz O SV SN SP E_va V_va E_na F_na E_ns FC_ns FV_ns V_nb E_pa F_pa E_ps FC_ps FV_ps V_pb E65 FC65 FV65 V65 ne_ns_a65 ne_ps_a65) rfl (by rw [hml]; rfl) pd_10 rfl rfl i0_255 (by decide) 0 rfl (by decide) (by decide) (by decide) fun T68 v68 L68 X68 q68 => ?_
          obtain ⟨_, rfl, rfl, K68, N68⟩ := q68
          have N0 := Fr.app N0 N68
          have E65 := E65.keep K68
          have FV65 := FV65.keep K68 nin0
          have FC65 := FC65.keep K68 nin0
          have V65 := V65.keep K68 nin0
          have O := O.keep K68 all0
          have Z0 : n0 ≤ T68.heap.size := Nat.le_trans Z0 K68.1
          show Gd p e below _ T68 (mkF m 258 #[.val (.int p0), .val (.int p1), .val (.int p2), .val (.int (6 : Int32)), .val (.int (0 : Int32)), .val (.int (0 : Int32)), .val (.int (0 : Int32)), .val (.int ch5), .val (.int ch6), .val (.int ch7), .val (.int ch8), .val (.int ch9), .val (.int ch10), .val (.ref a65), .val .null] [.null])
          refine g_aload X68 hx hby i0_258 rfl rfl ?_
          refine g_acmp_ne X68 hx hby i0_260 rfl rfl (fun c260_69 => False.elim (c260_69 rfl)) fun c260_69 => ?_
          refine g_iconst X68 hx hby i0_263 (z := (1 : Int32)) (by decide) ?_
          refine g_goto X68 hx hby i0_264 ?_
          refine Gd.toW ?_
          refine g_ireturnN X68 hx hby (ty := .boolean) hret (by simp) hlk i0_268 (by decide) (by decide) ?_
          exact ⟨_, rfl, rfl, N0⟩
      · subst c157_11
        · refine g_aconst_null X10 hx hby i0_160 ?_
          refine g_goto X10 hx hby i0_161 ?_
          refine g_astore X10 hx hby i0_180 rfl (l' := #[.val (.int p0), .val (.int p1), .val (.int p2), .val (.int (7 : Int32)), .val (.int (0 : Int32)), .val (.int (0 : Int32)), .val (.int (0 : Int32)), .val (.int ch5), .val (.int ch6), .val (.int ch7), .val (.int ch8), .val (.int ch9), .val (.int ch10), .val .null, .unset]) rfl ?_
          refine g_iloadN X10 hx hby i0_182 rfl ?_
          refine g_iconst X10 hx hby i0_183 (z := (4 : Int32)) (by decide) ?_
          refine g_icmp_ne X10 hx hby i0_184 (fun c184_70 => ?_) (fun c184_70 => False.elim (absurd c184_70 (by decide)))
          refine g_iloadN X10 hx hby i0_223 rfl ?_
          refine g_iconst X10 hx hby i0_224 (z := (2 : Int32)) (by decide) ?_
          refine g_icmp_ne X10 hx hby i0_225 (fun c225_71 => ?_) (fun c225_71 => False.elim (absurd c225_71 (by decide)))
          refine g_aconst_null X10 hx hby i0_250 ?_
          refine g_astore X10 hx hby i0_251 rfl (l' := #[.val (.int p0), .val (.int p1), .val (.int p2), .val (.int (7 : Int32)), .val (.int (0 : Int32)), .val (.int (0 : Int32)), .val (.int (0 : Int32)), .val (.int ch5), .val (.int ch6), .val (.int ch7), .val (.int ch8), .val (.int ch9), .val (.int ch10), .val .null, .val .null]) rfl ?_
          refine g_aload X10 hx hby i0_253 rfl rfl ?_
          refine g_callS0 X10 hx hby hZ (y := (⟨"com/example/plantain/plantain/codec/Profile", "named", "(Ljava/lang/String;)Lcom/example/plantain/plantain/codec/Profile;"⟩ : MethodName)) (argsL := [.null]) (rest := []) hown (hw _ (List.mem_of_getElem? (i := 29) rfl)) (hw _ (List.mem_of_getElem? (i := 30) rfl)) (hw _ (List.mem_of_getElem? (i := 31) rfl)) (hw _ (List.mem_of_getElem? (i := 32) rfl)) (by decide) (rm6_n l Z a0 hw [] cz va na pa ns ps nb pb kv kn kp h0 n0 Z0 S0 hcz O SV SN SP E_va V_va E_na F_na E_ns FC_ns FV_ns V_nb E_pa F_pa E_ps FC_ps FV_ps V_pb) e10 (by rw [hml]; rfl) pd_10 rfl rfl i0_255 (by decide) 0 rfl (by decide) (by decide) (by decide) fun T72 v72 L72 X72 q72 => ?_
          obtain ⟨_, rfl, rfl, K72, N72⟩ := q72
          have N0 := Fr.app N0 N72
          have O := O.keep K72 all0
          have Z0 : n0 ≤ T72.heap.size := Nat.le_trans Z0 K72.1
          show Gd p e below _ T72 (mkF m 258 #[.val (.int p0), .val (.int p1), .val (.int p2), .val (.int (7 : Int32)), .val (.int (0 : Int32)), .val (.int (0 : Int32)), .val (.int (0 : Int32)), .val (.int ch5), .val (.int ch6), .val (.int ch7), .val (.int ch8), .val (.int ch9), .val (.int ch10), .val .null, .val .null] [.null])
          refine g_aload X72 hx hby i0_258 rfl rfl ?_
          refine g_acmp_ne X72 hx hby i0_260 rfl rfl (fun c260_73 => False.elim (c260_73 rfl)) fun c260_73 => ?_
          refine g_iconst X72 hx hby i0_263 (z := (1 : Int32)) (by decide) ?_
          refine g_goto X72 hx hby i0_264 ?_
          refine Gd.toW ?_
          refine g_ireturnN X72 hx hby (ty := .boolean) hret (by simp) hlk i0_268 (by decide) (by decide) ?_
          exact ⟨_, rfl, rfl, N0⟩
    · refine g_iconst X0 hx hby i0_28 (z := (1 : Int32)) (by decide) ?_
      refine g_goto X0 hx hby i0_29 ?_
      refine g_istore X0 hx hby i0_33 (l' := #[.val (.int p0), .val (.int p1), .val (.int p2), .val (.int v1), .val (.int (0 : Int32)), .val (.int (1 : Int32)), .unset, .unset, .unset, .unset, .unset, .unset, .unset, .unset, .unset]) rfl ?_
      refine g_iload X0 hx hby i0_35 rfl ?_
      refine g_if_eq X0 hx hby i0_37 (fun c37_74 => False.elim (absurd c37_74 (by decide))) fun c37_74 => ?_
      refine g_iloadN X0 hx hby i0_40 rfl ?_
      refine g_iconst X0 hx hby i0_41 (z := (5 : Int32)) (by decide) ?_
      refine g_ishr X0 hx hby i0_42 ?_
      refine g_bipush X0 hx hby i0_43 (z := (63 : Int32)) (by decide) ?_
      refine g_iand X0 hx hby i0_45 ?_
      refine g_goto X0 hx hby i0_46 ?_
      refine g_istoreW X0 hx hby i0_50 (l' := fun v75 => #[.val (.int p0), .val (.int p1), .val (.int p2), .val (.int v1), .val (.int (0 : Int32)), .val (.int (1 : Int32)), .val (.int v75), .unset, .unset, .unset, .unset, .unset, .unset, .unset, .unset]) (fun _ => rfl) fun v75 hv75 => ?_
      refine g_iload X0 hx hby i0_52 rfl ?_
      refine g_iconst X0 hx hby i0_54 (z := (0 : Int32)) (by decide) ?_
      refine g_iload X0 hx hby i0_55 rfl ?_
      refine g_iloadN X0 hx hby i0_57 rfl ?_
      refine g_sipush X0 hx hby i0_58 (z := (255 : Int32)) (by decide) ?_
      refine g_iand X0 hx hby i0_61 ?_
      refine g_callS0 X0 hx hby hZ (y := (⟨"com/example/plantain/plantain/codec/ProfileNamedPinLaw", "pick", "(ZIII)C"⟩ : MethodName)) (argsL := [(.int (0 : Int32)), (.int (0 : Int32)), (.int v75), (.int (p1 &&& (255 : Int32)))]) (rest := []) hown (hw _ (List.mem_of_getElem? (i := 0) rfl)) (hw _ (List.mem_of_getElem? (i := 1) rfl)) (hw _ (List.mem_of_getElem? (i := 2) rfl)) (hw _ (List.mem_of_getElem? (i := 3) rfl)) (by decide) (rm1 l Z a0 hw [] (0 : Int32) (0 : Int32) v75 (p1 &&& (255 : Int32)) h0 n0 Z0 ⟨_, rfl⟩) e0 (by rw [hml]; rfl) pd_8 rfl rfl i0_62 (by decide) 0 rfl (by decide) (by decide) (by decide) fun T76 v76 L76 X76 q76 => ?_
      obtain ⟨_, rfl, ch76, rfl, hch76, e76, N76⟩ := q76
      have N0 := Fr.app N0 N76
      show Gd p e below _ T76 (mkF m 65 #[.val (.int p0), .val (.int p1), .val (.int p2), .val (.int v1), .val (.int (0 : Int32)), .val (.int (1 : Int32)), .val (.int v75), .unset, .unset, .unset, .unset, .unset, .unset, .unset, .unset] [(.int ch76)])
      refine g_istore X76 hx hby i0_65 (l' := #[.val (.int p0), .val (.int p1), .val (.int p2), .val (.int v1), .val (.int (0 : Int32)), .val (.int (1 : Int32)), .val (.int v75), .val (.int ch76), .unset, .unset, .unset, .unset, .unset, .unset, .unset]) rfl ?_
      refine g_iload X76 hx hby i0_67 rfl ?_
      refine g_iconst X76 hx hby i0_69 (z := (1 : Int32)) (by decide) ?_
      refine g_iload X76 hx hby i0_70 rfl ?_
      refine g_iloadN X76 hx hby i0_72 rfl ?_
      refine g_bipush X76 hx hby i0_73 (z := (8 : Int32)) (by decide) ?_
      refine g_iushr X76 hx hby i0_75 ?_
      refine g_sipush X76 hx hby i0_76 (z := (255 : Int32)) (by decide) ?_
      refine g_iand X76 hx hby i0_79 ?_
      refine g_callS0 X76 hx hby hZ (y := (⟨"com/example/plantain/plantain/codec/ProfileNamedPinLaw", "pick", "(ZIII)C"⟩ : MethodName)) (argsL := [(.int (0 : Int32)), (.int (1 : Int32)), (.int v75), (.int (((p1.toUInt32 >>> ((8 : Int32) &&& 31).toUInt32).toInt32) &&& (255 : Int32)))]) (rest := []) hown (hw _ (List.mem_of_getElem? (i := 0) rfl)) (hw _ (List.mem_of_getElem? (i := 1) rfl)) (hw _ (List.mem_of_getElem? (i := 2) rfl)) (hw _ (List.mem_of_getElem? (i := 3) rfl)) (by decide) (rm1 l Z a0 hw [] (0 : Int32) (1 : Int32) v75 (((p1.toUInt32 >>> ((8 : Int32) &&& 31).toUInt32).toInt32) &&& (255 : Int32)) h0 n0 Z0 ⟨_, rfl⟩) e76 (by rw [hml]; rfl) pd_8 rfl rfl i0_80 (by decide) 0 rfl (by decide) (by decide) (by decide) fun T77 v77 L77 X77 q77 => ?_
      obtain ⟨_, rfl, ch77, rfl, hch77, e77, N77⟩ := q77
      have N0 := Fr.app N0 N77
      show Gd p e below _ T77 (mkF m 83 #[.val (.int p0), .val (.int p1), .val (.int p2), .val (.int v1), .val (.int (0 : Int32)), .val (.int (1 : Int32)), .val (.int v75), .val (.int ch76), .unset, .unset, .unset, .unset, .unset, .unset, .unset] [(.int ch77)])
      refine g_istore X77 hx hby i0_83 (l' := #[.val (.int p0), .val (.int p1), .val (.int p2), .val (.int v1), .val (.int (0 : Int32)), .val (.int (1 : Int32)), .val (.int v75), .val (.int ch76), .val (.int ch77), .unset, .unset, .unset, .unset, .unset, .unset]) rfl ?_
      refine g_iload X77 hx hby i0_85 rfl ?_
      refine g_iconst X77 hx hby i0_87 (z := (2 : Int32)) (by decide) ?_
      refine g_iload X77 hx hby i0_88 rfl ?_
      refine g_iloadN X77 hx hby i0_90 rfl ?_
      refine g_bipush X77 hx hby i0_91 (z := (16 : Int32)) (by decide) ?_
      refine g_iushr X77 hx hby i0_93 ?_
      refine g_sipush X77 hx hby i0_94 (z := (255 : Int32)) (by decide) ?_
      refine g_iand X77 hx hby i0_97 ?_
      refine g_callS0 X77 hx hby hZ (y := (⟨"com/example/plantain/plantain/codec/ProfileNamedPinLaw", "pick", "(ZIII)C"⟩ : MethodName)) (argsL := [(.int (0 : Int32)), (.int (2 : Int32)), (.int v75), (.int (((p1.toUInt32 >>> ((16 : Int32) &&& 31).toUInt32).toInt32) &&& (255 : Int32)))]) (rest := []) hown (hw _ (List.mem_of_getElem? (i := 0) rfl)) (hw _ (List.mem_of_getElem? (i := 1) rfl)) (hw _ (List.mem_of_getElem? (i := 2) rfl)) (hw _ (List.mem_of_getElem? (i := 3) rfl)) (by decide) (rm1 l Z a0 hw [] (0 : Int32) (2 : Int32) v75 (((p1.toUInt32 >>> ((16 : Int32) &&& 31).toUInt32).toInt32) &&& (255 : Int32)) h0 n0 Z0 ⟨_, rfl⟩) e77 (by rw [hml]; rfl) pd_8 rfl rfl i0_98 (by decide) 0 rfl (by decide) (by decide) (by decide) fun T78 v78 L78 X78 q78 => ?_
      obtain ⟨_, rfl, ch78, rfl, hch78, e78, N78⟩ := q78
      have N0 := Fr.app N0 N78
      show Gd p e below _ T78 (mkF m 101 #[.val (.int p0), .val (.int p1), .val (.int p2), .val (.int v1), .val (.int (0 : Int32)), .val (.int (1 : Int32)), .val (.int v75), .val (.int ch76), .val (.int ch77), .unset, .unset, .unset, .unset, .unset, .unset] [(.int ch78)])
      refine g_istore X78 hx hby i0_101 (l' := #[.val (.int p0), .val (.int p1), .val (.int p2), .val (.int v1), .val (.int (0 : Int32)), .val (.int (1 : Int32)), .val (.int v75), .val (.int ch76), .val (.int ch77), .val (.int ch78), .unset, .unset, .unset, .unset, .unset]) rfl ?_
      refine g_iload X78 hx hby i0_103 rfl ?_
      refine g_iconst X78 hx hby i0_105 (z := (3 : Int32)) (by decide) ?_
      refine g_iload X78 hx hby i0_106 rfl ?_
      refine g_iloadN X78 hx hby i0_108 rfl ?_
      refine g_bipush X78 hx hby i0_109 (z := (24 : Int32)) (by decide) ?_
      refine g_iushr X78 hx hby i0_111 ?_
      refine g_sipush X78 hx hby i0_112 (z := (255 : Int32)) (by decide) ?_
      refine g_iand X78 hx hby i0_115 ?_
      refine g_callS0 X78 hx hby hZ (y := (⟨"com/example/plantain/plantain/codec/ProfileNamedPinLaw", "pick", "(ZIII)C"⟩ : MethodName)) (argsL := [(.int (0 : Int32)), (.int (3 : Int32)), (.int v75), (.int (((p1.toUInt32 >>> ((24 : Int32) &&& 31).toUInt32).toInt32) &&& (255 : Int32)))]) (rest := []) hown (hw _ (List.mem_of_getElem? (i := 0) rfl)) (hw _ (List.mem_of_getElem? (i := 1) rfl)) (hw _ (List.mem_of_getElem? (i := 2) rfl)) (hw _ (List.mem_of_getElem? (i := 3) rfl)) (by decide) (rm1 l Z a0 hw [] (0 : Int32) (3 : Int32) v75 (((p1.toUInt32 >>> ((24 : Int32) &&& 31).toUInt32).toInt32) &&& (255 : Int32)) h0 n0 Z0 ⟨_, rfl⟩) e78 (by rw [hml]; rfl) pd_8 rfl rfl i0_116 (by decide) 0 rfl (by decide) (by decide) (by decide) fun T79 v79 L79 X79 q79 => ?_
      obtain ⟨_, rfl, ch79, rfl, hch79, e79, N79⟩ := q79
      have N0 := Fr.app N0 N79
      show Gd p e below _ T79 (mkF m 119 #[.val (.int p0), .val (.int p1), .val (.int p2), .val (.int v1), .val (.int (0 : Int32)), .val (.int (1 : Int32)), .val (.int v75), .val (.int ch76), .val (.int ch77), .val (.int ch78), .unset, .unset, .unset, .unset, .unset] [(.int ch79)])
      refine g_istore X79 hx hby i0_119 (l' := #[.val (.int p0), .val (.int p1), .val (.int p2), .val (.int v1), .val (.int (0 : Int32)), .val (.int (1 : Int32)), .val (.int v75), .val (.int ch76), .val (.int ch77), .val (.int ch78), .val (.int ch79), .unset, .unset, .unset, .unset]) rfl ?_
      refine g_iload X79 hx hby i0_121 rfl ?_
      refine g_iconst X79 hx hby i0_123 (z := (4 : Int32)) (by decide) ?_
      refine g_iload X79 hx hby i0_124 rfl ?_
      refine g_iloadN X79 hx hby i0_126 rfl ?_
      refine g_sipush X79 hx hby i0_127 (z := (255 : Int32)) (by decide) ?_
      refine g_iand X79 hx hby i0_130 ?_
      refine g_callS0 X79 hx hby hZ (y := (⟨"com/example/plantain/plantain/codec/ProfileNamedPinLaw", "pick", "(ZIII)C"⟩ : MethodName)) (argsL := [(.int (0 : Int32)), (.int (4 : Int32)), (.int v75), (.int (p2 &&& (255 : Int32)))]) (rest := []) hown (hw _ (List.mem_of_getElem? (i := 0) rfl)) (hw _ (List.mem_of_getElem? (i := 1) rfl)) (hw _ (List.mem_of_getElem? (i := 2) rfl)) (hw _ (List.mem_of_getElem? (i := 3) rfl)) (by decide) (rm1 l Z a0 hw [] (0 : Int32) (4 : Int32) v75 (p2 &&& (255 : Int32)) h0 n0 Z0 ⟨_, rfl⟩) e79 (by rw [hml]; rfl) pd_8 rfl rfl i0_131 (by decide) 0 rfl (by decide) (by decide) (by decide) fun T80 v80 L80 X80 q80 => ?_
      obtain ⟨_, rfl, ch80, rfl, hch80, e80, N80⟩ := q80
      have N0 := Fr.app N0 N80
      show Gd p e below _ T80 (mkF m 134 #[.val (.int p0), .val (.int p1), .val (.int p2), .val (.int v1), .val (.int (0 : Int32)), .val (.int (1 : Int32)), .val (.int v75), .val (.int ch76), .val (.int ch77), .val (.int ch78), .val (.int ch79), .unset, .unset, .unset, .unset] [(.int ch80)])
      refine g_istore X80 hx hby i0_134 (l' := #[.val (.int p0), .val (.int p1), .val (.int p2), .val (.int v1), .val (.int (0 : Int32)), .val (.int (1 : Int32)), .val (.int v75), .val (.int ch76), .val (.int ch77), .val (.int ch78), .val (.int ch79), .val (.int ch80), .unset, .unset, .unset]) rfl ?_
      refine g_iload X80 hx hby i0_136 rfl ?_
      refine g_iconst X80 hx hby i0_138 (z := (5 : Int32)) (by decide) ?_
      refine g_iload X80 hx hby i0_139 rfl ?_
      refine g_iloadN X80 hx hby i0_141 rfl ?_
      refine g_bipush X80 hx hby i0_142 (z := (8 : Int32)) (by decide) ?_
      refine g_iushr X80 hx hby i0_144 ?_
      refine g_sipush X80 hx hby i0_145 (z := (255 : Int32)) (by decide) ?_
      refine g_iand X80 hx hby i0_148 ?_
      refine g_callS0 X80 hx hby hZ (y := (⟨"com/example/plantain/plantain/codec/ProfileNamedPinLaw", "pick", "(ZIII)C"⟩ : MethodName)) (argsL := [(.int (0 : Int32)), (.int (5 : Int32)), (.int v75), (.int (((p2.toUInt32 >>> ((8 : Int32) &&& 31).toUInt32).toInt32) &&& (255 : Int32)))]) (rest := []) hown (hw _ (List.mem_of_getElem? (i := 0) rfl)) (hw _ (List.mem_of_getElem? (i := 1) rfl)) (hw _ (List.mem_of_getElem? (i := 2) rfl)) (hw _ (List.mem_of_getElem? (i := 3) rfl)) (by decide) (rm1 l Z a0 hw [] (0 : Int32) (5 : Int32) v75 (((p2.toUInt32 >>> ((8 : Int32) &&& 31).toUInt32).toInt32) &&& (255 : Int32)) h0 n0 Z0 ⟨_, rfl⟩) e80 (by rw [hml]; rfl) pd_8 rfl rfl i0_149 (by decide) 0 rfl (by decide) (by decide) (by decide) fun T81 v81 L81 X81 q81 => ?_
      obtain ⟨_, rfl, ch81, rfl, hch81, e81, N81⟩ := q81
      have N0 := Fr.app N0 N81
      show Gd p e below _ T81 (mkF m 152 #[.val (.int p0), .val (.int p1), .val (.int p2), .val (.int v1), .val (.int (0 : Int32)), .val (.int (1 : Int32)), .val (.int v75), .val (.int ch76), .val (.int ch77), .val (.int ch78), .val (.int ch79), .val (.int ch80), .unset, .unset, .unset] [(.int ch81)])
      refine g_istore X81 hx hby i0_152 (l' := #[.val (.int p0), .val (.int p1), .val (.int p2), .val (.int v1), .val (.int (0 : Int32)), .val (.int (1 : Int32)), .val (.int v75), .val (.int ch76), .val (.int ch77), .val (.int ch78), .val (.int ch79), .val (.int ch80), .val (.int ch81), .unset, .unset]) rfl ?_
      refine g_iloadN X81 hx hby i0_154 rfl ?_
      refine g_bipush X81 hx hby i0_155 (z := (7 : Int32)) (by decide) ?_
      refine g_icmp_ne X81 hx hby i0_157 (fun c157_82 => ?_) (fun c157_82 => ?_)
      · rcases own_cases hv1 c157_82 with rfl | rfl | rfl | rfl | rfl | rfl | rfl
        · refine g_iloadN X81 hx hby i0_164 rfl ?_
          refine g_iload X81 hx hby i0_165 rfl ?_
          refine g_iload X81 hx hby i0_167 rfl ?_
          refine g_iload X81 hx hby i0_169 rfl ?_
          refine g_iload X81 hx hby i0_171 rfl ?_
          refine g_iload X81 hx hby i0_173 rfl ?_
          refine g_iload X81 hx hby i0_175 rfl ?_
          refine g_callSW X81 hx hby hZ hI (y := (⟨"com/example/plantain/plantain/codec/ProfileNamedPinLaw", "make", "(ICCCCCC)Ljava/lang/String;"⟩ : MethodName)) (argsL := [(.int (0 : Int32)), (.int ch76), (.int ch77), (.int ch78), (.int ch79), (.int ch80), (.int ch81)]) (rest := []) hown (hw _ (List.mem_of_getElem? (i := 4) rfl)) (hw _ (List.mem_of_getElem? (i := 5) rfl)) (hw _ (List.mem_of_getElem? (i := 2) rfl)) (hw _ (List.mem_of_getElem? (i := 6) rfl)) (by decide) (rm2_0 l Z a0 hw [] (0 : Int32) ch76 ch77 ch78 ch79 ch80 ch81 cz h0 n0 Z0 S0 hcz O hh hcw rfl hch76 hch77 hch78 hch79 hch80 hch81) e81 (by rw [hml]; rfl) pd_9 rfl rfl i0_177 (by decide) 0 rfl (by decide) (by decide) (by decide) fun T83 v83 L83 X83 hS hZ hown q83 => ?_
          obtain ⟨_, rfl, a83, tb83, kt83, rfl, K83, E83, FV83, FC83, V83, sa83, N83⟩ := q83
          have N0 := Fr.app N0 N83
          have Zk : T83.heap.size ≤ T83.heap.size := Nat.le_refl _
          have ne_ns_a83 : ns ≠ a83 := Nat.ne_of_lt (Nat.lt_of_lt_of_le (E_ns.ext O.2).lt sa83)
          have ne_ps_a83 : ps ≠ a83 := Nat.ne_of_lt (Nat.lt_of_lt_of_le (E_ps.ext O.2).lt sa83)
          have O := O.keep K83 all0
          have Z0 : n0 ≤ T83.heap.size := Nat.le_trans Z0 K83.1
          show Gd p e below _ T83 (mkF m 180 #[.val (.int p0), .val (.int p1), .val (.int p2), .val (.int (0 : Int32)), .val (.int (0 : Int32)), .val (.int (1 : Int32)), .val (.int v75), .val (.int ch76), .val (.int ch77), .val (.int ch78), .val (.int ch79), .val (.int ch80), .val (.int ch81), .unset, .unset] [(.ref a83)])
          refine g_astore X83 hx hby i0_180 rfl (l' := #[.val (.int p0), .val (.int p1), .val (.int p2), .val (.int (0 : Int32)), .val (.int (0 : Int32)), .val (.int (1 : Int32)), .val (.int v75), .val (.int ch76), .val (.int ch77), .val (.int ch78), .val (.int ch79), .val (.int ch80), .val (.int ch81), .val (.ref a83), .unset]) rfl ?_
          refine g_iloadN X83 hx hby i0_182 rfl ?_
          refine g_iconst X83 hx hby i0_183 (z := (4 : Int32)) (by decide) ?_
          refine g_icmp_ne X83 hx hby i0_184 (fun c184_84 => ?_) (fun c184_84 => False.elim (absurd c184_84 (by decide)))
          refine g_iloadN X83 hx hby i0_223 rfl ?_
          refine g_iconst X83 hx hby i0_224 (z := (2 : Int32)) (by decide) ?_
          refine g_icmp_ne X83 hx hby i0_225 (fun c225_85 => ?_) (fun c225_85 => False.elim (absurd c225_85 (by decide)))
          refine g_aconst_null X83 hx hby i0_250 ?_
          refine g_astore X83 hx hby i0_251 rfl (l' := #[.val (.int p0), .val (.int p1), .val (.int p2), .val (.int (0 : Int32)), .val (.int (0 : Int32)), .val (.int (1 : Int32)), .val (.int v75), .val (.int ch76), .val (.int ch77), .val (.int ch78), .val (.int ch79), .val (.int ch80), .val (.int ch81), .val (.ref a83), .val .null]) rfl ?_
          refine g_aload X83 hx hby i0_253 rfl rfl ?_
          refine g_callS0 X83 hx hby hZ (y := (⟨"com/example/plantain/plantain/codec/Profile", "named", "(Ljava/lang/String;)Lcom/example/plantain/plantain/codec/Profile;"⟩ : MethodName)) (argsL := [(.ref a83)]) (rest := []) hown (hw _ (List.mem_of_getElem? (i := 29) rfl)) (hw _ (List.mem_of_getElem? (i := 30) rfl)) (hw _ (List.mem_of_getElem? (i := 31) rfl)) (hw _ (List.mem_of_getElem? (i := 32) rfl)) (by decide) (rm6_0 l Z a0 hw [] a83 cz va na pa ns ps nb pb kv kn kp tb83 kt83  T83.heap n0 Z0 S0 hcz O SV SN SP E_va V_va E_na F_na E_ns FC_ns FV_ns V_nb E_pa F_pa E_ps FC_ps FV_ps V_pb E83 FC83 FV83 V83 ne_ns_a83 ne_ps_a83) rfl (by rw [hml]; rfl) pd_10 rfl rfl i0_255 (by decide) 0 rfl (by decide) (by decide) (by decide) fun T86 v86 L86 X86 q86 => ?_
          obtain ⟨_, rfl, rfl, K86, N86⟩ := q86
          have N0 := Fr.app N0 N86
          have E83 := E83.keep K86
          have FV83 := FV83.keep K86 nin0
          have FC83 := FC83.keep K86 nin0
          have V83 := V83.keep K86 nin0
          have O := O.keep K86 all0
          have Z0 : n0 ≤ T86.heap.size := Nat.le_trans Z0 K86.1
          have Zk : T83.heap.size ≤ T86.heap.size := Nat.le_trans Zk K86.1
          show Gd p e below _ T86 (mkF m 258 #[.val (.int p0), .val (.int p1), .val (.int p2), .val (.int (0 : Int32)), .val (.int (0 : Int32)), .val (.int (1 : Int32)), .val (.int v75), .val (.int ch76), .val (.int ch77), .val (.int ch78), .val (.int ch79), .val (.int ch80), .val (.int ch81), .val (.ref a83), .val .null] [.null])
          refine g_aload X86 hx hby i0_258 rfl rfl ?_
          refine g_acmp_ne X86 hx hby i0_260 rfl rfl (fun c260_87 => False.elim (c260_87 rfl)) fun c260_87 => ?_
          refine g_iconst X86 hx hby i0_263 (z := (1 : Int32)) (by decide) ?_
          refine g_goto X86 hx hby i0_264 ?_
          refine g_ireturnNW X86 hx hby hS Zk (ty := .boolean) hret (by simp) hlk i0_268 (by decide) (by decide) ?_
          exact ⟨_, rfl, rfl, N0⟩
        · refine g_iloadN X81 hx hby i0_164 rfl ?_
          refine g_iload X81 hx hby i0_165 rfl ?_
          refine g_iload X81 hx hby i0_167 rfl ?_
          refine g_iload X81 hx hby i0_169 rfl ?_
          refine g_iload X81 hx hby i0_171 rfl ?_
          refine g_iload X81 hx hby i0_173 rfl ?_
          refine g_iload X81 hx hby i0_175 rfl ?_
          refine g_callS0 X81 hx hby hZ (y := (⟨"com/example/plantain/plantain/codec/ProfileNamedPinLaw", "make", "(ICCCCCC)Ljava/lang/String;"⟩ : MethodName)) (argsL := [(.int (1 : Int32)), (.int ch76), (.int ch77), (.int ch78), (.int ch79), (.int ch80), (.int ch81)]) (rest := []) hown (hw _ (List.mem_of_getElem? (i := 4) rfl)) (hw _ (List.mem_of_getElem? (i := 5) rfl)) (hw _ (List.mem_of_getElem? (i := 2) rfl)) (hw _ (List.mem_of_getElem? (i := 6) rfl)) (by decide) (rm2_1 l Z a0 hw [] (1 : Int32) ch76 ch77 ch78 ch79 ch80 ch81 cz h0 n0 Z0 S0 hcz O rfl hch76 hch77 hch78 hch79 hch80 hch81) e81 (by rw [hml]; rfl) pd_9 rfl rfl i0_177 (by decide) 0 rfl (by decide) (by decide) (by decide) fun T88 v88 L88 X88 q88 => ?_
          obtain ⟨_, rfl, a88, tb88, kt88, rfl, K88, E88, FV88, FC88, V88, sa88, N88⟩ := q88
          have N0 := Fr.app N0 N88
          have ne_ns_a88 : ns ≠ a88 := Nat.ne_of_lt (Nat.lt_of_lt_of_le (E_ns.ext O.2).lt sa88)
          have ne_ps_a88 : ps ≠ a88 := Nat.ne_of_lt (Nat.lt_of_lt_of_le (E_ps.ext O.2).lt sa88)
          have O := O.keep K88 all0
          have Z0 : n0 ≤ T88.heap.size := Nat.le_trans Z0 K88.1
          show Gd p e below _ T88 (mkF m 180 #[.val (.int p0), .val (.int p1), .val (.int p2), .val (.int (1 : Int32)), .val (.int (0 : Int32)), .val (.int (1 : Int32)), .val (.int v75), .val (.int ch76), .val (.int ch77), .val (.int ch78), .val (.int ch79), .val (.int ch80), .val (.int ch81), .unset, .unset] [(.ref a88)])
          refine g_astore X88 hx hby i0_180 rfl (l' := #[.val (.int p0), .val (.int p1), .val (.int p2), .val (.int (1 : Int32)), .val (.int (0 : Int32)), .val (.int (1 : Int32)), .val (.int v75), .val (.int ch76), .val (.int ch77), .val (.int ch78), .val (.int ch79), .val (.int ch80), .val (.int ch81), .val (.ref a88), .unset]) rfl ?_
          refine g_iloadN X88 hx hby i0_182 rfl ?_
          refine g_iconst X88 hx hby i0_183 (z := (4 : Int32)) (by decide) ?_
          refine g_icmp_ne X88 hx hby i0_184 (fun c184_89 => ?_) (fun c184_89 => False.elim (absurd c184_89 (by decide)))
          refine g_iloadN X88 hx hby i0_223 rfl ?_
          refine g_iconst X88 hx hby i0_224 (z := (2 : Int32)) (by decide) ?_
          refine g_icmp_ne X88 hx hby i0_225 (fun c225_90 => ?_) (fun c225_90 => False.elim (absurd c225_90 (by decide)))
          refine g_aconst_null X88 hx hby i0_250 ?_
          refine g_astore X88 hx hby i0_251 rfl (l' := #[.val (.int p0), .val (.int p1), .val (.int p2), .val (.int (1 : Int32)), .val (.int (0 : Int32)), .val (.int (1 : Int32)), .val (.int v75), .val (.int ch76), .val (.int ch77), .val (.int ch78), .val (.int ch79), .val (.int ch80), .val (.int ch81), .val (.ref a88), .val .null]) rfl ?_
          refine g_aload X88 hx hby i0_253 rfl rfl ?_
          refine g_callS0 X88 hx hby hZ (y := (⟨"com/example/plantain/plantain/codec/Profile", "named", "(Ljava/lang/String;)Lcom/example/plantain/plantain/codec/Profile;"⟩ : MethodName)) (argsL := [(.ref a88)]) (rest := []) hown (hw _ (List.mem_of_getElem? (i := 29) rfl)) (hw _ (List.mem_of_getElem? (i := 30) rfl)) (hw _ (List.mem_of_getElem? (i := 31) rfl)) (hw _ (List.mem_of_getElem? (i := 32) rfl)) (by decide) (rm6_1 l Z a0 hw [] a88 cz va na pa ns ps nb pb kv kn kp tb88 kt88 (nar .byte (nar .char ch76).toInt8.toInt32) T88.heap n0 Z0 S0 hcz O SV SN SP E_va V_va E_na F_na E_ns FC_ns FV_ns V_nb E_pa F_pa E_ps FC_ps FV_ps V_pb E88 FC88 FV88 V88 ne_ns_a88 ne_ps_a88) rfl (by rw [hml]; rfl) pd_10 rfl rfl i0_255 (by decide) 0 rfl (by decide) (by decide) (by decide) fun T91 v91 L91 X91 q91 => ?_
          obtain ⟨_, rfl, rfl, K91, N91⟩ := q91
          have N0 := Fr.app N0 N91
          have E88 := E88.keep K91
          have FV88 := FV88.keep K91 nin0
          have FC88 := FC88.keep K91 nin0
          have V88 := V88.keep K91 nin0
          have O := O.keep K91 all0
          have Z0 : n0 ≤ T91.heap.size := Nat.le_trans Z0 K91.1
          show Gd p e below _ T91 (mkF m 258 #[.val (.int p0), .val (.int p1), .val (.int p2), .val (.int (1 : Int32)), .val (.int (0 : Int32)), .val (.int (1 : Int32)), .val (.int v75), .val (.int ch76), .val (.int ch77), .val (.int ch78), .val (.int ch79), .val (.int ch80), .val (.int ch81), .val (.ref a88), .val .null] [.null])
          refine g_aload X91 hx hby i0_258 rfl rfl ?_
          refine g_acmp_ne X91 hx hby i0_260 rfl rfl (fun c260_92 => False.elim (c260_92 rfl)) fun c260_92 => ?_
          refine g_iconst X91 hx hby i0_263 (z := (1 : Int32)) (by decide) ?_
          refine g_goto X91 hx hby i0_264 ?_
          refine Gd.toW ?_
          refine g_ireturnN X91 hx hby (ty := .boolean) hret (by simp) hlk i0_268 (by decide) (by decide) ?_
          exact ⟨_, rfl, rfl, N0⟩
        · refine g_iloadN X81 hx hby i0_164 rfl ?_
          refine g_iload X81 hx hby i0_165 rfl ?_
          refine g_iload X81 hx hby i0_167 rfl ?_
          refine g_iload X81 hx hby i0_169 rfl ?_
          refine g_iload X81 hx hby i0_171 rfl ?_
          refine g_iload X81 hx hby i0_173 rfl ?_
          refine g_iload X81 hx hby i0_175 rfl ?_
          refine g_callS0 X81 hx hby hZ (y := (⟨"com/example/plantain/plantain/codec/ProfileNamedPinLaw", "make", "(ICCCCCC)Ljava/lang/String;"⟩ : MethodName)) (argsL := [(.int (2 : Int32)), (.int ch76), (.int ch77), (.int ch78), (.int ch79), (.int ch80), (.int ch81)]) (rest := []) hown (hw _ (List.mem_of_getElem? (i := 4) rfl)) (hw _ (List.mem_of_getElem? (i := 5) rfl)) (hw _ (List.mem_of_getElem? (i := 2) rfl)) (hw _ (List.mem_of_getElem? (i := 6) rfl)) (by decide) (rm2_2 l Z a0 hw [] (2 : Int32) ch76 ch77 ch78 ch79 ch80 ch81 cz h0 n0 Z0 S0 hcz O rfl hch76 hch77 hch78 hch79 hch80 hch81) e81 (by rw [hml]; rfl) pd_9 rfl rfl i0_177 (by decide) 0 rfl (by decide) (by decide) (by decide) fun T93 v93 L93 X93 q93 => ?_
          obtain ⟨_, rfl, a93, tb93, kt93, rfl, K93, E93, FV93, FC93, V93, sa93, N93⟩ := q93
          have N0 := Fr.app N0 N93
          have ne_ns_a93 : ns ≠ a93 := Nat.ne_of_lt (Nat.lt_of_lt_of_le (E_ns.ext O.2).lt sa93)
          have ne_ps_a93 : ps ≠ a93 := Nat.ne_of_lt (Nat.lt_of_lt_of_le (E_ps.ext O.2).lt sa93)
          have O := O.keep K93 all0
          have Z0 : n0 ≤ T93.heap.size := Nat.le_trans Z0 K93.1
          show Gd p e below _ T93 (mkF m 180 #[.val (.int p0), .val (.int p1), .val (.int p2), .val (.int (2 : Int32)), .val (.int (0 : Int32)), .val (.int (1 : Int32)), .val (.int v75), .val (.int ch76), .val (.int ch77), .val (.int ch78), .val (.int ch79), .val (.int ch80), .val (.int ch81), .unset, .unset] [(.ref a93)])
          refine g_astore X93 hx hby i0_180 rfl (l' := #[.val (.int p0), .val (.int p1), .val (.int p2), .val (.int (2 : Int32)), .val (.int (0 : Int32)), .val (.int (1 : Int32)), .val (.int v75), .val (.int ch76), .val (.int ch77), .val (.int ch78), .val (.int ch79), .val (.int ch80), .val (.int ch81), .val (.ref a93), .unset]) rfl ?_
          refine g_iloadN X93 hx hby i0_182 rfl ?_
          refine g_iconst X93 hx hby i0_183 (z := (4 : Int32)) (by decide) ?_
          refine g_icmp_ne X93 hx hby i0_184 (fun c184_94 => ?_) (fun c184_94 => False.elim (absurd c184_94 (by decide)))
          refine g_iloadN X93 hx hby i0_223 rfl ?_
          refine g_iconst X93 hx hby i0_224 (z := (2 : Int32)) (by decide) ?_
          refine g_icmp_ne X93 hx hby i0_225 (fun c225_95 => False.elim (absurd c225_95 (by decide))) fun c225_95 => ?_
          refine g_iload X93 hx hby i0_228 rfl ?_
          refine g_bipush X93 hx hby i0_230 (z := (112 : Int32)) (by decide) ?_
          refine g_icmp_ne X93 hx hby i0_232 (fun c232_96 => ?_) (fun c232_96 => ?_)
          · refine g_aconst_null X93 hx hby i0_250 ?_
            refine g_astore X93 hx hby i0_251 rfl (l' := #[.val (.int p0), .val (.int p1), .val (.int p2), .val (.int (2 : Int32)), .val (.int (0 : Int32)), .val (.int (1 : Int32)), .val (.int v75), .val (.int ch76), .val (.int ch77), .val (.int ch78), .val (.int ch79), .val (.int ch80), .val (.int ch81), .val (.ref a93), .val .null]) rfl ?_
            refine g_aload X93 hx hby i0_253 rfl rfl ?_
            refine g_callS0 X93 hx hby hZ (y := (⟨"com/example/plantain/plantain/codec/Profile", "named", "(Ljava/lang/String;)Lcom/example/plantain/plantain/codec/Profile;"⟩ : MethodName)) (argsL := [(.ref a93)]) (rest := []) hown (hw _ (List.mem_of_getElem? (i := 29) rfl)) (hw _ (List.mem_of_getElem? (i := 30) rfl)) (hw _ (List.mem_of_getElem? (i := 31) rfl)) (hw _ (List.mem_of_getElem? (i := 32) rfl)) (by decide) (rm6_2 l Z a0 hw [] a93 cz va na pa ns ps nb pb kv kn kp tb93 kt93 (nar .byte (nar .char ch76).toInt8.toInt32) (nar .byte (nar .char ch77).toInt8.toInt32) T93.heap n0 Z0 S0 hcz O SV SN SP E_va V_va E_na F_na E_ns FC_ns FV_ns V_nb E_pa F_pa E_ps FC_ps FV_ps V_pb E93 FC93 FV93 V93 ne_ns_a93 ne_ps_a93) rfl (by rw [hml]; rfl) pd_10 rfl rfl i0_255 (by decide) 0 rfl (by decide) (by decide) (by decide) fun T97 v97 L97 X97 q97 => ?_
            obtain ⟨vv97, rfl, hq97, K97, N97⟩ := q97
            have N0 := Fr.app N0 N97
            obtain rfl : vv97 = .null := own_pickN hq97 (fun q => c232_96 ((own_beq hch76 112 (by decide)).mp (q.1)))
            have E93 := E93.keep K97
            have FV93 := FV93.keep K97 nin0
            have FC93 := FC93.keep K97 nin0
            have V93 := V93.keep K97 nin0
            have O := O.keep K97 all0
            have Z0 : n0 ≤ T97.heap.size := Nat.le_trans Z0 K97.1
            show Gd p e below _ T97 (mkF m 258 #[.val (.int p0), .val (.int p1), .val (.int p2), .val (.int (2 : Int32)), .val (.int (0 : Int32)), .val (.int (1 : Int32)), .val (.int v75), .val (.int ch76), .val (.int ch77), .val (.int ch78), .val (.int ch79), .val (.int ch80), .val (.int ch81), .val (.ref a93), .val .null] [.null])
            refine g_aload X97 hx hby i0_258 rfl rfl ?_
            refine g_acmp_ne X97 hx hby i0_260 rfl rfl (fun c260_98 => False.elim (c260_98 rfl)) fun c260_98 => ?_
            refine g_iconst X97 hx hby i0_263 (z := (1 : Int32)) (by decide) ?_
            refine g_goto X97 hx hby i0_264 ?_
            refine Gd.toW ?_
            refine g_ireturnN X97 hx hby (ty := .boolean) hret (by simp) hlk i0_268 (by decide) (by decide) ?_
            exact ⟨_, rfl, rfl, N0⟩
          · refine g_iload X93 hx hby i0_235 rfl ?_
            refine g_bipush X93 hx hby i0_237 (z := (98 : Int32)) (by decide) ?_
            refine g_icmp_ne X93 hx hby i0_239 (fun c239_99 => ?_) (fun c239_99 => ?_)
            · refine g_aconst_null X93 hx hby i0_250 ?_
              refine g_astore X93 hx hby i0_251 rfl (l' := #[.val (.int p0), .val (.int p1), .val (.int p2), .val (.int (2 : Int32)), .val (.int (0 : Int32)), .val (.int (1 : Int32)), .val (.int v75), .val (.int ch76), .val (.int ch77), .val (.int ch78), .val (.int ch79), .val (.int ch80), .val (.int ch81), .val (.ref a93), .val .null]) rfl ?_
              refine g_aload X93 hx hby i0_253 rfl rfl ?_
              refine g_callS0 X93 hx hby hZ (y := (⟨"com/example/plantain/plantain/codec/Profile", "named", "(Ljava/lang/String;)Lcom/example/plantain/plantain/codec/Profile;"⟩ : MethodName)) (argsL := [(.ref a93)]) (rest := []) hown (hw _ (List.mem_of_getElem? (i := 29) rfl)) (hw _ (List.mem_of_getElem? (i := 30) rfl)) (hw _ (List.mem_of_getElem? (i := 31) rfl)) (hw _ (List.mem_of_getElem? (i := 32) rfl)) (by decide) (rm6_2 l Z a0 hw [] a93 cz va na pa ns ps nb pb kv kn kp tb93 kt93 (nar .byte (nar .char ch76).toInt8.toInt32) (nar .byte (nar .char ch77).toInt8.toInt32) T93.heap n0 Z0 S0 hcz O SV SN SP E_va V_va E_na F_na E_ns FC_ns FV_ns V_nb E_pa F_pa E_ps FC_ps FV_ps V_pb E93 FC93 FV93 V93 ne_ns_a93 ne_ps_a93) rfl (by rw [hml]; rfl) pd_10 rfl rfl i0_255 (by decide) 0 rfl (by decide) (by decide) (by decide) fun T100 v100 L100 X100 q100 => ?_
              obtain ⟨vv100, rfl, hq100, K100, N100⟩ := q100
              have N0 := Fr.app N0 N100
              obtain rfl : vv100 = .null := own_pickN hq100 (fun q => c239_99 ((own_beq hch77 98 (by decide)).mp (q.2)))
              have E93 := E93.keep K100
              have FV93 := FV93.keep K100 nin0
              have FC93 := FC93.keep K100 nin0
              have V93 := V93.keep K100 nin0
              have O := O.keep K100 all0
              have Z0 : n0 ≤ T100.heap.size := Nat.le_trans Z0 K100.1
              show Gd p e below _ T100 (mkF m 258 #[.val (.int p0), .val (.int p1), .val (.int p2), .val (.int (2 : Int32)), .val (.int (0 : Int32)), .val (.int (1 : Int32)), .val (.int v75), .val (.int ch76), .val (.int ch77), .val (.int ch78), .val (.int ch79), .val (.int ch80), .val (.int ch81), .val (.ref a93), .val .null] [.null])
              refine g_aload X100 hx hby i0_258 rfl rfl ?_
              refine g_acmp_ne X100 hx hby i0_260 rfl rfl (fun c260_101 => False.elim (c260_101 rfl)) fun c260_101 => ?_
              refine g_iconst X100 hx hby i0_263 (z := (1 : Int32)) (by decide) ?_
              refine g_goto X100 hx hby i0_264 ?_
              refine Gd.toW ?_
              refine g_ireturnN X100 hx hby (ty := .boolean) hret (by simp) hlk i0_268 (by decide) (by decide) ?_
              exact ⟨_, rfl, rfl, N0⟩
            · refine g_getstatic X93 hx hby hZ hown (host := "") (Or.inl (hw _ (List.mem_of_getElem? (i := 74) rfl))) Via.refl rfl (SP.ext O.2) i0_242 fun T102 X102 e102 => ?_
              refine g_astore X102 hx hby i0_245 rfl (l' := #[.val (.int p0), .val (.int p1), .val (.int p2), .val (.int (2 : Int32)), .val (.int (0 : Int32)), .val (.int (1 : Int32)), .val (.int v75), .val (.int ch76), .val (.int ch77), .val (.int ch78), .val (.int ch79), .val (.int ch80), .val (.int ch81), .val (.ref a93), .val (.ref pa)]) rfl ?_
              refine g_goto X102 hx hby i0_247 ?_
              refine g_aload X102 hx hby i0_253 rfl rfl ?_
              refine g_callS0 X102 hx hby hZ (y := (⟨"com/example/plantain/plantain/codec/Profile", "named", "(Ljava/lang/String;)Lcom/example/plantain/plantain/codec/Profile;"⟩ : MethodName)) (argsL := [(.ref a93)]) (rest := []) hown (hw _ (List.mem_of_getElem? (i := 29) rfl)) (hw _ (List.mem_of_getElem? (i := 30) rfl)) (hw _ (List.mem_of_getElem? (i := 31) rfl)) (hw _ (List.mem_of_getElem? (i := 32) rfl)) (by decide) (rm6_2 l Z a0 hw [] a93 cz va na pa ns ps nb pb kv kn kp tb93 kt93 (nar .byte (nar .char ch76).toInt8.toInt32) (nar .byte (nar .char ch77).toInt8.toInt32) T93.heap n0 Z0 S0 hcz O SV SN SP E_va V_va E_na F_na E_ns FC_ns FV_ns V_nb E_pa F_pa E_ps FC_ps FV_ps V_pb E93 FC93 FV93 V93 ne_ns_a93 ne_ps_a93) e102 (by rw [hml]; rfl) pd_10 rfl rfl i0_255 (by decide) 0 rfl (by decide) (by decide) (by decide) fun T103 v103 L103 X103 q103 => ?_
              obtain ⟨vv103, rfl, hq103, K103, N103⟩ := q103
              have N0 := Fr.app N0 N103
              obtain rfl : vv103 = .ref pa := own_pickY hq103 ⟨(own_beq hch76 112 (by decide)).mpr c232_96, (own_beq hch77 98 (by decide)).mpr c239_99⟩
              have E93 := E93.keep K103
              have FV93 := FV93.keep K103 nin0
              have FC93 := FC93.keep K103 nin0
              have V93 := V93.keep K103 nin0
              have O := O.keep K103 all0
              have Z0 : n0 ≤ T103.heap.size := Nat.le_trans Z0 K103.1
              show Gd p e below _ T103 (mkF m 258 #[.val (.int p0), .val (.int p1), .val (.int p2), .val (.int (2 : Int32)), .val (.int (0 : Int32)), .val (.int (1 : Int32)), .val (.int v75), .val (.int ch76), .val (.int ch77), .val (.int ch78), .val (.int ch79), .val (.int ch80), .val (.int ch81), .val (.ref a93), .val (.ref pa)] [(.ref pa)])
              refine g_aload X103 hx hby i0_258 rfl rfl ?_
              refine g_acmp_ne X103 hx hby i0_260 rfl rfl (fun c260_104 => False.elim (c260_104 rfl)) fun c260_104 => ?_
              refine g_iconst X103 hx hby i0_263 (z := (1 : Int32)) (by decide) ?_
              refine g_goto X103 hx hby i0_264 ?_
              refine Gd.toW ?_
              refine g_ireturnN X103 hx hby (ty := .boolean) hret (by simp) hlk i0_268 (by decide) (by decide) ?_
              exact ⟨_, rfl, rfl, N0⟩
        · refine g_iloadN X81 hx hby i0_164 rfl ?_
          refine g_iload X81 hx hby i0_165 rfl ?_
          refine g_iload X81 hx hby i0_167 rfl ?_
          refine g_iload X81 hx hby i0_169 rfl ?_
          refine g_iload X81 hx hby i0_171 rfl ?_
          refine g_iload X81 hx hby i0_173 rfl ?_
          refine g_iload X81 hx hby i0_175 rfl ?_
          refine g_callS0 X81 hx hby hZ (y := (⟨"com/example/plantain/plantain/codec/ProfileNamedPinLaw", "make", "(ICCCCCC)Ljava/lang/String;"⟩ : MethodName)) (argsL := [(.int (3 : Int32)), (.int ch76), (.int ch77), (.int ch78), (.int ch79), (.int ch80), (.int ch81)]) (rest := []) hown (hw _ (List.mem_of_getElem? (i := 4) rfl)) (hw _ (List.mem_of_getElem? (i := 5) rfl)) (hw _ (List.mem_of_getElem? (i := 2) rfl)) (hw _ (List.mem_of_getElem? (i := 6) rfl)) (by decide) (rm2_3 l Z a0 hw [] (3 : Int32) ch76 ch77 ch78 ch79 ch80 ch81 cz h0 n0 Z0 S0 hcz O rfl hch76 hch77 hch78 hch79 hch80 hch81) e81 (by rw [hml]; rfl) pd_9 rfl rfl i0_177 (by decide) 0 rfl (by decide) (by decide) (by decide) fun T105 v105 L105 X105 q105 => ?_
          obtain ⟨_, rfl, a105, tb105, kt105, rfl, K105, E105, FV105, FC105, V105, sa105, N105⟩ := q105
          have N0 := Fr.app N0 N105
          have ne_ns_a105 : ns ≠ a105 := Nat.ne_of_lt (Nat.lt_of_lt_of_le (E_ns.ext O.2).lt sa105)
          have ne_ps_a105 : ps ≠ a105 := Nat.ne_of_lt (Nat.lt_of_lt_of_le (E_ps.ext O.2).lt sa105)
          have O := O.keep K105 all0
          have Z0 : n0 ≤ T105.heap.size := Nat.le_trans Z0 K105.1
          show Gd p e below _ T105 (mkF m 180 #[.val (.int p0), .val (.int p1), .val (.int p2), .val (.int (3 : Int32)), .val (.int (0 : Int32)), .val (.int (1 : Int32)), .val (.int v75), .val (.int ch76), .val (.int ch77), .val (.int ch78), .val (.int ch79), .val (.int ch80), .val (.int ch81), .unset, .unset] [(.ref a105)])
          refine g_astore X105 hx hby i0_180 rfl (l' := #[.val (.int p0), .val (.int p1), .val (.int p2), .val (.int (3 : Int32)), .val (.int (0 : Int32)), .val (.int (1 : Int32)), .val (.int v75), .val (.int ch76), .val (.int ch77), .val (.int ch78), .val (.int ch79), .val (.int ch80), .val (.int ch81), .val (.ref a105), .unset]) rfl ?_
          refine g_iloadN X105 hx hby i0_182 rfl ?_
          refine g_iconst X105 hx hby i0_183 (z := (4 : Int32)) (by decide) ?_
          refine g_icmp_ne X105 hx hby i0_184 (fun c184_106 => ?_) (fun c184_106 => False.elim (absurd c184_106 (by decide)))
          refine g_iloadN X105 hx hby i0_223 rfl ?_
          refine g_iconst X105 hx hby i0_224 (z := (2 : Int32)) (by decide) ?_
          refine g_icmp_ne X105 hx hby i0_225 (fun c225_107 => ?_) (fun c225_107 => False.elim (absurd c225_107 (by decide)))
          refine g_aconst_null X105 hx hby i0_250 ?_
          refine g_astore X105 hx hby i0_251 rfl (l' := #[.val (.int p0), .val (.int p1), .val (.int p2), .val (.int (3 : Int32)), .val (.int (0 : Int32)), .val (.int (1 : Int32)), .val (.int v75), .val (.int ch76), .val (.int ch77), .val (.int ch78), .val (.int ch79), .val (.int ch80), .val (.int ch81), .val (.ref a105), .val .null]) rfl ?_
          refine g_aload X105 hx hby i0_253 rfl rfl ?_
          refine g_callS0 X105 hx hby hZ (y := (⟨"com/example/plantain/plantain/codec/Profile", "named", "(Ljava/lang/String;)Lcom/example/plantain/plantain/codec/Profile;"⟩ : MethodName)) (argsL := [(.ref a105)]) (rest := []) hown (hw _ (List.mem_of_getElem? (i := 29) rfl)) (hw _ (List.mem_of_getElem? (i := 30) rfl)) (hw _ (List.mem_of_getElem? (i := 31) rfl)) (hw _ (List.mem_of_getElem? (i := 32) rfl)) (by decide) (rm6_3 l Z a0 hw [] a105 cz va na pa ns ps nb pb kv kn kp tb105 kt105 (nar .byte (nar .char ch76).toInt8.toInt32) (nar .byte (nar .char ch77).toInt8.toInt32) (nar .byte (nar .char ch78).toInt8.toInt32) T105.heap n0 Z0 S0 hcz O SV SN SP E_va V_va E_na F_na E_ns FC_ns FV_ns V_nb E_pa F_pa E_ps FC_ps FV_ps V_pb E105 FC105 FV105 V105 ne_ns_a105 ne_ps_a105) rfl (by rw [hml]; rfl) pd_10 rfl rfl i0_255 (by decide) 0 rfl (by decide) (by decide) (by decide) fun T108 v108 L108 X108 q108 => ?_
          obtain ⟨_, rfl, rfl, K108, N108⟩ := q108
          have N0 := Fr.app N0 N108
          have E105 := E105.keep K108
          have FV105 := FV105.keep K108 nin0
          have FC105 := FC105.keep K108 nin0
          have V105 := V105.keep K108 nin0
          have O := O.keep K108 all0
          have Z0 : n0 ≤ T108.heap.size := Nat.le_trans Z0 K108.1
          show Gd p e below _ T108 (mkF m 258 #[.val (.int p0), .val (.int p1), .val (.int p2), .val (.int (3 : Int32)), .val (.int (0 : Int32)), .val (.int (1 : Int32)), .val (.int v75), .val (.int ch76), .val (.int ch77), .val (.int ch78), .val (.int ch79), .val (.int ch80), .val (.int ch81), .val (.ref a105), .val .null] [.null])
          refine g_aload X108 hx hby i0_258 rfl rfl ?_
          refine g_acmp_ne X108 hx hby i0_260 rfl rfl (fun c260_109 => False.elim (c260_109 rfl)) fun c260_109 => ?_
          refine g_iconst X108 hx hby i0_263 (z := (1 : Int32)) (by decide) ?_
          refine g_goto X108 hx hby i0_264 ?_
          refine Gd.toW ?_
          refine g_ireturnN X108 hx hby (ty := .boolean) hret (by simp) hlk i0_268 (by decide) (by decide) ?_
          exact ⟨_, rfl, rfl, N0⟩
        · refine g_iloadN X81 hx hby i0_164 rfl ?_
          refine g_iload X81 hx hby i0_165 rfl ?_
          refine g_iload X81 hx hby i0_167 rfl ?_
          refine g_iload X81 hx hby i0_169 rfl ?_
          refine g_iload X81 hx hby i0_171 rfl ?_
          refine g_iload X81 hx hby i0_173 rfl ?_
          refine g_iload X81 hx hby i0_175 rfl ?_
          refine g_callS0 X81 hx hby hZ (y := (⟨"com/example/plantain/plantain/codec/ProfileNamedPinLaw", "make", "(ICCCCCC)Ljava/lang/String;"⟩ : MethodName)) (argsL := [(.int (4 : Int32)), (.int ch76), (.int ch77), (.int ch78), (.int ch79), (.int ch80), (.int ch81)]) (rest := []) hown (hw _ (List.mem_of_getElem? (i := 4) rfl)) (hw _ (List.mem_of_getElem? (i := 5) rfl)) (hw _ (List.mem_of_getElem? (i := 2) rfl)) (hw _ (List.mem_of_getElem? (i := 6) rfl)) (by decide) (rm2_4 l Z a0 hw [] (4 : Int32) ch76 ch77 ch78 ch79 ch80 ch81 cz h0 n0 Z0 S0 hcz O rfl hch76 hch77 hch78 hch79 hch80 hch81) e81 (by rw [hml]; rfl) pd_9 rfl rfl i0_177 (by decide) 0 rfl (by decide) (by decide) (by decide) fun T110 v110 L110 X110 q110 => ?_
          obtain ⟨_, rfl, a110, tb110, kt110, rfl, K110, E110, FV110, FC110, V110, sa110, N110⟩ := q110
          have N0 := Fr.app N0 N110
          have ne_ns_a110 : ns ≠ a110 := Nat.ne_of_lt (Nat.lt_of_lt_of_le (E_ns.ext O.2).lt sa110)
          have ne_ps_a110 : ps ≠ a110 := Nat.ne_of_lt (Nat.lt_of_lt_of_le (E_ps.ext O.2).lt sa110)
          have O := O.keep K110 all0
          have Z0 : n0 ≤ T110.heap.size := Nat.le_trans Z0 K110.1
          show Gd p e below _ T110 (mkF m 180 #[.val (.int p0), .val (.int p1), .val (.int p2), .val (.int (4 : Int32)), .val (.int (0 : Int32)), .val (.int (1 : Int32)), .val (.int v75), .val (.int ch76), .val (.int ch77), .val (.int ch78), .val (.int ch79), .val (.int ch80), .val (.int ch81), .unset, .unset] [(.ref a110)])
          refine g_astore X110 hx hby i0_180 rfl (l' := #[.val (.int p0), .val (.int p1), .val (.int p2), .val (.int (4 : Int32)), .val (.int (0 : Int32)), .val (.int (1 : Int32)), .val (.int v75), .val (.int ch76), .val (.int ch77), .val (.int ch78), .val (.int ch79), .val (.int ch80), .val (.int ch81), .val (.ref a110), .unset]) rfl ?_
          refine g_iloadN X110 hx hby i0_182 rfl ?_
          refine g_iconst X110 hx hby i0_183 (z := (4 : Int32)) (by decide) ?_
          refine g_icmp_ne X110 hx hby i0_184 (fun c184_111 => False.elim (absurd c184_111 (by decide))) fun c184_111 => ?_
          refine g_iload X110 hx hby i0_187 rfl ?_
          refine g_bipush X110 hx hby i0_189 (z := (110 : Int32)) (by decide) ?_
          refine g_icmp_ne X110 hx hby i0_191 (fun c191_112 => ?_) (fun c191_112 => ?_)
          · refine g_iloadN X110 hx hby i0_223 rfl ?_
            refine g_iconst X110 hx hby i0_224 (z := (2 : Int32)) (by decide) ?_
            refine g_icmp_ne X110 hx hby i0_225 (fun c225_113 => ?_) (fun c225_113 => False.elim (absurd c225_113 (by decide)))
            refine g_aconst_null X110 hx hby i0_250 ?_
            refine g_astore X110 hx hby i0_251 rfl (l' := #[.val (.int p0), .val (.int p1), .val (.int p2), .val (.int (4 : Int32)), .val (.int (0 : Int32)), .val (.int (1 : Int32)), .val (.int v75), .val (.int ch76), .val (.int ch77), .val (.int ch78), .val (.int ch79), .val (.int ch80), .val (.int ch81), .val (.ref a110), .val .null]) rfl ?_
            refine g_aload X110 hx hby i0_253 rfl rfl ?_
            refine g_callS0 X110 hx hby hZ (y := (⟨"com/example/plantain/plantain/codec/Profile", "named", "(Ljava/lang/String;)Lcom/example/plantain/plantain/codec/Profile;"⟩ : MethodName)) (argsL := [(.ref a110)]) (rest := []) hown (hw _ (List.mem_of_getElem? (i := 29) rfl)) (hw _ (List.mem_of_getElem? (i := 30) rfl)) (hw _ (List.mem_of_getElem? (i := 31) rfl)) (hw _ (List.mem_of_getElem? (i := 32) rfl)) (by decide) (rm6_4 l Z a0 hw [] a110 cz va na pa ns ps nb pb kv kn kp tb110 kt110 (nar .byte (nar .char ch76).toInt8.toInt32) (nar .byte (nar .char ch77).toInt8.toInt32) (nar .byte (nar .char ch78).toInt8.toInt32) (nar .byte (nar .char ch79).toInt8.toInt32) T110.heap n0 Z0 S0 hcz O SV SN SP E_va V_va E_na F_na E_ns FC_ns FV_ns V_nb E_pa F_pa E_ps FC_ps FV_ps V_pb E110 FC110 FV110 V110 ne_ns_a110 ne_ps_a110) rfl (by rw [hml]; rfl) pd_10 rfl rfl i0_255 (by decide) 0 rfl (by decide) (by decide) (by decide) fun T114 v114 L114 X114 q114 => ?_
            obtain ⟨vv114, rfl, hq114, K114, N114⟩ := q114
            have N0 := Fr.app N0 N114
            obtain rfl : vv114 = .null := own_pickN hq114 (fun q => c191_112 ((own_beq hch76 110 (by decide)).mp (q.1)))
            have E110 := E110.keep K114
            have FV110 := FV110.keep K114 nin0
            have FC110 := FC110.keep K114 nin0
            have V110 := V110.keep K114 nin0
            have O := O.keep K114 all0
            have Z0 : n0 ≤ T114.heap.size := Nat.le_trans Z0 K114.1
            show Gd p e below _ T114 (mkF m 258 #[.val (.int p0), .val (.int p1), .val (.int p2), .val (.int (4 : Int32)), .val (.int (0 : Int32)), .val (.int (1 : Int32)), .val (.int v75), .val (.int ch76), .val (.int ch77), .val (.int ch78), .val (.int ch79), .val (.int ch80), .val (.int ch81), .val (.ref a110), .val .null] [.null])
            refine g_aload X114 hx hby i0_258 rfl rfl ?_
            refine g_acmp_ne X114 hx hby i0_260 rfl rfl (fun c260_115 => False.elim (c260_115 rfl)) fun c260_115 => ?_
            refine g_iconst X114 hx hby i0_263 (z := (1 : Int32)) (by decide) ?_
            refine g_goto X114 hx hby i0_264 ?_
            refine Gd.toW ?_
            refine g_ireturnN X114 hx hby (ty := .boolean) hret (by simp) hlk i0_268 (by decide) (by decide) ?_
            exact ⟨_, rfl, rfl, N0⟩
          · refine g_iload X110 hx hby i0_194 rfl ?_
            refine g_bipush X110 hx hby i0_196 (z := (111 : Int32)) (by decide) ?_
            refine g_icmp_ne X110 hx hby i0_198 (fun c198_116 => ?_) (fun c198_116 => ?_)
            · refine g_iloadN X110 hx hby i0_223 rfl ?_
              refine g_iconst X110 hx hby i0_224 (z := (2 : Int32)) (by decide) ?_
              refine g_icmp_ne X110 hx hby i0_225 (fun c225_117 => ?_) (fun c225_117 => False.elim (absurd c225_117 (by decide)))
              refine g_aconst_null X110 hx hby i0_250 ?_
              refine g_astore X110 hx hby i0_251 rfl (l' := #[.val (.int p0), .val (.int p1), .val (.int p2), .val (.int (4 : Int32)), .val (.int (0 : Int32)), .val (.int (1 : Int32)), .val (.int v75), .val (.int ch76), .val (.int ch77), .val (.int ch78), .val (.int ch79), .val (.int ch80), .val (.int ch81), .val (.ref a110), .val .null]) rfl ?_
              refine g_aload X110 hx hby i0_253 rfl rfl ?_
              refine g_callS0 X110 hx hby hZ (y := (⟨"com/example/plantain/plantain/codec/Profile", "named", "(Ljava/lang/String;)Lcom/example/plantain/plantain/codec/Profile;"⟩ : MethodName)) (argsL := [(.ref a110)]) (rest := []) hown (hw _ (List.mem_of_getElem? (i := 29) rfl)) (hw _ (List.mem_of_getElem? (i := 30) rfl)) (hw _ (List.mem_of_getElem? (i := 31) rfl)) (hw _ (List.mem_of_getElem? (i := 32) rfl)) (by decide) (rm6_4 l Z a0 hw [] a110 cz va na pa ns ps nb pb kv kn kp tb110 kt110 (nar .byte (nar .char ch76).toInt8.toInt32) (nar .byte (nar .char ch77).toInt8.toInt32) (nar .byte (nar .char ch78).toInt8.toInt32) (nar .byte (nar .char ch79).toInt8.toInt32) T110.heap n0 Z0 S0 hcz O SV SN SP E_va V_va E_na F_na E_ns FC_ns FV_ns V_nb E_pa F_pa E_ps FC_ps FV_ps V_pb E110 FC110 FV110 V110 ne_ns_a110 ne_ps_a110) rfl (by rw [hml]; rfl) pd_10 rfl rfl i0_255 (by decide) 0 rfl (by decide) (by decide) (by decide) fun T118 v118 L118 X118 q118 => ?_
              obtain ⟨vv118, rfl, hq118, K118, N118⟩ := q118
              have N0 := Fr.app N0 N118
              obtain rfl : vv118 = .null := own_pickN hq118 (fun q => c198_116 ((own_beq hch77 111 (by decide)).mp (q.2.1)))
              have E110 := E110.keep K118
              have FV110 := FV110.keep K118 nin0
              have FC110 := FC110.keep K118 nin0
              have V110 := V110.keep K118 nin0
              have O := O.keep K118 all0
              have Z0 : n0 ≤ T118.heap.size := Nat.le_trans Z0 K118.1
              show Gd p e below _ T118 (mkF m 258 #[.val (.int p0), .val (.int p1), .val (.int p2), .val (.int (4 : Int32)), .val (.int (0 : Int32)), .val (.int (1 : Int32)), .val (.int v75), .val (.int ch76), .val (.int ch77), .val (.int ch78), .val (.int ch79), .val (.int ch80), .val (.int ch81), .val (.ref a110), .val .null] [.null])
              refine g_aload X118 hx hby i0_258 rfl rfl ?_
              refine g_acmp_ne X118 hx hby i0_260 rfl rfl (fun c260_119 => False.elim (c260_119 rfl)) fun c260_119 => ?_
              refine g_iconst X118 hx hby i0_263 (z := (1 : Int32)) (by decide) ?_
              refine g_goto X118 hx hby i0_264 ?_
              refine Gd.toW ?_
              refine g_ireturnN X118 hx hby (ty := .boolean) hret (by simp) hlk i0_268 (by decide) (by decide) ?_
              exact ⟨_, rfl, rfl, N0⟩
            · refine g_iload X110 hx hby i0_201 rfl ?_
              refine g_bipush X110 hx hby i0_203 (z := (110 : Int32)) (by decide) ?_
              refine g_icmp_ne X110 hx hby i0_205 (fun c205_120 => ?_) (fun c205_120 => ?_)
              · refine g_iloadN X110 hx hby i0_223 rfl ?_
                refine g_iconst X110 hx hby i0_224 (z := (2 : Int32)) (by decide) ?_
                refine g_icmp_ne X110 hx hby i0_225 (fun c225_121 => ?_) (fun c225_121 => False.elim (absurd c225_121 (by decide)))
                refine g_aconst_null X110 hx hby i0_250 ?_
                refine g_astore X110 hx hby i0_251 rfl (l' := #[.val (.int p0), .val (.int p1), .val (.int p2), .val (.int (4 : Int32)), .val (.int (0 : Int32)), .val (.int (1 : Int32)), .val (.int v75), .val (.int ch76), .val (.int ch77), .val (.int ch78), .val (.int ch79), .val (.int ch80), .val (.int ch81), .val (.ref a110), .val .null]) rfl ?_
                refine g_aload X110 hx hby i0_253 rfl rfl ?_
                refine g_callS0 X110 hx hby hZ (y := (⟨"com/example/plantain/plantain/codec/Profile", "named", "(Ljava/lang/String;)Lcom/example/plantain/plantain/codec/Profile;"⟩ : MethodName)) (argsL := [(.ref a110)]) (rest := []) hown (hw _ (List.mem_of_getElem? (i := 29) rfl)) (hw _ (List.mem_of_getElem? (i := 30) rfl)) (hw _ (List.mem_of_getElem? (i := 31) rfl)) (hw _ (List.mem_of_getElem? (i := 32) rfl)) (by decide) (rm6_4 l Z a0 hw [] a110 cz va na pa ns ps nb pb kv kn kp tb110 kt110 (nar .byte (nar .char ch76).toInt8.toInt32) (nar .byte (nar .char ch77).toInt8.toInt32) (nar .byte (nar .char ch78).toInt8.toInt32) (nar .byte (nar .char ch79).toInt8.toInt32) T110.heap n0 Z0 S0 hcz O SV SN SP E_va V_va E_na F_na E_ns FC_ns FV_ns V_nb E_pa F_pa E_ps FC_ps FV_ps V_pb E110 FC110 FV110 V110 ne_ns_a110 ne_ps_a110) rfl (by rw [hml]; rfl) pd_10 rfl rfl i0_255 (by decide) 0 rfl (by decide) (by decide) (by decide) fun T122 v122 L122 X122 q122 => ?_
                obtain ⟨vv122, rfl, hq122, K122, N122⟩ := q122
                have N0 := Fr.app N0 N122
                obtain rfl : vv122 = .null := own_pickN hq122 (fun q => c205_120 ((own_beq hch78 110 (by decide)).mp (q.2.2.1)))
                have E110 := E110.keep K122
                have FV110 := FV110.keep K122 nin0
                have FC110 := FC110.keep K122 nin0
                have V110 := V110.keep K122 nin0
                have O := O.keep K122 all0
                have Z0 : n0 ≤ T122.heap.size := Nat.le_trans Z0 K122.1
                show Gd p e below _ T122 (mkF m 258 #[.val (.int p0), .val (.int p1), .val (.int p2), .val (.int (4 : Int32)), .val (.int (0 : Int32)), .val (.int (1 : Int32)), .val (.int v75), .val (.int ch76), .val (.int ch77), .val (.int ch78), .val (.int ch79), .val (.int ch80), .val (.int ch81), .val (.ref a110), .val .null] [.null])
                refine g_aload X122 hx hby i0_258 rfl rfl ?_
                refine g_acmp_ne X122 hx hby i0_260 rfl rfl (fun c260_123 => False.elim (c260_123 rfl)) fun c260_123 => ?_
                refine g_iconst X122 hx hby i0_263 (z := (1 : Int32)) (by decide) ?_
                refine g_goto X122 hx hby i0_264 ?_
                refine Gd.toW ?_
                refine g_ireturnN X122 hx hby (ty := .boolean) hret (by simp) hlk i0_268 (by decide) (by decide) ?_
                exact ⟨_, rfl, rfl, N0⟩
              · refine g_iload X110 hx hby i0_208 rfl ?_
                refine g_bipush X110 hx hby i0_210 (z := (101 : Int32)) (by decide) ?_
                refine g_icmp_ne X110 hx hby i0_212 (fun c212_124 => ?_) (fun c212_124 => ?_)
                · refine g_iloadN X110 hx hby i0_223 rfl ?_
                  refine g_iconst X110 hx hby i0_224 (z := (2 : Int32)) (by decide) ?_
                  refine g_icmp_ne X110 hx hby i0_225 (fun c225_125 => ?_) (fun c225_125 => False.elim (absurd c225_125 (by decide)))
                  refine g_aconst_null X110 hx hby i0_250 ?_
                  refine g_astore X110 hx hby i0_251 rfl (l' := #[.val (.int p0), .val (.int p1), .val (.int p2), .val (.int (4 : Int32)), .val (.int (0 : Int32)), .val (.int (1 : Int32)), .val (.int v75), .val (.int ch76), .val (.int ch77), .val (.int ch78), .val (.int ch79), .val (.int ch80), .val (.int ch81), .val (.ref a110), .val .null]) rfl ?_
                  refine g_aload X110 hx hby i0_253 rfl rfl ?_
                  refine g_callS0 X110 hx hby hZ (y := (⟨"com/example/plantain/plantain/codec/Profile", "named", "(Ljava/lang/String;)Lcom/example/plantain/plantain/codec/Profile;"⟩ : MethodName)) (argsL := [(.ref a110)]) (rest := []) hown (hw _ (List.mem_of_getElem? (i := 29) rfl)) (hw _ (List.mem_of_getElem? (i := 30) rfl)) (hw _ (List.mem_of_getElem? (i := 31) rfl)) (hw _ (List.mem_of_getElem? (i := 32) rfl)) (by decide) (rm6_4 l Z a0 hw [] a110 cz va na pa ns ps nb pb kv kn kp tb110 kt110 (nar .byte (nar .char ch76).toInt8.toInt32) (nar .byte (nar .char ch77).toInt8.toInt32) (nar .byte (nar .char ch78).toInt8.toInt32) (nar .byte (nar .char ch79).toInt8.toInt32) T110.heap n0 Z0 S0 hcz O SV SN SP E_va V_va E_na F_na E_ns FC_ns FV_ns V_nb E_pa F_pa E_ps FC_ps FV_ps V_pb E110 FC110 FV110 V110 ne_ns_a110 ne_ps_a110) rfl (by rw [hml]; rfl) pd_10 rfl rfl i0_255 (by decide) 0 rfl (by decide) (by decide) (by decide) fun T126 v126 L126 X126 q126 => ?_
                  obtain ⟨vv126, rfl, hq126, K126, N126⟩ := q126
                  have N0 := Fr.app N0 N126
                  obtain rfl : vv126 = .null := own_pickN hq126 (fun q => c212_124 ((own_beq hch79 101 (by decide)).mp (q.2.2.2)))
                  have E110 := E110.keep K126
                  have FV110 := FV110.keep K126 nin0
                  have FC110 := FC110.keep K126 nin0
                  have V110 := V110.keep K126 nin0
                  have O := O.keep K126 all0
                  have Z0 : n0 ≤ T126.heap.size := Nat.le_trans Z0 K126.1
                  show Gd p e below _ T126 (mkF m 258 #[.val (.int p0), .val (.int p1), .val (.int p2), .val (.int (4 : Int32)), .val (.int (0 : Int32)), .val (.int (1 : Int32)), .val (.int v75), .val (.int ch76), .val (.int ch77), .val (.int ch78), .val (.int ch79), .val (.int ch80), .val (.int ch81), .val (.ref a110), .val .null] [.null])
                  refine g_aload X126 hx hby i0_258 rfl rfl ?_
                  refine g_acmp_ne X126 hx hby i0_260 rfl rfl (fun c260_127 => False.elim (c260_127 rfl)) fun c260_127 => ?_
                  refine g_iconst X126 hx hby i0_263 (z := (1 : Int32)) (by decide) ?_
                  refine g_goto X126 hx hby i0_264 ?_
                  refine Gd.toW ?_
                  refine g_ireturnN X126 hx hby (ty := .boolean) hret (by simp) hlk i0_268 (by decide) (by decide) ?_
                  exact ⟨_, rfl, rfl, N0⟩
                · refine g_getstatic X110 hx hby hZ hown (host := "") (Or.inl (hw _ (List.mem_of_getElem? (i := 73) rfl))) Via.refl rfl (SN.ext O.2) i0_215 fun T128 X128 e128 => ?_
                  refine g_astore X128 hx hby i0_218 rfl (l' := #[.val (.int p0), .val (.int p1), .val (.int p2), .val (.int (4 : Int32)), .val (.int (0 : Int32)), .val (.int (1 : Int32)), .val (.int v75), .val (.int ch76), .val (.int ch77), .val (.int ch78), .val (.int ch79), .val (.int ch80), .val (.int ch81), .val (.ref a110), .val (.ref na)]) rfl ?_
                  refine g_goto X128 hx hby i0_220 ?_
                  refine g_aload X128 hx hby i0_253 rfl rfl ?_
                  refine g_callS0 X128 hx hby hZ (y := (⟨"com/example/plantain/plantain/codec/Profile", "named", "(Ljava/lang/String;)Lcom/example/plantain/plantain/codec/Profile;"⟩ : MethodName)) (argsL := [(.ref a110)]) (rest := []) hown (hw _ (List.mem_of_getElem? (i := 29) rfl)) (hw _ (List.mem_of_getElem? (i := 30) rfl)) (hw _ (List.mem_of_getElem? (i := 31) rfl)) (hw _ (List.mem_of_getElem? (i := 32) rfl)) (by decide) (rm6_4 l Z a0 hw [] a110 cz va na pa ns ps nb pb kv kn kp tb110 kt110 (nar .byte (nar .char ch76).toInt8.toInt32) (nar .byte (nar .char ch77).toInt8.toInt32) (nar .byte (nar .char ch78).toInt8.toInt32) (nar .byte (nar .char ch79).toInt8.toInt32) T110.heap n0 Z0 S0 hcz O SV SN SP E_va V_va E_na F_na E_ns FC_ns FV_ns V_nb E_pa F_pa E_ps FC_ps FV_ps V_pb E110 FC110 FV110 V110 ne_ns_a110 ne_ps_a110) e128 (by rw [hml]; rfl) pd_10 rfl rfl i0_255 (by decide) 0 rfl (by decide) (by decide) (by decide) fun T129 v129 L129 X129 q129 => ?_
                  obtain ⟨vv129, rfl, hq129, K129, N129⟩ := q129
                  have N0 := Fr.app N0 N129
                  obtain rfl : vv129 = .ref na := own_pickY hq129 ⟨(own_beq hch76 110 (by decide)).mpr c191_112, (own_beq hch77 111 (by decide)).mpr c198_116, (own_beq hch78 110 (by decide)).mpr c205_120, (own_beq hch79 101 (by decide)).mpr c212_124⟩
                  have E110 := E110.keep K129
                  have FV110 := FV110.keep K129 nin0
                  have FC110 := FC110.keep K129 nin0
                  have V110 := V110.keep K129 nin0
                  have O := O.keep K129 all0
                  have Z0 : n0 ≤ T129.heap.size := Nat.le_trans Z0 K129.1
                  show Gd p e below _ T129 (mkF m 258 #[.val (.int p0), .val (.int p1), .val (.int p2), .val (.int (4 : Int32)), .val (.int (0 : Int32)), .val (.int (1 : Int32)), .val (.int v75), .val (.int ch76), .val (.int ch77), .val (.int ch78), .val (.int ch79), .val (.int ch80), .val (.int ch81), .val (.ref a110), .val (.ref na)] [(.ref na)])
                  refine g_aload X129 hx hby i0_258 rfl rfl ?_
                  refine g_acmp_ne X129 hx hby i0_260 rfl rfl (fun c260_130 => False.elim (c260_130 rfl)) fun c260_130 => ?_
                  refine g_iconst X129 hx hby i0_263 (z := (1 : Int32)) (by decide) ?_
                  refine g_goto X129 hx hby i0_264 ?_
                  refine Gd.toW ?_
                  refine g_ireturnN X129 hx hby (ty := .boolean) hret (by simp) hlk i0_268 (by decide) (by decide) ?_
                  exact ⟨_, rfl, rfl, N0⟩
        · refine g_iloadN X81 hx hby i0_164 rfl ?_
          refine g_iload X81 hx hby i0_165 rfl ?_
          refine g_iload X81 hx hby i0_167 rfl ?_
          refine g_iload X81 hx hby i0_169 rfl ?_
          refine g_iload X81 hx hby i0_171 rfl ?_
          refine g_iload X81 hx hby i0_173 rfl ?_
          refine g_iload X81 hx hby i0_175 rfl ?_
          refine g_callS0 X81 hx hby hZ (y := (⟨"com/example/plantain/plantain/codec/ProfileNamedPinLaw", "make", "(ICCCCCC)Ljava/lang/String;"⟩ : MethodName)) (argsL := [(.int (5 : Int32)), (.int ch76), (.int ch77), (.int ch78), (.int ch79), (.int ch80), (.int ch81)]) (rest := []) hown (hw _ (List.mem_of_getElem? (i := 4) rfl)) (hw _ (List.mem_of_getElem? (i := 5) rfl)) (hw _ (List.mem_of_getElem? (i := 2) rfl)) (hw _ (List.mem_of_getElem? (i := 6) rfl)) (by decide) (rm2_5 l Z a0 hw [] (5 : Int32) ch76 ch77 ch78 ch79 ch80 ch81 cz h0 n0 Z0 S0 hcz O rfl hch76 hch77 hch78 hch79 hch80 hch81) e81 (by rw [hml]; rfl) pd_9 rfl rfl i0_177 (by decide) 0 rfl (by decide) (by decide) (by decide) fun T131 v131 L131 X131 q131 => ?_
          obtain ⟨_, rfl, a131, tb131, kt131, rfl, K131, E131, FV131, FC131, V131, sa131, N131⟩ := q131
          have N0 := Fr.app N0 N131
          have ne_ns_a131 : ns ≠ a131 := Nat.ne_of_lt (Nat.lt_of_lt_of_le (E_ns.ext O.2).lt sa131)
          have ne_ps_a131 : ps ≠ a131 := Nat.ne_of_lt (Nat.lt_of_lt_of_le (E_ps.ext O.2).lt sa131)
          have O := O.keep K131 all0
          have Z0 : n0 ≤ T131.heap.size := Nat.le_trans Z0 K131.1
          show Gd p e below _ T131 (mkF m 180 #[.val (.int p0), .val (.int p1), .val (.int p2), .val (.int (5 : Int32)), .val (.int (0 : Int32)), .val (.int (1 : Int32)), .val (.int v75), .val (.int ch76), .val (.int ch77), .val (.int ch78), .val (.int ch79), .val (.int ch80), .val (.int ch81), .unset, .unset] [(.ref a131)])
          refine g_astore X131 hx hby i0_180 rfl (l' := #[.val (.int p0), .val (.int p1), .val (.int p2), .val (.int (5 : Int32)), .val (.int (0 : Int32)), .val (.int (1 : Int32)), .val (.int v75), .val (.int ch76), .val (.int ch77), .val (.int ch78), .val (.int ch79), .val (.int ch80), .val (.int ch81), .val (.ref a131), .unset]) rfl ?_
          refine g_iloadN X131 hx hby i0_182 rfl ?_
          refine g_iconst X131 hx hby i0_183 (z := (4 : Int32)) (by decide) ?_
          refine g_icmp_ne X131 hx hby i0_184 (fun c184_132 => ?_) (fun c184_132 => False.elim (absurd c184_132 (by decide)))
          refine g_iloadN X131 hx hby i0_223 rfl ?_
          refine g_iconst X131 hx hby i0_224 (z := (2 : Int32)) (by decide) ?_
          refine g_icmp_ne X131 hx hby i0_225 (fun c225_133 => ?_) (fun c225_133 => False.elim (absurd c225_133 (by decide)))
          refine g_aconst_null X131 hx hby i0_250 ?_
          refine g_astore X131 hx hby i0_251 rfl (l' := #[.val (.int p0), .val (.int p1), .val (.int p2), .val (.int (5 : Int32)), .val (.int (0 : Int32)), .val (.int (1 : Int32)), .val (.int v75), .val (.int ch76), .val (.int ch77), .val (.int ch78), .val (.int ch79), .val (.int ch80), .val (.int ch81), .val (.ref a131), .val .null]) rfl ?_
          refine g_aload X131 hx hby i0_253 rfl rfl ?_
          refine g_callS0 X131 hx hby hZ (y := (⟨"com/example/plantain/plantain/codec/Profile", "named", "(Ljava/lang/String;)Lcom/example/plantain/plantain/codec/Profile;"⟩ : MethodName)) (argsL := [(.ref a131)]) (rest := []) hown (hw _ (List.mem_of_getElem? (i := 29) rfl)) (hw _ (List.mem_of_getElem? (i := 30) rfl)) (hw _ (List.mem_of_getElem? (i := 31) rfl)) (hw _ (List.mem_of_getElem? (i := 32) rfl)) (by decide) (rm6_5 l Z a0 hw [] a131 cz va na pa ns ps nb pb kv kn kp tb131 kt131 (nar .byte (nar .char ch76).toInt8.toInt32) (nar .byte (nar .char ch77).toInt8.toInt32) (nar .byte (nar .char ch78).toInt8.toInt32) (nar .byte (nar .char ch79).toInt8.toInt32) (nar .byte (nar .char ch80).toInt8.toInt32) T131.heap n0 Z0 S0 hcz O SV SN SP E_va V_va E_na F_na E_ns FC_ns FV_ns V_nb E_pa F_pa E_ps FC_ps FV_ps V_pb E131 FC131 FV131 V131 ne_ns_a131 ne_ps_a131) rfl (by rw [hml]; rfl) pd_10 rfl rfl i0_255 (by decide) 0 rfl (by decide) (by decide) (by decide) fun T134 v134 L134 X134 q134 => ?_
          obtain ⟨_, rfl, rfl, K134, N134⟩ := q134
          have N0 := Fr.app N0 N134
          have E131 := E131.keep K134
          have FV131 := FV131.keep K134 nin0
          have FC131 := FC131.keep K134 nin0
          have V131 := V131.keep K134 nin0
          have O := O.keep K134 all0
          have Z0 : n0 ≤ T134.heap.size := Nat.le_trans Z0 K134.1
          show Gd p e below _ T134 (mkF m 258 #[.val (.int p0), .val (.int p1), .val (.int p2), .val (.int (5 : Int32)), .val (.int (0 : Int32)), .val (.int (1 : Int32)), .val (.int v75), .val (.int ch76), .val (.int ch77), .val (.int ch78), .val (.int ch79), .val (.int ch80), .val (.int ch81), .val (.ref a131), .val .null] [.null])
          refine g_aload X134 hx hby i0_258 rfl rfl ?_
          refine g_acmp_ne X134 hx hby i0_260 rfl rfl (fun c260_135 => False.elim (c260_135 rfl)) fun c260_135 => ?_
          refine g_iconst X134 hx hby i0_263 (z := (1 : Int32)) (by decide) ?_
          refine g_goto X134 hx hby i0_264 ?_
          refine Gd.toW ?_
          refine g_ireturnN X134 hx hby (ty := .boolean) hret (by simp) hlk i0_268 (by decide) (by decide) ?_
          exact ⟨_, rfl, rfl, N0⟩
        · refine g_iloadN X81 hx hby i0_164 rfl ?_
          refine g_iload X81 hx hby i0_165 rfl ?_
          refine g_iload X81 hx hby i0_167 rfl ?_
          refine g_iload X81 hx hby i0_169 rfl ?_
          refine g_iload X81 hx hby i0_171 rfl ?_
          refine g_iload X81 hx hby i0_173 rfl ?_
          refine g_iload X81 hx hby i0_175 rfl ?_
          refine g_callS0 X81 hx hby hZ (y := (⟨"com/example/plantain/plantain/codec/ProfileNamedPinLaw", "make", "(ICCCCCC)Ljava/lang/String;"⟩ : MethodName)) (argsL := [(.int (6 : Int32)), (.int ch76), (.int ch77), (.int ch78), (.int ch79), (.int ch80), (.int ch81)]) (rest := []) hown (hw _ (List.mem_of_getElem? (i := 4) rfl)) (hw _ (List.mem_of_getElem? (i := 5) rfl)) (hw _ (List.mem_of_getElem? (i := 2) rfl)) (hw _ (List.mem_of_getElem? (i := 6) rfl)) (by decide) (rm2_6 l Z a0 hw [] (6 : Int32) ch76 ch77 ch78 ch79 ch80 ch81 cz h0 n0 Z0 S0 hcz O rfl hch76 hch77 hch78 hch79 hch80 hch81) e81 (by rw [hml]; rfl) pd_9 rfl rfl i0_177 (by decide) 0 rfl (by decide) (by decide) (by decide) fun T136 v136 L136 X136 q136 => ?_
          obtain ⟨_, rfl, a136, tb136, kt136, rfl, K136, E136, FV136, FC136, V136, sa136, N136⟩ := q136
          have N0 := Fr.app N0 N136
          have ne_ns_a136 : ns ≠ a136 := Nat.ne_of_lt (Nat.lt_of_lt_of_le (E_ns.ext O.2).lt sa136)
          have ne_ps_a136 : ps ≠ a136 := Nat.ne_of_lt (Nat.lt_of_lt_of_le (E_ps.ext O.2).lt sa136)
          have O := O.keep K136 all0
          have Z0 : n0 ≤ T136.heap.size := Nat.le_trans Z0 K136.1
          show Gd p e below _ T136 (mkF m 180 #[.val (.int p0), .val (.int p1), .val (.int p2), .val (.int (6 : Int32)), .val (.int (0 : Int32)), .val (.int (1 : Int32)), .val (.int v75), .val (.int ch76), .val (.int ch77), .val (.int ch78), .val (.int ch79), .val (.int ch80), .val (.int ch81), .unset, .unset] [(.ref a136)])
          refine g_astore X136 hx hby i0_180 rfl (l' := #[.val (.int p0), .val (.int p1), .val (.int p2), .val (.int (6 : Int32)), .val (.int (0 : Int32)), .val (.int (1 : Int32)), .val (.int v75), .val (.int ch76), .val (.int ch77), .val (.int ch78), .val (.int ch79), .val (.int ch80), .val (.int ch81), .val (.ref a136), .unset]) rfl ?_
          refine g_iloadN X136 hx hby i0_182 rfl ?_
          refine g_iconst X136 hx hby i0_183 (z := (4 : Int32)) (by decide) ?_
          refine g_icmp_ne X136 hx hby i0_184 (fun c184_137 => ?_) (fun c184_137 => False.elim (absurd c184_137 (by decide)))
          refine g_iloadN X136 hx hby i0_223 rfl ?_
          refine g_iconst X136 hx hby i0_224 (z := (2 : Int32)) (by decide) ?_
          refine g_icmp_ne X136 hx hby i0_225 (fun c225_138 => ?_) (fun c225_138 => False.elim (absurd c225_138 (by decide)))
          refine g_aconst_null X136 hx hby i0_250 ?_
          refine g_astore X136 hx hby i0_251 rfl (l' := #[.val (.int p0), .val (.int p1), .val (.int p2), .val (.int (6 : Int32)), .val (.int (0 : Int32)), .val (.int (1 : Int32)), .val (.int v75), .val (.int ch76), .val (.int ch77), .val (.int ch78), .val (.int ch79), .val (.int ch80), .val (.int ch81), .val (.ref a136), .val .null]) rfl ?_
          refine g_aload X136 hx hby i0_253 rfl rfl ?_
          refine g_callS0 X136 hx hby hZ (y := (⟨"com/example/plantain/plantain/codec/Profile", "named", "(Ljava/lang/String;)Lcom/example/plantain/plantain/codec/Profile;"⟩ : MethodName)) (argsL := [(.ref a136)]) (rest := []) hown (hw _ (List.mem_of_getElem? (i := 29) rfl)) (hw _ (List.mem_of_getElem? (i := 30) rfl)) (hw _ (List.mem_of_getElem? (i := 31) rfl)) (hw _ (List.mem_of_getElem? (i := 32) rfl)) (by decide) (rm6_6 l Z a0 hw [] a136 cz va na pa ns ps nb pb kv kn kp tb136 kt136 (nar .byte (nar .char ch76).toInt8.toInt32) (nar .byte (nar .char ch77).toInt8.toInt32) (nar .byte (nar .char ch78).toInt8.toInt32) (nar .byte (nar .char ch79).toInt8.toInt32) (nar .byte (nar .char ch80).toInt8.toInt32) (nar .byte (nar .char ch81).toInt8.toInt32) T136.heap n0 Z0 S0 hcz O SV SN SP E_va V_va E_na F_na E_ns FC_ns FV_ns V_nb E_pa F_pa E_ps FC_ps FV_ps V_pb E136 FC136 FV136 V136 ne_ns_a136 ne_ps_a136) rfl (by rw [hml]; rfl) pd_10 rfl rfl i0_255 (by decide) 0 rfl (by decide) (by decide) (by decide) fun T139 v139 L139 X139 q139 => ?_
          obtain ⟨_, rfl, rfl, K139, N139⟩ := q139
          have N0 := Fr.app N0 N139
          have E136 := E136.keep K139
          have FV136 := FV136.keep K139 nin0
          have FC136 := FC136.keep K139 nin0
          have V136 := V136.keep K139 nin0
          have O := O.keep K139 all0
          have Z0 : n0 ≤ T139.heap.size := Nat.le_trans Z0 K139.1
          show Gd p e below _ T139 (mkF m 258 #[.val (.int p0), .val (.int p1), .val (.int p2), .val (.int (6 : Int32)), .val (.int (0 : Int32)), .val (.int (1 : Int32)), .val (.int v75), .val (.int ch76), .val (.int ch77), .val (.int ch78), .val (.int ch79), .val (.int ch80), .val (.int ch81), .val (.ref a136), .val .null] [.null])
          refine g_aload X139 hx hby i0_258 rfl rfl ?_
          refine g_acmp_ne X139 hx hby i0_260 rfl rfl (fun c260_140 => False.elim (c260_140 rfl)) fun c260_140 => ?_
          refine g_iconst X139 hx hby i0_263 (z := (1 : Int32)) (by decide) ?_
          refine g_goto X139 hx hby i0_264 ?_
          refine Gd.toW ?_
          refine g_ireturnN X139 hx hby (ty := .boolean) hret (by simp) hlk i0_268 (by decide) (by decide) ?_
          exact ⟨_, rfl, rfl, N0⟩
      · subst c157_82
        · refine g_aconst_null X81 hx hby i0_160 ?_
          refine g_goto X81 hx hby i0_161 ?_
          refine g_astore X81 hx hby i0_180 rfl (l' := #[.val (.int p0), .val (.int p1), .val (.int p2), .val (.int (7 : Int32)), .val (.int (0 : Int32)), .val (.int (1 : Int32)), .val (.int v75), .val (.int ch76), .val (.int ch77), .val (.int ch78), .val (.int ch79), .val (.int ch80), .val (.int ch81), .val .null, .unset]) rfl ?_
          refine g_iloadN X81 hx hby i0_182 rfl ?_
          refine g_iconst X81 hx hby i0_183 (z := (4 : Int32)) (by decide) ?_
          refine g_icmp_ne X81 hx hby i0_184 (fun c184_141 => ?_) (fun c184_141 => False.elim (absurd c184_141 (by decide)))
          refine g_iloadN X81 hx hby i0_223 rfl ?_
          refine g_iconst X81 hx hby i0_224 (z := (2 : Int32)) (by decide) ?_
          refine g_icmp_ne X81 hx hby i0_225 (fun c225_142 => ?_) (fun c225_142 => False.elim (absurd c225_142 (by decide)))
          refine g_aconst_null X81 hx hby i0_250 ?_
          refine g_astore X81 hx hby i0_251 rfl (l' := #[.val (.int p0), .val (.int p1), .val (.int p2), .val (.int (7 : Int32)), .val (.int (0 : Int32)), .val (.int (1 : Int32)), .val (.int v75), .val (.int ch76), .val (.int ch77), .val (.int ch78), .val (.int ch79), .val (.int ch80), .val (.int ch81), .val .null, .val .null]) rfl ?_
          refine g_aload X81 hx hby i0_253 rfl rfl ?_
          refine g_callS0 X81 hx hby hZ (y := (⟨"com/example/plantain/plantain/codec/Profile", "named", "(Ljava/lang/String;)Lcom/example/plantain/plantain/codec/Profile;"⟩ : MethodName)) (argsL := [.null]) (rest := []) hown (hw _ (List.mem_of_getElem? (i := 29) rfl)) (hw _ (List.mem_of_getElem? (i := 30) rfl)) (hw _ (List.mem_of_getElem? (i := 31) rfl)) (hw _ (List.mem_of_getElem? (i := 32) rfl)) (by decide) (rm6_n l Z a0 hw [] cz va na pa ns ps nb pb kv kn kp h0 n0 Z0 S0 hcz O SV SN SP E_va V_va E_na F_na E_ns FC_ns FV_ns V_nb E_pa F_pa E_ps FC_ps FV_ps V_pb) e81 (by rw [hml]; rfl) pd_10 rfl rfl i0_255 (by decide) 0 rfl (by decide) (by decide) (by decide) fun T143 v143 L143 X143 q143 => ?_
          obtain ⟨_, rfl, rfl, K143, N143⟩ := q143
          have N0 := Fr.app N0 N143
          have O := O.keep K143 all0
          have Z0 : n0 ≤ T143.heap.size := Nat.le_trans Z0 K143.1
          show Gd p e below _ T143 (mkF m 258 #[.val (.int p0), .val (.int p1), .val (.int p2), .val (.int (7 : Int32)), .val (.int (0 : Int32)), .val (.int (1 : Int32)), .val (.int v75), .val (.int ch76), .val (.int ch77), .val (.int ch78), .val (.int ch79), .val (.int ch80), .val (.int ch81), .val .null, .val .null] [.null])
          refine g_aload X143 hx hby i0_258 rfl rfl ?_
          refine g_acmp_ne X143 hx hby i0_260 rfl rfl (fun c260_144 => False.elim (c260_144 rfl)) fun c260_144 => ?_
          refine g_iconst X143 hx hby i0_263 (z := (1 : Int32)) (by decide) ?_
          refine g_goto X143 hx hby i0_264 ?_
          refine Gd.toW ?_
          refine g_ireturnN X143 hx hby (ty := .boolean) hret (by simp) hlk i0_268 (by decide) (by decide) ?_
          exact ⟨_, rfl, rfl, N0⟩
  · refine g_iconst X0 hx hby i0_13 (z := (1 : Int32)) (by decide) ?_
    refine g_goto X0 hx hby i0_14 ?_
    refine g_istore X0 hx hby i0_18 (l' := #[.val (.int p0), .val (.int p1), .val (.int p2), .val (.int v1), .val (.int (1 : Int32)), .unset, .unset, .unset, .unset, .unset, .unset, .unset, .unset, .unset, .unset]) rfl ?_
    refine g_iloadN X0 hx hby i0_20 rfl ?_
    refine g_iconst X0 hx hby i0_21 (z := (4 : Int32)) (by decide) ?_
    refine g_ishr X0 hx hby i0_22 ?_
    refine g_iconst X0 hx hby i0_23 (z := (1 : Int32)) (by decide) ?_
    refine g_iand X0 hx hby i0_24 ?_
    refine g_if_eq X0 hx hby i0_25 (fun c25_145 => ?_) (fun c25_145 => ?_)
    · refine g_iconst X0 hx hby i0_32 (z := (0 : Int32)) (by decide) ?_
      refine g_istore X0 hx hby i0_33 (l' := #[.val (.int p0), .val (.int p1), .val (.int p2), .val (.int v1), .val (.int (1 : Int32)), .val (.int (0 : Int32)), .unset, .unset, .unset, .unset, .unset, .unset, .unset, .unset, .unset]) rfl ?_
      refine g_iload X0 hx hby i0_35 rfl ?_
      refine g_if_eq X0 hx hby i0_37 (fun c37_146 => ?_) (fun c37_146 => False.elim (absurd c37_146 (by decide)))
      refine g_iconst X0 hx hby i0_49 (z := (0 : Int32)) (by decide) ?_
      refine g_istore X0 hx hby i0_50 (l' := #[.val (.int p0), .val (.int p1), .val (.int p2), .val (.int v1), .val (.int (1 : Int32)), .val (.int (0 : Int32)), .val (.int (0 : Int32)), .unset, .unset, .unset, .unset, .unset, .unset, .unset, .unset]) rfl ?_
      refine g_iload X0 hx hby i0_52 rfl ?_
      refine g_iconst X0 hx hby i0_54 (z := (0 : Int32)) (by decide) ?_
      refine g_iload X0 hx hby i0_55 rfl ?_
      refine g_iloadN X0 hx hby i0_57 rfl ?_
      refine g_sipush X0 hx hby i0_58 (z := (255 : Int32)) (by decide) ?_
      refine g_iand X0 hx hby i0_61 ?_
      refine g_callS0 X0 hx hby hZ (y := (⟨"com/example/plantain/plantain/codec/ProfileNamedPinLaw", "pick", "(ZIII)C"⟩ : MethodName)) (argsL := [(.int (1 : Int32)), (.int (0 : Int32)), (.int (0 : Int32)), (.int (p1 &&& (255 : Int32)))]) (rest := []) hown (hw _ (List.mem_of_getElem? (i := 0) rfl)) (hw _ (List.mem_of_getElem? (i := 1) rfl)) (hw _ (List.mem_of_getElem? (i := 2) rfl)) (hw _ (List.mem_of_getElem? (i := 3) rfl)) (by decide) (rm1 l Z a0 hw [] (1 : Int32) (0 : Int32) (0 : Int32) (p1 &&& (255 : Int32)) h0 n0 Z0 ⟨_, rfl⟩) e0 (by rw [hml]; rfl) pd_8 rfl rfl i0_62 (by decide) 0 rfl (by decide) (by decide) (by decide) fun T147 v147 L147 X147 q147 => ?_
      obtain ⟨_, rfl, ch147, rfl, hch147, e147, N147⟩ := q147
      have N0 := Fr.app N0 N147
      show Gd p e below _ T147 (mkF m 65 #[.val (.int p0), .val (.int p1), .val (.int p2), .val (.int v1), .val (.int (1 : Int32)), .val (.int (0 : Int32)), .val (.int (0 : Int32)), .unset, .unset, .unset, .unset, .unset, .unset, .unset, .unset] [(.int ch147)])
      refine g_istore X147 hx hby i0_65 (l' := #[.val (.int p0), .val (.int p1), .val (.int p2), .val (.int v1), .val (.int (1 : Int32)), .val (.int (0 : Int32)), .val (.int (0 : Int32)), .val (.int ch147), .unset, .unset, .unset, .unset, .unset, .unset, .unset]) rfl ?_
      refine g_iload X147 hx hby i0_67 rfl ?_
      refine g_iconst X147 hx hby i0_69 (z := (1 : Int32)) (by decide) ?_
      refine g_iload X147 hx hby i0_70 rfl ?_
      refine g_iloadN X147 hx hby i0_72 rfl ?_
      refine g_bipush X147 hx hby i0_73 (z := (8 : Int32)) (by decide) ?_
      refine g_iushr X147 hx hby i0_75 ?_
      refine g_sipush X147 hx hby i0_76 (z := (255 : Int32)) (by decide) ?_
      refine g_iand X147 hx hby i0_79 ?_
      refine g_callS0 X147 hx hby hZ (y := (⟨"com/example/plantain/plantain/codec/ProfileNamedPinLaw", "pick", "(ZIII)C"⟩ : MethodName)) (argsL := [(.int (1 : Int32)), (.int (1 : Int32)), (.int (0 : Int32)), (.int (((p1.toUInt32 >>> ((8 : Int32) &&& 31).toUInt32).toInt32) &&& (255 : Int32)))]) (rest := []) hown (hw _ (List.mem_of_getElem? (i := 0) rfl)) (hw _ (List.mem_of_getElem? (i := 1) rfl)) (hw _ (List.mem_of_getElem? (i := 2) rfl)) (hw _ (List.mem_of_getElem? (i := 3) rfl)) (by decide) (rm1 l Z a0 hw [] (1 : Int32) (1 : Int32) (0 : Int32) (((p1.toUInt32 >>> ((8 : Int32) &&& 31).toUInt32).toInt32) &&& (255 : Int32)) h0 n0 Z0 ⟨_, rfl⟩) e147 (by rw [hml]; rfl) pd_8 rfl rfl i0_80 (by decide) 0 rfl (by decide) (by decide) (by decide) fun T148 v148 L148 X148 q148 => ?_
      obtain ⟨_, rfl, ch148, rfl, hch148, e148, N148⟩ := q148
      have N0 := Fr.app N0 N148
      show Gd p e below _ T148 (mkF m 83 #[.val (.int p0), .val (.int p1), .val (.int p2), .val (.int v1), .val (.int (1 : Int32)), .val (.int (0 : Int32)), .val (.int (0 : Int32)), .val (.int ch147), .unset, .unset, .unset, .unset, .unset, .unset, .unset] [(.int ch148)])
      refine g_istore X148 hx hby i0_83 (l' := #[.val (.int p0), .val (.int p1), .val (.int p2), .val (.int v1), .val (.int (1 : Int32)), .val (.int (0 : Int32)), .val (.int (0 : Int32)), .val (.int ch147), .val (.int ch148), .unset, .unset, .unset, .unset, .unset, .unset]) rfl ?_
      refine g_iload X148 hx hby i0_85 rfl ?_
      refine g_iconst X148 hx hby i0_87 (z := (2 : Int32)) (by decide) ?_
      refine g_iload X148 hx hby i0_88 rfl ?_
      refine g_iloadN X148 hx hby i0_90 rfl ?_
      refine g_bipush X148 hx hby i0_91 (z := (16 : Int32)) (by decide) ?_
      refine g_iushr X148 hx hby i0_93 ?_
      refine g_sipush X148 hx hby i0_94 (z := (255 : Int32)) (by decide) ?_
      refine g_iand X148 hx hby i0_97 ?_
      refine g_callS0 X148 hx hby hZ (y := (⟨"com/example/plantain/plantain/codec/ProfileNamedPinLaw", "pick", "(ZIII)C"⟩ : MethodName)) (argsL := [(.int (1 : Int32)), (.int (2 : Int32)), (.int (0 : Int32)), (.int (((p1.toUInt32 >>> ((16 : Int32) &&& 31).toUInt32).toInt32) &&& (255 : Int32)))]) (rest := []) hown (hw _ (List.mem_of_getElem? (i := 0) rfl)) (hw _ (List.mem_of_getElem? (i := 1) rfl)) (hw _ (List.mem_of_getElem? (i := 2) rfl)) (hw _ (List.mem_of_getElem? (i := 3) rfl)) (by decide) (rm1 l Z a0 hw [] (1 : Int32) (2 : Int32) (0 : Int32) (((p1.toUInt32 >>> ((16 : Int32) &&& 31).toUInt32).toInt32) &&& (255 : Int32)) h0 n0 Z0 ⟨_, rfl⟩) e148 (by rw [hml]; rfl) pd_8 rfl rfl i0_98 (by decide) 0 rfl (by decide) (by decide) (by decide) fun T149 v149 L149 X149 q149 => ?_
      obtain ⟨_, rfl, ch149, rfl, hch149, e149, N149⟩ := q149
      have N0 := Fr.app N0 N149
      show Gd p e below _ T149 (mkF m 101 #[.val (.int p0), .val (.int p1), .val (.int p2), .val (.int v1), .val (.int (1 : Int32)), .val (.int (0 : Int32)), .val (.int (0 : Int32)), .val (.int ch147), .val (.int ch148), .unset, .unset, .unset, .unset, .unset, .unset] [(.int ch149)])
      refine g_istore X149 hx hby i0_101 (l' := #[.val (.int p0), .val (.int p1), .val (.int p2), .val (.int v1), .val (.int (1 : Int32)), .val (.int (0 : Int32)), .val (.int (0 : Int32)), .val (.int ch147), .val (.int ch148), .val (.int ch149), .unset, .unset, .unset, .unset, .unset]) rfl ?_
      refine g_iload X149 hx hby i0_103 rfl ?_
      refine g_iconst X149 hx hby i0_105 (z := (3 : Int32)) (by decide) ?_
      refine g_iload X149 hx hby i0_106 rfl ?_
      refine g_iloadN X149 hx hby i0_108 rfl ?_
      refine g_bipush X149 hx hby i0_109 (z := (24 : Int32)) (by decide) ?_
      refine g_iushr X149 hx hby i0_111 ?_
      refine g_sipush X149 hx hby i0_112 (z := (255 : Int32)) (by decide) ?_
      refine g_iand X149 hx hby i0_115 ?_
      refine g_callS0 X149 hx hby hZ (y := (⟨"com/example/plantain/plantain/codec/ProfileNamedPinLaw", "pick", "(ZIII)C"⟩ : MethodName)) (argsL := [(.int (1 : Int32)), (.int (3 : Int32)), (.int (0 : Int32)), (.int (((p1.toUInt32 >>> ((24 : Int32) &&& 31).toUInt32).toInt32) &&& (255 : Int32)))]) (rest := []) hown (hw _ (List.mem_of_getElem? (i := 0) rfl)) (hw _ (List.mem_of_getElem? (i := 1) rfl)) (hw _ (List.mem_of_getElem? (i := 2) rfl)) (hw _ (List.mem_of_getElem? (i := 3) rfl)) (by decide) (rm1 l Z a0 hw [] (1 : Int32) (3 : Int32) (0 : Int32) (((p1.toUInt32 >>> ((24 : Int32) &&& 31).toUInt32).toInt32) &&& (255 : Int32)) h0 n0 Z0 ⟨_, rfl⟩) e149 (by rw [hml]; rfl) pd_8 rfl rfl i0_116 (by decide) 0 rfl (by decide) (by decide) (by decide) fun T150 v150 L150 X150 q150 => ?_
      obtain ⟨_, rfl, ch150, rfl, hch150, e150, N150⟩ := q150
      have N0 := Fr.app N0 N150
      show Gd p e below _ T150 (mkF m 119 #[.val (.int p0), .val (.int p1), .val (.int p2), .val (.int v1), .val (.int (1 : Int32)), .val (.int (0 : Int32)), .val (.int (0 : Int32)), .val (.int ch147), .val (.int ch148), .val (.int ch149), .unset, .unset, .unset, .unset, .unset] [(.int ch150)])
      refine g_istore X150 hx hby i0_119 (l' := #[.val (.int p0), .val (.int p1), .val (.int p2), .val (.int v1), .val (.int (1 : Int32)), .val (.int (0 : Int32)), .val (.int (0 : Int32)), .val (.int ch147), .val (.int ch148), .val (.int ch149), .val (.int ch150), .unset, .unset, .unset, .unset]) rfl ?_
      refine g_iload X150 hx hby i0_121 rfl ?_
      refine g_iconst X150 hx hby i0_123 (z := (4 : Int32)) (by decide) ?_
      refine g_iload X150 hx hby i0_124 rfl ?_
      refine g_iloadN X150 hx hby i0_126 rfl ?_
      refine g_sipush X150 hx hby i0_127 (z := (255 : Int32)) (by decide) ?_
      refine g_iand X150 hx hby i0_130 ?_
      refine g_callS0 X150 hx hby hZ (y := (⟨"com/example/plantain/plantain/codec/ProfileNamedPinLaw", "pick", "(ZIII)C"⟩ : MethodName)) (argsL := [(.int (1 : Int32)), (.int (4 : Int32)), (.int (0 : Int32)), (.int (p2 &&& (255 : Int32)))]) (rest := []) hown (hw _ (List.mem_of_getElem? (i := 0) rfl)) (hw _ (List.mem_of_getElem? (i := 1) rfl)) (hw _ (List.mem_of_getElem? (i := 2) rfl)) (hw _ (List.mem_of_getElem? (i := 3) rfl)) (by decide) (rm1 l Z a0 hw [] (1 : Int32) (4 : Int32) (0 : Int32) (p2 &&& (255 : Int32)) h0 n0 Z0 ⟨_, rfl⟩) e150 (by rw [hml]; rfl) pd_8 rfl rfl i0_131 (by decide) 0 rfl (by decide) (by decide) (by decide) fun T151 v151 L151 X151 q151 => ?_
      obtain ⟨_, rfl, ch151, rfl, hch151, e151, N151⟩ := q151
      have N0 := Fr.app N0 N151
      show Gd p e below _ T151 (mkF m 134 #[.val (.int p0), .val (.int p1), .val (.int p2), .val (.int v1), .val (.int (1 : Int32)), .val (.int (0 : Int32)), .val (.int (0 : Int32)), .val (.int ch147), .val (.int ch148), .val (.int ch149), .val (.int ch150), .unset, .unset, .unset, .unset] [(.int ch151)])
      refine g_istore X151 hx hby i0_134 (l' := #[.val (.int p0), .val (.int p1), .val (.int p2), .val (.int v1), .val (.int (1 : Int32)), .val (.int (0 : Int32)), .val (.int (0 : Int32)), .val (.int ch147), .val (.int ch148), .val (.int ch149), .val (.int ch150), .val (.int ch151), .unset, .unset, .unset]) rfl ?_
      refine g_iload X151 hx hby i0_136 rfl ?_
      refine g_iconst X151 hx hby i0_138 (z := (5 : Int32)) (by decide) ?_
      refine g_iload X151 hx hby i0_139 rfl ?_
      refine g_iloadN X151 hx hby i0_141 rfl ?_
      refine g_bipush X151 hx hby i0_142 (z := (8 : Int32)) (by decide) ?_
      refine g_iushr X151 hx hby i0_144 ?_
      refine g_sipush X151 hx hby i0_145 (z := (255 : Int32)) (by decide) ?_
      refine g_iand X151 hx hby i0_148 ?_
      refine g_callS0 X151 hx hby hZ (y := (⟨"com/example/plantain/plantain/codec/ProfileNamedPinLaw", "pick", "(ZIII)C"⟩ : MethodName)) (argsL := [(.int (1 : Int32)), (.int (5 : Int32)), (.int (0 : Int32)), (.int (((p2.toUInt32 >>> ((8 : Int32) &&& 31).toUInt32).toInt32) &&& (255 : Int32)))]) (rest := []) hown (hw _ (List.mem_of_getElem? (i := 0) rfl)) (hw _ (List.mem_of_getElem? (i := 1) rfl)) (hw _ (List.mem_of_getElem? (i := 2) rfl)) (hw _ (List.mem_of_getElem? (i := 3) rfl)) (by decide) (rm1 l Z a0 hw [] (1 : Int32) (5 : Int32) (0 : Int32) (((p2.toUInt32 >>> ((8 : Int32) &&& 31).toUInt32).toInt32) &&& (255 : Int32)) h0 n0 Z0 ⟨_, rfl⟩) e151 (by rw [hml]; rfl) pd_8 rfl rfl i0_149 (by decide) 0 rfl (by decide) (by decide) (by decide) fun T152 v152 L152 X152 q152 => ?_
      obtain ⟨_, rfl, ch152, rfl, hch152, e152, N152⟩ := q152
      have N0 := Fr.app N0 N152
      show Gd p e below _ T152 (mkF m 152 #[.val (.int p0), .val (.int p1), .val (.int p2), .val (.int v1), .val (.int (1 : Int32)), .val (.int (0 : Int32)), .val (.int (0 : Int32)), .val (.int ch147), .val (.int ch148), .val (.int ch149), .val (.int ch150), .val (.int ch151), .unset, .unset, .unset] [(.int ch152)])
      refine g_istore X152 hx hby i0_152 (l' := #[.val (.int p0), .val (.int p1), .val (.int p2), .val (.int v1), .val (.int (1 : Int32)), .val (.int (0 : Int32)), .val (.int (0 : Int32)), .val (.int ch147), .val (.int ch148), .val (.int ch149), .val (.int ch150), .val (.int ch151), .val (.int ch152), .unset, .unset]) rfl ?_
      refine g_iloadN X152 hx hby i0_154 rfl ?_
      refine g_bipush X152 hx hby i0_155 (z := (7 : Int32)) (by decide) ?_
      refine g_icmp_ne X152 hx hby i0_157 (fun c157_153 => ?_) (fun c157_153 => ?_)
      · rcases own_cases hv1 c157_153 with rfl | rfl | rfl | rfl | rfl | rfl | rfl
        · refine g_iloadN X152 hx hby i0_164 rfl ?_
          refine g_iload X152 hx hby i0_165 rfl ?_
          refine g_iload X152 hx hby i0_167 rfl ?_
          refine g_iload X152 hx hby i0_169 rfl ?_
          refine g_iload X152 hx hby i0_171 rfl ?_
          refine g_iload X152 hx hby i0_173 rfl ?_
          refine g_iload X152 hx hby i0_175 rfl ?_
          refine g_callSW X152 hx hby hZ hI (y := (⟨"com/example/plantain/plantain/codec/ProfileNamedPinLaw", "make", "(ICCCCCC)Ljava/lang/String;"⟩ : MethodName)) (argsL := [(.int (0 : Int32)), (.int ch147), (.int ch148), (.int ch149), (.int ch150), (.int ch151), (.int ch152)]) (rest := []) hown (hw _ (List.mem_of_getElem? (i := 4) rfl)) (hw _ (List.mem_of_getElem? (i := 5) rfl)) (hw _ (List.mem_of_getElem? (i := 2) rfl)) (hw _ (List.mem_of_getElem? (i := 6) rfl)) (by decide) (rm2_0 l Z a0 hw [] (0 : Int32) ch147 ch148 ch149 ch150 ch151 ch152 cz h0 n0 Z0 S0 hcz O hh hcw rfl hch147 hch148 hch149 hch150 hch151 hch152) e152 (by rw [hml]; rfl) pd_9 rfl rfl i0_177 (by decide) 0 rfl (by decide) (by decide) (by decide) fun T154 v154 L154 X154 hS hZ hown q154 => ?_
          obtain ⟨_, rfl, a154, tb154, kt154, rfl, K154, E154, FV154, FC154, V154, sa154, N154⟩ := q154
          have N0 := Fr.app N0 N154
          have Zk : T154.heap.size ≤ T154.heap.size := Nat.le_refl _
          have ne_ns_a154 : ns ≠ a154 := Nat.ne_of_lt (Nat.lt_of_lt_of_le (E_ns.ext O.2).lt sa154)
          have ne_ps_a154 : ps ≠ a154 := Nat.ne_of_lt (Nat.lt_of_lt_of_le (E_ps.ext O.2).lt sa154)
          have O := O.keep K154 all0
          have Z0 : n0 ≤ T154.heap.size := Nat.le_trans Z0 K154.1
          show Gd p e below _ T154 (mkF m 180 #[.val (.int p0), .val (.int p1), .val (.int p2), .val (.int (0 : Int32)), .val (.int (1 : Int32)), .val (.int (0 : Int32)), .val (.int (0 : Int32)), .val (.int ch147), .val (.int ch148), .val (.int ch149), .val (.int ch150), .val (.int ch151), .val (.int ch152), .unset, .unset] [(.ref a154)])
          refine g_astore X154 hx hby i0_180 rfl (l' := #[.val (.int p0), .val (.int p1), .val (.int p2), .val (.int (0 : Int32)), .val (.int (1 : Int32)), .val (.int (0 : Int32)), .val (.int (0 : Int32)), .val (.int ch147), .val (.int ch148), .val (.int ch149), .val (.int ch150), .val (.int ch151), .val (.int ch152), .val (.ref a154), .unset]) rfl ?_
          refine g_iloadN X154 hx hby i0_182 rfl ?_
          refine g_iconst X154 hx hby i0_183 (z := (4 : Int32)) (by decide) ?_
          refine g_icmp_ne X154 hx hby i0_184 (fun c184_155 => ?_) (fun c184_155 => False.elim (absurd c184_155 (by decide)))
          refine g_iloadN X154 hx hby i0_223 rfl ?_
          refine g_iconst X154 hx hby i0_224 (z := (2 : Int32)) (by decide) ?_
          refine g_icmp_ne X154 hx hby i0_225 (fun c225_156 => ?_) (fun c225_156 => False.elim (absurd c225_156 (by decide)))
          refine g_aconst_null X154 hx hby i0_250 ?_
          refine g_astore X154 hx hby i0_251 rfl (l' := #[.val (.int p0), .val (.int p1), .val (.int p2), .val (.int (0 : Int32)), .val (.int (1 : Int32)), .val (.int (0 : Int32)), .val (.int (0 : Int32)), .val (.int ch147), .val (.int ch148), .val (.int ch149), .val (.int ch150), .val (.int ch151), .val (.int ch152), .val (.ref a154), .val .null]) rfl ?_
          refine g_aload X154 hx hby i0_253 rfl rfl ?_
          refine g_callS0 X154 hx hby hZ (y := (⟨"com/example/plantain/plantain/codec/Profile", "named", "(Ljava/lang/String;)Lcom/example/plantain/plantain/codec/Profile;"⟩ : MethodName)) (argsL := [(.ref a154)]) (rest := []) hown (hw _ (List.mem_of_getElem? (i := 29) rfl)) (hw _ (List.mem_of_getElem? (i := 30) rfl)) (hw _ (List.mem_of_getElem? (i := 31) rfl)) (hw _ (List.mem_of_getElem? (i := 32) rfl)) (by decide) (rm6_0 l Z a0 hw [] a154 cz va na pa ns ps nb pb kv kn kp tb154 kt154  T154.heap n0 Z0 S0 hcz O SV SN SP E_va V_va E_na F_na E_ns FC_ns FV_ns V_nb E_pa F_pa E_ps FC_ps FV_ps V_pb E154 FC154 FV154 V154 ne_ns_a154 ne_ps_a154) rfl (by rw [hml]; rfl) pd_10 rfl rfl i0_255 (by decide) 0 rfl (by decide) (by decide) (by decide) fun T157 v157 L157 X157 q157 => ?_
          obtain ⟨_, rfl, rfl, K157, N157⟩ := q157
          have N0 := Fr.app N0 N157
          have E154 := E154.keep K157
          have FV154 := FV154.keep K157 nin0
          have FC154 := FC154.keep K157 nin0
          have V154 := V154.keep K157 nin0
          have O := O.keep K157 all0
          have Z0 : n0 ≤ T157.heap.size := Nat.le_trans Z0 K157.1
          have Zk : T154.heap.size ≤ T157.heap.size := Nat.le_trans Zk K157.1
          show Gd p e below _ T157 (mkF m 258 #[.val (.int p0), .val (.int p1), .val (.int p2), .val (.int (0 : Int32)), .val (.int (1 : Int32)), .val (.int (0 : Int32)), .val (.int (0 : Int32)), .val (.int ch147), .val (.int ch148), .val (.int ch149), .val (.int ch150), .val (.int ch151), .val (.int ch152), .val (.ref a154), .val .null] [.null])
          refine g_aload X157 hx hby i0_258 rfl rfl ?_
          refine g_acmp_ne X157 hx hby i0_260 rfl rfl (fun c260_158 => False.elim (c260_158 rfl)) fun c260_158 => ?_
          refine g_iconst X157 hx hby i0_263 (z := (1 : Int32)) (by decide) ?_
          refine g_goto X157 hx hby i0_264 ?_
          refine g_ireturnNW X157 hx hby hS Zk (ty := .boolean) hret (by simp) hlk i0_268 (by decide) (by decide) ?_
          exact ⟨_, rfl, rfl, N0⟩
        · refine g_iloadN X152 hx hby i0_164 rfl ?_
          refine g_iload X152 hx hby i0_165 rfl ?_
          refine g_iload X152 hx hby i0_167 rfl ?_
          refine g_iload X152 hx hby i0_169 rfl ?_
          refine g_iload X152 hx hby i0_171 rfl ?_
          refine g_iload X152 hx hby i0_173 rfl ?_
          refine g_iload X152 hx hby i0_175 rfl ?_
          refine g_callS0 X152 hx hby hZ (y := (⟨"com/example/plantain/plantain/codec/ProfileNamedPinLaw", "make", "(ICCCCCC)Ljava/lang/String;"⟩ : MethodName)) (argsL := [(.int (1 : Int32)), (.int ch147), (.int ch148), (.int ch149), (.int ch150), (.int ch151), (.int ch152)]) (rest := []) hown (hw _ (List.mem_of_getElem? (i := 4) rfl)) (hw _ (List.mem_of_getElem? (i := 5) rfl)) (hw _ (List.mem_of_getElem? (i := 2) rfl)) (hw _ (List.mem_of_getElem? (i := 6) rfl)) (by decide) (rm2_1 l Z a0 hw [] (1 : Int32) ch147 ch148 ch149 ch150 ch151 ch152 cz h0 n0 Z0 S0 hcz O rfl hch147 hch148 hch149 hch150 hch151 hch152) e152 (by rw [hml]; rfl) pd_9 rfl rfl i0_177 (by decide) 0 rfl (by decide) (by decide) (by decide) fun T159 v159 L159 X159 q159 => ?_
          obtain ⟨_, rfl, a159, tb159, kt159, rfl, K159, E159, FV159, FC159, V159, sa159, N159⟩ := q159
          have N0 := Fr.app N0 N159
          have ne_ns_a159 : ns ≠ a159 := Nat.ne_of_lt (Nat.lt_of_lt_of_le (E_ns.ext O.2).lt sa159)
          have ne_ps_a159 : ps ≠ a159 := Nat.ne_of_lt (Nat.lt_of_lt_of_le (E_ps.ext O.2).lt sa159)
          have O := O.keep K159 all0
          have Z0 : n0 ≤ T159.heap.size := Nat.le_trans Z0 K159.1
          show Gd p e below _ T159 (mkF m 180 #[.val (.int p0), .val (.int p1), .val (.int p2), .val (.int (1 : Int32)), .val (.int (1 : Int32)), .val (.int (0 : Int32)), .val (.int (0 : Int32)), .val (.int ch147), .val (.int ch148), .val (.int ch149), .val (.int ch150), .val (.int ch151), .val (.int ch152), .unset, .unset] [(.ref a159)])
          refine g_astore X159 hx hby i0_180 rfl (l' := #[.val (.int p0), .val (.int p1), .val (.int p2), .val (.int (1 : Int32)), .val (.int (1 : Int32)), .val (.int (0 : Int32)), .val (.int (0 : Int32)), .val (.int ch147), .val (.int ch148), .val (.int ch149), .val (.int ch150), .val (.int ch151), .val (.int ch152), .val (.ref a159), .unset]) rfl ?_
          refine g_iloadN X159 hx hby i0_182 rfl ?_
          refine g_iconst X159 hx hby i0_183 (z := (4 : Int32)) (by decide) ?_
          refine g_icmp_ne X159 hx hby i0_184 (fun c184_160 => ?_) (fun c184_160 => False.elim (absurd c184_160 (by decide)))
          refine g_iloadN X159 hx hby i0_223 rfl ?_
          refine g_iconst X159 hx hby i0_224 (z := (2 : Int32)) (by decide) ?_
          refine g_icmp_ne X159 hx hby i0_225 (fun c225_161 => ?_) (fun c225_161 => False.elim (absurd c225_161 (by decide)))
          refine g_aconst_null X159 hx hby i0_250 ?_
          refine g_astore X159 hx hby i0_251 rfl (l' := #[.val (.int p0), .val (.int p1), .val (.int p2), .val (.int (1 : Int32)), .val (.int (1 : Int32)), .val (.int (0 : Int32)), .val (.int (0 : Int32)), .val (.int ch147), .val (.int ch148), .val (.int ch149), .val (.int ch150), .val (.int ch151), .val (.int ch152), .val (.ref a159), .val .null]) rfl ?_
          refine g_aload X159 hx hby i0_253 rfl rfl ?_
          refine g_callS0 X159 hx hby hZ (y := (⟨"com/example/plantain/plantain/codec/Profile", "named", "(Ljava/lang/String;)Lcom/example/plantain/plantain/codec/Profile;"⟩ : MethodName)) (argsL := [(.ref a159)]) (rest := []) hown (hw _ (List.mem_of_getElem? (i := 29) rfl)) (hw _ (List.mem_of_getElem? (i := 30) rfl)) (hw _ (List.mem_of_getElem? (i := 31) rfl)) (hw _ (List.mem_of_getElem? (i := 32) rfl)) (by decide) (rm6_1 l Z a0 hw [] a159 cz va na pa ns ps nb pb kv kn kp tb159 kt159 (nar .byte (nar .char ch147).toInt8.toInt32) T159.heap n0 Z0 S0 hcz O SV SN SP E_va V_va E_na F_na E_ns FC_ns FV_ns V_nb E_pa F_pa E_ps FC_ps FV_ps V_pb E159 FC159 FV159 V159 ne_ns_a159 ne_ps_a159) rfl (by rw [hml]; rfl) pd_10 rfl rfl i0_255 (by decide) 0 rfl (by decide) (by decide) (by decide) fun T162 v162 L162 X162 q162 => ?_
          obtain ⟨_, rfl, rfl, K162, N162⟩ := q162
          have N0 := Fr.app N0 N162
          have E159 := E159.keep K162
          have FV159 := FV159.keep K162 nin0
          have FC159 := FC159.keep K162 nin0
          have V159 := V159.keep K162 nin0
          have O := O.keep K162 all0
          have Z0 : n0 ≤ T162.heap.size := Nat.le_trans Z0 K162.1
          show Gd p e below _ T162 (mkF m 258 #[.val (.int p0), .val (.int p1), .val (.int p2), .val (.int (1 : Int32)), .val (.int (1 : Int32)), .val (.int (0 : Int32)), .val (.int (0 : Int32)), .val (.int ch147), .val (.int ch148), .val (.int ch149), .val (.int ch150), .val (.int ch151), .val (.int ch152), .val (.ref a159), .val .null] [.null])
          refine g_aload X162 hx hby i0_258 rfl rfl ?_
          refine g_acmp_ne X162 hx hby i0_260 rfl rfl (fun c260_163 => False.elim (c260_163 rfl)) fun c260_163 => ?_
          refine g_iconst X162 hx hby i0_263 (z := (1 : Int32)) (by decide) ?_
          refine g_goto X162 hx hby i0_264 ?_
          refine Gd.toW ?_
          refine g_ireturnN X162 hx hby (ty := .boolean) hret (by simp) hlk i0_268 (by decide) (by decide) ?_
          exact ⟨_, rfl, rfl, N0⟩
        · refine g_iloadN X152 hx hby i0_164 rfl ?_
          refine g_iload X152 hx hby i0_165 rfl ?_
          refine g_iload X152 hx hby i0_167 rfl ?_
          refine g_iload X152 hx hby i0_169 rfl ?_
          refine g_iload X152 hx hby i0_171 rfl ?_
          refine g_iload X152 hx hby i0_173 rfl ?_
          refine g_iload X152 hx hby i0_175 rfl ?_
          refine g_callS0 X152 hx hby hZ (y := (⟨"com/example/plantain/plantain/codec/ProfileNamedPinLaw", "make", "(ICCCCCC)Ljava/lang/String;"⟩ : MethodName)) (argsL := [(.int (2 : Int32)), (.int ch147), (.int ch148), (.int ch149), (.int ch150), (.int ch151), (.int ch152)]) (rest := []) hown (hw _ (List.mem_of_getElem? (i := 4) rfl)) (hw _ (List.mem_of_getElem? (i := 5) rfl)) (hw _ (List.mem_of_getElem? (i := 2) rfl)) (hw _ (List.mem_of_getElem? (i := 6) rfl)) (by decide) (rm2_2 l Z a0 hw [] (2 : Int32) ch147 ch148 ch149 ch150 ch151 ch152 cz h0 n0 Z0 S0 hcz O rfl hch147 hch148 hch149 hch150 hch151 hch152) e152 (by rw [hml]; rfl) pd_9 rfl rfl i0_177 (by decide) 0 rfl (by decide) (by decide) (by decide) fun T164 v164 L164 X164 q164 => ?_
          obtain ⟨_, rfl, a164, tb164, kt164, rfl, K164, E164, FV164, FC164, V164, sa164, N164⟩ := q164
          have N0 := Fr.app N0 N164
          have ne_ns_a164 : ns ≠ a164 := Nat.ne_of_lt (Nat.lt_of_lt_of_le (E_ns.ext O.2).lt sa164)
          have ne_ps_a164 : ps ≠ a164 := Nat.ne_of_lt (Nat.lt_of_lt_of_le (E_ps.ext O.2).lt sa164)
          have O := O.keep K164 all0
          have Z0 : n0 ≤ T164.heap.size := Nat.le_trans Z0 K164.1
          show Gd p e below _ T164 (mkF m 180 #[.val (.int p0), .val (.int p1), .val (.int p2), .val (.int (2 : Int32)), .val (.int (1 : Int32)), .val (.int (0 : Int32)), .val (.int (0 : Int32)), .val (.int ch147), .val (.int ch148), .val (.int ch149), .val (.int ch150), .val (.int ch151), .val (.int ch152), .unset, .unset] [(.ref a164)])
          refine g_astore X164 hx hby i0_180 rfl (l' := #[.val (.int p0), .val (.int p1), .val (.int p2), .val (.int (2 : Int32)), .val (.int (1 : Int32)), .val (.int (0 : Int32)), .val (.int (0 : Int32)), .val (.int ch147), .val (.int ch148), .val (.int ch149), .val (.int ch150), .val (.int ch151), .val (.int ch152), .val (.ref a164), .unset]) rfl ?_
          refine g_iloadN X164 hx hby i0_182 rfl ?_
          refine g_iconst X164 hx hby i0_183 (z := (4 : Int32)) (by decide) ?_
          refine g_icmp_ne X164 hx hby i0_184 (fun c184_165 => ?_) (fun c184_165 => False.elim (absurd c184_165 (by decide)))
          refine g_iloadN X164 hx hby i0_223 rfl ?_
          refine g_iconst X164 hx hby i0_224 (z := (2 : Int32)) (by decide) ?_
          refine g_icmp_ne X164 hx hby i0_225 (fun c225_166 => False.elim (absurd c225_166 (by decide))) fun c225_166 => ?_
          refine g_iload X164 hx hby i0_228 rfl ?_
          refine g_bipush X164 hx hby i0_230 (z := (112 : Int32)) (by decide) ?_
          refine g_icmp_ne X164 hx hby i0_232 (fun c232_167 => ?_) (fun c232_167 => ?_)
          · refine g_aconst_null X164 hx hby i0_250 ?_
            refine g_astore X164 hx hby i0_251 rfl (l' := #[.val (.int p0), .val (.int p1), .val (.int p2), .val (.int (2 : Int32)), .val (.int (1 : Int32)), .val (.int (0 : Int32)), .val (.int (0 : Int32)), .val (.int ch147), .val (.int ch148), .val (.int ch149), .val (.int ch150), .val (.int ch151), .val (.int ch152), .val (.ref a164), .val .null]) rfl ?_
            refine g_aload X164 hx hby i0_253 rfl rfl ?_
            refine g_callS0 X164 hx hby hZ (y := (⟨"com/example/plantain/plantain/codec/Profile", "named", "(Ljava/lang/String;)Lcom/example/plantain/plantain/codec/Profile;"⟩ : MethodName)) (argsL := [(.ref a164)]) (rest := []) hown (hw _ (List.mem_of_getElem? (i := 29) rfl)) (hw _ (List.mem_of_getElem? (i := 30) rfl)) (hw _ (List.mem_of_getElem? (i := 31) rfl)) (hw _ (List.mem_of_getElem? (i := 32) rfl)) (by decide) (rm6_2 l Z a0 hw [] a164 cz va na pa ns ps nb pb kv kn kp tb164 kt164 (nar .byte (nar .char ch147).toInt8.toInt32) (nar .byte (nar .char ch148).toInt8.toInt32) T164.heap n0 Z0 S0 hcz O SV SN SP E_va V_va E_na F_na E_ns FC_ns FV_ns V_nb E_pa F_pa E_ps FC_ps FV_ps V_pb E164 FC164 FV164 V164 ne_ns_a164 ne_ps_a164) rfl (by rw [hml]; rfl) pd_10 rfl rfl i0_255 (by decide) 0 rfl (by decide) (by decide) (by decide) fun T168 v168 L168 X168 q168 => ?_
            obtain ⟨vv168, rfl, hq168, K168, N168⟩ := q168
            have N0 := Fr.app N0 N168
            obtain rfl : vv168 = .null := own_pickN hq168 (fun q => c232_167 ((own_beq hch147 112 (by decide)).mp (q.1)))
            have E164 := E164.keep K168
            have FV164 := FV164.keep K168 nin0
            have FC164 := FC164.keep K168 nin0
            have V164 := V164.keep K168 nin0
            have O := O.keep K168 all0
            have Z0 : n0 ≤ T168.heap.size := Nat.le_trans Z0 K168.1
            show Gd p e below _ T168 (mkF m 258 #[.val (.int p0), .val (.int p1), .val (.int p2), .val (.int (2 : Int32)), .val (.int (1 : Int32)), .val (.int (0 : Int32)), .val (.int (0 : Int32)), .val (.int ch147), .val (.int ch148), .val (.int ch149), .val (.int ch150), .val (.int ch151), .val (.int ch152), .val (.ref a164), .val .null] [.null])
            refine g_aload X168 hx hby i0_258 rfl rfl ?_
            refine g_acmp_ne X168 hx hby i0_260 rfl rfl (fun c260_169 => False.elim (c260_169 rfl)) fun c260_169 => ?_
            refine g_iconst X168 hx hby i0_263 (z := (1 : Int32)) (by decide) ?_
            refine g_goto X168 hx hby i0_264 ?_
            refine Gd.toW ?_
            refine g_ireturnN X168 hx hby (ty := .boolean) hret (by simp) hlk i0_268 (by decide) (by decide) ?_
            exact ⟨_, rfl, rfl, N0⟩
          · refine g_iload X164 hx hby i0_235 rfl ?_
            refine g_bipush X164 hx hby i0_237 (z := (98 : Int32)) (by decide) ?_
            refine g_icmp_ne X164 hx hby i0_239 (fun c239_170 => ?_) (fun c239_170 => ?_)
            · refine g_aconst_null X164 hx hby i0_250 ?_
              refine g_astore X164 hx hby i0_251 rfl (l' := #[.val (.int p0), .val (.int p1), .val (.int p2), .val (.int (2 : Int32)), .val (.int (1 : Int32)), .val (.int (0 : Int32)), .val (.int (0 : Int32)), .val (.int ch147), .val (.int ch148), .val (.int ch149), .val (.int ch150), .val (.int ch151), .val (.int ch152), .val (.ref a164), .val .null]) rfl ?_
              refine g_aload X164 hx hby i0_253 rfl rfl ?_
              refine g_callS0 X164 hx hby hZ (y := (⟨"com/example/plantain/plantain/codec/Profile", "named", "(Ljava/lang/String;)Lcom/example/plantain/plantain/codec/Profile;"⟩ : MethodName)) (argsL := [(.ref a164)]) (rest := []) hown (hw _ (List.mem_of_getElem? (i := 29) rfl)) (hw _ (List.mem_of_getElem? (i := 30) rfl)) (hw _ (List.mem_of_getElem? (i := 31) rfl)) (hw _ (List.mem_of_getElem? (i := 32) rfl)) (by decide) (rm6_2 l Z a0 hw [] a164 cz va na pa ns ps nb pb kv kn kp tb164 kt164 (nar .byte (nar .char ch147).toInt8.toInt32) (nar .byte (nar .char ch148).toInt8.toInt32) T164.heap n0 Z0 S0 hcz O SV SN SP E_va V_va E_na F_na E_ns FC_ns FV_ns V_nb E_pa F_pa E_ps FC_ps FV_ps V_pb E164 FC164 FV164 V164 ne_ns_a164 ne_ps_a164) rfl (by rw [hml]; rfl) pd_10 rfl rfl i0_255 (by decide) 0 rfl (by decide) (by decide) (by decide) fun T171 v171 L171 X171 q171 => ?_
              obtain ⟨vv171, rfl, hq171, K171, N171⟩ := q171
              have N0 := Fr.app N0 N171
              obtain rfl : vv171 = .null := own_pickN hq171 (fun q => c239_170 ((own_beq hch148 98 (by decide)).mp (q.2)))
              have E164 := E164.keep K171
              have FV164 := FV164.keep K171 nin0
              have FC164 := FC164.keep K171 nin0
              have V164 := V164.keep K171 nin0
              have O := O.keep K171 all0
              have Z0 : n0 ≤ T171.heap.size := Nat.le_trans Z0 K171.1
              show Gd p e below _ T171 (mkF m 258 #[.val (.int p0), .val (.int p1), .val (.int p2), .val (.int (2 : Int32)), .val (.int (1 : Int32)), .val (.int (0 : Int32)), .val (.int (0 : Int32)), .val (.int ch147), .val (.int ch148), .val (.int ch149), .val (.int ch150), .val (.int ch151), .val (.int ch152), .val (.ref a164), .val .null] [.null])
              refine g_aload X171 hx hby i0_258 rfl rfl ?_
              refine g_acmp_ne X171 hx hby i0_260 rfl rfl (fun c260_172 => False.elim (c260_172 rfl)) fun c260_172 => ?_
              refine g_iconst X171 hx hby i0_263 (z := (1 : Int32)) (by decide) ?_
              refine g_goto X171 hx hby i0_264 ?_
              refine Gd.toW ?_
              refine g_ireturnN X171 hx hby (ty := .boolean) hret (by simp) hlk i0_268 (by decide) (by decide) ?_
              exact ⟨_, rfl, rfl, N0⟩
            · refine g_getstatic X164 hx hby hZ hown (host := "") (Or.inl (hw _ (List.mem_of_getElem? (i := 74) rfl))) Via.refl rfl (SP.ext O.2) i0_242 fun T173 X173 e173 => ?_
              refine g_astore X173 hx hby i0_245 rfl (l' := #[.val (.int p0), .val (.int p1), .val (.int p2), .val (.int (2 : Int32)), .val (.int (1 : Int32)), .val (.int (0 : Int32)), .val (.int (0 : Int32)), .val (.int ch147), .val (.int ch148), .val (.int ch149), .val (.int ch150), .val (.int ch151), .val (.int ch152), .val (.ref a164), .val (.ref pa)]) rfl ?_
              refine g_goto X173 hx hby i0_247 ?_
              refine g_aload X173 hx hby i0_253 rfl rfl ?_
              refine g_callS0 X173 hx hby hZ (y := (⟨"com/example/plantain/plantain/codec/Profile", "named", "(Ljava/lang/String;)Lcom/example/plantain/plantain/codec/Profile;"⟩ : MethodName)) (argsL := [(.ref a164)]) (rest := []) hown (hw _ (List.mem_of_getElem? (i := 29) rfl)) (hw _ (List.mem_of_getElem? (i := 30) rfl)) (hw _ (List.mem_of_getElem? (i := 31) rfl)) (hw _ (List.mem_of_getElem? (i := 32) rfl)) (by decide) (rm6_2 l Z a0 hw [] a164 cz va na pa ns ps nb pb kv kn kp tb164 kt164 (nar .byte (nar .char ch147).toInt8.toInt32) (nar .byte (nar .char ch148).toInt8.toInt32) T164.heap n0 Z0 S0 hcz O SV SN SP E_va V_va E_na F_na E_ns FC_ns FV_ns V_nb E_pa F_pa E_ps FC_ps FV_ps V_pb E164 FC164 FV164 V164 ne_ns_a164 ne_ps_a164) e173 (by rw [hml]; rfl) pd_10 rfl rfl i0_255 (by decide) 0 rfl (by decide) (by decide) (by decide) fun T174 v174 L174 X174 q174 => ?_
              obtain ⟨vv174, rfl, hq174, K174, N174⟩ := q174
              have N0 := Fr.app N0 N174
              obtain rfl : vv174 = .ref pa := own_pickY hq174 ⟨(own_beq hch147 112 (by decide)).mpr c232_167, (own_beq hch148 98 (by decide)).mpr c239_170⟩
              have E164 := E164.keep K174
              have FV164 := FV164.keep K174 nin0
              have FC164 := FC164.keep K174 nin0
              have V164 := V164.keep K174 nin0
              have O := O.keep K174 all0
              have Z0 : n0 ≤ T174.heap.size := Nat.le_trans Z0 K174.1
              show Gd p e below _ T174 (mkF m 258 #[.val (.int p0), .val (.int p1), .val (.int p2), .val (.int (2 : Int32)), .val (.int (1 : Int32)), .val (.int (0 : Int32)), .val (.int (0 : Int32)), .val (.int ch147), .val (.int ch148), .val (.int ch149), .val (.int ch150), .val (.int ch151), .val (.int ch152), .val (.ref a164), .val (.ref pa)] [(.ref pa)])
              refine g_aload X174 hx hby i0_258 rfl rfl ?_
              refine g_acmp_ne X174 hx hby i0_260 rfl rfl (fun c260_175 => False.elim (c260_175 rfl)) fun c260_175 => ?_
              refine g_iconst X174 hx hby i0_263 (z := (1 : Int32)) (by decide) ?_
              refine g_goto X174 hx hby i0_264 ?_
              refine Gd.toW ?_
              refine g_ireturnN X174 hx hby (ty := .boolean) hret (by simp) hlk i0_268 (by decide) (by decide) ?_
              exact ⟨_, rfl, rfl, N0⟩
        · refine g_iloadN X152 hx hby i0_164 rfl ?_
          refine g_iload X152 hx hby i0_165 rfl ?_
          refine g_iload X152 hx hby i0_167 rfl ?_
          refine g_iload X152 hx hby i0_169 rfl ?_
          refine g_iload X152 hx hby i0_171 rfl ?_
          refine g_iload X152 hx hby i0_173 rfl ?_
          refine g_iload X152 hx hby i0_175 rfl ?_
          refine g_callS0 X152 hx hby hZ (y := (⟨"com/example/plantain/plantain/codec/ProfileNamedPinLaw", "make", "(ICCCCCC)Ljava/lang/String;"⟩ : MethodName)) (argsL := [(.int (3 : Int32)), (.int ch147), (.int ch148), (.int ch149), (.int ch150), (.int ch151), (.int ch152)]) (rest := []) hown (hw _ (List.mem_of_getElem? (i := 4) rfl)) (hw _ (List.mem_of_getElem? (i := 5) rfl)) (hw _ (List.mem_of_getElem? (i := 2) rfl)) (hw _ (List.mem_of_getElem? (i := 6) rfl)) (by decide) (rm2_3 l Z a0 hw [] (3 : Int32) ch147 ch148 ch149 ch150 ch151 ch152 cz h0 n0 Z0 S0 hcz O rfl hch147 hch148 hch149 hch150 hch151 hch152) e152 (by rw [hml]; rfl) pd_9 rfl rfl i0_177 (by decide) 0 rfl (by decide) (by decide) (by decide) fun T176 v176 L176 X176 q176 => ?_
          obtain ⟨_, rfl, a176, tb176, kt176, rfl, K176, E176, FV176, FC176, V176, sa176, N176⟩ := q176
          have N0 := Fr.app N0 N176
          have ne_ns_a176 : ns ≠ a176 := Nat.ne_of_lt (Nat.lt_of_lt_of_le (E_ns.ext O.2).lt sa176)
          have ne_ps_a176 : ps ≠ a176 := Nat.ne_of_lt (Nat.lt_of_lt_of_le (E_ps.ext O.2).lt sa176)
          have O := O.keep K176 all0
          have Z0 : n0 ≤ T176.heap.size := Nat.le_trans Z0 K176.1
          show Gd p e below _ T176 (mkF m 180 #[.val (.int p0), .val (.int p1), .val (.int p2), .val (.int (3 : Int32)), .val (.int (1 : Int32)), .val (.int (0 : Int32)), .val (.int (0 : Int32)), .val (.int ch147), .val (.int ch148), .val (.int ch149), .val (.int ch150), .val (.int ch151), .val (.int ch152), .unset, .unset] [(.ref a176)])
          refine g_astore X176 hx hby i0_180 rfl (l' := #[.val (.int p0), .val (.int p1), .val (.int p2), .val (.int (3 : Int32)), .val (.int (1 : Int32)), .val (.int (0 : Int32)), .val (.int (0 : Int32)), .val (.int ch147), .val (.int ch148), .val (.int ch149), .val (.int ch150), .val (.int ch151), .val (.int ch152), .val (.ref a176), .unset]) rfl ?_
          refine g_iloadN X176 hx hby i0_182 rfl ?_
          refine g_iconst X176 hx hby i0_183 (z := (4 : Int32)) (by decide) ?_
          refine g_icmp_ne X176 hx hby i0_184 (fun c184_177 => ?_) (fun c184_177 => False.elim (absurd c184_177 (by decide)))
          refine g_iloadN X176 hx hby i0_223 rfl ?_
          refine g_iconst X176 hx hby i0_224 (z := (2 : Int32)) (by decide) ?_
          refine g_icmp_ne X176 hx hby i0_225 (fun c225_178 => ?_) (fun c225_178 => False.elim (absurd c225_178 (by decide)))
          refine g_aconst_null X176 hx hby i0_250 ?_
          refine g_astore X176 hx hby i0_251 rfl (l' := #[.val (.int p0), .val (.int p1), .val (.int p2), .val (.int (3 : Int32)), .val (.int (1 : Int32)), .val (.int (0 : Int32)), .val (.int (0 : Int32)), .val (.int ch147), .val (.int ch148), .val (.int ch149), .val (.int ch150), .val (.int ch151), .val (.int ch152), .val (.ref a176), .val .null]) rfl ?_
          refine g_aload X176 hx hby i0_253 rfl rfl ?_
          refine g_callS0 X176 hx hby hZ (y := (⟨"com/example/plantain/plantain/codec/Profile", "named", "(Ljava/lang/String;)Lcom/example/plantain/plantain/codec/Profile;"⟩ : MethodName)) (argsL := [(.ref a176)]) (rest := []) hown (hw _ (List.mem_of_getElem? (i := 29) rfl)) (hw _ (List.mem_of_getElem? (i := 30) rfl)) (hw _ (List.mem_of_getElem? (i := 31) rfl)) (hw _ (List.mem_of_getElem? (i := 32) rfl)) (by decide) (rm6_3 l Z a0 hw [] a176 cz va na pa ns ps nb pb kv kn kp tb176 kt176 (nar .byte (nar .char ch147).toInt8.toInt32) (nar .byte (nar .char ch148).toInt8.toInt32) (nar .byte (nar .char ch149).toInt8.toInt32) T176.heap n0 Z0 S0 hcz O SV SN SP E_va V_va E_na F_na E_ns FC_ns FV_ns V_nb E_pa F_pa E_ps FC_ps FV_ps V_pb E176 FC176 FV176 V176 ne_ns_a176 ne_ps_a176) rfl (by rw [hml]; rfl) pd_10 rfl rfl i0_255 (by decide) 0 rfl (by decide) (by decide) (by decide) fun T179 v179 L179 X179 q179 => ?_
          obtain ⟨_, rfl, rfl, K179, N179⟩ := q179
          have N0 := Fr.app N0 N179
          have E176 := E176.keep K179
          have FV176 := FV176.keep K179 nin0
          have FC176 := FC176.keep K179 nin0
          have V176 := V176.keep K179 nin0
          have O := O.keep K179 all0
          have Z0 : n0 ≤ T179.heap.size := Nat.le_trans Z0 K179.1
          show Gd p e below _ T179 (mkF m 258 #[.val (.int p0), .val (.int p1), .val (.int p2), .val (.int (3 : Int32)), .val (.int (1 : Int32)), .val (.int (0 : Int32)), .val (.int (0 : Int32)), .val (.int ch147), .val (.int ch148), .val (.int ch149), .val (.int ch150), .val (.int ch151), .val (.int ch152), .val (.ref a176), .val .null] [.null])
          refine g_aload X179 hx hby i0_258 rfl rfl ?_
          refine g_acmp_ne X179 hx hby i0_260 rfl rfl (fun c260_180 => False.elim (c260_180 rfl)) fun c260_180 => ?_
          refine g_iconst X179 hx hby i0_263 (z := (1 : Int32)) (by decide) ?_
          refine g_goto X179 hx hby i0_264 ?_
          refine Gd.toW ?_
          refine g_ireturnN X179 hx hby (ty := .boolean) hret (by simp) hlk i0_268 (by decide) (by decide) ?_
          exact ⟨_, rfl, rfl, N0⟩
        · refine g_iloadN X152 hx hby i0_164 rfl ?_
          refine g_iload X152 hx hby i0_165 rfl ?_
          refine g_iload X152 hx hby i0_167 rfl ?_
          refine g_iload X152 hx hby i0_169 rfl ?_
          refine g_iload X152 hx hby i0_171 rfl ?_
          refine g_iload X152 hx hby i0_173 rfl ?_
          refine g_iload X152 hx hby i0_175 rfl ?_
          refine g_callS0 X152 hx hby hZ (y := (⟨"com/example/plantain/plantain/codec/ProfileNamedPinLaw", "make", "(ICCCCCC)Ljava/lang/String;"⟩ : MethodName)) (argsL := [(.int (4 : Int32)), (.int ch147), (.int ch148), (.int ch149), (.int ch150), (.int ch151), (.int ch152)]) (rest := []) hown (hw _ (List.mem_of_getElem? (i := 4) rfl)) (hw _ (List.mem_of_getElem? (i := 5) rfl)) (hw _ (List.mem_of_getElem? (i := 2) rfl)) (hw _ (List.mem_of_getElem? (i := 6) rfl)) (by decide) (rm2_4 l Z a0 hw [] (4 : Int32) ch147 ch148 ch149 ch150 ch151 ch152 cz h0 n0 Z0 S0 hcz O rfl hch147 hch148 hch149 hch150 hch151 hch152) e152 (by rw [hml]; rfl) pd_9 rfl rfl i0_177 (by decide) 0 rfl (by decide) (by decide) (by decide) fun T181 v181 L181 X181 q181 => ?_
          obtain ⟨_, rfl, a181, tb181, kt181, rfl, K181, E181, FV181, FC181, V181, sa181, N181⟩ := q181
          have N0 := Fr.app N0 N181
          have ne_ns_a181 : ns ≠ a181 := Nat.ne_of_lt (Nat.lt_of_lt_of_le (E_ns.ext O.2).lt sa181)
          have ne_ps_a181 : ps ≠ a181 := Nat.ne_of_lt (Nat.lt_of_lt_of_le (E_ps.ext O.2).lt sa181)
          have O := O.keep K181 all0
          have Z0 : n0 ≤ T181.heap.size := Nat.le_trans Z0 K181.1
          show Gd p e below _ T181 (mkF m 180 #[.val (.int p0), .val (.int p1), .val (.int p2), .val (.int (4 : Int32)), .val (.int (1 : Int32)), .val (.int (0 : Int32)), .val (.int (0 : Int32)), .val (.int ch147), .val (.int ch148), .val (.int ch149), .val (.int ch150), .val (.int ch151), .val (.int ch152), .unset, .unset] [(.ref a181)])
          refine g_astore X181 hx hby i0_180 rfl (l' := #[.val (.int p0), .val (.int p1), .val (.int p2), .val (.int (4 : Int32)), .val (.int (1 : Int32)), .val (.int (0 : Int32)), .val (.int (0 : Int32)), .val (.int ch147), .val (.int ch148), .val (.int ch149), .val (.int ch150), .val (.int ch151), .val (.int ch152), .val (.ref a181), .unset]) rfl ?_
          refine g_iloadN X181 hx hby i0_182 rfl ?_
          refine g_iconst X181 hx hby i0_183 (z := (4 : Int32)) (by decide) ?_
          refine g_icmp_ne X181 hx hby i0_184 (fun c184_182 => False.elim (absurd c184_182 (by decide))) fun c184_182 => ?_
          refine g_iload X181 hx hby i0_187 rfl ?_
          refine g_bipush X181 hx hby i0_189 (z := (110 : Int32)) (by decide) ?_
          refine g_icmp_ne X181 hx hby i0_191 (fun c191_183 => ?_) (fun c191_183 => ?_)
          · refine g_iloadN X181 hx hby i0_223 rfl ?_
            refine g_iconst X181 hx hby i0_224 (z := (2 : Int32)) (by decide) ?_
            refine g_icmp_ne X181 hx hby i0_225 (fun c225_184 => ?_) (fun c225_184 => False.elim (absurd c225_184 (by decide)))
            refine g_aconst_null X181 hx hby i0_250 ?_
            refine g_astore X181 hx hby i0_251 rfl (l' := #[.val (.int p0), .val (.int p1), .val (.int p2), .val (.int (4 : Int32)), .val (.int (1 : Int32)), .val (.int (0 : Int32)), .val (.int (0 : Int32)), .val (.int ch147), .val (.int ch148), .val (.int ch149), .val (.int ch150), .val (.int ch151), .val (.int ch152), .val (.ref a181), .val .null]) rfl ?_
            refine g_aload X181 hx hby i0_253 rfl rfl ?_
            refine g_callS0 X181 hx hby hZ (y := (⟨"com/example/plantain/plantain/codec/Profile", "named", "(Ljava/lang/String;)Lcom/example/plantain/plantain/codec/Profile;"⟩ : MethodName)) (argsL := [(.ref a181)]) (rest := []) hown (hw _ (List.mem_of_getElem? (i := 29) rfl)) (hw _ (List.mem_of_getElem? (i := 30) rfl)) (hw _ (List.mem_of_getElem? (i := 31) rfl)) (hw _ (List.mem_of_getElem? (i := 32) rfl)) (by decide) (rm6_4 l Z a0 hw [] a181 cz va na pa ns ps nb pb kv kn kp tb181 kt181 (nar .byte (nar .char ch147).toInt8.toInt32) (nar .byte (nar .char ch148).toInt8.toInt32) (nar .byte (nar .char ch149).toInt8.toInt32) (nar .byte (nar .char ch150).toInt8.toInt32) T181.heap n0 Z0 S0 hcz O SV SN SP E_va V_va E_na F_na E_ns FC_ns FV_ns V_nb E_pa F_pa E_ps FC_ps FV_ps V_pb E181 FC181 FV181 V181 ne_ns_a181 ne_ps_a181) rfl (by rw [hml]; rfl) pd_10 rfl rfl i0_255 (by decide) 0 rfl (by decide) (by decide) (by decide) fun T185 v185 L185 X185 q185 => ?_
            obtain ⟨vv185, rfl, hq185, K185, N185⟩ := q185
            have N0 := Fr.app N0 N185
            obtain rfl : vv185 = .null := own_pickN hq185 (fun q => c191_183 ((own_beq hch147 110 (by decide)).mp (q.1)))
            have E181 := E181.keep K185
            have FV181 := FV181.keep K185 nin0
            have FC181 := FC181.keep K185 nin0
            have V181 := V181.keep K185 nin0
            have O := O.keep K185 all0
            have Z0 : n0 ≤ T185.heap.size := Nat.le_trans Z0 K185.1
            show Gd p e below _ T185 (mkF m 258 #[.val (.int p0), .val (.int p1), .val (.int p2), .val (.int (4 : Int32)), .val (.int (1 : Int32)), .val (.int (0 : Int32)), .val (.int (0 : Int32)), .val (.int ch147), .val (.int ch148), .val (.int ch149), .val (.int ch150), .val (.int ch151), .val (.int ch152), .val (.ref a181), .val .null] [.null])
            refine g_aload X185 hx hby i0_258 rfl rfl ?_
            refine g_acmp_ne X185 hx hby i0_260 rfl rfl (fun c260_186 => False.elim (c260_186 rfl)) fun c260_186 => ?_
            refine g_iconst X185 hx hby i0_263 (z := (1 : Int32)) (by decide) ?_
            refine g_goto X185 hx hby i0_264 ?_
            refine Gd.toW ?_
            refine g_ireturnN X185 hx hby (ty := .boolean) hret (by simp) hlk i0_268 (by decide) (by decide) ?_
            exact ⟨_, rfl, rfl, N0⟩
          · refine g_iload X181 hx hby i0_194 rfl ?_
            refine g_bipush X181 hx hby i0_196 (z := (111 : Int32)) (by decide) ?_
            refine g_icmp_ne X181 hx hby i0_198 (fun c198_187 => ?_) (fun c198_187 => ?_)
            · refine g_iloadN X181 hx hby i0_223 rfl ?_
              refine g_iconst X181 hx hby i0_224 (z := (2 : Int32)) (by decide) ?_
              refine g_icmp_ne X181 hx hby i0_225 (fun c225_188 => ?_) (fun c225_188 => False.elim (absurd c225_188 (by decide)))
              refine g_aconst_null X181 hx hby i0_250 ?_
              refine g_astore X181 hx hby i0_251 rfl (l' := #[.val (.int p0), .val (.int p1), .val (.int p2), .val (.int (4 : Int32)), .val (.int (1 : Int32)), .val (.int (0 : Int32)), .val (.int (0 : Int32)), .val (.int ch147), .val (.int ch148), .val (.int ch149), .val (.int ch150), .val (.int ch151), .val (.int ch152), .val (.ref a181), .val .null]) rfl ?_
              refine g_aload X181 hx hby i0_253 rfl rfl ?_
              refine g_callS0 X181 hx hby hZ (y := (⟨"com/example/plantain/plantain/codec/Profile", "named", "(Ljava/lang/String;)Lcom/example/plantain/plantain/codec/Profile;"⟩ : MethodName)) (argsL := [(.ref a181)]) (rest := []) hown (hw _ (List.mem_of_getElem? (i := 29) rfl)) (hw _ (List.mem_of_getElem? (i := 30) rfl)) (hw _ (List.mem_of_getElem? (i := 31) rfl)) (hw _ (List.mem_of_getElem? (i := 32) rfl)) (by decide) (rm6_4 l Z a0 hw [] a181 cz va na pa ns ps nb pb kv kn kp tb181 kt181 (nar .byte (nar .char ch147).toInt8.toInt32) (nar .byte (nar .char ch148).toInt8.toInt32) (nar .byte (nar .char ch149).toInt8.toInt32) (nar .byte (nar .char ch150).toInt8.toInt32) T181.heap n0 Z0 S0 hcz O SV SN SP E_va V_va E_na F_na E_ns FC_ns FV_ns V_nb E_pa F_pa E_ps FC_ps FV_ps V_pb E181 FC181 FV181 V181 ne_ns_a181 ne_ps_a181) rfl (by rw [hml]; rfl) pd_10 rfl rfl i0_255 (by decide) 0 rfl (by decide) (by decide) (by decide) fun T189 v189 L189 X189 q189 => ?_
              obtain ⟨vv189, rfl, hq189, K189, N189⟩ := q189
              have N0 := Fr.app N0 N189
              obtain rfl : vv189 = .null := own_pickN hq189 (fun q => c198_187 ((own_beq hch148 111 (by decide)).mp (q.2.1)))
              have E181 := E181.keep K189
              have FV181 := FV181.keep K189 nin0
              have FC181 := FC181.keep K189 nin0
              have V181 := V181.keep K189 nin0
              have O := O.keep K189 all0
              have Z0 : n0 ≤ T189.heap.size := Nat.le_trans Z0 K189.1
              show Gd p e below _ T189 (mkF m 258 #[.val (.int p0), .val (.int p1), .val (.int p2), .val (.int (4 : Int32)), .val (.int (1 : Int32)), .val (.int (0 : Int32)), .val (.int (0 : Int32)), .val (.int ch147), .val (.int ch148), .val (.int ch149), .val (.int ch150), .val (.int ch151), .val (.int ch152), .val (.ref a181), .val .null] [.null])
              refine g_aload X189 hx hby i0_258 rfl rfl ?_
              refine g_acmp_ne X189 hx hby i0_260 rfl rfl (fun c260_190 => False.elim (c260_190 rfl)) fun c260_190 => ?_
              refine g_iconst X189 hx hby i0_263 (z := (1 : Int32)) (by decide) ?_
              refine g_goto X189 hx hby i0_264 ?_
              refine Gd.toW ?_
              refine g_ireturnN X189 hx hby (ty := .boolean) hret (by simp) hlk i0_268 (by decide) (by decide) ?_
              exact ⟨_, rfl, rfl, N0⟩
            · refine g_iload X181 hx hby i0_201 rfl ?_
              refine g_bipush X181 hx hby i0_203 (z := (110 : Int32)) (by decide) ?_
              refine g_icmp_ne X181 hx hby i0_205 (fun c205_191 => ?_) (fun c205_191 => ?_)
              · refine g_iloadN X181 hx hby i0_223 rfl ?_
                refine g_iconst X181 hx hby i0_224 (z := (2 : Int32)) (by decide) ?_
                refine g_icmp_ne X181 hx hby i0_225 (fun c225_192 => ?_) (fun c225_192 => False.elim (absurd c225_192 (by decide)))
                refine g_aconst_null X181 hx hby i0_250 ?_
                refine g_astore X181 hx hby i0_251 rfl (l' := #[.val (.int p0), .val (.int p1), .val (.int p2), .val (.int (4 : Int32)), .val (.int (1 : Int32)), .val (.int (0 : Int32)), .val (.int (0 : Int32)), .val (.int ch147), .val (.int ch148), .val (.int ch149), .val (.int ch150), .val (.int ch151), .val (.int ch152), .val (.ref a181), .val .null]) rfl ?_
                refine g_aload X181 hx hby i0_253 rfl rfl ?_
                refine g_callS0 X181 hx hby hZ (y := (⟨"com/example/plantain/plantain/codec/Profile", "named", "(Ljava/lang/String;)Lcom/example/plantain/plantain/codec/Profile;"⟩ : MethodName)) (argsL := [(.ref a181)]) (rest := []) hown (hw _ (List.mem_of_getElem? (i := 29) rfl)) (hw _ (List.mem_of_getElem? (i := 30) rfl)) (hw _ (List.mem_of_getElem? (i := 31) rfl)) (hw _ (List.mem_of_getElem? (i := 32) rfl)) (by decide) (rm6_4 l Z a0 hw [] a181 cz va na pa ns ps nb pb kv kn kp tb181 kt181 (nar .byte (nar .char ch147).toInt8.toInt32) (nar .byte (nar .char ch148).toInt8.toInt32) (nar .byte (nar .char ch149).toInt8.toInt32) (nar .byte (nar .char ch150).toInt8.toInt32) T181.heap n0 Z0 S0 hcz O SV SN SP E_va V_va E_na F_na E_ns FC_ns FV_ns V_nb E_pa F_pa E_ps FC_ps FV_ps V_pb E181 FC181 FV181 V181 ne_ns_a181 ne_ps_a181) rfl (by rw [hml]; rfl) pd_10 rfl rfl i0_255 (by decide) 0 rfl (by decide) (by decide) (by decide) fun T193 v193 L193 X193 q193 => ?_
                obtain ⟨vv193, rfl, hq193, K193, N193⟩ := q193
                have N0 := Fr.app N0 N193
                obtain rfl : vv193 = .null := own_pickN hq193 (fun q => c205_191 ((own_beq hch149 110 (by decide)).mp (q.2.2.1)))
                have E181 := E181.keep K193
                have FV181 := FV181.keep K193 nin0
                have FC181 := FC181.keep K193 nin0
                have V181 := V181.keep K193 nin0
                have O := O.keep K193 all0
                have Z0 : n0 ≤ T193.heap.size := Nat.le_trans Z0 K193.1
                show Gd p e below _ T193 (mkF m 258 #[.val (.int p0), .val (.int p1), .val (.int p2), .val (.int (4 : Int32)), .val (.int (1 : Int32)), .val (.int (0 : Int32)), .val (.int (0 : Int32)), .val (.int ch147), .val (.int ch148), .val (.int ch149), .val (.int ch150), .val (.int ch151), .val (.int ch152), .val (.ref a181), .val .null] [.null])
                refine g_aload X193 hx hby i0_258 rfl rfl ?_
                refine g_acmp_ne X193 hx hby i0_260 rfl rfl (fun c260_194 => False.elim (c260_194 rfl)) fun c260_194 => ?_
                refine g_iconst X193 hx hby i0_263 (z := (1 : Int32)) (by decide) ?_
                refine g_goto X193 hx hby i0_264 ?_
                refine Gd.toW ?_
                refine g_ireturnN X193 hx hby (ty := .boolean) hret (by simp) hlk i0_268 (by decide) (by decide) ?_
                exact ⟨_, rfl, rfl, N0⟩
              · refine g_iload X181 hx hby i0_208 rfl ?_
                refine g_bipush X181 hx hby i0_210 (z := (101 : Int32)) (by decide) ?_
                refine g_icmp_ne X181 hx hby i0_212 (fun c212_195 => ?_) (fun c212_195 => ?_)
                · refine g_iloadN X181 hx hby i0_223 rfl ?_
                  refine g_iconst X181 hx hby i0_224 (z := (2 : Int32)) (by decide) ?_
                  refine g_icmp_ne X181 hx hby i0_225 (fun c225_196 => ?_) (fun c225_196 => False.elim (absurd c225_196 (by decide)))
                  refine g_aconst_null X181 hx hby i0_250 ?_
                  refine g_astore X181 hx hby i0_251 rfl (l' := #[.val (.int p0), .val (.int p1), .val (.int p2), .val (.int (4 : Int32)), .val (.int (1 : Int32)), .val (.int (0 : Int32)), .val (.int (0 : Int32)), .val (.int ch147), .val (.int ch148), .val (.int ch149), .val (.int ch150), .val (.int ch151), .val (.int ch152), .val (.ref a181), .val .null]) rfl ?_
                  refine g_aload X181 hx hby i0_253 rfl rfl ?_
                  refine g_callS0 X181 hx hby hZ (y := (⟨"com/example/plantain/plantain/codec/Profile", "named", "(Ljava/lang/String;)Lcom/example/plantain/plantain/codec/Profile;"⟩ : MethodName)) (argsL := [(.ref a181)]) (rest := []) hown (hw _ (List.mem_of_getElem? (i := 29) rfl)) (hw _ (List.mem_of_getElem? (i := 30) rfl)) (hw _ (List.mem_of_getElem? (i := 31) rfl)) (hw _ (List.mem_of_getElem? (i := 32) rfl)) (by decide) (rm6_4 l Z a0 hw [] a181 cz va na pa ns ps nb pb kv kn kp tb181 kt181 (nar .byte (nar .char ch147).toInt8.toInt32) (nar .byte (nar .char ch148).toInt8.toInt32) (nar .byte (nar .char ch149).toInt8.toInt32) (nar .byte (nar .char ch150).toInt8.toInt32) T181.heap n0 Z0 S0 hcz O SV SN SP E_va V_va E_na F_na E_ns FC_ns FV_ns V_nb E_pa F_pa E_ps FC_ps FV_ps V_pb E181 FC181 FV181 V181 ne_ns_a181 ne_ps_a181) rfl (by rw [hml]; rfl) pd_10 rfl rfl i0_255 (by decide) 0 rfl (by decide) (by decide) (by decide) fun T197 v197 L197 X197 q197 => ?_
                  obtain ⟨vv197, rfl, hq197, K197, N197⟩ := q197
                  have N0 := Fr.app N0 N197
                  obtain rfl : vv197 = .null := own_pickN hq197 (fun q => c212_195 ((own_beq hch150 101 (by decide)).mp (q.2.2.2)))
                  have E181 := E181.keep K197
                  have FV181 := FV181.keep K197 nin0
                  have FC181 := FC181.keep K197 nin0
                  have V181 := V181.keep K197 nin0
                  have O := O.keep K197 all0
                  have Z0 : n0 ≤ T197.heap.size := Nat.le_trans Z0 K197.1
                  show Gd p e below _ T197 (mkF m 258 #[.val (.int p0), .val (.int p1), .val (.int p2), .val (.int (4 : Int32)), .val (.int (1 : Int32)), .val (.int (0 : Int32)), .val (.int (0 : Int32)), .val (.int ch147), .val (.int ch148), .val (.int ch149), .val (.int ch150), .val (.int ch151), .val (.int ch152), .val (.ref a181), .val .null] [.null])
                  refine g_aload X197 hx hby i0_258 rfl rfl ?_
                  refine g_acmp_ne X197 hx hby i0_260 rfl rfl (fun c260_198 => False.elim (c260_198 rfl)) fun c260_198 => ?_
                  refine g_iconst X197 hx hby i0_263 (z := (1 : Int32)) (by decide) ?_
                  refine g_goto X197 hx hby i0_264 ?_
                  refine Gd.toW ?_
                  refine g_ireturnN X197 hx hby (ty := .boolean) hret (by simp) hlk i0_268 (by decide) (by decide) ?_
                  exact ⟨_, rfl, rfl, N0⟩
                · refine g_getstatic X181 hx hby hZ hown (host := "") (Or.inl (hw _ (List.mem_of_getElem? (i := 73) rfl))) Via.refl rfl (SN.ext O.2) i0_215 fun T199 X199 e199 => ?_
                  refine g_astore X199 hx hby i0_218 rfl (l' := #[.val (.int p0), .val (.int p1), .val (.int p2), .val (.int (4 : Int32)), .val (.int (1 : Int32)), .val (.int (0 : Int32)), .val (.int (0 : Int32)), .val (.int ch147), .val (.int ch148), .val (.int ch149), .val (.int ch150), .val (.int ch151), .val (.int ch152), .val (.ref a181), .val (.ref na)]) rfl ?_
                  refine g_goto X199 hx hby i0_220 ?_
                  refine g_aload X199 hx hby i0_253 rfl rfl ?_
                  refine g_callS0 X199 hx hby hZ (y := (⟨"com/example/plantain/plantain/codec/Profile", "named", "(Ljava/lang/String;)Lcom/example/plantain/plantain/codec/Profile;"⟩ : MethodName)) (argsL := [(.ref a181)]) (rest := []) hown (hw _ (List.mem_of_getElem? (i := 29) rfl)) (hw _ (List.mem_of_getElem? (i := 30) rfl)) (hw _ (List.mem_of_getElem? (i := 31) rfl)) (hw _ (List.mem_of_getElem? (i := 32) rfl)) (by decide) (rm6_4 l Z a0 hw [] a181 cz va na pa ns ps nb pb kv kn kp tb181 kt181 (nar .byte (nar .char ch147).toInt8.toInt32) (nar .byte (nar .char ch148).toInt8.toInt32) (nar .byte (nar .char ch149).toInt8.toInt32) (nar .byte (nar .char ch150).toInt8.toInt32) T181.heap n0 Z0 S0 hcz O SV SN SP E_va V_va E_na F_na E_ns FC_ns FV_ns V_nb E_pa F_pa E_ps FC_ps FV_ps V_pb E181 FC181 FV181 V181 ne_ns_a181 ne_ps_a181) e199 (by rw [hml]; rfl) pd_10 rfl rfl i0_255 (by decide) 0 rfl (by decide) (by decide) (by decide) fun T200 v200 L200 X200 q200 => ?_
                  obtain ⟨vv200, rfl, hq200, K200, N200⟩ := q200
                  have N0 := Fr.app N0 N200
                  obtain rfl : vv200 = .ref na := own_pickY hq200 ⟨(own_beq hch147 110 (by decide)).mpr c191_183, (own_beq hch148 111 (by decide)).mpr c198_187, (own_beq hch149 110 (by decide)).mpr c205_191, (own_beq hch150 101 (by decide)).mpr c212_195⟩
                  have E181 := E181.keep K200
                  have FV181 := FV181.keep K200 nin0
                  have FC181 := FC181.keep K200 nin0
                  have V181 := V181.keep K200 nin0
                  have O := O.keep K200 all0
                  have Z0 : n0 ≤ T200.heap.size := Nat.le_trans Z0 K200.1
                  show Gd p e below _ T200 (mkF m 258 #[.val (.int p0), .val (.int p1), .val (.int p2), .val (.int (4 : Int32)), .val (.int (1 : Int32)), .val (.int (0 : Int32)), .val (.int (0 : Int32)), .val (.int ch147), .val (.int ch148), .val (.int ch149), .val (.int ch150), .val (.int ch151), .val (.int ch152), .val (.ref a181), .val (.ref na)] [(.ref na)])
                  refine g_aload X200 hx hby i0_258 rfl rfl ?_
                  refine g_acmp_ne X200 hx hby i0_260 rfl rfl (fun c260_201 => False.elim (c260_201 rfl)) fun c260_201 => ?_
                  refine g_iconst X200 hx hby i0_263 (z := (1 : Int32)) (by decide) ?_
                  refine g_goto X200 hx hby i0_264 ?_
                  refine Gd.toW ?_
                  refine g_ireturnN X200 hx hby (ty := .boolean) hret (by simp) hlk i0_268 (by decide) (by decide) ?_
                  exact ⟨_, rfl, rfl, N0⟩
        · refine g_iloadN X152 hx hby i0_164 rfl ?_
          refine g_iload X152 hx hby i0_165 rfl ?_
          refine g_iload X152 hx hby i0_167 rfl ?_
          refine g_iload X152 hx hby i0_169 rfl ?_
          refine g_iload X152 hx hby i0_171 rfl ?_
          refine g_iload X152 hx hby i0_173 rfl ?_
          refine g_iload X152 hx hby i0_175 rfl ?_
          refine g_callS0 X152 hx hby hZ (y := (⟨"com/example/plantain/plantain/codec/ProfileNamedPinLaw", "make", "(ICCCCCC)Ljava/lang/String;"⟩ : MethodName)) (argsL := [(.int (5 : Int32)), (.int ch147), (.int ch148), (.int ch149), (.int ch150), (.int ch151), (.int ch152)]) (rest := []) hown (hw _ (List.mem_of_getElem? (i := 4) rfl)) (hw _ (List.mem_of_getElem? (i := 5) rfl)) (hw _ (List.mem_of_getElem? (i := 2) rfl)) (hw _ (List.mem_of_getElem? (i := 6) rfl)) (by decide) (rm2_5 l Z a0 hw [] (5 : Int32) ch147 ch148 ch149 ch150 ch151 ch152 cz h0 n0 Z0 S0 hcz O rfl hch147 hch148 hch149 hch150 hch151 hch152) e152 (by rw [hml]; rfl) pd_9 rfl rfl i0_177 (by decide) 0 rfl (by decide) (by decide) (by decide) fun T202 v202 L202 X202 q202 => ?_
          obtain ⟨_, rfl, a202, tb202, kt202, rfl, K202, E202, FV202, FC202, V202, sa202, N202⟩ := q202
          have N0 := Fr.app N0 N202
          have ne_ns_a202 : ns ≠ a202 := Nat.ne_of_lt (Nat.lt_of_lt_of_le (E_ns.ext O.2).lt sa202)
          have ne_ps_a202 : ps ≠ a202 := Nat.ne_of_lt (Nat.lt_of_lt_of_le (E_ps.ext O.2).lt sa202)
          have O := O.keep K202 all0
          have Z0 : n0 ≤ T202.heap.size := Nat.le_trans Z0 K202.1
          show Gd p e below _ T202 (mkF m 180 #[.val (.int p0), .val (.int p1), .val (.int p2), .val (.int (5 : Int32)), .val (.int (1 : Int32)), .val (.int (0 : Int32)), .val (.int (0 : Int32)), .val (.int ch147), .val (.int ch148), .val (.int ch149), .val (.int ch150), .val (.int ch151), .val (.int ch152), .unset, .unset] [(.ref a202)])
          refine g_astore X202 hx hby i0_180 rfl (l' := #[.val (.int p0), .val (.int p1), .val (.int p2), .val (.int (5 : Int32)), .val (.int (1 : Int32)), .val (.int (0 : Int32)), .val (.int (0 : Int32)), .val (.int ch147), .val (.int ch148), .val (.int ch149), .val (.int ch150), .val (.int ch151), .val (.int ch152), .val (.ref a202), .unset]) rfl ?_
          refine g_iloadN X202 hx hby i0_182 rfl ?_
          refine g_iconst X202 hx hby i0_183 (z := (4 : Int32)) (by decide) ?_
          refine g_icmp_ne X202 hx hby i0_184 (fun c184_203 => ?_) (fun c184_203 => False.elim (absurd c184_203 (by decide)))
          refine g_iloadN X202 hx hby i0_223 rfl ?_
          refine g_iconst X202 hx hby i0_224 (z := (2 : Int32)) (by decide) ?_
          refine g_icmp_ne X202 hx hby i0_225 (fun c225_204 => ?_) (fun c225_204 => False.elim (absurd c225_204 (by decide)))
          refine g_aconst_null X202 hx hby i0_250 ?_
          refine g_astore X202 hx hby i0_251 rfl (l' := #[.val (.int p0), .val (.int p1), .val (.int p2), .val (.int (5 : Int32)), .val (.int (1 : Int32)), .val (.int (0 : Int32)), .val (.int (0 : Int32)), .val (.int ch147), .val (.int ch148), .val (.int ch149), .val (.int ch150), .val (.int ch151), .val (.int ch152), .val (.ref a202), .val .null]) rfl ?_
          refine g_aload X202 hx hby i0_253 rfl rfl ?_
          refine g_callS0 X202 hx hby hZ (y := (⟨"com/example/plantain/plantain/codec/Profile", "named", "(Ljava/lang/String;)Lcom/example/plantain/plantain/codec/Profile;"⟩ : MethodName)) (argsL := [(.ref a202)]) (rest := []) hown (hw _ (List.mem_of_getElem? (i := 29) rfl)) (hw _ (List.mem_of_getElem? (i := 30) rfl)) (hw _ (List.mem_of_getElem? (i := 31) rfl)) (hw _ (List.mem_of_getElem? (i := 32) rfl)) (by decide) (rm6_5 l Z a0 hw [] a202 cz va na pa ns ps nb pb kv kn kp tb202 kt202 (nar .byte (nar .char ch147).toInt8.toInt32) (nar .byte (nar .char ch148).toInt8.toInt32) (nar .byte (nar .char ch149).toInt8.toInt32) (nar .byte (nar .char ch150).toInt8.toInt32) (nar .byte (nar .char ch151).toInt8.toInt32) T202.heap n0 Z0 S0 hcz O SV SN SP E_va V_va E_na F_na E_ns FC_ns FV_ns V_nb E_pa F_pa E_ps FC_ps FV_ps V_pb E202 FC202 FV202 V202 ne_ns_a202 ne_ps_a202) rfl (by rw [hml]; rfl) pd_10 rfl rfl i0_255 (by decide) 0 rfl (by decide) (by decide) (by decide) fun T205 v205 L205 X205 q205 => ?_
          obtain ⟨_, rfl, rfl, K205, N205⟩ := q205
          have N0 := Fr.app N0 N205
          have E202 := E202.keep K205
          have FV202 := FV202.keep K205 nin0
          have FC202 := FC202.keep K205 nin0
          have V202 := V202.keep K205 nin0
          have O := O.keep K205 all0
          have Z0 : n0 ≤ T205.heap.size := Nat.le_trans Z0 K205.1
          show Gd p e below _ T205 (mkF m 258 #[.val (.int p0), .val (.int p1), .val (.int p2), .val (.int (5 : Int32)), .val (.int (1 : Int32)), .val (.int (0 : Int32)), .val (.int (0 : Int32)), .val (.int ch147), .val (.int ch148), .val (.int ch149), .val (.int ch150), .val (.int ch151), .val (.int ch152), .val (.ref a202), .val .null] [.null])
          refine g_aload X205 hx hby i0_258 rfl rfl ?_
          refine g_acmp_ne X205 hx hby i0_260 rfl rfl (fun c260_206 => False.elim (c260_206 rfl)) fun c260_206 => ?_
          refine g_iconst X205 hx hby i0_263 (z := (1 : Int32)) (by decide) ?_
          refine g_goto X205 hx hby i0_264 ?_
          refine Gd.toW ?_
          refine g_ireturnN X205 hx hby (ty := .boolean) hret (by simp) hlk i0_268 (by decide) (by decide) ?_
          exact ⟨_, rfl, rfl, N0⟩
        · refine g_iloadN X152 hx hby i0_164 rfl ?_
          refine g_iload X152 hx hby i0_165 rfl ?_
          refine g_iload X152 hx hby i0_167 rfl ?_
          refine g_iload X152 hx hby i0_169 rfl ?_
          refine g_iload X152 hx hby i0_171 rfl ?_
          refine g_iload X152 hx hby i0_173 rfl ?_
          refine g_iload X152 hx hby i0_175 rfl ?_
          refine g_callS0 X152 hx hby hZ (y := (⟨"com/example/plantain/plantain/codec/ProfileNamedPinLaw", "make", "(ICCCCCC)Ljava/lang/String;"⟩ : MethodName)) (argsL := [(.int (6 : Int32)), (.int ch147), (.int ch148), (.int ch149), (.int ch150), (.int ch151), (.int ch152)]) (rest := []) hown (hw _ (List.mem_of_getElem? (i := 4) rfl)) (hw _ (List.mem_of_getElem? (i := 5) rfl)) (hw _ (List.mem_of_getElem? (i := 2) rfl)) (hw _ (List.mem_of_getElem? (i := 6) rfl)) (by decide) (rm2_6 l Z a0 hw [] (6 : Int32) ch147 ch148 ch149 ch150 ch151 ch152 cz h0 n0 Z0 S0 hcz O rfl hch147 hch148 hch149 hch150 hch151 hch152) e152 (by rw [hml]; rfl) pd_9 rfl rfl i0_177 (by decide) 0 rfl (by decide) (by decide) (by decide) fun T207 v207 L207 X207 q207 => ?_
          obtain ⟨_, rfl, a207, tb207, kt207, rfl, K207, E207, FV207, FC207, V207, sa207, N207⟩ := q207
          have N0 := Fr.app N0 N207
          have ne_ns_a207 : ns ≠ a207 := Nat.ne_of_lt (Nat.lt_of_lt_of_le (E_ns.ext O.2).lt sa207)
          have ne_ps_a207 : ps ≠ a207 := Nat.ne_of_lt (Nat.lt_of_lt_of_le (E_ps.ext O.2).lt sa207)
          have O := O.keep K207 all0
          have Z0 : n0 ≤ T207.heap.size := Nat.le_trans Z0 K207.1
          show Gd p e below _ T207 (mkF m 180 #[.val (.int p0), .val (.int p1), .val (.int p2), .val (.int (6 : Int32)), .val (.int (1 : Int32)), .val (.int (0 : Int32)), .val (.int (0 : Int32)), .val (.int ch147), .val (.int ch148), .val (.int ch149), .val (.int ch150), .val (.int ch151), .val (.int ch152), .unset, .unset] [(.ref a207)])
          refine g_astore X207 hx hby i0_180 rfl (l' := #[.val (.int p0), .val (.int p1), .val (.int p2), .val (.int (6 : Int32)), .val (.int (1 : Int32)), .val (.int (0 : Int32)), .val (.int (0 : Int32)), .val (.int ch147), .val (.int ch148), .val (.int ch149), .val (.int ch150), .val (.int ch151), .val (.int ch152), .val (.ref a207), .unset]) rfl ?_
          refine g_iloadN X207 hx hby i0_182 rfl ?_
          refine g_iconst X207 hx hby i0_183 (z := (4 : Int32)) (by decide) ?_
          refine g_icmp_ne X207 hx hby i0_184 (fun c184_208 => ?_) (fun c184_208 => False.elim (absurd c184_208 (by decide)))
          refine g_iloadN X207 hx hby i0_223 rfl ?_
          refine g_iconst X207 hx hby i0_224 (z := (2 : Int32)) (by decide) ?_
          refine g_icmp_ne X207 hx hby i0_225 (fun c225_209 => ?_) (fun c225_209 => False.elim (absurd c225_209 (by decide)))
          refine g_aconst_null X207 hx hby i0_250 ?_
          refine g_astore X207 hx hby i0_251 rfl (l' := #[.val (.int p0), .val (.int p1), .val (.int p2), .val (.int (6 : Int32)), .val (.int (1 : Int32)), .val (.int (0 : Int32)), .val (.int (0 : Int32)), .val (.int ch147), .val (.int ch148), .val (.int ch149), .val (.int ch150), .val (.int ch151), .val (.int ch152), .val (.ref a207), .val .null]) rfl ?_
          refine g_aload X207 hx hby i0_253 rfl rfl ?_
          refine g_callS0 X207 hx hby hZ (y := (⟨"com/example/plantain/plantain/codec/Profile", "named", "(Ljava/lang/String;)Lcom/example/plantain/plantain/codec/Profile;"⟩ : MethodName)) (argsL := [(.ref a207)]) (rest := []) hown (hw _ (List.mem_of_getElem? (i := 29) rfl)) (hw _ (List.mem_of_getElem? (i := 30) rfl)) (hw _ (List.mem_of_getElem? (i := 31) rfl)) (hw _ (List.mem_of_getElem? (i := 32) rfl)) (by decide) (rm6_6 l Z a0 hw [] a207 cz va na pa ns ps nb pb kv kn kp tb207 kt207 (nar .byte (nar .char ch147).toInt8.toInt32) (nar .byte (nar .char ch148).toInt8.toInt32) (nar .byte (nar .char ch149).toInt8.toInt32) (nar .byte (nar .char ch150).toInt8.toInt32) (nar .byte (nar .char ch151).toInt8.toInt32) (nar .byte (nar .char ch152).toInt8.toInt32) T207.heap n0 Z0 S0 hcz O SV SN SP E_va V_va E_na F_na E_ns FC_ns FV_ns V_nb E_pa F_pa E_ps FC_ps FV_ps V_pb E207 FC207 FV207 V207 ne_ns_a207 ne_ps_a207) rfl (by rw [hml]; rfl) pd_10 rfl rfl i0_255 (by decide) 0 rfl (by decide) (by decide) (by decide) fun T210 v210 L210 X210 q210 => ?_
          obtain ⟨_, rfl, rfl, K210, N210⟩ := q210
          have N0 := Fr.app N0 N210
          have E207 := E207.keep K210
          have FV207 := FV207.keep K210 nin0
          have FC207 := FC207.keep K210 nin0
          have V207 := V207.keep K210 nin0
          have O := O.keep K210 all0
          have Z0 : n0 ≤ T210.heap.size := Nat.le_trans Z0 K210.1
          show Gd p e below _ T210 (mkF m 258 #[.val (.int p0), .val (.int p1), .val (.int p2), .val (.int (6 : Int32)), .val (.int (1 : Int32)), .val (.int (0 : Int32)), .val (.int (0 : Int32)), .val (.int ch147), .val (.int ch148), .val (.int ch149), .val (.int ch150), .val (.int ch151), .val (.int ch152), .val (.ref a207), .val .null] [.null])
          refine g_aload X210 hx hby i0_258 rfl rfl ?_
          refine g_acmp_ne X210 hx hby i0_260 rfl rfl (fun c260_211 => False.elim (c260_211 rfl)) fun c260_211 => ?_
          refine g_iconst X210 hx hby i0_263 (z := (1 : Int32)) (by decide) ?_
          refine g_goto X210 hx hby i0_264 ?_
          refine Gd.toW ?_
          refine g_ireturnN X210 hx hby (ty := .boolean) hret (by simp) hlk i0_268 (by decide) (by decide) ?_
          exact ⟨_, rfl, rfl, N0⟩
      · subst c157_153
        · refine g_aconst_null X152 hx hby i0_160 ?_
          refine g_goto X152 hx hby i0_161 ?_
          refine g_astore X152 hx hby i0_180 rfl (l' := #[.val (.int p0), .val (.int p1), .val (.int p2), .val (.int (7 : Int32)), .val (.int (1 : Int32)), .val (.int (0 : Int32)), .val (.int (0 : Int32)), .val (.int ch147), .val (.int ch148), .val (.int ch149), .val (.int ch150), .val (.int ch151), .val (.int ch152), .val .null, .unset]) rfl ?_
          refine g_iloadN X152 hx hby i0_182 rfl ?_
          refine g_iconst X152 hx hby i0_183 (z := (4 : Int32)) (by decide) ?_
          refine g_icmp_ne X152 hx hby i0_184 (fun c184_212 => ?_) (fun c184_212 => False.elim (absurd c184_212 (by decide)))
          refine g_iloadN X152 hx hby i0_223 rfl ?_
          refine g_iconst X152 hx hby i0_224 (z := (2 : Int32)) (by decide) ?_
          refine g_icmp_ne X152 hx hby i0_225 (fun c225_213 => ?_) (fun c225_213 => False.elim (absurd c225_213 (by decide)))
          refine g_aconst_null X152 hx hby i0_250 ?_
          refine g_astore X152 hx hby i0_251 rfl (l' := #[.val (.int p0), .val (.int p1), .val (.int p2), .val (.int (7 : Int32)), .val (.int (1 : Int32)), .val (.int (0 : Int32)), .val (.int (0 : Int32)), .val (.int ch147), .val (.int ch148), .val (.int ch149), .val (.int ch150), .val (.int ch151), .val (.int ch152), .val .null, .val .null]) rfl ?_
          refine g_aload X152 hx hby i0_253 rfl rfl ?_
          refine g_callS0 X152 hx hby hZ (y := (⟨"com/example/plantain/plantain/codec/Profile", "named", "(Ljava/lang/String;)Lcom/example/plantain/plantain/codec/Profile;"⟩ : MethodName)) (argsL := [.null]) (rest := []) hown (hw _ (List.mem_of_getElem? (i := 29) rfl)) (hw _ (List.mem_of_getElem? (i := 30) rfl)) (hw _ (List.mem_of_getElem? (i := 31) rfl)) (hw _ (List.mem_of_getElem? (i := 32) rfl)) (by decide) (rm6_n l Z a0 hw [] cz va na pa ns ps nb pb kv kn kp h0 n0 Z0 S0 hcz O SV SN SP E_va V_va E_na F_na E_ns FC_ns FV_ns V_nb E_pa F_pa E_ps FC_ps FV_ps V_pb) e152 (by rw [hml]; rfl) pd_10 rfl rfl i0_255 (by decide) 0 rfl (by decide) (by decide) (by decide) fun T214 v214 L214 X214 q214 => ?_
          obtain ⟨_, rfl, rfl, K214, N214⟩ := q214
          have N0 := Fr.app N0 N214
          have O := O.keep K214 all0
          have Z0 : n0 ≤ T214.heap.size := Nat.le_trans Z0 K214.1
          show Gd p e below _ T214 (mkF m 258 #[.val (.int p0), .val (.int p1), .val (.int p2), .val (.int (7 : Int32)), .val (.int (1 : Int32)), .val (.int (0 : Int32)), .val (.int (0 : Int32)), .val (.int ch147), .val (.int ch148), .val (.int ch149), .val (.int ch150), .val (.int ch151), .val (.int ch152), .val .null, .val .null] [.null])
          refine g_aload X214 hx hby i0_258 rfl rfl ?_
          refine g_acmp_ne X214 hx hby i0_260 rfl rfl (fun c260_215 => False.elim (c260_215 rfl)) fun c260_215 => ?_
          refine g_iconst X214 hx hby i0_263 (z := (1 : Int32)) (by decide) ?_
          refine g_goto X214 hx hby i0_264 ?_
          refine Gd.toW ?_
          refine g_ireturnN X214 hx hby (ty := .boolean) hret (by simp) hlk i0_268 (by decide) (by decide) ?_
          exact ⟨_, rfl, rfl, N0⟩
    · refine g_iconst X0 hx hby i0_28 (z := (1 : Int32)) (by decide) ?_
      refine g_goto X0 hx hby i0_29 ?_
      refine g_istore X0 hx hby i0_33 (l' := #[.val (.int p0), .val (.int p1), .val (.int p2), .val (.int v1), .val (.int (1 : Int32)), .val (.int (1 : Int32)), .unset, .unset, .unset, .unset, .unset, .unset, .unset, .unset, .unset]) rfl ?_
      refine g_iload X0 hx hby i0_35 rfl ?_
      refine g_if_eq X0 hx hby i0_37 (fun c37_216 => False.elim (absurd c37_216 (by decide))) fun c37_216 => ?_
      refine g_iloadN X0 hx hby i0_40 rfl ?_
      refine g_iconst X0 hx hby i0_41 (z := (5 : Int32)) (by decide) ?_
      refine g_ishr X0 hx hby i0_42 ?_
      refine g_bipush X0 hx hby i0_43 (z := (63 : Int32)) (by decide) ?_
      refine g_iand X0 hx hby i0_45 ?_
      refine g_goto X0 hx hby i0_46 ?_
      refine g_istoreW X0 hx hby i0_50 (l' := fun v217 => #[.val (.int p0), .val (.int p1), .val (.int p2), .val (.int v1), .val (.int (1 : Int32)), .val (.int (1 : Int32)), .val (.int v217), .unset, .unset, .unset, .unset, .unset, .unset, .unset, .unset]) (fun _ => rfl) fun v217 hv217 => ?_
      refine g_iload X0 hx hby i0_52 rfl ?_
      refine g_iconst X0 hx hby i0_54 (z := (0 : Int32)) (by decide) ?_
      refine g_iload X0 hx hby i0_55 rfl ?_
      refine g_iloadN X0 hx hby i0_57 rfl ?_
      refine g_sipush X0 hx hby i0_58 (z := (255 : Int32)) (by decide) ?_
      refine g_iand X0 hx hby i0_61 ?_
      refine g_callS0 X0 hx hby hZ (y := (⟨"com/example/plantain/plantain/codec/ProfileNamedPinLaw", "pick", "(ZIII)C"⟩ : MethodName)) (argsL := [(.int (1 : Int32)), (.int (0 : Int32)), (.int v217), (.int (p1 &&& (255 : Int32)))]) (rest := []) hown (hw _ (List.mem_of_getElem? (i := 0) rfl)) (hw _ (List.mem_of_getElem? (i := 1) rfl)) (hw _ (List.mem_of_getElem? (i := 2) rfl)) (hw _ (List.mem_of_getElem? (i := 3) rfl)) (by decide) (rm1 l Z a0 hw [] (1 : Int32) (0 : Int32) v217 (p1 &&& (255 : Int32)) h0 n0 Z0 ⟨_, rfl⟩) e0 (by rw [hml]; rfl) pd_8 rfl rfl i0_62 (by decide) 0 rfl (by decide) (by decide) (by decide) fun T218 v218 L218 X218 q218 => ?_
      obtain ⟨_, rfl, ch218, rfl, hch218, e218, N218⟩ := q218
      have N0 := Fr.app N0 N218
      show Gd p e below _ T218 (mkF m 65 #[.val (.int p0), .val (.int p1), .val (.int p2), .val (.int v1), .val (.int (1 : Int32)), .val (.int (1 : Int32)), .val (.int v217), .unset, .unset, .unset, .unset, .unset, .unset, .unset, .unset] [(.int ch218)])
      refine g_istore X218 hx hby i0_65 (l' := #[.val (.int p0), .val (.int p1), .val (.int p2), .val (.int v1), .val (.int (1 : Int32)), .val (.int (1 : Int32)), .val (.int v217), .val (.int ch218), .unset, .unset, .unset, .unset, .unset, .unset, .unset]) rfl ?_
      refine g_iload X218 hx hby i0_67 rfl ?_
      refine g_iconst X218 hx hby i0_69 (z := (1 : Int32)) (by decide) ?_
      refine g_iload X218 hx hby i0_70 rfl ?_
      refine g_iloadN X218 hx hby i0_72 rfl ?_
      refine g_bipush X218 hx hby i0_73 (z := (8 : Int32)) (by decide) ?_
      refine g_iushr X218 hx hby i0_75 ?_
      refine g_sipush X218 hx hby i0_76 (z := (255 : Int32)) (by decide) ?_
      refine g_iand X218 hx hby i0_79 ?_
      refine g_callS0 X218 hx hby hZ (y := (⟨"com/example/plantain/plantain/codec/ProfileNamedPinLaw", "pick", "(ZIII)C"⟩ : MethodName)) (argsL := [(.int (1 : Int32)), (.int (1 : Int32)), (.int v217), (.int (((p1.toUInt32 >>> ((8 : Int32) &&& 31).toUInt32).toInt32) &&& (255 : Int32)))]) (rest := []) hown (hw _ (List.mem_of_getElem? (i := 0) rfl)) (hw _ (List.mem_of_getElem? (i := 1) rfl)) (hw _ (List.mem_of_getElem? (i := 2) rfl)) (hw _ (List.mem_of_getElem? (i := 3) rfl)) (by decide) (rm1 l Z a0 hw [] (1 : Int32) (1 : Int32) v217 (((p1.toUInt32 >>> ((8 : Int32) &&& 31).toUInt32).toInt32) &&& (255 : Int32)) h0 n0 Z0 ⟨_, rfl⟩) e218 (by rw [hml]; rfl) pd_8 rfl rfl i0_80 (by decide) 0 rfl (by decide) (by decide) (by decide) fun T219 v219 L219 X219 q219 => ?_
      obtain ⟨_, rfl, ch219, rfl, hch219, e219, N219⟩ := q219
      have N0 := Fr.app N0 N219
      show Gd p e below _ T219 (mkF m 83 #[.val (.int p0), .val (.int p1), .val (.int p2), .val (.int v1), .val (.int (1 : Int32)), .val (.int (1 : Int32)), .val (.int v217), .val (.int ch218), .unset, .unset, .unset, .unset, .unset, .unset, .unset] [(.int ch219)])
      refine g_istore X219 hx hby i0_83 (l' := #[.val (.int p0), .val (.int p1), .val (.int p2), .val (.int v1), .val (.int (1 : Int32)), .val (.int (1 : Int32)), .val (.int v217), .val (.int ch218), .val (.int ch219), .unset, .unset, .unset, .unset, .unset, .unset]) rfl ?_
      refine g_iload X219 hx hby i0_85 rfl ?_
      refine g_iconst X219 hx hby i0_87 (z := (2 : Int32)) (by decide) ?_
      refine g_iload X219 hx hby i0_88 rfl ?_
      refine g_iloadN X219 hx hby i0_90 rfl ?_
      refine g_bipush X219 hx hby i0_91 (z := (16 : Int32)) (by decide) ?_
      refine g_iushr X219 hx hby i0_93 ?_
      refine g_sipush X219 hx hby i0_94 (z := (255 : Int32)) (by decide) ?_
      refine g_iand X219 hx hby i0_97 ?_
      refine g_callS0 X219 hx hby hZ (y := (⟨"com/example/plantain/plantain/codec/ProfileNamedPinLaw", "pick", "(ZIII)C"⟩ : MethodName)) (argsL := [(.int (1 : Int32)), (.int (2 : Int32)), (.int v217), (.int (((p1.toUInt32 >>> ((16 : Int32) &&& 31).toUInt32).toInt32) &&& (255 : Int32)))]) (rest := []) hown (hw _ (List.mem_of_getElem? (i := 0) rfl)) (hw _ (List.mem_of_getElem? (i := 1) rfl)) (hw _ (List.mem_of_getElem? (i := 2) rfl)) (hw _ (List.mem_of_getElem? (i := 3) rfl)) (by decide) (rm1 l Z a0 hw [] (1 : Int32) (2 : Int32) v217 (((p1.toUInt32 >>> ((16 : Int32) &&& 31).toUInt32).toInt32) &&& (255 : Int32)) h0 n0 Z0 ⟨_, rfl⟩) e219 (by rw [hml]; rfl) pd_8 rfl rfl i0_98 (by decide) 0 rfl (by decide) (by decide) (by decide) fun T220 v220 L220 X220 q220 => ?_
      obtain ⟨_, rfl, ch220, rfl, hch220, e220, N220⟩ := q220
      have N0 := Fr.app N0 N220
      show Gd p e below _ T220 (mkF m 101 #[.val (.int p0), .val (.int p1), .val (.int p2), .val (.int v1), .val (.int (1 : Int32)), .val (.int (1 : Int32)), .val (.int v217), .val (.int ch218), .val (.int ch219), .unset, .unset, .unset, .unset, .unset, .unset] [(.int ch220)])
      refine g_istore X220 hx hby i0_101 (l' := #[.val (.int p0), .val (.int p1), .val (.int p2), .val (.int v1), .val (.int (1 : Int32)), .val (.int (1 : Int32)), .val (.int v217), .val (.int ch218), .val (.int ch219), .val (.int ch220), .unset, .unset, .unset, .unset, .unset]) rfl ?_
      refine g_iload X220 hx hby i0_103 rfl ?_
      refine g_iconst X220 hx hby i0_105 (z := (3 : Int32)) (by decide) ?_
      refine g_iload X220 hx hby i0_106 rfl ?_
      refine g_iloadN X220 hx hby i0_108 rfl ?_
      refine g_bipush X220 hx hby i0_109 (z := (24 : Int32)) (by decide) ?_
      refine g_iushr X220 hx hby i0_111 ?_
      refine g_sipush X220 hx hby i0_112 (z := (255 : Int32)) (by decide) ?_
      refine g_iand X220 hx hby i0_115 ?_
      refine g_callS0 X220 hx hby hZ (y := (⟨"com/example/plantain/plantain/codec/ProfileNamedPinLaw", "pick", "(ZIII)C"⟩ : MethodName)) (argsL := [(.int (1 : Int32)), (.int (3 : Int32)), (.int v217), (.int (((p1.toUInt32 >>> ((24 : Int32) &&& 31).toUInt32).toInt32) &&& (255 : Int32)))]) (rest := []) hown (hw _ (List.mem_of_getElem? (i := 0) rfl)) (hw _ (List.mem_of_getElem? (i := 1) rfl)) (hw _ (List.mem_of_getElem? (i := 2) rfl)) (hw _ (List.mem_of_getElem? (i := 3) rfl)) (by decide) (rm1 l Z a0 hw [] (1 : Int32) (3 : Int32) v217 (((p1.toUInt32 >>> ((24 : Int32) &&& 31).toUInt32).toInt32) &&& (255 : Int32)) h0 n0 Z0 ⟨_, rfl⟩) e220 (by rw [hml]; rfl) pd_8 rfl rfl i0_116 (by decide) 0 rfl (by decide) (by decide) (by decide) fun T221 v221 L221 X221 q221 => ?_
      obtain ⟨_, rfl, ch221, rfl, hch221, e221, N221⟩ := q221
      have N0 := Fr.app N0 N221
      show Gd p e below _ T221 (mkF m 119 #[.val (.int p0), .val (.int p1), .val (.int p2), .val (.int v1), .val (.int (1 : Int32)), .val (.int (1 : Int32)), .val (.int v217), .val (.int ch218), .val (.int ch219), .val (.int ch220), .unset, .unset, .unset, .unset, .unset] [(.int ch221)])
      refine g_istore X221 hx hby i0_119 (l' := #[.val (.int p0), .val (.int p1), .val (.int p2), .val (.int v1), .val (.int (1 : Int32)), .val (.int (1 : Int32)), .val (.int v217), .val (.int ch218), .val (.int ch219), .val (.int ch220), .val (.int ch221), .unset, .unset, .unset, .unset]) rfl ?_
      refine g_iload X221 hx hby i0_121 rfl ?_
      refine g_iconst X221 hx hby i0_123 (z := (4 : Int32)) (by decide) ?_
      refine g_iload X221 hx hby i0_124 rfl ?_
      refine g_iloadN X221 hx hby i0_126 rfl ?_
      refine g_sipush X221 hx hby i0_127 (z := (255 : Int32)) (by decide) ?_
      refine g_iand X221 hx hby i0_130 ?_
      refine g_callS0 X221 hx hby hZ (y := (⟨"com/example/plantain/plantain/codec/ProfileNamedPinLaw", "pick", "(ZIII)C"⟩ : MethodName)) (argsL := [(.int (1 : Int32)), (.int (4 : Int32)), (.int v217), (.int (p2 &&& (255 : Int32)))]) (rest := []) hown (hw _ (List.mem_of_getElem? (i := 0) rfl)) (hw _ (List.mem_of_getElem? (i := 1) rfl)) (hw _ (List.mem_of_getElem? (i := 2) rfl)) (hw _ (List.mem_of_getElem? (i := 3) rfl)) (by decide) (rm1 l Z a0 hw [] (1 : Int32) (4 : Int32) v217 (p2 &&& (255 : Int32)) h0 n0 Z0 ⟨_, rfl⟩) e221 (by rw [hml]; rfl) pd_8 rfl rfl i0_131 (by decide) 0 rfl (by decide) (by decide) (by decide) fun T222 v222 L222 X222 q222 => ?_
      obtain ⟨_, rfl, ch222, rfl, hch222, e222, N222⟩ := q222
      have N0 := Fr.app N0 N222
      show Gd p e below _ T222 (mkF m 134 #[.val (.int p0), .val (.int p1), .val (.int p2), .val (.int v1), .val (.int (1 : Int32)), .val (.int (1 : Int32)), .val (.int v217), .val (.int ch218), .val (.int ch219), .val (.int ch220), .val (.int ch221), .unset, .unset, .unset, .unset] [(.int ch222)])
      refine g_istore X222 hx hby i0_134 (l' := #[.val (.int p0), .val (.int p1), .val (.int p2), .val (.int v1), .val (.int (1 : Int32)), .val (.int (1 : Int32)), .val (.int v217), .val (.int ch218), .val (.int ch219), .val (.int ch220), .val (.int ch221), .val (.int ch222), .unset, .unset, .unset]) rfl ?_
      refine g_iload X222 hx hby i0_136 rfl ?_
      refine g_iconst X222 hx hby i0_138 (z := (5 : Int32)) (by decide) ?_
      refine g_iload X222 hx hby i0_139 rfl ?_
      refine g_iloadN X222 hx hby i0_141 rfl ?_
      refine g_bipush X222 hx hby i0_142 (z := (8 : Int32)) (by decide) ?_
      refine g_iushr X222 hx hby i0_144 ?_
      refine g_sipush X222 hx hby i0_145 (z := (255 : Int32)) (by decide) ?_
      refine g_iand X222 hx hby i0_148 ?_
      refine g_callS0 X222 hx hby hZ (y := (⟨"com/example/plantain/plantain/codec/ProfileNamedPinLaw", "pick", "(ZIII)C"⟩ : MethodName)) (argsL := [(.int (1 : Int32)), (.int (5 : Int32)), (.int v217), (.int (((p2.toUInt32 >>> ((8 : Int32) &&& 31).toUInt32).toInt32) &&& (255 : Int32)))]) (rest := []) hown (hw _ (List.mem_of_getElem? (i := 0) rfl)) (hw _ (List.mem_of_getElem? (i := 1) rfl)) (hw _ (List.mem_of_getElem? (i := 2) rfl)) (hw _ (List.mem_of_getElem? (i := 3) rfl)) (by decide) (rm1 l Z a0 hw [] (1 : Int32) (5 : Int32) v217 (((p2.toUInt32 >>> ((8 : Int32) &&& 31).toUInt32).toInt32) &&& (255 : Int32)) h0 n0 Z0 ⟨_, rfl⟩) e222 (by rw [hml]; rfl) pd_8 rfl rfl i0_149 (by decide) 0 rfl (by decide) (by decide) (by decide) fun T223 v223 L223 X223 q223 => ?_
      obtain ⟨_, rfl, ch223, rfl, hch223, e223, N223⟩ := q223
      have N0 := Fr.app N0 N223
      show Gd p e below _ T223 (mkF m 152 #[.val (.int p0), .val (.int p1), .val (.int p2), .val (.int v1), .val (.int (1 : Int32)), .val (.int (1 : Int32)), .val (.int v217), .val (.int ch218), .val (.int ch219), .val (.int ch220), .val (.int ch221), .val (.int ch222), .unset, .unset, .unset] [(.int ch223)])
      refine g_istore X223 hx hby i0_152 (l' := #[.val (.int p0), .val (.int p1), .val (.int p2), .val (.int v1), .val (.int (1 : Int32)), .val (.int (1 : Int32)), .val (.int v217), .val (.int ch218), .val (.int ch219), .val (.int ch220), .val (.int ch221), .val (.int ch222), .val (.int ch223), .unset, .unset]) rfl ?_
      refine g_iloadN X223 hx hby i0_154 rfl ?_
      refine g_bipush X223 hx hby i0_155 (z := (7 : Int32)) (by decide) ?_
      refine g_icmp_ne X223 hx hby i0_157 (fun c157_224 => ?_) (fun c157_224 => ?_)
      · rcases own_cases hv1 c157_224 with rfl | rfl | rfl | rfl | rfl | rfl | rfl
        · refine g_iloadN X223 hx hby i0_164 rfl ?_
          refine g_iload X223 hx hby i0_165 rfl ?_
          refine g_iload X223 hx hby i0_167 rfl ?_
          refine g_iload X223 hx hby i0_169 rfl ?_
          refine g_iload X223 hx hby i0_171 rfl ?_
          refine g_iload X223 hx hby i0_173 rfl ?_
          refine g_iload X223 hx hby i0_175 rfl ?_
          refine g_callSW X223 hx hby hZ hI (y := (⟨"com/example/plantain/plantain/codec/ProfileNamedPinLaw", "make", "(ICCCCCC)Ljava/lang/String;"⟩ : MethodName)) (argsL := [(.int (0 : Int32)), (.int ch218), (.int ch219), (.int ch220), (.int ch221), (.int ch222), (.int ch223)]) (rest := []) hown (hw _ (List.mem_of_getElem? (i := 4) rfl)) (hw _ (List.mem_of_getElem? (i := 5) rfl)) (hw _ (List.mem_of_getElem? (i := 2) rfl)) (hw _ (List.mem_of_getElem? (i := 6) rfl)) (by decide) (rm2_0 l Z a0 hw [] (0 : Int32) ch218 ch219 ch220 ch221 ch222 ch223 cz h0 n0 Z0 S0 hcz O hh hcw rfl hch218 hch219 hch220 hch221 hch222 hch223) e223 (by rw [hml]; rfl) pd_9 rfl rfl i0_177 (by decide) 0 rfl (by decide) (by decide) (by decide) fun T225 v225 L225 X225 hS hZ hown q225 => ?_
          obtain ⟨_, rfl, a225, tb225, kt225, rfl, K225, E225, FV225, FC225, V225, sa225, N225⟩ := q225
          have N0 := Fr.app N0 N225
          have Zk : T225.heap.size ≤ T225.heap.size := Nat.le_refl _
          have ne_ns_a225 : ns ≠ a225 := Nat.ne_of_lt (Nat.lt_of_lt_of_le (E_ns.ext O.2).lt sa225)
          have ne_ps_a225 : ps ≠ a225 := Nat.ne_of_lt (Nat.lt_of_lt_of_le (E_ps.ext O.2).lt sa225)
          have O := O.keep K225 all0
          have Z0 : n0 ≤ T225.heap.size := Nat.le_trans Z0 K225.1
          show Gd p e below _ T225 (mkF m 180 #[.val (.int p0), .val (.int p1), .val (.int p2), .val (.int (0 : Int32)), .val (.int (1 : Int32)), .val (.int (1 : Int32)), .val (.int v217), .val (.int ch218), .val (.int ch219), .val (.int ch220), .val (.int ch221), .val (.int ch222), .val (.int ch223), .unset, .unset] [(.ref a225)])
          refine g_astore X225 hx hby i0_180 rfl (l' := #[.val (.int p0), .val (.int p1), .val (.int p2), .val (.int (0 : Int32)), .val (.int (1 : Int32)), .val (.int (1 : Int32)), .val (.int v217), .val (.int ch218), .val (.int ch219), .val (.int ch220), .val (.int ch221), .val (.int ch222), .val (.int ch223), .val (.ref a225), .unset]) rfl ?_
          refine g_iloadN X225 hx hby i0_182 rfl ?_
          refine g_iconst X225 hx hby i0_183 (z := (4 : Int32)) (by decide) ?_
          refine g_icmp_ne X225 hx hby i0_184 (fun c184_226 => ?_) (fun c184_226 => False.elim (absurd c184_226 (by decide)))
          refine g_iloadN X225 hx hby i0_223 rfl ?_
          refine g_iconst X225 hx hby i0_224 (z := (2 : Int32)) (by decide) ?_
          refine g_icmp_ne X225 hx hby i0_225 (fun c225_227 => ?_) (fun c225_227 => False.elim (absurd c225_227 (by decide)))
          refine g_aconst_null X225 hx hby i0_250 ?_
          refine g_astore X225 hx hby i0_251 rfl (l' := #[.val (.int p0), .val (.int p1), .val (.int p2), .val (.int (0 : Int32)), .val (.int (1 : Int32)), .val (.int (1 : Int32)), .val (.int v217), .val (.int ch218), .val (.int ch219), .val (.int ch220), .val (.int ch221), .val (.int ch222), .val (.int ch223), .val (.ref a225), .val .null]) rfl ?_
          refine g_aload X225 hx hby i0_253 rfl rfl ?_
          refine g_callS0 X225 hx hby hZ (y := (⟨"com/example/plantain/plantain/codec/Profile", "named", "(Ljava/lang/String;)Lcom/example/plantain/plantain/codec/Profile;"⟩ : MethodName)) (argsL := [(.ref a225)]) (rest := []) hown (hw _ (List.mem_of_getElem? (i := 29) rfl)) (hw _ (List.mem_of_getElem? (i := 30) rfl)) (hw _ (List.mem_of_getElem? (i := 31) rfl)) (hw _ (List.mem_of_getElem? (i := 32) rfl)) (by decide) (rm6_0 l Z a0 hw [] a225 cz va na pa ns ps nb pb kv kn kp tb225 kt225  T225.heap n0 Z0 S0 hcz O SV SN SP E_va V_va E_na F_na E_ns FC_ns FV_ns V_nb E_pa F_pa E_ps FC_ps FV_ps V_pb E225 FC225 FV225 V225 ne_ns_a225 ne_ps_a225) rfl (by rw [hml]; rfl) pd_10 rfl rfl i0_255 (by decide) 0 rfl (by decide) (by decide) (by decide) fun T228 v228 L228 X228 q228 => ?_
          obtain ⟨_, rfl, rfl, K228, N228⟩ := q228
          have N0 := Fr.app N0 N228
          have E225 := E225.keep K228
          have FV225 := FV225.keep K228 nin0
          have FC225 := FC225.keep K228 nin0
          have V225 := V225.keep K228 nin0
          have O := O.keep K228 all0
          have Z0 : n0 ≤ T228.heap.size := Nat.le_trans Z0 K228.1
          have Zk : T225.heap.size ≤ T228.heap.size := Nat.le_trans Zk K228.1
          show Gd p e below _ T228 (mkF m 258 #[.val (.int p0), .val (.int p1), .val (.int p2), .val (.int (0 : Int32)), .val (.int (1 : Int32)), .val (.int (1 : Int32)), .val (.int v217), .val (.int ch218), .val (.int ch219), .val (.int ch220), .val (.int ch221), .val (.int ch222), .val (.int ch223), .val (.ref a225), .val .null] [.null])
          refine g_aload X228 hx hby i0_258 rfl rfl ?_
          refine g_acmp_ne X228 hx hby i0_260 rfl rfl (fun c260_229 => False.elim (c260_229 rfl)) fun c260_229 => ?_
          refine g_iconst X228 hx hby i0_263 (z := (1 : Int32)) (by decide) ?_
          refine g_goto X228 hx hby i0_264 ?_
          refine g_ireturnNW X228 hx hby hS Zk (ty := .boolean) hret (by simp) hlk i0_268 (by decide) (by decide) ?_
          exact ⟨_, rfl, rfl, N0⟩
        · refine g_iloadN X223 hx hby i0_164 rfl ?_
          refine g_iload X223 hx hby i0_165 rfl ?_
          refine g_iload X223 hx hby i0_167 rfl ?_
          refine g_iload X223 hx hby i0_169 rfl ?_
          refine g_iload X223 hx hby i0_171 rfl ?_
          refine g_iload X223 hx hby i0_173 rfl ?_
          refine g_iload X223 hx hby i0_175 rfl ?_
          refine g_callS0 X223 hx hby hZ (y := (⟨"com/example/plantain/plantain/codec/ProfileNamedPinLaw", "make", "(ICCCCCC)Ljava/lang/String;"⟩ : MethodName)) (argsL := [(.int (1 : Int32)), (.int ch218), (.int ch219), (.int ch220), (.int ch221), (.int ch222), (.int ch223)]) (rest := []) hown (hw _ (List.mem_of_getElem? (i := 4) rfl)) (hw _ (List.mem_of_getElem? (i := 5) rfl)) (hw _ (List.mem_of_getElem? (i := 2) rfl)) (hw _ (List.mem_of_getElem? (i := 6) rfl)) (by decide) (rm2_1 l Z a0 hw [] (1 : Int32) ch218 ch219 ch220 ch221 ch222 ch223 cz h0 n0 Z0 S0 hcz O rfl hch218 hch219 hch220 hch221 hch222 hch223) e223 (by rw [hml]; rfl) pd_9 rfl rfl i0_177 (by decide) 0 rfl (by decide) (by decide) (by decide) fun T230 v230 L230 X230 q230 => ?_
          obtain ⟨_, rfl, a230, tb230, kt230, rfl, K230, E230, FV230, FC230, V230, sa230, N230⟩ := q230
          have N0 := Fr.app N0 N230
          have ne_ns_a230 : ns ≠ a230 := Nat.ne_of_lt (Nat.lt_of_lt_of_le (E_ns.ext O.2).lt sa230)
          have ne_ps_a230 : ps ≠ a230 := Nat.ne_of_lt (Nat.lt_of_lt_of_le (E_ps.ext O.2).lt sa230)
          have O := O.keep K230 all0
          have Z0 : n0 ≤ T230.heap.size := Nat.le_trans Z0 K230.1
          show Gd p e below _ T230 (mkF m 180 #[.val (.int p0), .val (.int p1), .val (.int p2), .val (.int (1 : Int32)), .val (.int (1 : Int32)), .val (.int (1 : Int32)), .val (.int v217), .val (.int ch218), .val (.int ch219), .val (.int ch220), .val (.int ch221), .val (.int ch222), .val (.int ch223), .unset, .unset] [(.ref a230)])
          refine g_astore X230 hx hby i0_180 rfl (l' := #[.val (.int p0), .val (.int p1), .val (.int p2), .val (.int (1 : Int32)), .val (.int (1 : Int32)), .val (.int (1 : Int32)), .val (.int v217), .val (.int ch218), .val (.int ch219), .val (.int ch220), .val (.int ch221), .val (.int ch222), .val (.int ch223), .val (.ref a230), .unset]) rfl ?_
          refine g_iloadN X230 hx hby i0_182 rfl ?_
          refine g_iconst X230 hx hby i0_183 (z := (4 : Int32)) (by decide) ?_
          refine g_icmp_ne X230 hx hby i0_184 (fun c184_231 => ?_) (fun c184_231 => False.elim (absurd c184_231 (by decide)))
          refine g_iloadN X230 hx hby i0_223 rfl ?_
          refine g_iconst X230 hx hby i0_224 (z := (2 : Int32)) (by decide) ?_
          refine g_icmp_ne X230 hx hby i0_225 (fun c225_232 => ?_) (fun c225_232 => False.elim (absurd c225_232 (by decide)))
          refine g_aconst_null X230 hx hby i0_250 ?_
          refine g_astore X230 hx hby i0_251 rfl (l' := #[.val (.int p0), .val (.int p1), .val (.int p2), .val (.int (1 : Int32)), .val (.int (1 : Int32)), .val (.int (1 : Int32)), .val (.int v217), .val (.int ch218), .val (.int ch219), .val (.int ch220), .val (.int ch221), .val (.int ch222), .val (.int ch223), .val (.ref a230), .val .null]) rfl ?_
          refine g_aload X230 hx hby i0_253 rfl rfl ?_
          refine g_callS0 X230 hx hby hZ (y := (⟨"com/example/plantain/plantain/codec/Profile", "named", "(Ljava/lang/String;)Lcom/example/plantain/plantain/codec/Profile;"⟩ : MethodName)) (argsL := [(.ref a230)]) (rest := []) hown (hw _ (List.mem_of_getElem? (i := 29) rfl)) (hw _ (List.mem_of_getElem? (i := 30) rfl)) (hw _ (List.mem_of_getElem? (i := 31) rfl)) (hw _ (List.mem_of_getElem? (i := 32) rfl)) (by decide) (rm6_1 l Z a0 hw [] a230 cz va na pa ns ps nb pb kv kn kp tb230 kt230 (nar .byte (nar .char ch218).toInt8.toInt32) T230.heap n0 Z0 S0 hcz O SV SN SP E_va V_va E_na F_na E_ns FC_ns FV_ns V_nb E_pa F_pa E_ps FC_ps FV_ps V_pb E230 FC230 FV230 V230 ne_ns_a230 ne_ps_a230) rfl (by rw [hml]; rfl) pd_10 rfl rfl i0_255 (by decide) 0 rfl (by decide) (by decide) (by decide) fun T233 v233 L233 X233 q233 => ?_
          obtain ⟨_, rfl, rfl, K233, N233⟩ := q233
          have N0 := Fr.app N0 N233
          have E230 := E230.keep K233
          have FV230 := FV230.keep K233 nin0
          have FC230 := FC230.keep K233 nin0
          have V230 := V230.keep K233 nin0
          have O := O.keep K233 all0
          have Z0 : n0 ≤ T233.heap.size := Nat.le_trans Z0 K233.1
          show Gd p e below _ T233 (mkF m 258 #[.val (.int p0), .val (.int p1), .val (.int p2), .val (.int (1 : Int32)), .val (.int (1 : Int32)), .val (.int (1 : Int32)), .val (.int v217), .val (.int ch218), .val (.int ch219), .val (.int ch220), .val (.int ch221), .val (.int ch222), .val (.int ch223), .val (.ref a230), .val .null] [.null])
          refine g_aload X233 hx hby i0_258 rfl rfl ?_
          refine g_acmp_ne X233 hx hby i0_260 rfl rfl (fun c260_234 => False.elim (c260_234 rfl)) fun c260_234 => ?_
          refine g_iconst X233 hx hby i0_263 (z := (1 : Int32)) (by decide) ?_
          refine g_goto X233 hx hby i0_264 ?_
          refine Gd.toW ?_
          refine g_ireturnN X233 hx hby (ty := .boolean) hret (by simp) hlk i0_268 (by decide) (by decide) ?_
          exact ⟨_, rfl, rfl, N0⟩
        · refine g_iloadN X223 hx hby i0_164 rfl ?_
          refine g_iload X223 hx hby i0_165 rfl ?_
          refine g_iload X223 hx hby i0_167 rfl ?_
          refine g_iload X223 hx hby i0_169 rfl ?_
          refine g_iload X223 hx hby i0_171 rfl ?_
          refine g_iload X223 hx hby i0_173 rfl ?_
          refine g_iload X223 hx hby i0_175 rfl ?_
          refine g_callS0 X223 hx hby hZ (y := (⟨"com/example/plantain/plantain/codec/ProfileNamedPinLaw", "make", "(ICCCCCC)Ljava/lang/String;"⟩ : MethodName)) (argsL := [(.int (2 : Int32)), (.int ch218), (.int ch219), (.int ch220), (.int ch221), (.int ch222), (.int ch223)]) (rest := []) hown (hw _ (List.mem_of_getElem? (i := 4) rfl)) (hw _ (List.mem_of_getElem? (i := 5) rfl)) (hw _ (List.mem_of_getElem? (i := 2) rfl)) (hw _ (List.mem_of_getElem? (i := 6) rfl)) (by decide) (rm2_2 l Z a0 hw [] (2 : Int32) ch218 ch219 ch220 ch221 ch222 ch223 cz h0 n0 Z0 S0 hcz O rfl hch218 hch219 hch220 hch221 hch222 hch223) e223 (by rw [hml]; rfl) pd_9 rfl rfl i0_177 (by decide) 0 rfl (by decide) (by decide) (by decide) fun T235 v235 L235 X235 q235 => ?_
          obtain ⟨_, rfl, a235, tb235, kt235, rfl, K235, E235, FV235, FC235, V235, sa235, N235⟩ := q235
          have N0 := Fr.app N0 N235
          have ne_ns_a235 : ns ≠ a235 := Nat.ne_of_lt (Nat.lt_of_lt_of_le (E_ns.ext O.2).lt sa235)
          have ne_ps_a235 : ps ≠ a235 := Nat.ne_of_lt (Nat.lt_of_lt_of_le (E_ps.ext O.2).lt sa235)
          have O := O.keep K235 all0
          have Z0 : n0 ≤ T235.heap.size := Nat.le_trans Z0 K235.1
          show Gd p e below _ T235 (mkF m 180 #[.val (.int p0), .val (.int p1), .val (.int p2), .val (.int (2 : Int32)), .val (.int (1 : Int32)), .val (.int (1 : Int32)), .val (.int v217), .val (.int ch218), .val (.int ch219), .val (.int ch220), .val (.int ch221), .val (.int ch222), .val (.int ch223), .unset, .unset] [(.ref a235)])
          refine g_astore X235 hx hby i0_180 rfl (l' := #[.val (.int p0), .val (.int p1), .val (.int p2), .val (.int (2 : Int32)), .val (.int (1 : Int32)), .val (.int (1 : Int32)), .val (.int v217), .val (.int ch218), .val (.int ch219), .val (.int ch220), .val (.int ch221), .val (.int ch222), .val (.int ch223), .val (.ref a235), .unset]) rfl ?_
          refine g_iloadN X235 hx hby i0_182 rfl ?_
          refine g_iconst X235 hx hby i0_183 (z := (4 : Int32)) (by decide) ?_
          refine g_icmp_ne X235 hx hby i0_184 (fun c184_236 => ?_) (fun c184_236 => False.elim (absurd c184_236 (by decide)))
          refine g_iloadN X235 hx hby i0_223 rfl ?_
          refine g_iconst X235 hx hby i0_224 (z := (2 : Int32)) (by decide) ?_
          refine g_icmp_ne X235 hx hby i0_225 (fun c225_237 => False.elim (absurd c225_237 (by decide))) fun c225_237 => ?_
          refine g_iload X235 hx hby i0_228 rfl ?_
          refine g_bipush X235 hx hby i0_230 (z := (112 : Int32)) (by decide) ?_
          refine g_icmp_ne X235 hx hby i0_232 (fun c232_238 => ?_) (fun c232_238 => ?_)
          · refine g_aconst_null X235 hx hby i0_250 ?_
            refine g_astore X235 hx hby i0_251 rfl (l' := #[.val (.int p0), .val (.int p1), .val (.int p2), .val (.int (2 : Int32)), .val (.int (1 : Int32)), .val (.int (1 : Int32)), .val (.int v217), .val (.int ch218), .val (.int ch219), .val (.int ch220), .val (.int ch221), .val (.int ch222), .val (.int ch223), .val (.ref a235), .val .null]) rfl ?_
            refine g_aload X235 hx hby i0_253 rfl rfl ?_
            refine g_callS0 X235 hx hby hZ (y := (⟨"com/example/plantain/plantain/codec/Profile", "named", "(Ljava/lang/String;)Lcom/example/plantain/plantain/codec/Profile;"⟩ : MethodName)) (argsL := [(.ref a235)]) (rest := []) hown (hw _ (List.mem_of_getElem? (i := 29) rfl)) (hw _ (List.mem_of_getElem? (i := 30) rfl)) (hw _ (List.mem_of_getElem? (i := 31) rfl)) (hw _ (List.mem_of_getElem? (i := 32) rfl)) (by decide) (rm6_2 l Z a0 hw [] a235 cz va na pa ns ps nb pb kv kn kp tb235 kt235 (nar .byte (nar .char ch218).toInt8.toInt32) (nar .byte (nar .char ch219).toInt8.toInt32) T235.heap n0 Z0 S0 hcz O SV SN SP E_va V_va E_na F_na E_ns FC_ns FV_ns V_nb E_pa F_pa E_ps FC_ps FV_ps V_pb E235 FC235 FV235 V235 ne_ns_a235 ne_ps_a235) rfl (by rw [hml]; rfl) pd_10 rfl rfl i0_255 (by decide) 0 rfl (by decide) (by decide) (by decide) fun T239 v239 L239 X239 q239 => ?_
            obtain ⟨vv239, rfl, hq239, K239, N239⟩ := q239
            have N0 := Fr.app N0 N239
            obtain rfl : vv239 = .null := own_pickN hq239 (fun q => c232_238 ((own_beq hch218 112 (by decide)).mp (q.1)))
            have E235 := E235.keep K239
            have FV235 := FV235.keep K239 nin0
            have FC235 := FC235.keep K239 nin0
            have V235 := V235.keep K239 nin0
            have O := O.keep K239 all0
            have Z0 : n0 ≤ T239.heap.size := Nat.le_trans Z0 K239.1
            show Gd p e below _ T239 (mkF m 258 #[.val (.int p0), .val (.int p1), .val (.int p2), .val (.int (2 : Int32)), .val (.int (1 : Int32)), .val (.int (1 : Int32)), .val (.int v217), .val (.int ch218), .val (.int ch219), .val (.int ch220), .val (.int ch221), .val (.int ch222), .val (.int ch223), .val (.ref a235), .val .null] [.null])
            refine g_aload X239 hx hby i0_258 rfl rfl ?_
            refine g_acmp_ne X239 hx hby i0_260 rfl rfl (fun c260_240 => False.elim (c260_240 rfl)) fun c260_240 => ?_
            refine g_iconst X239 hx hby i0_263 (z := (1 : Int32)) (by decide) ?_
            refine g_goto X239 hx hby i0_264 ?_
            refine Gd.toW ?_
            refine g_ireturnN X239 hx hby (ty := .boolean) hret (by simp) hlk i0_268 (by decide) (by decide) ?_
            exact ⟨_, rfl, rfl, N0⟩
          · refine g_iload X235 hx hby i0_235 rfl ?_
            refine g_bipush X235 hx hby i0_237 (z := (98 : Int32)) (by decide) ?_
            refine g_icmp_ne X235 hx hby i0_239 (fun c239_241 => ?_) (fun c239_241 => ?_)
            · refine g_aconst_null X235 hx hby i0_250 ?_
              refine g_astore X235 hx hby i0_251 rfl (l' := #[.val (.int p0), .val (.int p1), .val (.int p2), .val (.int (2 : Int32)), .val (.int (1 : Int32)), .val (.int (1 : Int32)), .val (.int v217), .val (.int ch218), .val (.int ch219), .val (.int ch220), .val (.int ch221), .val (.int ch222), .val (.int ch223), .val (.ref a235), .val .null]) rfl ?_
              refine g_aload X235 hx hby i0_253 rfl rfl ?_
              refine g_callS0 X235 hx hby hZ (y := (⟨"com/example/plantain/plantain/codec/Profile", "named", "(Ljava/lang/String;)Lcom/example/plantain/plantain/codec/Profile;"⟩ : MethodName)) (argsL := [(.ref a235)]) (rest := []) hown (hw _ (List.mem_of_getElem? (i := 29) rfl)) (hw _ (List.mem_of_getElem? (i := 30) rfl)) (hw _ (List.mem_of_getElem? (i := 31) rfl)) (hw _ (List.mem_of_getElem? (i := 32) rfl)) (by decide) (rm6_2 l Z a0 hw [] a235 cz va na pa ns ps nb pb kv kn kp tb235 kt235 (nar .byte (nar .char ch218).toInt8.toInt32) (nar .byte (nar .char ch219).toInt8.toInt32) T235.heap n0 Z0 S0 hcz O SV SN SP E_va V_va E_na F_na E_ns FC_ns FV_ns V_nb E_pa F_pa E_ps FC_ps FV_ps V_pb E235 FC235 FV235 V235 ne_ns_a235 ne_ps_a235) rfl (by rw [hml]; rfl) pd_10 rfl rfl i0_255 (by decide) 0 rfl (by decide) (by decide) (by decide) fun T242 v242 L242 X242 q242 => ?_
              obtain ⟨vv242, rfl, hq242, K242, N242⟩ := q242
              have N0 := Fr.app N0 N242
              obtain rfl : vv242 = .null := own_pickN hq242 (fun q => c239_241 ((own_beq hch219 98 (by decide)).mp (q.2)))
              have E235 := E235.keep K242
              have FV235 := FV235.keep K242 nin0
              have FC235 := FC235.keep K242 nin0
              have V235 := V235.keep K242 nin0
              have O := O.keep K242 all0
              have Z0 : n0 ≤ T242.heap.size := Nat.le_trans Z0 K242.1
              show Gd p e below _ T242 (mkF m 258 #[.val (.int p0), .val (.int p1), .val (.int p2), .val (.int (2 : Int32)), .val (.int (1 : Int32)), .val (.int (1 : Int32)), .val (.int v217), .val (.int ch218), .val (.int ch219), .val (.int ch220), .val (.int ch221), .val (.int ch222), .val (.int ch223), .val (.ref a235), .val .null] [.null])
              refine g_aload X242 hx hby i0_258 rfl rfl ?_
              refine g_acmp_ne X242 hx hby i0_260 rfl rfl (fun c260_243 => False.elim (c260_243 rfl)) fun c260_243 => ?_
              refine g_iconst X242 hx hby i0_263 (z := (1 : Int32)) (by decide) ?_
              refine g_goto X242 hx hby i0_264 ?_
              refine Gd.toW ?_
              refine g_ireturnN X242 hx hby (ty := .boolean) hret (by simp) hlk i0_268 (by decide) (by decide) ?_
              exact ⟨_, rfl, rfl, N0⟩
            · refine g_getstatic X235 hx hby hZ hown (host := "") (Or.inl (hw _ (List.mem_of_getElem? (i := 74) rfl))) Via.refl rfl (SP.ext O.2) i0_242 fun T244 X244 e244 => ?_
              refine g_astore X244 hx hby i0_245 rfl (l' := #[.val (.int p0), .val (.int p1), .val (.int p2), .val (.int (2 : Int32)), .val (.int (1 : Int32)), .val (.int (1 : Int32)), .val (.int v217), .val (.int ch218), .val (.int ch219), .val (.int ch220), .val (.int ch221), .val (.int ch222), .val (.int ch223), .val (.ref a235), .val (.ref pa)]) rfl ?_
              refine g_goto X244 hx hby i0_247 ?_
              refine g_aload X244 hx hby i0_253 rfl rfl ?_
              refine g_callS0 X244 hx hby hZ (y := (⟨"com/example/plantain/plantain/codec/Profile", "named", "(Ljava/lang/String;)Lcom/example/plantain/plantain/codec/Profile;"⟩ : MethodName)) (argsL := [(.ref a235)]) (rest := []) hown (hw _ (List.mem_of_getElem? (i := 29) rfl)) (hw _ (List.mem_of_getElem? (i := 30) rfl)) (hw _ (List.mem_of_getElem? (i := 31) rfl)) (hw _ (List.mem_of_getElem? (i := 32) rfl)) (by decide) (rm6_2 l Z a0 hw [] a235 cz va na pa ns ps nb pb kv kn kp tb235 kt235 (nar .byte (nar .char ch218).toInt8.toInt32) (nar .byte (nar .char ch219).toInt8.toInt32) T235.heap n0 Z0 S0 hcz O SV SN SP E_va V_va E_na F_na E_ns FC_ns FV_ns V_nb E_pa F_pa E_ps FC_ps FV_ps V_pb E235 FC235 FV235 V235 ne_ns_a235 ne_ps_a235) e244 (by rw [hml]; rfl) pd_10 rfl rfl i0_255 (by decide) 0 rfl (by decide) (by decide) (by decide) fun T245 v245 L245 X245 q245 => ?_
              obtain ⟨vv245, rfl, hq245, K245, N245⟩ := q245
              have N0 := Fr.app N0 N245
              obtain rfl : vv245 = .ref pa := own_pickY hq245 ⟨(own_beq hch218 112 (by decide)).mpr c232_238, (own_beq hch219 98 (by decide)).mpr c239_241⟩
              have E235 := E235.keep K245
              have FV235 := FV235.keep K245 nin0
              have FC235 := FC235.keep K245 nin0
              have V235 := V235.keep K245 nin0
              have O := O.keep K245 all0
              have Z0 : n0 ≤ T245.heap.size := Nat.le_trans Z0 K245.1
              show Gd p e below _ T245 (mkF m 258 #[.val (.int p0), .val (.int p1), .val (.int p2), .val (.int (2 : Int32)), .val (.int (1 : Int32)), .val (.int (1 : Int32)), .val (.int v217), .val (.int ch218), .val (.int ch219), .val (.int ch220), .val (.int ch221), .val (.int ch222), .val (.int ch223), .val (.ref a235), .val (.ref pa)] [(.ref pa)])
              refine g_aload X245 hx hby i0_258 rfl rfl ?_
              refine g_acmp_ne X245 hx hby i0_260 rfl rfl (fun c260_246 => False.elim (c260_246 rfl)) fun c260_246 => ?_
              refine g_iconst X245 hx hby i0_263 (z := (1 : Int32)) (by decide) ?_
              refine g_goto X245 hx hby i0_264 ?_
              refine Gd.toW ?_
              refine g_ireturnN X245 hx hby (ty := .boolean) hret (by simp) hlk i0_268 (by decide) (by decide) ?_
              exact ⟨_, rfl, rfl, N0⟩
        · refine g_iloadN X223 hx hby i0_164 rfl ?_
          refine g_iload X223 hx hby i0_165 rfl ?_
          refine g_iload X223 hx hby i0_167 rfl ?_
          refine g_iload X223 hx hby i0_169 rfl ?_
          refine g_iload X223 hx hby i0_171 rfl ?_
          refine g_iload X223 hx hby i0_173 rfl ?_
          refine g_iload X223 hx hby i0_175 rfl ?_
          refine g_callS0 X223 hx hby hZ (y := (⟨"com/example/plantain/plantain/codec/ProfileNamedPinLaw", "make", "(ICCCCCC)Ljava/lang/String;"⟩ : MethodName)) (argsL := [(.int (3 : Int32)), (.int ch218), (.int ch219), (.int ch220), (.int ch221), (.int ch222), (.int ch223)]) (rest := []) hown (hw _ (List.mem_of_getElem? (i := 4) rfl)) (hw _ (List.mem_of_getElem? (i := 5) rfl)) (hw _ (List.mem_of_getElem? (i := 2) rfl)) (hw _ (List.mem_of_getElem? (i := 6) rfl)) (by decide) (rm2_3 l Z a0 hw [] (3 : Int32) ch218 ch219 ch220 ch221 ch222 ch223 cz h0 n0 Z0 S0 hcz O rfl hch218 hch219 hch220 hch221 hch222 hch223) e223 (by rw [hml]; rfl) pd_9 rfl rfl i0_177 (by decide) 0 rfl (by decide) (by decide) (by decide) fun T247 v247 L247 X247 q247 => ?_
          obtain ⟨_, rfl, a247, tb247, kt247, rfl, K247, E247, FV247, FC247, V247, sa247, N247⟩ := q247
          have N0 := Fr.app N0 N247
          have ne_ns_a247 : ns ≠ a247 := Nat.ne_of_lt (Nat.lt_of_lt_of_le (E_ns.ext O.2).lt sa247)
          have ne_ps_a247 : ps ≠ a247 := Nat.ne_of_lt (Nat.lt_of_lt_of_le (E_ps.ext O.2).lt sa247)
          have O := O.keep K247 all0
          have Z0 : n0 ≤ T247.heap.size := Nat.le_trans Z0 K247.1
          show Gd p e below _ T247 (mkF m 180 #[.val (.int p0), .val (.int p1), .val (.int p2), .val (.int (3 : Int32)), .val (.int (1 : Int32)), .val (.int (1 : Int32)), .val (.int v217), .val (.int ch218), .val (.int ch219), .val (.int ch220), .val (.int ch221), .val (.int ch222), .val (.int ch223), .unset, .unset] [(.ref a247)])
          refine g_astore X247 hx hby i0_180 rfl (l' := #[.val (.int p0), .val (.int p1), .val (.int p2), .val (.int (3 : Int32)), .val (.int (1 : Int32)), .val (.int (1 : Int32)), .val (.int v217), .val (.int ch218), .val (.int ch219), .val (.int ch220), .val (.int ch221), .val (.int ch222), .val (.int ch223), .val (.ref a247), .unset]) rfl ?_
          refine g_iloadN X247 hx hby i0_182 rfl ?_
          refine g_iconst X247 hx hby i0_183 (z := (4 : Int32)) (by decide) ?_
          refine g_icmp_ne X247 hx hby i0_184 (fun c184_248 => ?_) (fun c184_248 => False.elim (absurd c184_248 (by decide)))
          refine g_iloadN X247 hx hby i0_223 rfl ?_
          refine g_iconst X247 hx hby i0_224 (z := (2 : Int32)) (by decide) ?_
          refine g_icmp_ne X247 hx hby i0_225 (fun c225_249 => ?_) (fun c225_249 => False.elim (absurd c225_249 (by decide)))
          refine g_aconst_null X247 hx hby i0_250 ?_
          refine g_astore X247 hx hby i0_251 rfl (l' := #[.val (.int p0), .val (.int p1), .val (.int p2), .val (.int (3 : Int32)), .val (.int (1 : Int32)), .val (.int (1 : Int32)), .val (.int v217), .val (.int ch218), .val (.int ch219), .val (.int ch220), .val (.int ch221), .val (.int ch222), .val (.int ch223), .val (.ref a247), .val .null]) rfl ?_
          refine g_aload X247 hx hby i0_253 rfl rfl ?_
          refine g_callS0 X247 hx hby hZ (y := (⟨"com/example/plantain/plantain/codec/Profile", "named", "(Ljava/lang/String;)Lcom/example/plantain/plantain/codec/Profile;"⟩ : MethodName)) (argsL := [(.ref a247)]) (rest := []) hown (hw _ (List.mem_of_getElem? (i := 29) rfl)) (hw _ (List.mem_of_getElem? (i := 30) rfl)) (hw _ (List.mem_of_getElem? (i := 31) rfl)) (hw _ (List.mem_of_getElem? (i := 32) rfl)) (by decide) (rm6_3 l Z a0 hw [] a247 cz va na pa ns ps nb pb kv kn kp tb247 kt247 (nar .byte (nar .char ch218).toInt8.toInt32) (nar .byte (nar .char ch219).toInt8.toInt32) (nar .byte (nar .char ch220).toInt8.toInt32) T247.heap n0 Z0 S0 hcz O SV SN SP E_va V_va E_na F_na E_ns FC_ns FV_ns V_nb E_pa F_pa E_ps FC_ps FV_ps V_pb E247 FC247 FV247 V247 ne_ns_a247 ne_ps_a247) rfl (by rw [hml]; rfl) pd_10 rfl rfl i0_255 (by decide) 0 rfl (by decide) (by decide) (by decide) fun T250 v250 L250 X250 q250 => ?_
          obtain ⟨_, rfl, rfl, K250, N250⟩ := q250
          have N0 := Fr.app N0 N250
          have E247 := E247.keep K250
          have FV247 := FV247.keep K250 nin0
          have FC247 := FC247.keep K250 nin0
          have V247 := V247.keep K250 nin0
          have O := O.keep K250 all0
          have Z0 : n0 ≤ T250.heap.size := Nat.le_trans Z0 K250.1
          show Gd p e below _ T250 (mkF m 258 #[.val (.int p0), .val (.int p1), .val (.int p2), .val (.int (3 : Int32)), .val (.int (1 : Int32)), .val (.int (1 : Int32)), .val (.int v217), .val (.int ch218), .val (.int ch219), .val (.int ch220), .val (.int ch221), .val (.int ch222), .val (.int ch223), .val (.ref a247), .val .null] [.null])
          refine g_aload X250 hx hby i0_258 rfl rfl ?_
          refine g_acmp_ne X250 hx hby i0_260 rfl rfl (fun c260_251 => False.elim (c260_251 rfl)) fun c260_251 => ?_
          refine g_iconst X250 hx hby i0_263 (z := (1 : Int32)) (by decide) ?_
          refine g_goto X250 hx hby i0_264 ?_
          refine Gd.toW ?_
          refine g_ireturnN X250 hx hby (ty := .boolean) hret (by simp) hlk i0_268 (by decide) (by decide) ?_
          exact ⟨_, rfl, rfl, N0⟩
        · refine g_iloadN X223 hx hby i0_164 rfl ?_
          refine g_iload X223 hx hby i0_165 rfl ?_
          refine g_iload X223 hx hby i0_167 rfl ?_
          refine g_iload X223 hx hby i0_169 rfl ?_
          refine g_iload X223 hx hby i0_171 rfl ?_
          refine g_iload X223 hx hby i0_173 rfl ?_
          refine g_iload X223 hx hby i0_175 rfl ?_
          refine g_callS0 X223 hx hby hZ (y := (⟨"com/example/plantain/plantain/codec/ProfileNamedPinLaw", "make", "(ICCCCCC)Ljava/lang/String;"⟩ : MethodName)) (argsL := [(.int (4 : Int32)), (.int ch218), (.int ch219), (.int ch220), (.int ch221), (.int ch222), (.int ch223)]) (rest := []) hown (hw _ (List.mem_of_getElem? (i := 4) rfl)) (hw _ (List.mem_of_getElem? (i := 5) rfl)) (hw _ (List.mem_of_getElem? (i := 2) rfl)) (hw _ (List.mem_of_getElem? (i := 6) rfl)) (by decide) (rm2_4 l Z a0 hw [] (4 : Int32) ch218 ch219 ch220 ch221 ch222 ch223 cz h0 n0 Z0 S0 hcz O rfl hch218 hch219 hch220 hch221 hch222 hch223) e223 (by rw [hml]; rfl) pd_9 rfl rfl i0_177 (by decide) 0 rfl (by decide) (by decide) (by decide) fun T252 v252 L252 X252 q252 => ?_
          obtain ⟨_, rfl, a252, tb252, kt252, rfl, K252, E252, FV252, FC252, V252, sa252, N252⟩ := q252
          have N0 := Fr.app N0 N252
          have ne_ns_a252 : ns ≠ a252 := Nat.ne_of_lt (Nat.lt_of_lt_of_le (E_ns.ext O.2).lt sa252)
          have ne_ps_a252 : ps ≠ a252 := Nat.ne_of_lt (Nat.lt_of_lt_of_le (E_ps.ext O.2).lt sa252)
          have O := O.keep K252 all0
          have Z0 : n0 ≤ T252.heap.size := Nat.le_trans Z0 K252.1
          show Gd p e below _ T252 (mkF m 180 #[.val (.int p0), .val (.int p1), .val (.int p2), .val (.int (4 : Int32)), .val (.int (1 : Int32)), .val (.int (1 : Int32)), .val (.int v217), .val (.int ch218), .val (.int ch219), .val (.int ch220), .val (.int ch221), .val (.int ch222), .val (.int ch223), .unset, .unset] [(.ref a252)])
          refine g_astore X252 hx hby i0_180 rfl (l' := #[.val (.int p0), .val (.int p1), .val (.int p2), .val (.int (4 : Int32)), .val (.int (1 : Int32)), .val (.int (1 : Int32)), .val (.int v217), .val (.int ch218), .val (.int ch219), .val (.int ch220), .val (.int ch221), .val (.int ch222), .val (.int ch223), .val (.ref a252), .unset]) rfl ?_
          refine g_iloadN X252 hx hby i0_182 rfl ?_
          refine g_iconst X252 hx hby i0_183 (z := (4 : Int32)) (by decide) ?_
          refine g_icmp_ne X252 hx hby i0_184 (fun c184_253 => False.elim (absurd c184_253 (by decide))) fun c184_253 => ?_
          refine g_iload X252 hx hby i0_187 rfl ?_
          refine g_bipush X252 hx hby i0_189 (z := (110 : Int32)) (by decide) ?_
          refine g_icmp_ne X252 hx hby i0_191 (fun c191_254 => ?_) (fun c191_254 => ?_)
          · refine g_iloadN X252 hx hby i0_223 rfl ?_
            refine g_iconst X252 hx hby i0_224 (z := (2 : Int32)) (by decide) ?_
            refine g_icmp_ne X252 hx hby i0_225 (fun c225_255 => ?_) (fun c225_255 => False.elim (absurd c225_255 (by decide)))
            refine g_aconst_null X252 hx hby i0_250 ?_
            refine g_astore X252 hx hby i0_251 rfl (l' := #[.val (.int p0), .val (.int p1), .val (.int p2), .val (.int (4 : Int32)), .val (.int (1 : Int32)), .val (.int (1 : Int32)), .val (.int v217), .val (.int ch218), .val (.int ch219), .val (.int ch220), .val (.int ch221), .val (.int ch222), .val (.int ch223), .val (.ref a252), .val .null]) rfl ?_
            refine g_aload X252 hx hby i0_253 rfl rfl ?_
            refine g_callS0 X252 hx hby hZ (y := (⟨"com/example/plantain/plantain/codec/Profile", "named", "(Ljava/lang/String;)Lcom/example/plantain/plantain/codec/Profile;"⟩ : MethodName)) (argsL := [(.ref a252)]) (rest := []) hown (hw _ (List.mem_of_getElem? (i := 29) rfl)) (hw _ (List.mem_of_getElem? (i := 30) rfl)) (hw _ (List.mem_of_getElem? (i := 31) rfl)) (hw _ (List.mem_of_getElem? (i := 32) rfl)) (by decide) (rm6_4 l Z a0 hw [] a252 cz va na pa ns ps nb pb kv kn kp tb252 kt252 (nar .byte (nar .char ch218).toInt8.toInt32) (nar .byte (nar .char ch219).toInt8.toInt32) (nar .byte (nar .char ch220).toInt8.toInt32) (nar .byte (nar .char ch221).toInt8.toInt32) T252.heap n0 Z0 S0 hcz O SV SN SP E_va V_va E_na F_na E_ns FC_ns FV_ns V_nb E_pa F_pa E_ps FC_ps FV_ps V_pb E252 FC252 FV252 V252 ne_ns_a252 ne_ps_a252) rfl (by rw [hml]; rfl) pd_10 rfl rfl i0_255 (by decide) 0 rfl (by decide) (by decide) (by decide) fun T256 v256 L256 X256 q256 => ?_
            obtain ⟨vv256, rfl, hq256, K256, N256⟩ := q256
            have N0 := Fr.app N0 N256
            obtain rfl : vv256 = .null := own_pickN hq256 (fun q => c191_254 ((own_beq hch218 110 (by decide)).mp (q.1)))
            have E252 := E252.keep K256
            have FV252 := FV252.keep K256 nin0
            have FC252 := FC252.keep K256 nin0
            have V252 := V252.keep K256 nin0
            have O := O.keep K256 all0
            have Z0 : n0 ≤ T256.heap.size := Nat.le_trans Z0 K256.1
            show Gd p e below _ T256 (mkF m 258 #[.val (.int p0), .val (.int p1), .val (.int p2), .val (.int (4 : Int32)), .val (.int (1 : Int32)), .val (.int (1 : Int32)), .val (.int v217), .val (.int ch218), .val (.int ch219), .val (.int ch220), .val (.int ch221), .val (.int ch222), .val (.int ch223), .val (.ref a252), .val .null] [.null])
            refine g_aload X256 hx hby i0_258 rfl rfl ?_
            refine g_acmp_ne X256 hx hby i0_260 rfl rfl (fun c260_257 => False.elim (c260_257 rfl)) fun c260_257 => ?_
            refine g_iconst X256 hx hby i0_263 (z := (1 : Int32)) (by decide) ?_
            refine g_goto X256 hx hby i0_264 ?_
            refine Gd.toW ?_
            refine g_ireturnN X256 hx hby (ty := .boolean) hret (by simp) hlk i0_268 (by decide) (by decide) ?_
            exact ⟨_, rfl, rfl, N0⟩
          · refine g_iload X252 hx hby i0_194 rfl ?_
            refine g_bipush X252 hx hby i0_196 (z := (111 : Int32)) (by decide) ?_
            refine g_icmp_ne X252 hx hby i0_198 (fun c198_258 => ?_) (fun c198_258 => ?_)
            · refine g_iloadN X252 hx hby i0_223 rfl ?_
              refine g_iconst X252 hx hby i0_224 (z := (2 : Int32)) (by decide) ?_
              refine g_icmp_ne X252 hx hby i0_225 (fun c225_259 => ?_) (fun c225_259 => False.elim (absurd c225_259 (by decide)))
              refine g_aconst_null X252 hx hby i0_250 ?_
              refine g_astore X252 hx hby i0_251 rfl (l' := #[.val (.int p0), .val (.int p1), .val (.int p2), .val (.int (4 : Int32)), .val (.int (1 : Int32)), .val (.int (1 : Int32)), .val (.int v217), .val (.int ch218), .val (.int ch219), .val (.int ch220), .val (.int ch221), .val (.int ch222), .val (.int ch223), .val (.ref a252), .val .null]) rfl ?_
              refine g_aload X252 hx hby i0_253 rfl rfl ?_
              refine g_callS0 X252 hx hby hZ (y := (⟨"com/example/plantain/plantain/codec/Profile", "named", "(Ljava/lang/String;)Lcom/example/plantain/plantain/codec/Profile;"⟩ : MethodName)) (argsL := [(.ref a252)]) (rest := []) hown (hw _ (List.mem_of_getElem? (i := 29) rfl)) (hw _ (List.mem_of_getElem? (i := 30) rfl)) (hw _ (List.mem_of_getElem? (i := 31) rfl)) (hw _ (List.mem_of_getElem? (i := 32) rfl)) (by decide) (rm6_4 l Z a0 hw [] a252 cz va na pa ns ps nb pb kv kn kp tb252 kt252 (nar .byte (nar .char ch218).toInt8.toInt32) (nar .byte (nar .char ch219).toInt8.toInt32) (nar .byte (nar .char ch220).toInt8.toInt32) (nar .byte (nar .char ch221).toInt8.toInt32) T252.heap n0 Z0 S0 hcz O SV SN SP E_va V_va E_na F_na E_ns FC_ns FV_ns V_nb E_pa F_pa E_ps FC_ps FV_ps V_pb E252 FC252 FV252 V252 ne_ns_a252 ne_ps_a252) rfl (by rw [hml]; rfl) pd_10 rfl rfl i0_255 (by decide) 0 rfl (by decide) (by decide) (by decide) fun T260 v260 L260 X260 q260 => ?_
              obtain ⟨vv260, rfl, hq260, K260, N260⟩ := q260
              have N0 := Fr.app N0 N260
              obtain rfl : vv260 = .null := own_pickN hq260 (fun q => c198_258 ((own_beq hch219 111 (by decide)).mp (q.2.1)))
              have E252 := E252.keep K260
              have FV252 := FV252.keep K260 nin0
              have FC252 := FC252.keep K260 nin0
              have V252 := V252.keep K260 nin0
              have O := O.keep K260 all0
              have Z0 : n0 ≤ T260.heap.size := Nat.le_trans Z0 K260.1
              show Gd p e below _ T260 (mkF m 258 #[.val (.int p0), .val (.int p1), .val (.int p2), .val (.int (4 : Int32)), .val (.int (1 : Int32)), .val (.int (1 : Int32)), .val (.int v217), .val (.int ch218), .val (.int ch219), .val (.int ch220), .val (.int ch221), .val (.int ch222), .val (.int ch223), .val (.ref a252), .val .null] [.null])
              refine g_aload X260 hx hby i0_258 rfl rfl ?_
              refine g_acmp_ne X260 hx hby i0_260 rfl rfl (fun c260_261 => False.elim (c260_261 rfl)) fun c260_261 => ?_
              refine g_iconst X260 hx hby i0_263 (z := (1 : Int32)) (by decide) ?_
              refine g_goto X260 hx hby i0_264 ?_
              refine Gd.toW ?_
              refine g_ireturnN X260 hx hby (ty := .boolean) hret (by simp) hlk i0_268 (by decide) (by decide) ?_
              exact ⟨_, rfl, rfl, N0⟩
            · refine g_iload X252 hx hby i0_201 rfl ?_
              refine g_bipush X252 hx hby i0_203 (z := (110 : Int32)) (by decide) ?_
              refine g_icmp_ne X252 hx hby i0_205 (fun c205_262 => ?_) (fun c205_262 => ?_)
              · refine g_iloadN X252 hx hby i0_223 rfl ?_
                refine g_iconst X252 hx hby i0_224 (z := (2 : Int32)) (by decide) ?_
                refine g_icmp_ne X252 hx hby i0_225 (fun c225_263 => ?_) (fun c225_263 => False.elim (absurd c225_263 (by decide)))
                refine g_aconst_null X252 hx hby i0_250 ?_
                refine g_astore X252 hx hby i0_251 rfl (l' := #[.val (.int p0), .val (.int p1), .val (.int p2), .val (.int (4 : Int32)), .val (.int (1 : Int32)), .val (.int (1 : Int32)), .val (.int v217), .val (.int ch218), .val (.int ch219), .val (.int ch220), .val (.int ch221), .val (.int ch222), .val (.int ch223), .val (.ref a252), .val .null]) rfl ?_
                refine g_aload X252 hx hby i0_253 rfl rfl ?_
                refine g_callS0 X252 hx hby hZ (y := (⟨"com/example/plantain/plantain/codec/Profile", "named", "(Ljava/lang/String;)Lcom/example/plantain/plantain/codec/Profile;"⟩ : MethodName)) (argsL := [(.ref a252)]) (rest := []) hown (hw _ (List.mem_of_getElem? (i := 29) rfl)) (hw _ (List.mem_of_getElem? (i := 30) rfl)) (hw _ (List.mem_of_getElem? (i := 31) rfl)) (hw _ (List.mem_of_getElem? (i := 32) rfl)) (by decide) (rm6_4 l Z a0 hw [] a252 cz va na pa ns ps nb pb kv kn kp tb252 kt252 (nar .byte (nar .char ch218).toInt8.toInt32) (nar .byte (nar .char ch219).toInt8.toInt32) (nar .byte (nar .char ch220).toInt8.toInt32) (nar .byte (nar .char ch221).toInt8.toInt32) T252.heap n0 Z0 S0 hcz O SV SN SP E_va V_va E_na F_na E_ns FC_ns FV_ns V_nb E_pa F_pa E_ps FC_ps FV_ps V_pb E252 FC252 FV252 V252 ne_ns_a252 ne_ps_a252) rfl (by rw [hml]; rfl) pd_10 rfl rfl i0_255 (by decide) 0 rfl (by decide) (by decide) (by decide) fun T264 v264 L264 X264 q264 => ?_
                obtain ⟨vv264, rfl, hq264, K264, N264⟩ := q264
                have N0 := Fr.app N0 N264
                obtain rfl : vv264 = .null := own_pickN hq264 (fun q => c205_262 ((own_beq hch220 110 (by decide)).mp (q.2.2.1)))
                have E252 := E252.keep K264
                have FV252 := FV252.keep K264 nin0
                have FC252 := FC252.keep K264 nin0
                have V252 := V252.keep K264 nin0
                have O := O.keep K264 all0
                have Z0 : n0 ≤ T264.heap.size := Nat.le_trans Z0 K264.1
                show Gd p e below _ T264 (mkF m 258 #[.val (.int p0), .val (.int p1), .val (.int p2), .val (.int (4 : Int32)), .val (.int (1 : Int32)), .val (.int (1 : Int32)), .val (.int v217), .val (.int ch218), .val (.int ch219), .val (.int ch220), .val (.int ch221), .val (.int ch222), .val (.int ch223), .val (.ref a252), .val .null] [.null])
                refine g_aload X264 hx hby i0_258 rfl rfl ?_
                refine g_acmp_ne X264 hx hby i0_260 rfl rfl (fun c260_265 => False.elim (c260_265 rfl)) fun c260_265 => ?_
                refine g_iconst X264 hx hby i0_263 (z := (1 : Int32)) (by decide) ?_
                refine g_goto X264 hx hby i0_264 ?_
                refine Gd.toW ?_
                refine g_ireturnN X264 hx hby (ty := .boolean) hret (by simp) hlk i0_268 (by decide) (by decide) ?_
                exact ⟨_, rfl, rfl, N0⟩
              · refine g_iload X252 hx hby i0_208 rfl ?_
                refine g_bipush X252 hx hby i0_210 (z := (101 : Int32)) (by decide) ?_
                refine g_icmp_ne X252 hx hby i0_212 (fun c212_266 => ?_) (fun c212_266 => ?_)
                · refine g_iloadN X252 hx hby i0_223 rfl ?_
                  refine g_iconst X252 hx hby i0_224 (z := (2 : Int32)) (by decide) ?_
                  refine g_icmp_ne X252 hx hby i0_225 (fun c225_267 => ?_) (fun c225_267 => False.elim (absurd c225_267 (by decide)))
                  refine g_aconst_null X252 hx hby i0_250 ?_
                  refine g_astore X252 hx hby i0_251 rfl (l' := #[.val (.int p0), .val (.int p1), .val (.int p2), .val (.int (4 : Int32)), .val (.int (1 : Int32)), .val (.int (1 : Int32)), .val (.int v217), .val (.int ch218), .val (.int ch219), .val (.int ch220), .val (.int ch221), .val (.int ch222), .val (.int ch223), .val (.ref a252), .val .null]) rfl ?_
                  refine g_aload X252 hx hby i0_253 rfl rfl ?_
                  refine g_callS0 X252 hx hby hZ (y := (⟨"com/example/plantain/plantain/codec/Profile", "named", "(Ljava/lang/String;)Lcom/example/plantain/plantain/codec/Profile;"⟩ : MethodName)) (argsL := [(.ref a252)]) (rest := []) hown (hw _ (List.mem_of_getElem? (i := 29) rfl)) (hw _ (List.mem_of_getElem? (i := 30) rfl)) (hw _ (List.mem_of_getElem? (i := 31) rfl)) (hw _ (List.mem_of_getElem? (i := 32) rfl)) (by decide) (rm6_4 l Z a0 hw [] a252 cz va na pa ns ps nb pb kv kn kp tb252 kt252 (nar .byte (nar .char ch218).toInt8.toInt32) (nar .byte (nar .char ch219).toInt8.toInt32) (nar .byte (nar .char ch220).toInt8.toInt32) (nar .byte (nar .char ch221).toInt8.toInt32) T252.heap n0 Z0 S0 hcz O SV SN SP E_va V_va E_na F_na E_ns FC_ns FV_ns V_nb E_pa F_pa E_ps FC_ps FV_ps V_pb E252 FC252 FV252 V252 ne_ns_a252 ne_ps_a252) rfl (by rw [hml]; rfl) pd_10 rfl rfl i0_255 (by decide) 0 rfl (by decide) (by decide) (by decide) fun T268 v268 L268 X268 q268 => ?_
                  obtain ⟨vv268, rfl, hq268, K268, N268⟩ := q268
                  have N0 := Fr.app N0 N268
                  obtain rfl : vv268 = .null := own_pickN hq268 (fun q => c212_266 ((own_beq hch221 101 (by decide)).mp (q.2.2.2)))
                  have E252 := E252.keep K268
                  have FV252 := FV252.keep K268 nin0
                  have FC252 := FC252.keep K268 nin0
                  have V252 := V252.keep K268 nin0
                  have O := O.keep K268 all0
                  have Z0 : n0 ≤ T268.heap.size := Nat.le_trans Z0 K268.1
                  show Gd p e below _ T268 (mkF m 258 #[.val (.int p0), .val (.int p1), .val (.int p2), .val (.int (4 : Int32)), .val (.int (1 : Int32)), .val (.int (1 : Int32)), .val (.int v217), .val (.int ch218), .val (.int ch219), .val (.int ch220), .val (.int ch221), .val (.int ch222), .val (.int ch223), .val (.ref a252), .val .null] [.null])
                  refine g_aload X268 hx hby i0_258 rfl rfl ?_
                  refine g_acmp_ne X268 hx hby i0_260 rfl rfl (fun c260_269 => False.elim (c260_269 rfl)) fun c260_269 => ?_
                  refine g_iconst X268 hx hby i0_263 (z := (1 : Int32)) (by decide) ?_
                  refine g_goto X268 hx hby i0_264 ?_
                  refine Gd.toW ?_
                  refine g_ireturnN X268 hx hby (ty := .boolean) hret (by simp) hlk i0_268 (by decide) (by decide) ?_
                  exact ⟨_, rfl, rfl, N0⟩
                · refine g_getstatic X252 hx hby hZ hown (host := "") (Or.inl (hw _ (List.mem_of_getElem? (i := 73) rfl))) Via.refl rfl (SN.ext O.2) i0_215 fun T270 X270 e270 => ?_
                  refine g_astore X270 hx hby i0_218 rfl (l' := #[.val (.int p0), .val (.int p1), .val (.int p2), .val (.int (4 : Int32)), .val (.int (1 : Int32)), .val (.int (1 : Int32)), .val (.int v217), .val (.int ch218), .val (.int ch219), .val (.int ch220), .val (.int ch221), .val (.int ch222), .val (.int ch223), .val (.ref a252), .val (.ref na)]) rfl ?_
                  refine g_goto X270 hx hby i0_220 ?_
                  refine g_aload X270 hx hby i0_253 rfl rfl ?_
                  refine g_callS0 X270 hx hby hZ (y := (⟨"com/example/plantain/plantain/codec/Profile", "named", "(Ljava/lang/String;)Lcom/example/plantain/plantain/codec/Profile;"⟩ : MethodName)) (argsL := [(.ref a252)]) (rest := []) hown (hw _ (List.mem_of_getElem? (i := 29) rfl)) (hw _ (List.mem_of_getElem? (i := 30) rfl)) (hw _ (List.mem_of_getElem? (i := 31) rfl)) (hw _ (List.mem_of_getElem? (i := 32) rfl)) (by decide) (rm6_4 l Z a0 hw [] a252 cz va na pa ns ps nb pb kv kn kp tb252 kt252 (nar .byte (nar .char ch218).toInt8.toInt32) (nar .byte (nar .char ch219).toInt8.toInt32) (nar .byte (nar .char ch220).toInt8.toInt32) (nar .byte (nar .char ch221).toInt8.toInt32) T252.heap n0 Z0 S0 hcz O SV SN SP E_va V_va E_na F_na E_ns FC_ns FV_ns V_nb E_pa F_pa E_ps FC_ps FV_ps V_pb E252 FC252 FV252 V252 ne_ns_a252 ne_ps_a252) e270 (by rw [hml]; rfl) pd_10 rfl rfl i0_255 (by decide) 0 rfl (by decide) (by decide) (by decide) fun T271 v271 L271 X271 q271 => ?_
                  obtain ⟨vv271, rfl, hq271, K271, N271⟩ := q271
                  have N0 := Fr.app N0 N271
                  obtain rfl : vv271 = .ref na := own_pickY hq271 ⟨(own_beq hch218 110 (by decide)).mpr c191_254, (own_beq hch219 111 (by decide)).mpr c198_258, (own_beq hch220 110 (by decide)).mpr c205_262, (own_beq hch221 101 (by decide)).mpr c212_266⟩
                  have E252 := E252.keep K271
                  have FV252 := FV252.keep K271 nin0
                  have FC252 := FC252.keep K271 nin0
                  have V252 := V252.keep K271 nin0
                  have O := O.keep K271 all0
                  have Z0 : n0 ≤ T271.heap.size := Nat.le_trans Z0 K271.1
                  show Gd p e below _ T271 (mkF m 258 #[.val (.int p0), .val (.int p1), .val (.int p2), .val (.int (4 : Int32)), .val (.int (1 : Int32)), .val (.int (1 : Int32)), .val (.int v217), .val (.int ch218), .val (.int ch219), .val (.int ch220), .val (.int ch221), .val (.int ch222), .val (.int ch223), .val (.ref a252), .val (.ref na)] [(.ref na)])
                  refine g_aload X271 hx hby i0_258 rfl rfl ?_
                  refine g_acmp_ne X271 hx hby i0_260 rfl rfl (fun c260_272 => False.elim (c260_272 rfl)) fun c260_272 => ?_
                  refine g_iconst X271 hx hby i0_263 (z := (1 : Int32)) (by decide) ?_
                  refine g_goto X271 hx hby i0_264 ?_
                  refine Gd.toW ?_
                  refine g_ireturnN X271 hx hby (ty := .boolean) hret (by simp) hlk i0_268 (by decide) (by decide) ?_
                  exact ⟨_, rfl, rfl, N0⟩
        · refine g_iloadN X223 hx hby i0_164 rfl ?_
          refine g_iload X223 hx hby i0_165 rfl ?_
          refine g_iload X223 hx hby i0_167 rfl ?_
          refine g_iload X223 hx hby i0_169 rfl ?_
          refine g_iload X223 hx hby i0_171 rfl ?_
          refine g_iload X223 hx hby i0_173 rfl ?_
          refine g_iload X223 hx hby i0_175 rfl ?_
          refine g_callS0 X223 hx hby hZ (y := (⟨"com/example/plantain/plantain/codec/ProfileNamedPinLaw", "make", "(ICCCCCC)Ljava/lang/String;"⟩ : MethodName)) (argsL := [(.int (5 : Int32)), (.int ch218), (.int ch219), (.int ch220), (.int ch221), (.int ch222), (.int ch223)]) (rest := []) hown (hw _ (List.mem_of_getElem? (i := 4) rfl)) (hw _ (List.mem_of_getElem? (i := 5) rfl)) (hw _ (List.mem_of_getElem? (i := 2) rfl)) (hw _ (List.mem_of_getElem? (i := 6) rfl)) (by decide) (rm2_5 l Z a0 hw [] (5 : Int32) ch218 ch219 ch220 ch221 ch222 ch223 cz h0 n0 Z0 S0 hcz O rfl hch218 hch219 hch220 hch221 hch222 hch223) e223 (by rw [hml]; rfl) pd_9 rfl rfl i0_177 (by decide) 0 rfl (by decide) (by decide) (by decide) fun T273 v273 L273 X273 q273 => ?_
          obtain ⟨_, rfl, a273, tb273, kt273, rfl, K273, E273, FV273, FC273, V273, sa273, N273⟩ := q273
          have N0 := Fr.app N0 N273
          have ne_ns_a273 : ns ≠ a273 := Nat.ne_of_lt (Nat.lt_of_lt_of_le (E_ns.ext O.2).lt sa273)
          have ne_ps_a273 : ps ≠ a273 := Nat.ne_of_lt (Nat.lt_of_lt_of_le (E_ps.ext O.2).lt sa273)
          have O := O.keep K273 all0
          have Z0 : n0 ≤ T273.heap.size := Nat.le_trans Z0 K273.1
          show Gd p e below _ T273 (mkF m 180 #[.val (.int p0), .val (.int p1), .val (.int p2), .val (.int (5 : Int32)), .val (.int (1 : Int32)), .val (.int (1 : Int32)), .val (.int v217), .val (.int ch218), .val (.int ch219), .val (.int ch220), .val (.int ch221), .val (.int ch222), .val (.int ch223), .unset, .unset] [(.ref a273)])
          refine g_astore X273 hx hby i0_180 rfl (l' := #[.val (.int p0), .val (.int p1), .val (.int p2), .val (.int (5 : Int32)), .val (.int (1 : Int32)), .val (.int (1 : Int32)), .val (.int v217), .val (.int ch218), .val (.int ch219), .val (.int ch220), .val (.int ch221), .val (.int ch222), .val (.int ch223), .val (.ref a273), .unset]) rfl ?_
          refine g_iloadN X273 hx hby i0_182 rfl ?_
          refine g_iconst X273 hx hby i0_183 (z := (4 : Int32)) (by decide) ?_
          refine g_icmp_ne X273 hx hby i0_184 (fun c184_274 => ?_) (fun c184_274 => False.elim (absurd c184_274 (by decide)))
          refine g_iloadN X273 hx hby i0_223 rfl ?_
          refine g_iconst X273 hx hby i0_224 (z := (2 : Int32)) (by decide) ?_
          refine g_icmp_ne X273 hx hby i0_225 (fun c225_275 => ?_) (fun c225_275 => False.elim (absurd c225_275 (by decide)))
          refine g_aconst_null X273 hx hby i0_250 ?_
          refine g_astore X273 hx hby i0_251 rfl (l' := #[.val (.int p0), .val (.int p1), .val (.int p2), .val (.int (5 : Int32)), .val (.int (1 : Int32)), .val (.int (1 : Int32)), .val (.int v217), .val (.int ch218), .val (.int ch219), .val (.int ch220), .val (.int ch221), .val (.int ch222), .val (.int ch223), .val (.ref a273), .val .null]) rfl ?_
          refine g_aload X273 hx hby i0_253 rfl rfl ?_
          refine g_callS0 X273 hx hby hZ (y := (⟨"com/example/plantain/plantain/codec/Profile", "named", "(Ljava/lang/String;)Lcom/example/plantain/plantain/codec/Profile;"⟩ : MethodName)) (argsL := [(.ref a273)]) (rest := []) hown (hw _ (List.mem_of_getElem? (i := 29) rfl)) (hw _ (List.mem_of_getElem? (i := 30) rfl)) (hw _ (List.mem_of_getElem? (i := 31) rfl)) (hw _ (List.mem_of_getElem? (i := 32) rfl)) (by decide) (rm6_5 l Z a0 hw [] a273 cz va na pa ns ps nb pb kv kn kp tb273 kt273 (nar .byte (nar .char ch218).toInt8.toInt32) (nar .byte (nar .char ch219).toInt8.toInt32) (nar .byte (nar .char ch220).toInt8.toInt32) (nar .byte (nar .char ch221).toInt8.toInt32) (nar .byte (nar .char ch222).toInt8.toInt32) T273.heap n0 Z0 S0 hcz O SV SN SP E_va V_va E_na F_na E_ns FC_ns FV_ns V_nb E_pa F_pa E_ps FC_ps FV_ps V_pb E273 FC273 FV273 V273 ne_ns_a273 ne_ps_a273) rfl (by rw [hml]; rfl) pd_10 rfl rfl i0_255 (by decide) 0 rfl (by decide) (by decide) (by decide) fun T276 v276 L276 X276 q276 => ?_
          obtain ⟨_, rfl, rfl, K276, N276⟩ := q276
          have N0 := Fr.app N0 N276
          have E273 := E273.keep K276
          have FV273 := FV273.keep K276 nin0
          have FC273 := FC273.keep K276 nin0
          have V273 := V273.keep K276 nin0
          have O := O.keep K276 all0
          have Z0 : n0 ≤ T276.heap.size := Nat.le_trans Z0 K276.1
          show Gd p e below _ T276 (mkF m 258 #[.val (.int p0), .val (.int p1), .val (.int p2), .val (.int (5 : Int32)), .val (.int (1 : Int32)), .val (.int (1 : Int32)), .val (.int v217), .val (.int ch218), .val (.int ch219), .val (.int ch220), .val (.int ch221), .val (.int ch222), .val (.int ch223), .val (.ref a273), .val .null] [.null])
          refine g_aload X276 hx hby i0_258 rfl rfl ?_
          refine g_acmp_ne X276 hx hby i0_260 rfl rfl (fun c260_277 => False.elim (c260_277 rfl)) fun c260_277 => ?_
          refine g_iconst X276 hx hby i0_263 (z := (1 : Int32)) (by decide) ?_
          refine g_goto X276 hx hby i0_264 ?_
          refine Gd.toW ?_
          refine g_ireturnN X276 hx hby (ty := .boolean) hret (by simp) hlk i0_268 (by decide) (by decide) ?_
          exact ⟨_, rfl, rfl, N0⟩
        · refine g_iloadN X223 hx hby i0_164 rfl ?_
          refine g_iload X223 hx hby i0_165 rfl ?_
          refine g_iload X223 hx hby i0_167 rfl ?_
          refine g_iload X223 hx hby i0_169 rfl ?_
          refine g_iload X223 hx hby i0_171 rfl ?_
          refine g_iload X223 hx hby i0_173 rfl ?_
          refine g_iload X223 hx hby i0_175 rfl ?_
          refine g_callS0 X223 hx hby hZ (y := (⟨"com/example/plantain/plantain/codec/ProfileNamedPinLaw", "make", "(ICCCCCC)Ljava/lang/String;"⟩ : MethodName)) (argsL := [(.int (6 : Int32)), (.int ch218), (.int ch219), (.int ch220), (.int ch221), (.int ch222), (.int ch223)]) (rest := []) hown (hw _ (List.mem_of_getElem? (i := 4) rfl)) (hw _ (List.mem_of_getElem? (i := 5) rfl)) (hw _ (List.mem_of_getElem? (i := 2) rfl)) (hw _ (List.mem_of_getElem? (i := 6) rfl)) (by decide) (rm2_6 l Z a0 hw [] (6 : Int32) ch218 ch219 ch220 ch221 ch222 ch223 cz h0 n0 Z0 S0 hcz O rfl hch218 hch219 hch220 hch221 hch222 hch223) e223 (by rw [hml]; rfl) pd_9 rfl rfl i0_177 (by decide) 0 rfl (by decide) (by decide) (by decide) fun T278 v278 L278 X278 q278 => ?_
          obtain ⟨_, rfl, a278, tb278, kt278, rfl, K278, E278, FV278, FC278, V278, sa278, N278⟩ := q278
          have N0 := Fr.app N0 N278
          have ne_ns_a278 : ns ≠ a278 := Nat.ne_of_lt (Nat.lt_of_lt_of_le (E_ns.ext O.2).lt sa278)
          have ne_ps_a278 : ps ≠ a278 := Nat.ne_of_lt (Nat.lt_of_lt_of_le (E_ps.ext O.2).lt sa278)
          have O := O.keep K278 all0
          have Z0 : n0 ≤ T278.heap.size := Nat.le_trans Z0 K278.1
          show Gd p e below _ T278 (mkF m 180 #[.val (.int p0), .val (.int p1), .val (.int p2), .val (.int (6 : Int32)), .val (.int (1 : Int32)), .val (.int (1 : Int32)), .val (.int v217), .val (.int ch218), .val (.int ch219), .val (.int ch220), .val (.int ch221), .val (.int ch222), .val (.int ch223), .unset, .unset] [(.ref a278)])
          refine g_astore X278 hx hby i0_180 rfl (l' := #[.val (.int p0), .val (.int p1), .val (.int p2), .val (.int (6 : Int32)), .val (.int (1 : Int32)), .val (.int (1 : Int32)), .val (.int v217), .val (.int ch218), .val (.int ch219), .val (.int ch220), .val (.int ch221), .val (.int ch222), .val (.int ch223), .val (.ref a278), .unset]) rfl ?_
          refine g_iloadN X278 hx hby i0_182 rfl ?_
          refine g_iconst X278 hx hby i0_183 (z := (4 : Int32)) (by decide) ?_
          refine g_icmp_ne X278 hx hby i0_184 (fun c184_279 => ?_) (fun c184_279 => False.elim (absurd c184_279 (by decide)))
          refine g_iloadN X278 hx hby i0_223 rfl ?_
          refine g_iconst X278 hx hby i0_224 (z := (2 : Int32)) (by decide) ?_
          refine g_icmp_ne X278 hx hby i0_225 (fun c225_280 => ?_) (fun c225_280 => False.elim (absurd c225_280 (by decide)))
          refine g_aconst_null X278 hx hby i0_250 ?_
          refine g_astore X278 hx hby i0_251 rfl (l' := #[.val (.int p0), .val (.int p1), .val (.int p2), .val (.int (6 : Int32)), .val (.int (1 : Int32)), .val (.int (1 : Int32)), .val (.int v217), .val (.int ch218), .val (.int ch219), .val (.int ch220), .val (.int ch221), .val (.int ch222), .val (.int ch223), .val (.ref a278), .val .null]) rfl ?_
          refine g_aload X278 hx hby i0_253 rfl rfl ?_
          refine g_callS0 X278 hx hby hZ (y := (⟨"com/example/plantain/plantain/codec/Profile", "named", "(Ljava/lang/String;)Lcom/example/plantain/plantain/codec/Profile;"⟩ : MethodName)) (argsL := [(.ref a278)]) (rest := []) hown (hw _ (List.mem_of_getElem? (i := 29) rfl)) (hw _ (List.mem_of_getElem? (i := 30) rfl)) (hw _ (List.mem_of_getElem? (i := 31) rfl)) (hw _ (List.mem_of_getElem? (i := 32) rfl)) (by decide) (rm6_6 l Z a0 hw [] a278 cz va na pa ns ps nb pb kv kn kp tb278 kt278 (nar .byte (nar .char ch218).toInt8.toInt32) (nar .byte (nar .char ch219).toInt8.toInt32) (nar .byte (nar .char ch220).toInt8.toInt32) (nar .byte (nar .char ch221).toInt8.toInt32) (nar .byte (nar .char ch222).toInt8.toInt32) (nar .byte (nar .char ch223).toInt8.toInt32) T278.heap n0 Z0 S0 hcz O SV SN SP E_va V_va E_na F_na E_ns FC_ns FV_ns V_nb E_pa F_pa E_ps FC_ps FV_ps V_pb E278 FC278 FV278 V278 ne_ns_a278 ne_ps_a278) rfl (by rw [hml]; rfl) pd_10 rfl rfl i0_255 (by decide) 0 rfl (by decide) (by decide) (by decide) fun T281 v281 L281 X281 q281 => ?_
          obtain ⟨_, rfl, rfl, K281, N281⟩ := q281
          have N0 := Fr.app N0 N281
          have E278 := E278.keep K281
          have FV278 := FV278.keep K281 nin0
          have FC278 := FC278.keep K281 nin0
          have V278 := V278.keep K281 nin0
          have O := O.keep K281 all0
          have Z0 : n0 ≤ T281.heap.size := Nat.le_trans Z0 K281.1
          show Gd p e below _ T281 (mkF m 258 #[.val (.int p0), .val (.int p1), .val (.int p2), .val (.int (6 : Int32)), .val (.int (1 : Int32)), .val (.int (1 : Int32)), .val (.int v217), .val (.int ch218), .val (.int ch219), .val (.int ch220), .val (.int ch221), .val (.int ch222), .val (.int ch223), .val (.ref a278), .val .null] [.null])
          refine g_aload X281 hx hby i0_258 rfl rfl ?_
          refine g_acmp_ne X281 hx hby i0_260 rfl rfl (fun c260_282 => False.elim (c260_282 rfl)) fun c260_282 => ?_
          refine g_iconst X281 hx hby i0_263 (z := (1 : Int32)) (by decide) ?_
          refine g_goto X281 hx hby i0_264 ?_
          refine Gd.toW ?_
          refine g_ireturnN X281 hx hby (ty := .boolean) hret (by simp) hlk i0_268 (by decide) (by decide) ?_
          exact ⟨_, rfl, rfl, N0⟩
      · subst c157_224
        · refine g_aconst_null X223 hx hby i0_160 ?_
          refine g_goto X223 hx hby i0_161 ?_
          refine g_astore X223 hx hby i0_180 rfl (l' := #[.val (.int p0), .val (.int p1), .val (.int p2), .val (.int (7 : Int32)), .val (.int (1 : Int32)), .val (.int (1 : Int32)), .val (.int v217), .val (.int ch218), .val (.int ch219), .val (.int ch220), .val (.int ch221), .val (.int ch222), .val (.int ch223), .val .null, .unset]) rfl ?_
          refine g_iloadN X223 hx hby i0_182 rfl ?_
          refine g_iconst X223 hx hby i0_183 (z := (4 : Int32)) (by decide) ?_
          refine g_icmp_ne X223 hx hby i0_184 (fun c184_283 => ?_) (fun c184_283 => False.elim (absurd c184_283 (by decide)))
          refine g_iloadN X223 hx hby i0_223 rfl ?_
          refine g_iconst X223 hx hby i0_224 (z := (2 : Int32)) (by decide) ?_
          refine g_icmp_ne X223 hx hby i0_225 (fun c225_284 => ?_) (fun c225_284 => False.elim (absurd c225_284 (by decide)))
          refine g_aconst_null X223 hx hby i0_250 ?_
          refine g_astore X223 hx hby i0_251 rfl (l' := #[.val (.int p0), .val (.int p1), .val (.int p2), .val (.int (7 : Int32)), .val (.int (1 : Int32)), .val (.int (1 : Int32)), .val (.int v217), .val (.int ch218), .val (.int ch219), .val (.int ch220), .val (.int ch221), .val (.int ch222), .val (.int ch223), .val .null, .val .null]) rfl ?_
          refine g_aload X223 hx hby i0_253 rfl rfl ?_
          refine g_callS0 X223 hx hby hZ (y := (⟨"com/example/plantain/plantain/codec/Profile", "named", "(Ljava/lang/String;)Lcom/example/plantain/plantain/codec/Profile;"⟩ : MethodName)) (argsL := [.null]) (rest := []) hown (hw _ (List.mem_of_getElem? (i := 29) rfl)) (hw _ (List.mem_of_getElem? (i := 30) rfl)) (hw _ (List.mem_of_getElem? (i := 31) rfl)) (hw _ (List.mem_of_getElem? (i := 32) rfl)) (by decide) (rm6_n l Z a0 hw [] cz va na pa ns ps nb pb kv kn kp h0 n0 Z0 S0 hcz O SV SN SP E_va V_va E_na F_na E_ns FC_ns FV_ns V_nb E_pa F_pa E_ps FC_ps FV_ps V_pb) e223 (by rw [hml]; rfl) pd_10 rfl rfl i0_255 (by decide) 0 rfl (by decide) (by decide) (by decide) fun T285 v285 L285 X285 q285 => ?_
          obtain ⟨_, rfl, rfl, K285, N285⟩ := q285
          have N0 := Fr.app N0 N285
          have O := O.keep K285 all0
          have Z0 : n0 ≤ T285.heap.size := Nat.le_trans Z0 K285.1
          show Gd p e below _ T285 (mkF m 258 #[.val (.int p0), .val (.int p1), .val (.int p2), .val (.int (7 : Int32)), .val (.int (1 : Int32)), .val (.int (1 : Int32)), .val (.int v217), .val (.int ch218), .val (.int ch219), .val (.int ch220), .val (.int ch221), .val (.int ch222), .val (.int ch223), .val .null, .val .null] [.null])
          refine g_aload X285 hx hby i0_258 rfl rfl ?_
          refine g_acmp_ne X285 hx hby i0_260 rfl rfl (fun c260_286 => False.elim (c260_286 rfl)) fun c260_286 => ?_
          refine g_iconst X285 hx hby i0_263 (z := (1 : Int32)) (by decide) ?_
          refine g_goto X285 hx hby i0_264 ?_
          refine Gd.toW ?_
          refine g_ireturnN X285 hx hby (ty := .boolean) hret (by simp) hlk i0_268 (by decide) (by decide) ?_
          exact ⟨_, rfl, rfl, N0⟩
set_option maxRecDepth 65536 in
set_option maxHeartbeats 40000000 in
theorem comes_1 {Post : Tables → Env → Array Value → State → Outcome → State → Prop} (hpost : ∀ tb e args s v u, (limb_1_1.after args s (.returned v) u = true ∧ limb_1_2.after args s (.returned v) u = true ∧ True) → ReturnedEndW s (.returned v) u (Jvm.fieldLocs frame_1_writes args s ++ Jvm.arrayLocs frame_1_arrays args s ++ Jvm.staticLocs frame_1_statics s) 24 1152 → Post tb e args s (.returned v) u) :
    ArmFor flags0 classFile x code maxLocals ret World_1 tables_1 room_1 Calls_1 rest_1 Pre_1 Post := by
  intro l hfl _ _ p e ha hc hk s m args below hf hA hF happ hP
  obtain ⟨hcalls, hrest, hpre⟩ := hP
  obtain ⟨-, -, -, hnamed, -, -, -, hat⟩ := (Spec.applies_iff hf).mp happ
  obtain ⟨hg, hn⟩ := and_e (Cond.before_iff.mp (show (Jvm.Cond.and given_1 narrow_1).before args s = true from hpre))
  obtain ⟨hcount, g0⟩ := and_e hg
  obtain ⟨a0, g1⟩ := and_e g0
  obtain ⟨a1, g2⟩ := and_e g1
  obtain ⟨w0, w1, w2, rfl⟩ : ∃ w0 w1 w2 : Value, args = #[w0, w1, w2] := by
    have hs : args.size = 3 := by simpa [Cond.value, given_1] using hcount
    obtain ⟨L⟩ := args
    match L, hs with
    | [w0, w1, w2], _ => exact ⟨w0, w1, w2, rfl⟩
  have hw := fun d (hd : d ∈ tables_1) => atoms_spec (ws := Jvm.Cond.code x code maxLocals ret :: tables_1) hat d (List.mem_cons_of_mem _ hd)
  have hfit : Fit s := fun {y c} hc i hi => by
    obtain ⟨ha, rfl⟩ := Array.getElem?_eq_some_iff.mp hc
    have q := List.all_eq_true.mp ((Array.all_eq_true_iff_forall_mem.mp hF) _ (Array.getElem_mem ha)) i (List.mem_range.mpr hi)
    simpa [Array.getElem?_eq_getElem hi] using q
  obtain ⟨hsets, hown0⟩ := atoms_of _ (rest_1_c_eq ▸ (show rest_1_c.before _ s = true from hrest))
  have hr0 := Cond.before_iff.mp hown0
  obtain ⟨i0, ei0⟩ := is_v a0
  obtain rfl : w0 = (.int i0) := Option.some.inj ei0
  obtain ⟨i1, ei1⟩ := is_v a1
  obtain rfl : w1 = (.int i1) := Option.some.inj ei1
  obtain ⟨i2, ei2⟩ := is_v g2
  obtain rfl : w2 = (.int i2) := Option.some.inj ei2
  have hs0 := hsets _ (List.mem_of_getElem? (i := 0) rfl)
  obtain ⟨cz, ecz⟩ := is_v (Cond.before_iff.mp (hsets _ (List.mem_of_getElem? (i := 1) rfl)))
  have hcw := hsets _ (List.mem_of_getElem? (i := 2) rfl)
  have hcz : ¬ cz = (0 : Int32) := fun q => by have z1 := not_v (Cond.before_iff.mp hcw); rw [eq_i ecz (Term.int_eval 0) (congrArg Value.int q)] at z1; cases z1
  obtain ⟨y0, hn⟩ := and_e hn
  obtain ⟨y1, hn⟩ := and_e hn
  obtain ⟨y2, hn⟩ := and_e hn
  obtain ⟨y3, hn⟩ := and_e hn
  obtain ⟨y4, hn⟩ := and_e hn
  obtain ⟨y5, hn⟩ := and_e hn
  obtain ⟨y6, hn⟩ := and_e hn
  obtain ⟨y7, hn⟩ := and_e hn
  obtain ⟨y8, hn⟩ := and_e hn
  obtain ⟨y9, hn⟩ := and_e hn
  obtain ⟨y10, hn⟩ := and_e hn
  obtain ⟨y11, hn⟩ := and_e hn
  obtain ⟨y12, hn⟩ := and_e hn
  obtain ⟨y13, hn⟩ := and_e hn
  obtain ⟨y14, hn⟩ := and_e hn
  obtain ⟨y15, hn⟩ := and_e hn
  obtain ⟨y16, hn⟩ := and_e hn
  obtain ⟨y17, hn⟩ := and_e hn
  obtain ⟨y18, hn⟩ := and_e hn
  obtain ⟨y19, y20⟩ := and_e hn
  obtain ⟨va, evV, SV, E_va⟩ := own_stat y1 (hw _ (List.mem_of_getElem? (i := 31) rfl)) (hw _ (List.mem_of_getElem? (i := 37) rfl))
  obtain ⟨na, evN, SN, E_na⟩ := own_stat y3 (hw _ (List.mem_of_getElem? (i := 31) rfl)) (hw _ (List.mem_of_getElem? (i := 45) rfl))
  obtain ⟨pa, evP, SP, E_pa⟩ := own_stat y5 (hw _ (List.mem_of_getElem? (i := 31) rfl)) (hw _ (List.mem_of_getElem? (i := 46) rfl))
  obtain ⟨cv, Av, lv, ev2, hav⟩ := own_arr evV y0 y2
  have V_va := Arv.start (vs := [(.ref na), (.ref pa)]) (dv := .null) hfit Av lv ev2 (by decide) (show (2 : Int32).toNatClampNeg = 2 from by decide) ⟨own_elemR evV hav (by decide) (by decide) evN y4, own_elemR evV hav (by decide) (by decide) evP y6, trivial⟩
  obtain ⟨ns, _, _, _, ev_ns, -⟩ := Cond.exactly_spec (Cond.before_iff.mpr y7)
  have E_ns := Exa.start ev_ns y7
  have F_na : Fld s s.heap na "com/example/plantain/plantain/codec/Profile" "wireName" "Ljava/lang/String;" (.ref ns) := Fld.start (by rw [← fld_at evN]; exact ev_ns)
  have FC_ns := own_sfld ev_ns y8
  obtain ⟨nb, ev_nb⟩ := len_v (eqv_i (Term.int_eval (4)) y10)
  have FV_ns : Fld s s.heap ns "java/lang/String" "value" "[B" (.ref nb) := Fld.start (by rw [← fld_at ev_ns]; exact ev_nb)
  obtain ⟨c_nb, A_nb, l_nb, e_nb, ha_nb⟩ := own_arr ev_nb y9 y10
  have V_nb := Arv.start (vs := [(.int (110 : Int32)), (.int (111 : Int32)), (.int (110 : Int32)), (.int (101 : Int32))]) (dv := (.int (0 : Int32))) hfit A_nb l_nb e_nb (by decide) (by decide) ⟨own_elem ev_nb ha_nb (by decide) (by decide) y15, own_elem ev_nb ha_nb (by decide) (by decide) y16, own_elem ev_nb ha_nb (by decide) (by decide) y17, own_elem ev_nb ha_nb (by decide) (by decide) y18, trivial⟩
  obtain ⟨ps, _, _, _, ev_ps, -⟩ := Cond.exactly_spec (Cond.before_iff.mpr y11)
  have E_ps := Exa.start ev_ps y11
  have F_pa : Fld s s.heap pa "com/example/plantain/plantain/codec/Profile" "wireName" "Ljava/lang/String;" (.ref ps) := Fld.start (by rw [← fld_at evP]; exact ev_ps)
  have FC_ps := own_sfld ev_ps y12
  obtain ⟨pb, ev_pb⟩ := len_v (eqv_i (Term.int_eval (2)) y14)
  have FV_ps : Fld s s.heap ps "java/lang/String" "value" "[B" (.ref pb) := Fld.start (by rw [← fld_at ev_ps]; exact ev_pb)
  obtain ⟨c_pb, A_pb, l_pb, e_pb, ha_pb⟩ := own_arr ev_pb y13 y14
  have V_pb := Arv.start (vs := [(.int (112 : Int32)), (.int (98 : Int32))]) (dv := (.int (0 : Int32))) hfit A_pb l_pb e_pb (by decide) (by decide) ⟨own_elem ev_pb ha_pb (by decide) (by decide) y19, own_elem ev_pb ha_pb (by decide) (by decide) y20, trivial⟩
  have hh : Jvm.Lit.constHeld s "java/lang/String" 7 := hcalls.1 ("java/lang/String", 7) (List.mem_cons_self ..)
  obtain ⟨n, o, h1, h2, h3, _, L, rfl, ⟨_, rfl, rfl, N⟩, hq⟩ := rm0 l s _ hw tables_1 i0 i1 i2 cz va na pa ns ps nb pb _ _ _ s.heap s.heap.size (Nat.le_refl _) (Sta.start ecz (Or.inl hs0)) hcz (Old.start s) SV SN SP E_va V_va E_na F_na E_ns FC_ns FV_ns V_nb E_pa F_pa E_ps FC_ps FV_ps V_pb hh hcw p e ha hc hk s m _ below hf ((Spec.applies_iff_loose hf).mp happ).1 ⟨rfl, State.Warmed39.refl s, rfl, IB.start⟩ trivial
  refine ⟨n, _, h1, h2, h3, hpost _ _ _ _ _ _ ⟨Cond.after_iff.mpr rfl, Cond.after_iff.mpr (eq_i res_at (Term.int_eval (1)) rfl), trivial⟩ ⟨hq.1, hq.2.1, hq.2.2.1, (hq.2.2.2.sift fun y hy => Or.inr (N y hy)).mono (by decide) (by decide)⟩⟩
theorem main_1_1 : Claimed_1_1 := comes_1 fun _ _ _ _ _ _ h hF => ⟨h.1, hF⟩
theorem main_1_2 : Claimed_1_2 := comes_1 fun _ _ _ _ _ _ h hF => ⟨h.2.1, hF⟩
end Jvm.Pilot.@@N@@
namespace Jvm.Pilot.@@N@@
open Jvm Jvm.ClassFile Sem Op Lib Jvm.Free Jvm.Stand Jvm.Pilot.@@N@@.Jvm.D
/-! MADE BY PROGRAM (witnessworld.py) out of the Statement's table words and the real class files: 22 classes; the members and pool entries that the words name. The judged class is class 1, her method 1. -/
namespace start1
open Jvm.ClassFile
def u (s : String) : CpInfo := .utf8 (stringToUtf16 s)
/-- a pool by its gaps: so many unusable entries, then the entry; so many at the end -/
def gap : Nat → List CpInfo → List CpInfo
  | 0, r => r
  | n + 1, r => .unusable :: gap n r
def poolList (es : List (Nat × CpInfo)) (last : Nat) : List CpInfo := es.foldr (fun e r => gap e.1 (e.2 :: r)) (gap last [])
def pool (es : List (Nat × CpInfo)) (last : Nat) : Array CpInfo := ⟨poolList es last⟩
def fileOf (pool : Array CpInfo) (this : Nat) (attrs : Array Attribute := #[]) (ms : Array MethodInfo := #[]) (fl : Nat := 33) (sup : Nat := 0) (ifs : Array Nat := #[]) (fds : Array FieldInfo := #[]) : ClassFile where
  minorVersion := 0
  majorVersion := 65
  constantPool := pool
  accessFlags := fl
  thisClass := this
  superClass := sup
  interfaces := ifs
  fields := fds
  methods := ms
  attributes := attrs
def plain (name : String) (sup : Option ClassId) : Class where
  name := name
  kind := .ordinary
  loader := none
  accessFlags := 33
  super := sup
  interfaces := #[]
  cf := none
  fields := #[]
  methods := #[]
  instanceTypes := #[]
  staticTypes := #[]
  resolved := #[]
  callSites := []
  init := .initialized
  statics := none
  mirror := none

def pool0 : Array CpInfo := pool [(5, u "<init>"), (0, u "()V"), (1, .class_ 10), (1, u "java/lang/Object"), (85, u "clone"), (0, u "()Ljava/lang/Object;")] 26

def k0c0 : Code := { maxStack := 0, maxLocals := 1, code := object_method_1_code, exceptionTable := #[], attributes := #[] }
def k0m0 : Method := { name := "<init>", desc := "()V", sig := { parameters := [], returnType := none }, accessFlags := 1, code := some k0c0 }
def k0m1 : Method := { name := "clone", desc := "()Ljava/lang/Object;", sig := { parameters := [], returnType := some (.object "java/lang/Object") }, accessFlags := 260, code := none }
/-- java/lang/Object -/
def k0 : Class := { plain "java/lang/Object" none with
  accessFlags := 33
  interfaces := #[]
  cf := some (fileOf pool0 8 #[] #[{ accessFlags := 1, nameIndex := 5, descriptorIndex := 6, attributes := #[] }, { accessFlags := 260, nameIndex := 96, descriptorIndex := 97, attributes := #[] }] 33 0 #[] #[])
  fields := #[]
  methods := #[k0m0, k0m1]
  instanceTypes := #[]
  staticTypes := #[]
  resolved := Array.replicate 124 none
  statics := none }

def pool1 : Array CpInfo := pool [(2, .class_ 4), (1, u "java/lang/Object"), (0, u "<init>"), (0, u "()V"), (0, .methodref 8 9), (0, .class_ 10), (0, .nameAndType 11 12), (0, u "com/example/plantain/plantain/codec/ProfileNamedPinLaw"), (0, u "pick"), (0, u "(ZIII)C"), (0, .methodref 8 14), (0, .nameAndType 15 16), (0, u "make"), (0, u "(ICCCCCC)Ljava/lang/String;"), (0, .fieldref 18 19), (0, .class_ 20), (0, .nameAndType 21 22), (0, u "com/example/plantain/plantain/codec/Profile"), (0, u "NONE"), (0, u "Lcom/example/plantain/plantain/codec/Profile;"), (0, .fieldref 18 24), (0, .nameAndType 25 22), (0, u "PB"), (0, .methodref 18 27), (0, .nameAndType 28 29), (0, u "named"), (0, u "(Ljava/lang/String;)Lcom/example/plantain/plantain/codec/Profile;"), (0, .class_ 31), (0, u "java/lang/String"), (0, .methodref 30 33), (0, .nameAndType 5 34), (0, u "([C)V"), (2, u "law"), (0, u "(III)Z")] 3

def k1m0 : Method := { name := "<init>", desc := "()V", sig := { parameters := [], returnType := none }, accessFlags := 1, code := none }
def k1c1 : Code := { maxStack := 7, maxLocals := 15, code := code, exceptionTable := #[], attributes := #[] }
def k1m1 : Method := { name := "law", desc := "(III)Z", sig := { parameters := [.int, .int, .int], returnType := some .boolean }, accessFlags := 9, code := some k1c1 }
def k1c2 : Code := { maxStack := 2, maxLocals := 4, code := method_3_code, exceptionTable := #[], attributes := #[] }
def k1m2 : Method := { name := "pick", desc := "(ZIII)C", sig := { parameters := [.boolean, .int, .int, .int], returnType := some .char }, accessFlags := 10, code := some k1c2 }
def k1c3 : Code := { maxStack := 6, maxLocals := 7, code := method_4_code, exceptionTable := #[], attributes := #[] }
def k1m3 : Method := { name := "make", desc := "(ICCCCCC)Ljava/lang/String;", sig := { parameters := [.int, .char, .char, .char, .char, .char, .char], returnType := some (.object "java/lang/String") }, accessFlags := 10, code := some k1c3 }
/-- com/example/plantain/plantain/codec/ProfileNamedPinLaw -/
def k1 : Class := { plain "com/example/plantain/plantain/codec/ProfileNamedPinLaw" (some 0) with
  accessFlags := 49
  interfaces := #[]
  cf := some (fileOf pool1 8 #[] #[{ accessFlags := 1, nameIndex := 5, descriptorIndex := 6, attributes := #[] }, { accessFlags := 9, nameIndex := 37, descriptorIndex := 38, attributes := #[] }, { accessFlags := 10, nameIndex := 11, descriptorIndex := 12, attributes := #[] }, { accessFlags := 10, nameIndex := 15, descriptorIndex := 16, attributes := #[] }] 49 2 #[] #[])
  fields := #[]
  methods := #[k1m0, k1m1, k1m2, k1m3]
  instanceTypes := #[]
  staticTypes := #[]
  resolved := Array.replicate 42 none
  statics := none }

def pool2 : Array CpInfo := pool [(1, .class_ 2), (0, u "java/io/Serializable"), (0, .class_ 4), (0, u "java/lang/Object")] 2

/-- java/io/Serializable -/
def k2 : Class := { plain "java/io/Serializable" (some 0) with
  accessFlags := 1537
  interfaces := #[]
  cf := some (fileOf pool2 1 #[] #[] 1537 3 #[] #[])
  fields := #[]
  methods := #[]
  instanceTypes := #[]
  staticTypes := #[]
  resolved := Array.replicate 7 none
  statics := none }

def pool3 : Array CpInfo := pool [(1, .class_ 2), (0, u "java/lang/Comparable"), (0, .class_ 4), (0, u "java/lang/Object")] 7

/-- java/lang/Comparable -/
def k3 : Class := { plain "java/lang/Comparable" (some 0) with
  accessFlags := 1537
  interfaces := #[]
  cf := some (fileOf pool3 1 #[] #[] 1537 3 #[] #[])
  fields := #[]
  methods := #[]
  instanceTypes := #[]
  staticTypes := #[]
  resolved := Array.replicate 12 none
  statics := none }

def pool4 : Array CpInfo := pool [(2, .class_ 4), (1, u "java/lang/CharSequence"), (42, .class_ 48), (0, u "java/lang/CharSequence$1CodePointIterator"), (10, .class_ 60), (0, u "java/lang/CharSequence$1CharIterator"), (5, .class_ 67), (0, u "java/lang/Object")] 63

/-- java/lang/CharSequence -/
def k4 : Class := { plain "java/lang/CharSequence" (some 0) with
  accessFlags := 1537
  interfaces := #[]
  cf := some (fileOf pool4 2 #[.nestMembers #[47, 59]] #[] 1537 66 #[] #[])
  fields := #[]
  methods := #[]
  instanceTypes := #[]
  staticTypes := #[]
  resolved := Array.replicate 131 none
  statics := none }

def pool5 : Array CpInfo := pool [(1, .class_ 2), (0, u "java/lang/constant/Constable"), (0, .class_ 4), (0, u "java/lang/Object")] 6

/-- java/lang/constant/Constable -/
def k5 : Class := { plain "java/lang/constant/Constable" (some 0) with
  accessFlags := 1537
  interfaces := #[]
  cf := some (fileOf pool5 1 #[] #[] 1537 3 #[] #[])
  fields := #[]
  methods := #[]
  instanceTypes := #[]
  staticTypes := #[]
  resolved := Array.replicate 11 none
  statics := none }

def pool6 : Array CpInfo := pool [(1, .class_ 2), (0, u "java/lang/constant/ConstantDesc"), (0, .class_ 4), (0, u "java/lang/Object")] 32

/-- java/lang/constant/ConstantDesc -/
def k6 : Class := { plain "java/lang/constant/ConstantDesc" (some 0) with
  accessFlags := 1537
  interfaces := #[]
  cf := some (fileOf pool6 1 #[] #[] 1537 3 #[] #[])
  fields := #[]
  methods := #[]
  instanceTypes := #[]
  staticTypes := #[]
  resolved := Array.replicate 37 none
  statics := none }

def pool7 : Array CpInfo := pool [(1, .methodref 2 3), (0, .class_ 4), (0, .nameAndType 5 6), (0, u "java/lang/Object"), (0, u "<init>"), (0, u "()V"), (0, .string 8), (0, u ""), (0, .fieldref 10 11), (0, .class_ 12), (0, .nameAndType 13 14), (0, u "java/lang/String"), (0, u "value"), (0, u "[B"), (0, .fieldref 10 16), (0, .nameAndType 17 18), (0, u "coder"), (0, u "B"), (2, u "hash"), (0, u "I"), (2, u "hashIsZero"), (0, u "Z"), (0, .methodref 10 28), (0, .nameAndType 5 29), (0, u "([CIILjava/lang/Void;)V"), (8, .fieldref 10 39), (0, .nameAndType 40 26), (0, u "COMPACT_STRINGS"), (1, .class_ 44), (1, u "java/lang/StringUTF16"), (0, u "compress"), (1, .methodref 42 48), (0, .nameAndType 49 50), (0, u "coderFromArrayLen"), (0, u "([BI)B"), (56, .class_ 109), (1, u "java/lang/StringLatin1"), (67, .methodref 42 178), (0, .nameAndType 45 179), (0, u "([CII)[B"), (361, .methodref 107 542), (0, .nameAndType 543 544), (0, u "equals"), (0, u "([B[B)Z"), (28, u "(Ljava/lang/Object;)Z"), (1, .class_ 576), (0, u "java/lang/CharSequence"), (22, u "CASE_INSENSITIVE_ORDER"), (0, u "Ljava/util/Comparator;"), (409, u "([C)V"), (90, u "serialPersistentFields"), (0, u "[Ljava/io/ObjectStreamField;"), (0, .class_ 1104), (0, u "java/lang/String$CaseInsensitiveComparator"), (1, .class_ 1107), (0, u "java/io/Serializable"), (0, .class_ 1109), (0, u "java/lang/Comparable"), (0, .class_ 1111), (0, u "java/lang/constant/Constable"), (0, .class_ 1113), (0, u "java/lang/constant/ConstantDesc"), (2, u "serialVersionUID"), (0, u "J"), (3, u "REPL"), (0, u "C"), (2, u "LATIN1"), (1, u "UTF16")] 323

def k7m0 : Method := { name := "<init>", desc := "()V", sig := { parameters := [], returnType := none }, accessFlags := 1, code := none }
def k7c1 : Code := { maxStack := 5, maxLocals := 2, code := jdk_42_method_3_code, exceptionTable := #[], attributes := #[] }
def k7m1 : Method := { name := "<init>", desc := "([C)V", sig := { parameters := [(.array .char)], returnType := none }, accessFlags := 1, code := some k7c1 }
def k7c2 : Code := { maxStack := 2, maxLocals := 3, code := jdk_42_method_66_code, exceptionTable := #[], attributes := #[] }
def k7m2 : Method := { name := "equals", desc := "(Ljava/lang/Object;)Z", sig := { parameters := [(.object "java/lang/Object")], returnType := some .boolean }, accessFlags := 1, code := some k7c2 }
def k7c3 : Code := { maxStack := 4, maxLocals := 6, code := jdk_42_method_149_code, exceptionTable := #[], attributes := #[] }
def k7m3 : Method := { name := "<init>", desc := "([CIILjava/lang/Void;)V", sig := { parameters := [(.array .char), .int, .int, (.object "java/lang/Void")], returnType := none }, accessFlags := 2, code := some k7c3 }
/-- java/lang/String -/
def k7 : Class := { plain "java/lang/String" (some 0) with
  accessFlags := 49
  interfaces := #[2, 3, 4, 5, 6]
  cf := some (fileOf pool7 10 #[.nestMembers #[1103]] #[{ accessFlags := 1, nameIndex := 5, descriptorIndex := 6, attributes := #[] }, { accessFlags := 1, nameIndex := 5, descriptorIndex := 1010, attributes := #[] }, { accessFlags := 1, nameIndex := 543, descriptorIndex := 573, attributes := #[] }, { accessFlags := 2, nameIndex := 5, descriptorIndex := 29, attributes := #[] }] 49 2 #[1106, 1108, 575, 1110, 1112] #[{ accessFlags := 18, nameIndex := 13, descriptorIndex := 14, attributes := #[] }, { accessFlags := 18, nameIndex := 17, descriptorIndex := 18, attributes := #[] }, { accessFlags := 2, nameIndex := 21, descriptorIndex := 22, attributes := #[] }, { accessFlags := 2, nameIndex := 25, descriptorIndex := 26, attributes := #[] }, { accessFlags := 26, nameIndex := 1116, descriptorIndex := 1117, attributes := #[] }, { accessFlags := 24, nameIndex := 40, descriptorIndex := 26, attributes := #[] }, { accessFlags := 26, nameIndex := 1101, descriptorIndex := 1102, attributes := #[] }, { accessFlags := 26, nameIndex := 1121, descriptorIndex := 1122, attributes := #[] }, { accessFlags := 25, nameIndex := 599, descriptorIndex := 600, attributes := #[] }, { accessFlags := 24, nameIndex := 1125, descriptorIndex := 18, attributes := #[] }, { accessFlags := 24, nameIndex := 1127, descriptorIndex := 18, attributes := #[] }])
  fields := #[{ name := "value", type := (.array .byte), accessFlags := 18, slot := 0, constantValue := 0 }, { name := "coder", type := .byte, accessFlags := 18, slot := 1, constantValue := 0 }, { name := "hash", type := .int, accessFlags := 2, slot := 2, constantValue := 0 }, { name := "hashIsZero", type := .boolean, accessFlags := 2, slot := 3, constantValue := 0 }, { name := "serialVersionUID", type := .long, accessFlags := 26, slot := 0, constantValue := 0 }, { name := "COMPACT_STRINGS", type := .boolean, accessFlags := 24, slot := 1, constantValue := 0 }, { name := "serialPersistentFields", type := (.array (.object "java/io/ObjectStreamField")), accessFlags := 26, slot := 2, constantValue := 0 }, { name := "REPL", type := .char, accessFlags := 26, slot := 3, constantValue := 0 }, { name := "CASE_INSENSITIVE_ORDER", type := (.object "java/util/Comparator"), accessFlags := 25, slot := 4, constantValue := 0 }, { name := "LATIN1", type := .byte, accessFlags := 24, slot := 5, constantValue := 0 }, { name := "UTF16", type := .byte, accessFlags := 24, slot := 6, constantValue := 0 }]
  methods := #[k7m0, k7m1, k7m2, k7m3]
  instanceTypes := #[(.array .byte), .byte, .int, .boolean]
  staticTypes := #[.long, .boolean, (.array (.object "java/io/ObjectStreamField")), .char, (.object "java/util/Comparator"), .byte, .byte]
  resolved := Array.replicate 1451 none
  statics := some 0 }

def pool8 : Array CpInfo := pool [(2, .class_ 4), (1, u "java/lang/Enum"), (0, u "name"), (0, u "Ljava/lang/String;"), (2, u "ordinal"), (0, u "I"), (1, .class_ 14), (1, u "java/lang/Object"), (4, u "hash"), (86, .class_ 108), (1, u "java/lang/Enum$EnumDesc"), (2, .class_ 112), (0, u "java/lang/constant/Constable"), (0, .class_ 114), (0, u "java/lang/Comparable"), (0, .class_ 116), (0, u "java/io/Serializable")] 87

/-- java/lang/Enum -/
def k8 : Class := { plain "java/lang/Enum" (some 0) with
  accessFlags := 1057
  interfaces := #[5, 3, 2]
  cf := some (fileOf pool8 2 #[.nestMembers #[106]] #[] 1057 12 #[111, 113, 115] #[{ accessFlags := 18, nameIndex := 5, descriptorIndex := 6, attributes := #[] }, { accessFlags := 18, nameIndex := 9, descriptorIndex := 10, attributes := #[] }, { accessFlags := 2, nameIndex := 19, descriptorIndex := 10, attributes := #[] }])
  fields := #[{ name := "name", type := (.object "java/lang/String"), accessFlags := 18, slot := 0, constantValue := 0 }, { name := "ordinal", type := .int, accessFlags := 18, slot := 1, constantValue := 0 }, { name := "hash", type := .int, accessFlags := 2, slot := 2, constantValue := 0 }]
  methods := #[]
  instanceTypes := #[(.object "java/lang/String"), .int, .int]
  staticTypes := #[]
  resolved := Array.replicate 204 none
  statics := none }

def pool9 : Array CpInfo := pool [(1, .class_ 2), (0, u "com/example/plantain/plantain/codec/Profile"), (2, u "NONE"), (0, u "Lcom/example/plantain/plantain/codec/Profile;"), (2, u "PB"), (0, .fieldref 1 11), (0, .nameAndType 12 13), (0, u "$VALUES"), (0, u "[Lcom/example/plantain/plantain/codec/Profile;"), (0, .methodref 15 16), (0, .class_ 13), (0, .nameAndType 17 18), (0, u "clone"), (0, u "()Ljava/lang/Object;"), (1, .class_ 22), (1, u "java/lang/Enum"), (13, u "codes"), (0, u "Ljava/util/Map;"), (0, .fieldref 1 39), (0, .nameAndType 40 41), (0, u "wireName"), (0, u "Ljava/lang/String;"), (4, u "words"), (0, u "[[B"), (7, .class_ 57), (1, u "java/lang/String"), (21, u "longestWord"), (0, u "I"), (0, .methodref 1 82), (0, .nameAndType 83 84), (0, u "values"), (0, u "()[Lcom/example/plantain/plantain/codec/Profile;"), (0, .methodref 55 86), (0, .nameAndType 87 88), (0, u "equals"), (0, u "(Ljava/lang/Object;)Z"), (93, u "(Ljava/lang/String;)Lcom/example/plantain/plantain/codec/Profile;"), (6, u "named")] 8

def k9c0 : Code := { maxStack := 1, maxLocals := 0, code := prog_9_method_1_code, exceptionTable := #[], attributes := #[] }
def k9m0 : Method := { name := "values", desc := "()[Lcom/example/plantain/plantain/codec/Profile;", sig := { parameters := [], returnType := some (.array (.object "com/example/plantain/plantain/codec/Profile")) }, accessFlags := 9, code := some k9c0 }
def k9c1 : Code := { maxStack := 2, maxLocals := 5, code := prog_9_method_5_code, exceptionTable := #[], attributes := #[] }
def k9m1 : Method := { name := "named", desc := "(Ljava/lang/String;)Lcom/example/plantain/plantain/codec/Profile;", sig := { parameters := [(.object "java/lang/String")], returnType := some (.object "com/example/plantain/plantain/codec/Profile") }, accessFlags := 9, code := some k9c1 }
/-- com/example/plantain/plantain/codec/Profile -/
def k9 : Class := { plain "com/example/plantain/plantain/codec/Profile" (some 8) with
  accessFlags := 16433
  interfaces := #[]
  cf := some (fileOf pool9 1 #[] #[{ accessFlags := 9, nameIndex := 83, descriptorIndex := 84, attributes := #[] }, { accessFlags := 9, nameIndex := 189, descriptorIndex := 182, attributes := #[] }] 16433 20 #[] #[{ accessFlags := 16409, nameIndex := 5, descriptorIndex := 6, attributes := #[] }, { accessFlags := 16409, nameIndex := 9, descriptorIndex := 6, attributes := #[] }, { accessFlags := 18, nameIndex := 40, descriptorIndex := 41, attributes := #[] }, { accessFlags := 18, nameIndex := 46, descriptorIndex := 47, attributes := #[] }, { accessFlags := 18, nameIndex := 36, descriptorIndex := 37, attributes := #[] }, { accessFlags := 18, nameIndex := 79, descriptorIndex := 80, attributes := #[] }, { accessFlags := 4122, nameIndex := 12, descriptorIndex := 13, attributes := #[] }])
  fields := #[{ name := "NONE", type := (.object "com/example/plantain/plantain/codec/Profile"), accessFlags := 16409, slot := 0, constantValue := 0 }, { name := "PB", type := (.object "com/example/plantain/plantain/codec/Profile"), accessFlags := 16409, slot := 1, constantValue := 0 }, { name := "wireName", type := (.object "java/lang/String"), accessFlags := 18, slot := 3, constantValue := 0 }, { name := "words", type := (.array (.array .byte)), accessFlags := 18, slot := 4, constantValue := 0 }, { name := "codes", type := (.object "java/util/Map"), accessFlags := 18, slot := 5, constantValue := 0 }, { name := "longestWord", type := .int, accessFlags := 18, slot := 6, constantValue := 0 }, { name := "$VALUES", type := (.array (.object "com/example/plantain/plantain/codec/Profile")), accessFlags := 4122, slot := 2, constantValue := 0 }]
  methods := #[k9m0, k9m1]
  instanceTypes := #[(.object "java/lang/String"), .int, .int, (.object "java/lang/String"), (.array (.array .byte)), (.object "java/util/Map"), .int]
  staticTypes := #[(.object "com/example/plantain/plantain/codec/Profile"), (.object "com/example/plantain/plantain/codec/Profile"), (.array (.object "com/example/plantain/plantain/codec/Profile"))]
  resolved := Array.replicate 198 none
  statics := some 1 }

def pool10 : Array CpInfo := pool [(1, .class_ 2), (0, u "java/lang/Cloneable"), (0, .class_ 4), (0, u "java/lang/Object")] 2

/-- java/lang/Cloneable -/
def k10 : Class := { plain "java/lang/Cloneable" (some 0) with
  accessFlags := 1537
  interfaces := #[]
  cf := some (fileOf pool10 1 #[] #[] 1537 3 #[] #[])
  fields := #[]
  methods := #[]
  instanceTypes := #[]
  staticTypes := #[]
  resolved := Array.replicate 7 none
  statics := none }

def pool11 : Array CpInfo := pool [(4, .class_ 6), (1, u "java/lang/Object"), (0, u "<init>"), (0, u "()V"), (5, .class_ 16), (1, u "java/lang/StringLatin1"), (104, u "$assertionsDisabled"), (0, u "Z"), (98, .class_ 223), (1, u "java/lang/StringLatin1$LinesSpliterator"), (57, u "equals"), (0, u "([B[B)Z"), (107, .class_ 391), (0, u "java/lang/StringLatin1$CharsSpliterator")] 3

def k11m0 : Method := { name := "<init>", desc := "()V", sig := { parameters := [], returnType := none }, accessFlags := 0, code := none }
def k11c1 : Code := { maxStack := 3, maxLocals := 3, code := jdk_43_method_13_code, exceptionTable := #[], attributes := #[] }
def k11m1 : Method := { name := "equals", desc := "([B[B)Z", sig := { parameters := [(.array .byte), (.array .byte)], returnType := some .boolean }, accessFlags := 9, code := some k11c1 }
/-- java/lang/StringLatin1 -/
def k11 : Class := { plain "java/lang/StringLatin1" (some 0) with
  accessFlags := 48
  interfaces := #[]
  cf := some (fileOf pool11 14 #[.nestMembers #[390, 221]] #[{ accessFlags := 0, nameIndex := 7, descriptorIndex := 8, attributes := #[] }, { accessFlags := 9, nameIndex := 281, descriptorIndex := 282, attributes := #[] }] 48 4 #[] #[{ accessFlags := 4120, nameIndex := 121, descriptorIndex := 122, attributes := #[] }])
  fields := #[{ name := "$assertionsDisabled", type := .boolean, accessFlags := 4120, slot := 0, constantValue := 0 }]
  methods := #[k11m0, k11m1]
  instanceTypes := #[]
  staticTypes := #[.boolean]
  resolved := Array.replicate 395 none
  statics := none }

def pool12 : Array CpInfo := pool [(6, .class_ 8), (1, u "java/lang/Object"), (0, u "<init>"), (0, u "()V"), (1, .class_ 14), (1, u "java/lang/StringUTF16"), (31, u "$assertionsDisabled"), (0, u "Z"), (13, u "HI_BYTE_SHIFT"), (0, u "I"), (2, u "LO_BYTE_SHIFT"), (49, .methodref 12 116), (0, .nameAndType 117 118), (0, u "compress"), (0, u "([CI[BII)I"), (3, u "([CII)[B"), (138, u "coderFromArrayLen"), (0, u "([BI)B"), (106, .class_ 371), (1, u "java/lang/StringUTF16$LinesSpliterator"), (58, u "MAX_LENGTH"), (196, .class_ 628), (0, u "java/lang/StringUTF16$CodePointsSpliterator"), (0, .class_ 630), (0, u "java/lang/StringUTF16$CharsSpliterator")] 4

def k12m0 : Method := { name := "<init>", desc := "()V", sig := { parameters := [], returnType := none }, accessFlags := 0, code := none }
def k12c1 : Code := { maxStack := 2, maxLocals := 2, code := jdk_52_method_15_code, exceptionTable := #[], attributes := #[] }
def k12m1 : Method := { name := "coderFromArrayLen", desc := "([BI)B", sig := { parameters := [(.array .byte), .int], returnType := some .byte }, accessFlags := 8, code := some k12c1 }
def k12c2 : Code := { maxStack := 5, maxLocals := 6, code := jdk_52_method_16_code, exceptionTable := #[], attributes := #[] }
def k12m2 : Method := { name := "compress", desc := "([CII)[B", sig := { parameters := [(.array .char), .int, .int], returnType := some (.array .byte) }, accessFlags := 9, code := some k12c2 }
def k12c3 : Code := { maxStack := 3, maxLocals := 7, code := jdk_52_method_21_code, exceptionTable := #[], attributes := #[] }
def k12m3 : Method := { name := "compress", desc := "([CI[BII)I", sig := { parameters := [(.array .char), .int, (.array .byte), .int, .int], returnType := some .int }, accessFlags := 9, code := some k12c3 }
/-- java/lang/StringUTF16 -/
def k12 : Class := { plain "java/lang/StringUTF16" (some 0) with
  accessFlags := 48
  interfaces := #[]
  cf := some (fileOf pool12 12 #[.nestMembers #[627, 629, 369]] #[{ accessFlags := 0, nameIndex := 9, descriptorIndex := 10, attributes := #[] }, { accessFlags := 8, nameIndex := 261, descriptorIndex := 262, attributes := #[] }, { accessFlags := 9, nameIndex := 117, descriptorIndex := 122, attributes := #[] }, { accessFlags := 9, nameIndex := 117, descriptorIndex := 118, attributes := #[] }] 48 6 #[] #[{ accessFlags := 26, nameIndex := 61, descriptorIndex := 62, attributes := #[] }, { accessFlags := 26, nameIndex := 65, descriptorIndex := 62, attributes := #[] }, { accessFlags := 24, nameIndex := 430, descriptorIndex := 62, attributes := #[] }, { accessFlags := 4120, nameIndex := 46, descriptorIndex := 47, attributes := #[] }])
  fields := #[{ name := "HI_BYTE_SHIFT", type := .int, accessFlags := 26, slot := 0, constantValue := 0 }, { name := "LO_BYTE_SHIFT", type := .int, accessFlags := 26, slot := 1, constantValue := 0 }, { name := "MAX_LENGTH", type := .int, accessFlags := 24, slot := 2, constantValue := 0 }, { name := "$assertionsDisabled", type := .boolean, accessFlags := 4120, slot := 3, constantValue := 0 }]
  methods := #[k12m0, k12m1, k12m2, k12m3]
  instanceTypes := #[]
  staticTypes := #[.int, .int, .int, .boolean]
  resolved := Array.replicate 635 none
  statics := none }

def pool13 : Array CpInfo := pool [(2, .class_ 4), (1, u "java/lang/Object"), (0, u "<init>"), (0, u "()V"), (17, .class_ 26), (1, u "jdk/internal/util/Preconditions"), (28, .class_ 56), (0, u "jdk/internal/util/Preconditions$4"), (57, .class_ 115), (0, u "jdk/internal/util/Preconditions$1"), (7, u "SIOOBE_FORMATTER"), (0, u "Ljava/util/function/BiFunction;"), (0, .class_ 126), (0, u "jdk/internal/util/Preconditions$2"), (3, u "AIOOBE_FORMATTER"), (0, .class_ 132), (0, u "jdk/internal/util/Preconditions$3"), (3, u "IOOBE_FORMATTER")] 57

def k13m0 : Method := { name := "<init>", desc := "()V", sig := { parameters := [], returnType := none }, accessFlags := 1, code := none }
/-- jdk/internal/util/Preconditions -/
def k13 : Class := { plain "jdk/internal/util/Preconditions" (some 0) with
  accessFlags := 33
  interfaces := #[]
  cf := some (fileOf pool13 24 #[.nestMembers #[55, 131, 125, 114]] #[{ accessFlags := 1, nameIndex := 5, descriptorIndex := 6, attributes := #[] }] 33 2 #[] #[{ accessFlags := 25, nameIndex := 123, descriptorIndex := 124, attributes := #[] }, { accessFlags := 25, nameIndex := 130, descriptorIndex := 124, attributes := #[] }, { accessFlags := 25, nameIndex := 136, descriptorIndex := 124, attributes := #[] }])
  fields := #[{ name := "SIOOBE_FORMATTER", type := (.object "java/util/function/BiFunction"), accessFlags := 25, slot := 0, constantValue := 0 }, { name := "AIOOBE_FORMATTER", type := (.object "java/util/function/BiFunction"), accessFlags := 25, slot := 1, constantValue := 0 }, { name := "IOOBE_FORMATTER", type := (.object "java/util/function/BiFunction"), accessFlags := 25, slot := 2, constantValue := 0 }]
  methods := #[k13m0]
  instanceTypes := #[]
  staticTypes := #[(.object "java/util/function/BiFunction"), (.object "java/util/function/BiFunction"), (.object "java/util/function/BiFunction")]
  resolved := Array.replicate 194 none
  statics := some 2 }

def pool14 : Array CpInfo := pool [(9, u "<init>"), (6, .class_ 18), (1, u "java/lang/Object"), (0, u "()V"), (1, .class_ 23), (1, u "jdk/internal/util/ArraysSupport"), (0, u "LOG2_ARRAY_LONG_INDEX_SCALE"), (0, u "I"), (2, u "U"), (0, u "Ljdk/internal/misc/Unsafe;"), (8, u "BIG_ENDIAN"), (0, u "Z"), (8, u "LOG2_BYTE_BIT_SIZE"), (4, u "LOG2_ARRAY_INT_INDEX_SCALE"), (54, u "JLA"), (0, u "Ljdk/internal/access/JavaLangAccess;"), (11, u "LOG2_ARRAY_BOOLEAN_INDEX_SCALE"), (9, u "LOG2_ARRAY_BYTE_INDEX_SCALE"), (5, u "LOG2_ARRAY_CHAR_INDEX_SCALE"), (5, u "LOG2_ARRAY_SHORT_INDEX_SCALE"), (18, u "LOG2_ARRAY_FLOAT_INDEX_SCALE"), (24, u "LOG2_ARRAY_DOUBLE_INDEX_SCALE"), (89, u "T_BOOLEAN"), (2, u "T_CHAR"), (1, u "T_FLOAT"), (1, u "T_DOUBLE"), (1, u "T_BYTE"), (1, u "T_SHORT"), (1, u "T_INT"), (1, u "T_LONG"), (1, u "SOFT_MAX_ARRAY_LENGTH")] 83

def k14m0 : Method := { name := "<init>", desc := "()V", sig := { parameters := [], returnType := none }, accessFlags := 2, code := none }
/-- jdk/internal/util/ArraysSupport -/
def k14 : Class := { plain "jdk/internal/util/ArraysSupport" (some 0) with
  accessFlags := 33
  interfaces := #[]
  cf := some (fileOf pool14 21 #[] #[{ accessFlags := 2, nameIndex := 9, descriptorIndex := 19, attributes := #[] }] 33 16 #[] #[{ accessFlags := 24, nameIndex := 28, descriptorIndex := 29, attributes := #[] }, { accessFlags := 26, nameIndex := 38, descriptorIndex := 39, attributes := #[] }, { accessFlags := 25, nameIndex := 121, descriptorIndex := 25, attributes := #[] }, { accessFlags := 25, nameIndex := 131, descriptorIndex := 25, attributes := #[] }, { accessFlags := 25, nameIndex := 137, descriptorIndex := 25, attributes := #[] }, { accessFlags := 25, nameIndex := 143, descriptorIndex := 25, attributes := #[] }, { accessFlags := 25, nameIndex := 53, descriptorIndex := 25, attributes := #[] }, { accessFlags := 25, nameIndex := 24, descriptorIndex := 25, attributes := #[] }, { accessFlags := 25, nameIndex := 162, descriptorIndex := 25, attributes := #[] }, { accessFlags := 25, nameIndex := 187, descriptorIndex := 25, attributes := #[] }, { accessFlags := 26, nameIndex := 48, descriptorIndex := 25, attributes := #[] }, { accessFlags := 25, nameIndex := 277, descriptorIndex := 25, attributes := #[] }, { accessFlags := 25, nameIndex := 280, descriptorIndex := 25, attributes := #[] }, { accessFlags := 25, nameIndex := 282, descriptorIndex := 25, attributes := #[] }, { accessFlags := 25, nameIndex := 284, descriptorIndex := 25, attributes := #[] }, { accessFlags := 25, nameIndex := 286, descriptorIndex := 25, attributes := #[] }, { accessFlags := 25, nameIndex := 288, descriptorIndex := 25, attributes := #[] }, { accessFlags := 25, nameIndex := 290, descriptorIndex := 25, attributes := #[] }, { accessFlags := 25, nameIndex := 292, descriptorIndex := 25, attributes := #[] }, { accessFlags := 26, nameIndex := 108, descriptorIndex := 109, attributes := #[] }, { accessFlags := 25, nameIndex := 294, descriptorIndex := 25, attributes := #[] }])
  fields := #[{ name := "U", type := (.object "jdk/internal/misc/Unsafe"), accessFlags := 24, slot := 0, constantValue := 0 }, { name := "BIG_ENDIAN", type := .boolean, accessFlags := 26, slot := 1, constantValue := 0 }, { name := "LOG2_ARRAY_BOOLEAN_INDEX_SCALE", type := .int, accessFlags := 25, slot := 2, constantValue := 0 }, { name := "LOG2_ARRAY_BYTE_INDEX_SCALE", type := .int, accessFlags := 25, slot := 3, constantValue := 0 }, { name := "LOG2_ARRAY_CHAR_INDEX_SCALE", type := .int, accessFlags := 25, slot := 4, constantValue := 0 }, { name := "LOG2_ARRAY_SHORT_INDEX_SCALE", type := .int, accessFlags := 25, slot := 5, constantValue := 0 }, { name := "LOG2_ARRAY_INT_INDEX_SCALE", type := .int, accessFlags := 25, slot := 6, constantValue := 0 }, { name := "LOG2_ARRAY_LONG_INDEX_SCALE", type := .int, accessFlags := 25, slot := 7, constantValue := 0 }, { name := "LOG2_ARRAY_FLOAT_INDEX_SCALE", type := .int, accessFlags := 25, slot := 8, constantValue := 0 }, { name := "LOG2_ARRAY_DOUBLE_INDEX_SCALE", type := .int, accessFlags := 25, slot := 9, constantValue := 0 }, { name := "LOG2_BYTE_BIT_SIZE", type := .int, accessFlags := 26, slot := 10, constantValue := 0 }, { name := "T_BOOLEAN", type := .int, accessFlags := 25, slot := 11, constantValue := 0 }, { name := "T_CHAR", type := .int, accessFlags := 25, slot := 12, constantValue := 0 }, { name := "T_FLOAT", type := .int, accessFlags := 25, slot := 13, constantValue := 0 }, { name := "T_DOUBLE", type := .int, accessFlags := 25, slot := 14, constantValue := 0 }, { name := "T_BYTE", type := .int, accessFlags := 25, slot := 15, constantValue := 0 }, { name := "T_SHORT", type := .int, accessFlags := 25, slot := 16, constantValue := 0 }, { name := "T_INT", type := .int, accessFlags := 25, slot := 17, constantValue := 0 }, { name := "T_LONG", type := .int, accessFlags := 25, slot := 18, constantValue := 0 }, { name := "JLA", type := (.object "jdk/internal/access/JavaLangAccess"), accessFlags := 26, slot := 19, constantValue := 0 }, { name := "SOFT_MAX_ARRAY_LENGTH", type := .int, accessFlags := 25, slot := 20, constantValue := 0 }]
  methods := #[k14m0]
  instanceTypes := #[]
  staticTypes := #[(.object "jdk/internal/misc/Unsafe"), .boolean, .int, .int, .int, .int, .int, .int, .int, .int, .int, .int, .int, .int, .int, .int, .int, .int, .int, (.object "jdk/internal/access/JavaLangAccess"), .int]
  resolved := Array.replicate 378 none
  statics := none }

/-- the primitive byte -/
def k15 : Class := { plain "byte" none with kind := .primitive 'B', accessFlags := 0x411 }
/-- [B -/
def k16 : Class := { plain "[B" (some 0) with kind := .array 15 .byte, interfaces := #[10, 2], accessFlags := 1041 }

/-- the primitive char -/
def k17 : Class := { plain "char" none with kind := .primitive 'C', accessFlags := 0x411 }
/-- [C -/
def k18 : Class := { plain "[C" (some 0) with kind := .array 17 .char, interfaces := #[10, 2], accessFlags := 1041 }

/-- the primitive int -/
def k19 : Class := { plain "int" none with kind := .primitive 'I', accessFlags := 0x411 }
/-- [I -/
def k20 : Class := { plain "[I" (some 0) with kind := .array 19 .int, interfaces := #[10, 2], accessFlags := 1041 }

/-- [Lcom/example/plantain/plantain/codec/Profile; -/
def k21 : Class := { plain "[Lcom/example/plantain/plantain/codec/Profile;" (some 0) with kind := .array 9 (.object "com/example/plantain/plantain/codec/Profile"), interfaces := #[10, 2], accessFlags := 1041 }

def heap : Heap := #[{ cls := 7, slots := #[.long 0, .int 1, .null, .int 0, .null, .int 0, .int 0], vm := .statics 7 },
  { cls := 9, slots := #[.ref 7, .ref 8, .ref 9], vm := .statics 9 },
  { cls := 13, slots := #[.null, .null, .null], vm := .statics 13 },
  { cls := 16, slots := #[.int 110, .int 111, .int 110, .int 101], vm := .none },
  { cls := 16, slots := #[.int 112, .int 98], vm := .none },
  { cls := 7, slots := #[.ref 3, .int 0, .int 0, .int 0], vm := .none },
  { cls := 7, slots := #[.ref 4, .int 0, .int 0, .int 0], vm := .none },
  { cls := 9, slots := #[.null, .int 0, .int 0, .ref 5, .null, .null, .int 0], vm := .none },
  { cls := 9, slots := #[.null, .int 1, .int 0, .ref 6, .null, .null, .int 0], vm := .none },
  { cls := 21, slots := #[.ref 7, .ref 8], vm := .none }]
def classes : Array Class := #[k0, k1, k2, k3, k4, k5, k6, k7, k8, k9, k10, k11, k12, k13, k14, k15, k16, k17, k18, k19, k20, k21]
def interned : List (Array UInt16 × Addr) := []
def slotsUsed : Nat := 43
def theMethod : MethodId := ⟨1, 1⟩
def args0 : Array Value := #[.int 4, .int 0, .int 0]
def aboutOver (below : List Frame) : State where
  vm := { classes := classes, interned := interned.toArray }
  heap := heap
  slotsUsed := slotsUsed
  threads := #[{ frames := .invoking theMethod args0 :: below }]
def below0 : List Frame := [.native { method := ⟨0, 0⟩, args := #[] }]
def about1 : State := aboutOver below0
def p0 : Program := .bare "" "" ""
def e0 : Env := launch0.env 0 0 0
theorem w_frames : about1.frames = Frame.invoking theMethod args0 :: below0 := rfl
set_option maxRecDepth 65536 in
theorem w_args : argsFit about1.vm theMethod args0 = true := by decide +kernel
set_option maxRecDepth 65536 in
theorem w_heap : heapFits about1 = true := by decide +kernel
set_option maxRecDepth 65536 in
theorem w_runnable : about1.curStatus? = some .runnable := by decide +kernel
set_option maxRecDepth 65536 in
theorem w_alone : about1.alone = true := by decide +kernel
set_option maxRecDepth 65536 in
theorem w_named : about1.methodNamed? x = some theMethod := by decide +kernel
set_option maxRecDepth 65536 in
theorem w_hears : about1.hears theMethod below0 = true := by decide +kernel
set_option maxRecDepth 65536 in
theorem w_ripe : about1.ripe theMethod args0 below0 = true := by decide +kernel
theorem w_running : about1.status = .running := rfl
set_option maxRecDepth 65536 in
theorem w_room : about1.hasRoom e0.platform room_1 = true :=
  launch0.hasRoom_least _ room_1 (by decide +kernel) (by decide +kernel) (by decide +kernel) (by decide +kernel) (by decide +kernel) (by decide +kernel)
theorem allAtoms_all (ts : List Jvm.Cond) (a : Array Jvm.Value) (st : Jvm.State) : (allAtoms ts).before a st = ts.all (fun c => c.before a st) := by
  induction ts with
  | nil => rfl
  | cons c t ih =>
    show (Jvm.Cond.and c (allAtoms t)).before a st = _
    rw [Jvm.Cond.before_and, ih, List.all_cons]
def words1 : List Jvm.Cond := Jvm.Cond.code x code maxLocals ret :: tables_1
/-- a 'code' word, met by the world's own term for the bytes: nothing is compared byte by byte -/
theorem code_word {y : MethodName} {bytes : ByteArray} {mx : Nat} {rt : Option FieldType} {a : Array Value} {s : State} {m : MethodId} {meth : Method} {c : Code} (h1 : s.methodNamed? y = some m) (h2 : s.vm.method? m = some meth) (h3 : meth.code = some c) (h4 : c.code = bytes)
    (h5 : (c.maxLocals == mx && c.exceptionTable.isEmpty && decide (c.maxStack ≤ mostOperands) && decide (meth.sig.returnType = rt) && !meth.locks && decide (parseMethodDescriptor y.desc = some meth.sig)) = true) : (Jvm.Cond.code y bytes mx rt).before a s = true := by
  simp only [Bool.and_eq_true, beq_iff_eq, Bool.not_eq_true', decide_eq_true_eq] at h5
  obtain ⟨⟨⟨⟨⟨g1, g2⟩, g3⟩, g4⟩, g5⟩, g6⟩ := h5
  simp [Cond.before, Cond.holds, Cond.value, h1, h2, h3, h4, g1, g2, g3, g4, g5, g6]
def isCode : Jvm.Cond → Bool
  | .code _ _ _ _ => true
  | _ => false
theorem all_split {L : List Jvm.Cond} {P : Jvm.Cond → Bool} (h1 : L.all (fun c => isCode c || P c) = true) (h2 : ∀ c ∈ L.filter isCode, P c = true) : L.all P = true := by
  refine List.all_eq_true.mpr fun c hc => ?_
  have h := List.all_eq_true.mp h1 c hc
  rcases Bool.eq_false_or_eq_true (isCode c) with hi | hi
  · exact h2 c (List.mem_filter.mpr ⟨hc, hi⟩)
  · simpa [hi] using h
set_option maxRecDepth 65536 in
theorem w_c0 : (Jvm.Cond.code x code maxLocals ret).before args0 about1 = true := code_word (m := ⟨1, 1⟩) (meth := k1m1) (c := k1c1) (by decide +kernel) rfl rfl rfl (by decide +kernel)
set_option maxRecDepth 65536 in
theorem w_c1 : (Jvm.Cond.code ({ cls := "com/example/plantain/plantain/codec/ProfileNamedPinLaw", name := "pick", desc := "(ZIII)C" } : Jvm.MethodName) method_3_code (4 : Nat) (Option.some Jvm.ClassFile.FieldType.char)).before args0 about1 = true := code_word (m := ⟨1, 2⟩) (meth := k1m2) (c := k1c2) (by decide +kernel) rfl rfl rfl (by decide +kernel)
set_option maxRecDepth 65536 in
theorem w_c2 : (Jvm.Cond.code ({ cls := "com/example/plantain/plantain/codec/ProfileNamedPinLaw", name := "make", desc := "(ICCCCCC)Ljava/lang/String;" } : Jvm.MethodName) method_4_code (7 : Nat) (Option.some (Jvm.ClassFile.FieldType.object "java/lang/String"))).before args0 about1 = true := code_word (m := ⟨1, 3⟩) (meth := k1m3) (c := k1c3) (by decide +kernel) rfl rfl rfl (by decide +kernel)
set_option maxRecDepth 65536 in
theorem w_c3 : (Jvm.Cond.code ({ cls := "java/lang/String", name := "<init>", desc := "([C)V" } : Jvm.MethodName) jdk_42_method_3_code (2 : Nat) (Option.none : Option Jvm.ClassFile.FieldType)).before args0 about1 = true := code_word (m := ⟨7, 1⟩) (meth := k7m1) (c := k7c1) (by decide +kernel) rfl rfl rfl (by decide +kernel)
set_option maxRecDepth 65536 in
theorem w_c4 : (Jvm.Cond.code ({ cls := "java/lang/String", name := "<init>", desc := "([CIILjava/lang/Void;)V" } : Jvm.MethodName) jdk_42_method_149_code (6 : Nat) (Option.none : Option Jvm.ClassFile.FieldType)).before args0 about1 = true := code_word (m := ⟨7, 3⟩) (meth := k7m3) (c := k7c3) (by decide +kernel) rfl rfl rfl (by decide +kernel)
set_option maxRecDepth 65536 in
theorem w_c5 : (Jvm.Cond.code ({ cls := "java/lang/Object", name := "<init>", desc := "()V" } : Jvm.MethodName) object_method_1_code (1 : Nat) (Option.none : Option Jvm.ClassFile.FieldType)).before args0 about1 = true := code_word (m := ⟨0, 0⟩) (meth := k0m0) (c := k0c0) (by decide +kernel) rfl rfl rfl (by decide +kernel)
set_option maxRecDepth 65536 in
theorem w_c6 : (Jvm.Cond.code ({ cls := "com/example/plantain/plantain/codec/Profile", name := "named", desc := "(Ljava/lang/String;)Lcom/example/plantain/plantain/codec/Profile;" } : Jvm.MethodName) prog_9_method_5_code (5 : Nat) (Option.some (Jvm.ClassFile.FieldType.object "com/example/plantain/plantain/codec/Profile"))).before args0 about1 = true := code_word (m := ⟨9, 1⟩) (meth := k9m1) (c := k9c1) (by decide +kernel) rfl rfl rfl (by decide +kernel)
set_option maxRecDepth 65536 in
theorem w_c7 : (Jvm.Cond.code ({ cls := "com/example/plantain/plantain/codec/Profile", name := "values", desc := "()[Lcom/example/plantain/plantain/codec/Profile;" } : Jvm.MethodName) prog_9_method_1_code (0 : Nat) (Option.some (Jvm.ClassFile.FieldType.array (Jvm.ClassFile.FieldType.object "com/example/plantain/plantain/codec/Profile")))).before args0 about1 = true := code_word (m := ⟨9, 0⟩) (meth := k9m0) (c := k9c0) (by decide +kernel) rfl rfl rfl (by decide +kernel)
set_option maxRecDepth 65536 in
theorem w_c8 : (Jvm.Cond.code ({ cls := "java/lang/String", name := "equals", desc := "(Ljava/lang/Object;)Z" } : Jvm.MethodName) jdk_42_method_66_code (3 : Nat) (Option.some Jvm.ClassFile.FieldType.boolean)).before args0 about1 = true := code_word (m := ⟨7, 2⟩) (meth := k7m2) (c := k7c2) (by decide +kernel) rfl rfl rfl (by decide +kernel)
set_option maxRecDepth 65536 in
theorem w_c9 : (Jvm.Cond.code ({ cls := "java/lang/StringLatin1", name := "equals", desc := "([B[B)Z" } : Jvm.MethodName) jdk_43_method_13_code (3 : Nat) (Option.some Jvm.ClassFile.FieldType.boolean)).before args0 about1 = true := code_word (m := ⟨11, 1⟩) (meth := k11m1) (c := k11c1) (by decide +kernel) rfl rfl rfl (by decide +kernel)
set_option maxRecDepth 65536 in
theorem w_c10 : (Jvm.Cond.code ({ cls := "java/lang/StringUTF16", name := "compress", desc := "([CII)[B" } : Jvm.MethodName) jdk_52_method_16_code (6 : Nat) (Option.some (Jvm.ClassFile.FieldType.array Jvm.ClassFile.FieldType.byte))).before args0 about1 = true := code_word (m := ⟨12, 2⟩) (meth := k12m2) (c := k12c2) (by decide +kernel) rfl rfl rfl (by decide +kernel)
set_option maxRecDepth 65536 in
theorem w_c11 : (Jvm.Cond.code ({ cls := "java/lang/StringUTF16", name := "compress", desc := "([CI[BII)I" } : Jvm.MethodName) jdk_52_method_21_code (7 : Nat) (Option.some Jvm.ClassFile.FieldType.int)).before args0 about1 = true := code_word (m := ⟨12, 3⟩) (meth := k12m3) (c := k12c3) (by decide +kernel) rfl rfl rfl (by decide +kernel)
set_option maxRecDepth 65536 in
theorem w_c12 : (Jvm.Cond.code ({ cls := "java/lang/StringUTF16", name := "coderFromArrayLen", desc := "([BI)B" } : Jvm.MethodName) jdk_52_method_15_code (2 : Nat) (Option.some Jvm.ClassFile.FieldType.byte)).before args0 about1 = true := code_word (m := ⟨12, 1⟩) (meth := k12m1) (c := k12c1) (by decide +kernel) rfl rfl rfl (by decide +kernel)
def codes1 : List Jvm.Cond := [Jvm.Cond.code x code maxLocals ret, Jvm.Cond.code ({ cls := "com/example/plantain/plantain/codec/ProfileNamedPinLaw", name := "pick", desc := "(ZIII)C" } : Jvm.MethodName) method_3_code (4 : Nat) (Option.some Jvm.ClassFile.FieldType.char), Jvm.Cond.code ({ cls := "com/example/plantain/plantain/codec/ProfileNamedPinLaw", name := "make", desc := "(ICCCCCC)Ljava/lang/String;" } : Jvm.MethodName) method_4_code (7 : Nat) (Option.some (Jvm.ClassFile.FieldType.object "java/lang/String")), Jvm.Cond.code ({ cls := "java/lang/String", name := "<init>", desc := "([C)V" } : Jvm.MethodName) jdk_42_method_3_code (2 : Nat) (Option.none : Option Jvm.ClassFile.FieldType), Jvm.Cond.code ({ cls := "java/lang/String", name := "<init>", desc := "([CIILjava/lang/Void;)V" } : Jvm.MethodName) jdk_42_method_149_code (6 : Nat) (Option.none : Option Jvm.ClassFile.FieldType), Jvm.Cond.code ({ cls := "java/lang/Object", name := "<init>", desc := "()V" } : Jvm.MethodName) object_method_1_code (1 : Nat) (Option.none : Option Jvm.ClassFile.FieldType), Jvm.Cond.code ({ cls := "com/example/plantain/plantain/codec/Profile", name := "named", desc := "(Ljava/lang/String;)Lcom/example/plantain/plantain/codec/Profile;" } : Jvm.MethodName) prog_9_method_5_code (5 : Nat) (Option.some (Jvm.ClassFile.FieldType.object "com/example/plantain/plantain/codec/Profile")), Jvm.Cond.code ({ cls := "com/example/plantain/plantain/codec/Profile", name := "values", desc := "()[Lcom/example/plantain/plantain/codec/Profile;" } : Jvm.MethodName) prog_9_method_1_code (0 : Nat) (Option.some (Jvm.ClassFile.FieldType.array (Jvm.ClassFile.FieldType.object "com/example/plantain/plantain/codec/Profile"))), Jvm.Cond.code ({ cls := "java/lang/String", name := "equals", desc := "(Ljava/lang/Object;)Z" } : Jvm.MethodName) jdk_42_method_66_code (3 : Nat) (Option.some Jvm.ClassFile.FieldType.boolean), Jvm.Cond.code ({ cls := "java/lang/StringLatin1", name := "equals", desc := "([B[B)Z" } : Jvm.MethodName) jdk_43_method_13_code (3 : Nat) (Option.some Jvm.ClassFile.FieldType.boolean), Jvm.Cond.code ({ cls := "java/lang/StringUTF16", name := "compress", desc := "([CII)[B" } : Jvm.MethodName) jdk_52_method_16_code (6 : Nat) (Option.some (Jvm.ClassFile.FieldType.array Jvm.ClassFile.FieldType.byte)), Jvm.Cond.code ({ cls := "java/lang/StringUTF16", name := "compress", desc := "([CI[BII)I" } : Jvm.MethodName) jdk_52_method_21_code (7 : Nat) (Option.some Jvm.ClassFile.FieldType.int), Jvm.Cond.code ({ cls := "java/lang/StringUTF16", name := "coderFromArrayLen", desc := "([BI)B" } : Jvm.MethodName) jdk_52_method_15_code (2 : Nat) (Option.some Jvm.ClassFile.FieldType.byte)]
set_option maxRecDepth 65536 in
theorem codes_eq : words1.filter isCode = codes1 := rfl
theorem w_codes : ∀ c ∈ words1.filter isCode, c.before args0 about1 = true := by
  rw [codes_eq]
  intro c hc
  simp only [codes1, List.mem_cons, List.not_mem_nil, or_false] at hc
  rcases hc with rfl | rfl | rfl | rfl | rfl | rfl | rfl | rfl | rfl | rfl | rfl | rfl | rfl
  · exact w_c0
  · exact w_c1
  · exact w_c2
  · exact w_c3
  · exact w_c4
  · exact w_c5
  · exact w_c6
  · exact w_c7
  · exact w_c8
  · exact w_c9
  · exact w_c10
  · exact w_c11
  · exact w_c12
set_option maxRecDepth 65536 in
theorem w_t1 : (words1.take 24).all (fun c => isCode c || c.before args0 about1) = true := by decide +kernel
set_option maxRecDepth 65536 in
theorem w_t2 : ((words1.drop 24).take 24).all (fun c => isCode c || c.before args0 about1) = true := by decide +kernel
set_option maxRecDepth 65536 in
theorem w_t3 : (((words1.drop 24).drop 24).take 24).all (fun c => isCode c || c.before args0 about1) = true := by decide +kernel
set_option maxRecDepth 65536 in
theorem w_t4 : (((words1.drop 24).drop 24).drop 24).all (fun c => isCode c || c.before args0 about1) = true := by decide +kernel
theorem w_tables : (allAtoms (Jvm.Cond.code x code maxLocals ret :: tables_1)).before args0 about1 = true := by
  rw [allAtoms_all]
  show words1.all (fun c => c.before args0 about1) = true
  refine all_split ?_ w_codes
  rw [← List.take_append_drop 24 words1, List.all_append, w_t1, ← List.take_append_drop 24 (words1.drop 24), List.all_append, w_t2, ← List.take_append_drop 24 ((words1.drop 24).drop 24), List.all_append, w_t3, w_t4]
  rfl
set_option maxRecDepth 65536 in
theorem w_rest : rest_1_c.before args0 about1 = true := by decide +kernel
set_option maxRecDepth 65536 in
theorem w_case : (Jvm.Cond.and given_1 narrow_1).before args0 about1 = true := by decide +kernel
set_option maxRecDepth 65536 in
theorem w_consts : constsHeld consts_1 about1 := Jvm.Lit.constsHeldB_iff.mp (by decide +kernel)
theorem w_applies : (headSpec (Jvm.Cond.code x code maxLocals ret :: tables_1) room_1).applies x e0.platform about1 = true :=
  (Spec.applies_iff w_frames).mpr ⟨w_running, w_runnable, w_alone, w_named, w_hears, w_ripe, w_room, w_tables⟩
theorem atStart : AtStart classFile x code maxLocals ret World_1 tables_1 room_1 Calls_1 rest_1 Pre_1 launch0 p0 e0 about1 theMethod args0 below0 :=
  ⟨lists_1, trivial, launch0.admits_env _ _ _, launch0.least_env, fairChoices_fair.cas, fairChoices_fair.clock, w_frames, w_args, w_heap, w_applies, ⟨w_consts, trivial⟩, w_rest, w_case⟩
end start1
theorem witness_1 : WitnessClaimed_1 := ⟨start1.p0, start1.e0, start1.about1, start1.theMethod, start1.args0, start1.below0, start1.atStart⟩
end Jvm.Pilot.@@N@@
