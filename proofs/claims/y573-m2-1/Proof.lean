import JvmDerived
import JvmDerived.Pilot.@@N@@Statement
import JvmDerived.Pilot.@@N@@Code
set_option linter.unusedVariables false
set_option linter.unusedSimpArgs false
namespace Jvm.OwnG
open Sem ClassFile Op Lib Jvm.Stand Jvm.Free Jvm.LawKit Jvm.RoadKit
/-- from here the run comes to an end at which P holds -/
def Gd (p : Program) (e : Env) (below : List Frame) (P : State → Prop) (T : State) (g : JFrame) : Prop := ∃ t, Steps p.tables e below (T.setTop g) t ∧ P t
/-- an instruction of the code, and the pc behind it -/
def Ins1 (code : ByteArray) (pc : Nat) (i : Instr) (n pn : Nat) : Prop := decode code pc = .ok (i, n) ∧ pc + n = pn
/-- a branch: the pc behind it, the pc it goes to -/
def InsB (code : ByteArray) (pc : Nat) (i : Instr) (o : Int) (pn pt : Nat) : Prop := decode code pc = .ok (i, 3) ∧ pc + 3 = pn ∧ 0 ≤ (pc : Int) + o ∧ ((pc : Int) + o).toNat = pt
/-- what the end of a walk says -/
def Fin1 (s : State) (below : List Frame) (cells slots : Nat) (Q : Option Value → Heap → List Loc → Prop) (t : State) : Prop := ∃ o, t.status = .running ∧ Ended t below o ∧ ∃ v L, o = .returned v ∧ Q v t.heap L ∧ FrameEnd s o t L cells slots
/-- a method's contract at the arguments as', the heap h -/
def Met1 (l : Launch) (y : MethodName) (bytes : ByteArray) (maxL : Nat) (ret : Option FieldType) (ws : List Jvm.Cond) (rm : Room) (as' : Array Value) (Z : State) (h : Heap) (Q : Option Value → Heap → List Loc → Prop) : Prop :=
  MetFree l y (head1 (Jvm.Cond.code y bytes maxL ret :: ws) rm) (fun a U => a = as' ∧ Z.Warmed39 U.vm ∧ U.heap = h) (fun _ _ _ _ _ => True) (fun _ U o U' => ∃ v L, o = .returned v ∧ Q v U'.heap L ∧ FrameEnd U o U' L rm.cells rm.slots)
def RV (Q : Value → Heap → List Loc → Prop) (v : Option Value) (h : Heap) (L : List Loc) : Prop := ∃ z, v = some z ∧ Q z h L
def RN (Q : Heap → List Loc → Prop) (v : Option Value) (h : Heap) (L : List Loc) : Prop := v = none ∧ Q h L
section K
variable {p : Program} {l : Launch} {e : Env} {R : Room} {s : State} {m : MethodId} {args : Array Value} {below : List Frame} {meth : Method} {c : Code} {T : State} {locs : List Loc} {cells slots : Nat} {Z : State} {a0 : Array Value} {h : Heap} {P : State → Prop} {code : ByteArray} {pc pn pt : Nat} {Ls : Array Slot} {st : List Value}
theorem Gd.of {T' : State} {g g' : JFrame} (k : ∀ t, Steps p.tables e below (T'.setTop g') t → Steps p.tables e below (T.setTop g) t) (q : Gd p e below P T' g') : Gd p e below P T g := q.imp fun t r => ⟨k t r.1, r.2⟩
theorem Gd.cast {g g' : JFrame} (q : g = g') (k : Gd p e below P T g') : Gd p e below P T g := q ▸ k
theorem met_of {y : MethodName} {maxL : Nat} {ret : Option FieldType} {ws : List Jvm.Cond} {rm : Room} {as' : Array Value} {Q : Option Value → Heap → List Loc → Prop} (hp : plainFor y = true)
    (body : ∀ (p : Program) (e : Env) (s : State) (m : MethodId) (below : List Frame) (meth : Method) (c : Code) (T : State), Stand p l e rm s m as' below meth c T [] 0 0 → p.tables.exec = Jvm.exec → c.code = code → c.maxLocals = maxL → Z.Warmed39 s.vm → s.vm.findClass y.cls = some m.cls → meth.name = y.name → meth.sig.returnType = ret → meth.locks = false → T.heap = h → s.heap = h →
      Gd p e below (Fin1 s below rm.cells rm.slots Q) T (entryFrame m as' maxL)) : Met1 l y code maxL ret ws rm as' Z h Q := by
  refine MetFree.of_bodySF hp hisR ?_
  intro p e s m args below meth c s₁ Bd hml0 hP hK
  obtain ⟨rfl, hZ, hh⟩ := hP
  obtain ⟨t, h1, o, h2, h3, h4⟩ := body p e s m below meth c s₁ (Stand.of_body Bd) Bd.exec Bd.bytes hml0 hZ (findClass_of_methodNamed Bd.named) (name_of_methodNamed Bd.named Bd.method).1 Bd.returns Bd.notSynchronized (by rw [← hh, Bd.state]; rfl) hh
  exact ⟨t, o, h1, h2, h3, h4⟩
theorem g_iloadN (X : Stand p l e R s m args below meth c T locs cells slots) (hx : p.tables.exec = Jvm.exec) (hby : c.code = code) {k : Fin 4} {v : Int32} (hd : Ins1 code pc (.iload_n k) 1 pn) (hl : Ls[k.val]? = some (.val (.int v))) (k : Gd p e below P T (mkF m pn Ls (.int v :: st))) : Gd p e below P T (mkF m pc Ls (st)) := by
  obtain ⟨hd, rfl⟩ := hd
  exact k.imp fun t q => ⟨XS.iloadN X.here hx rfl (hb hby hd) hl q.1, q.2⟩
theorem g_iload (X : Stand p l e R s m args below meth c T locs cells slots) (hx : p.tables.exec = Jvm.exec) (hby : c.code = code) {k : Nat} {v : Int32} (hd : Ins1 code pc (.iload k) 2 pn) (hl : Ls[k]? = some (.val (.int v))) (k : Gd p e below P T (mkF m pn Ls (.int v :: st))) : Gd p e below P T (mkF m pc Ls (st)) := by
  obtain ⟨hd, rfl⟩ := hd
  exact k.imp fun t q => ⟨XS.iload X.here hx rfl (hb hby hd) hl q.1, q.2⟩
theorem g_istoreN (X : Stand p l e R s m args below meth c T locs cells slots) (hx : p.tables.exec = Jvm.exec) (hby : c.code = code) {k : Fin 4} {v : Int32} {l' : Array Slot} (hd : Ins1 code pc (.istore_n k) 1 pn) (hl : storeLocals Ls k.val (.int v) = some l') (k : Gd p e below P T (mkF m pn l' (st))) : Gd p e below P T (mkF m pc Ls (.int v :: st)) := by
  obtain ⟨hd, rfl⟩ := hd
  exact k.imp fun t q => ⟨XS.istoreN X.here hx rfl (hb hby hd) rfl hl q.1, q.2⟩
theorem g_istore (X : Stand p l e R s m args below meth c T locs cells slots) (hx : p.tables.exec = Jvm.exec) (hby : c.code = code) {k : Nat} {v : Int32} {l' : Array Slot} (hd : Ins1 code pc (.istore k) 2 pn) (hl : storeLocals Ls k (.int v) = some l') (k : Gd p e below P T (mkF m pn l' (st))) : Gd p e below P T (mkF m pc Ls (.int v :: st)) := by
  obtain ⟨hd, rfl⟩ := hd
  exact k.imp fun t q => ⟨XS.istore X.here hx rfl (hb hby hd) rfl hl q.1, q.2⟩
theorem g_lloadN (X : Stand p l e R s m args below meth c T locs cells slots) (hx : p.tables.exec = Jvm.exec) (hby : c.code = code) {k : Fin 4} {v : Int64} (hd : Ins1 code pc (.lload_n k) 1 pn) (hl : Ls[k.val]? = some (.val (.long v))) (k : Gd p e below P T (mkF m pn Ls (.long v :: st))) : Gd p e below P T (mkF m pc Ls (st)) := by
  obtain ⟨hd, rfl⟩ := hd
  exact k.imp fun t q => ⟨XS.lloadN X.here hx rfl (hb hby hd) hl q.1, q.2⟩
theorem g_lload (X : Stand p l e R s m args below meth c T locs cells slots) (hx : p.tables.exec = Jvm.exec) (hby : c.code = code) {k : Nat} {v : Int64} (hd : Ins1 code pc (.lload k) 2 pn) (hl : Ls[k]? = some (.val (.long v))) (k : Gd p e below P T (mkF m pn Ls (.long v :: st))) : Gd p e below P T (mkF m pc Ls (st)) := by
  obtain ⟨hd, rfl⟩ := hd
  exact k.imp fun t q => ⟨XS.lload X.here hx rfl (hb hby hd) hl q.1, q.2⟩
theorem g_lstoreN (X : Stand p l e R s m args below meth c T locs cells slots) (hx : p.tables.exec = Jvm.exec) (hby : c.code = code) {k : Fin 4} {v : Int64} {l' : Array Slot} (hd : Ins1 code pc (.lstore_n k) 1 pn) (hl : storeLocals Ls k.val (.long v) = some l') (k : Gd p e below P T (mkF m pn l' (st))) : Gd p e below P T (mkF m pc Ls (.long v :: st)) := by
  obtain ⟨hd, rfl⟩ := hd
  exact k.imp fun t q => ⟨XS.lstoreN X.here hx rfl (hb hby hd) rfl hl q.1, q.2⟩
theorem g_lstore (X : Stand p l e R s m args below meth c T locs cells slots) (hx : p.tables.exec = Jvm.exec) (hby : c.code = code) {k : Nat} {v : Int64} {l' : Array Slot} (hd : Ins1 code pc (.lstore k) 2 pn) (hl : storeLocals Ls k (.long v) = some l') (k : Gd p e below P T (mkF m pn l' (st))) : Gd p e below P T (mkF m pc Ls (.long v :: st)) := by
  obtain ⟨hd, rfl⟩ := hd
  exact k.imp fun t q => ⟨XS.lstore X.here hx rfl (hb hby hd) rfl hl q.1, q.2⟩
theorem g_dloadN (X : Stand p l e R s m args below meth c T locs cells slots) (hx : p.tables.exec = Jvm.exec) (hby : c.code = code) {k : Fin 4} {v : UInt64} (hd : Ins1 code pc (.dload_n k) 1 pn) (hl : Ls[k.val]? = some (.val (.double v))) (k : Gd p e below P T (mkF m pn Ls (.double v :: st))) : Gd p e below P T (mkF m pc Ls (st)) := by
  obtain ⟨hd, rfl⟩ := hd
  exact k.imp fun t q => ⟨XS.dloadN X.here hx rfl (hb hby hd) hl q.1, q.2⟩
theorem g_dload (X : Stand p l e R s m args below meth c T locs cells slots) (hx : p.tables.exec = Jvm.exec) (hby : c.code = code) {k : Nat} {v : UInt64} (hd : Ins1 code pc (.dload k) 2 pn) (hl : Ls[k]? = some (.val (.double v))) (k : Gd p e below P T (mkF m pn Ls (.double v :: st))) : Gd p e below P T (mkF m pc Ls (st)) := by
  obtain ⟨hd, rfl⟩ := hd
  exact k.imp fun t q => ⟨XS.dload X.here hx rfl (hb hby hd) hl q.1, q.2⟩
theorem g_dstoreN (X : Stand p l e R s m args below meth c T locs cells slots) (hx : p.tables.exec = Jvm.exec) (hby : c.code = code) {k : Fin 4} {v : UInt64} {l' : Array Slot} (hd : Ins1 code pc (.dstore_n k) 1 pn) (hl : storeLocals Ls k.val (.double v) = some l') (k : Gd p e below P T (mkF m pn l' (st))) : Gd p e below P T (mkF m pc Ls (.double v :: st)) := by
  obtain ⟨hd, rfl⟩ := hd
  exact k.imp fun t q => ⟨XS.dstoreN X.here hx rfl (hb hby hd) rfl hl q.1, q.2⟩
theorem g_dstore (X : Stand p l e R s m args below meth c T locs cells slots) (hx : p.tables.exec = Jvm.exec) (hby : c.code = code) {k : Nat} {v : UInt64} {l' : Array Slot} (hd : Ins1 code pc (.dstore k) 2 pn) (hl : storeLocals Ls k (.double v) = some l') (k : Gd p e below P T (mkF m pn l' (st))) : Gd p e below P T (mkF m pc Ls (.double v :: st)) := by
  obtain ⟨hd, rfl⟩ := hd
  exact k.imp fun t q => ⟨XS.dstore X.here hx rfl (hb hby hd) rfl hl q.1, q.2⟩
theorem g_aloadN (X : Stand p l e R s m args below meth c T locs cells slots) (hx : p.tables.exec = Jvm.exec) (hby : c.code = code) {k : Fin 4} {v : Value} (hd : Ins1 code pc (.aload_n k) 1 pn) (hl : Ls[k.val]? = some (.val v)) (hv : v.isRef = true) (k : Gd p e below P T (mkF m pn Ls (v :: st))) : Gd p e below P T (mkF m pc Ls (st)) := by
  obtain ⟨hd, rfl⟩ := hd
  exact k.imp fun t q => ⟨XS.aloadN X.here hx rfl (hb hby hd) hl hv q.1, q.2⟩
theorem g_aload (X : Stand p l e R s m args below meth c T locs cells slots) (hx : p.tables.exec = Jvm.exec) (hby : c.code = code) {k : Nat} {v : Value} (hd : Ins1 code pc (.aload k) 2 pn) (hl : Ls[k]? = some (.val v)) (hv : v.isRef = true) (k : Gd p e below P T (mkF m pn Ls (v :: st))) : Gd p e below P T (mkF m pc Ls (st)) := by
  obtain ⟨hd, rfl⟩ := hd
  exact k.imp fun t q => ⟨XS.aload X.here hx rfl (hb hby hd) hl hv q.1, q.2⟩
theorem g_astoreN (X : Stand p l e R s m args below meth c T locs cells slots) (hx : p.tables.exec = Jvm.exec) (hby : c.code = code) {k : Fin 4} {v : Value} {l' : Array Slot} (hd : Ins1 code pc (.astore_n k) 1 pn) (hv : v.isRef = true) (hl : storeLocals Ls k.val v = some l') (k : Gd p e below P T (mkF m pn l' (st))) : Gd p e below P T (mkF m pc Ls (v :: st)) := by
  obtain ⟨hd, rfl⟩ := hd
  exact k.imp fun t q => ⟨XS.astoreN X.here hx rfl (hb hby hd) rfl hv hl q.1, q.2⟩
theorem g_astore (X : Stand p l e R s m args below meth c T locs cells slots) (hx : p.tables.exec = Jvm.exec) (hby : c.code = code) {k : Nat} {v : Value} {l' : Array Slot} (hd : Ins1 code pc (.astore k) 2 pn) (hv : v.isRef = true) (hl : storeLocals Ls k v = some l') (k : Gd p e below P T (mkF m pn l' (st))) : Gd p e below P T (mkF m pc Ls (v :: st)) := by
  obtain ⟨hd, rfl⟩ := hd
  exact k.imp fun t q => ⟨XS.astore X.here hx rfl (hb hby hd) rfl hv hl q.1, q.2⟩
theorem g_istoreNW (X : Stand p l e R s m args below meth c T locs cells slots) (hx : p.tables.exec = Jvm.exec) (hby : c.code = code) {k : Fin 4} {v : Int32} {l' : Int32 → Array Slot} (hd : Ins1 code pc (.istore_n k) 1 pn) (hl : ∀ w, storeLocals Ls k.val (.int w) = some (l' w)) (k : ∀ w, w = v → Gd p e below P T (mkF m pn (l' w) st)) : Gd p e below P T (mkF m pc Ls (.int v :: st)) := g_istoreN X hx hby hd (hl v) (k v rfl)
theorem g_istoreW (X : Stand p l e R s m args below meth c T locs cells slots) (hx : p.tables.exec = Jvm.exec) (hby : c.code = code) {k : Nat} {v : Int32} {l' : Int32 → Array Slot} (hd : Ins1 code pc (.istore k) 2 pn) (hl : ∀ w, storeLocals Ls k (.int w) = some (l' w)) (k : ∀ w, w = v → Gd p e below P T (mkF m pn (l' w) st)) : Gd p e below P T (mkF m pc Ls (.int v :: st)) := g_istore X hx hby hd (hl v) (k v rfl)
theorem g_lstoreNW (X : Stand p l e R s m args below meth c T locs cells slots) (hx : p.tables.exec = Jvm.exec) (hby : c.code = code) {k : Fin 4} {v : Int64} {l' : Int64 → Array Slot} (hd : Ins1 code pc (.lstore_n k) 1 pn) (hl : ∀ w, storeLocals Ls k.val (.long w) = some (l' w)) (k : ∀ w, w = v → Gd p e below P T (mkF m pn (l' w) st)) : Gd p e below P T (mkF m pc Ls (.long v :: st)) := g_lstoreN X hx hby hd (hl v) (k v rfl)
theorem g_lstoreW (X : Stand p l e R s m args below meth c T locs cells slots) (hx : p.tables.exec = Jvm.exec) (hby : c.code = code) {k : Nat} {v : Int64} {l' : Int64 → Array Slot} (hd : Ins1 code pc (.lstore k) 2 pn) (hl : ∀ w, storeLocals Ls k (.long w) = some (l' w)) (k : ∀ w, w = v → Gd p e below P T (mkF m pn (l' w) st)) : Gd p e below P T (mkF m pc Ls (.long v :: st)) := g_lstore X hx hby hd (hl v) (k v rfl)
theorem g_iconst (X : Stand p l e R s m args below meth c T locs cells slots) (hx : p.tables.exec = Jvm.exec) (hby : c.code = code) {i : Int} {z : Int32} (hd : Ins1 code pc (.iconst i) 1 pn) (hz : Int32.ofInt i = z) (k : Gd p e below P T (mkF m pn Ls (.int z :: st))) : Gd p e below P T (mkF m pc Ls st) := by
  obtain ⟨hd, rfl⟩ := hd
  subst hz
  exact k.imp fun t q => ⟨XS.iconst X.here hx rfl (hb hby hd) q.1, q.2⟩
theorem g_bipush (X : Stand p l e R s m args below meth c T locs cells slots) (hx : p.tables.exec = Jvm.exec) (hby : c.code = code) {i : Int} {z : Int32} (hd : Ins1 code pc (.bipush i) 2 pn) (hz : (Int8.ofInt i).toInt32 = z) (k : Gd p e below P T (mkF m pn Ls (.int z :: st))) : Gd p e below P T (mkF m pc Ls st) := by
  obtain ⟨hd, rfl⟩ := hd
  subst hz
  exact k.imp fun t q => ⟨XS.bipush X.here hx rfl (hb hby hd) q.1, q.2⟩
theorem g_sipush (X : Stand p l e R s m args below meth c T locs cells slots) (hx : p.tables.exec = Jvm.exec) (hby : c.code = code) {i : Int} {z : Int32} (hd : Ins1 code pc (.sipush i) 3 pn) (hz : (Int16.ofInt i).toInt32 = z) (k : Gd p e below P T (mkF m pn Ls (.int z :: st))) : Gd p e below P T (mkF m pc Ls st) := by
  obtain ⟨hd, rfl⟩ := hd
  subst hz
  exact k.imp fun t q => ⟨XS.sipush X.here hx rfl (hb hby hd) q.1, q.2⟩
theorem g_lconst (X : Stand p l e R s m args below meth c T locs cells slots) (hx : p.tables.exec = Jvm.exec) (hby : c.code = code) {i : Fin 2} {z : Int64} (hd : Ins1 code pc (.lconst i) 1 pn) (hz : Int64.ofNat i = z) (k : Gd p e below P T (mkF m pn Ls (.long z :: st))) : Gd p e below P T (mkF m pc Ls st) := by
  obtain ⟨hd, rfl⟩ := hd
  subst hz
  exact k.imp fun t q => ⟨XS.lconst X.here hx rfl (hb hby hd) q.1, q.2⟩
theorem g_aconst_null (X : Stand p l e R s m args below meth c T locs cells slots) (hx : p.tables.exec = Jvm.exec) (hby : c.code = code)  (hd : Ins1 code pc (.aconst_null) 1 pn) (k : Gd p e below P T (mkF m pn Ls (.null :: st))) : Gd p e below P T (mkF m pc Ls (st)) := by
  obtain ⟨hd, rfl⟩ := hd
  exact k.imp fun t q => ⟨XS.aconstNull X.here hx rfl (hb hby hd)  q.1, q.2⟩
theorem g_iadd (X : Stand p l e R s m args below meth c T locs cells slots) (hx : p.tables.exec = Jvm.exec) (hby : c.code = code) {x y : Int32} (hd : Ins1 code pc (.iadd) 1 pn) (k : Gd p e below P T (mkF m pn Ls (.int (x + y) :: st))) : Gd p e below P T (mkF m pc Ls (.int y :: .int x :: st)) := by
  obtain ⟨hd, rfl⟩ := hd
  exact k.imp fun t q => ⟨XS.iadd X.here hx rfl (hb hby hd) rfl q.1, q.2⟩
theorem g_isub (X : Stand p l e R s m args below meth c T locs cells slots) (hx : p.tables.exec = Jvm.exec) (hby : c.code = code) {x y : Int32} (hd : Ins1 code pc (.isub) 1 pn) (k : Gd p e below P T (mkF m pn Ls (.int (x - y) :: st))) : Gd p e below P T (mkF m pc Ls (.int y :: .int x :: st)) := by
  obtain ⟨hd, rfl⟩ := hd
  exact k.imp fun t q => ⟨XS.isub X.here hx rfl (hb hby hd) rfl q.1, q.2⟩
theorem g_imul (X : Stand p l e R s m args below meth c T locs cells slots) (hx : p.tables.exec = Jvm.exec) (hby : c.code = code) {x y : Int32} (hd : Ins1 code pc (.imul) 1 pn) (k : Gd p e below P T (mkF m pn Ls (.int (x * y) :: st))) : Gd p e below P T (mkF m pc Ls (.int y :: .int x :: st)) := by
  obtain ⟨hd, rfl⟩ := hd
  exact k.imp fun t q => ⟨XS.imul X.here hx rfl (hb hby hd) rfl q.1, q.2⟩
theorem g_iand (X : Stand p l e R s m args below meth c T locs cells slots) (hx : p.tables.exec = Jvm.exec) (hby : c.code = code) {x y : Int32} (hd : Ins1 code pc (.iand) 1 pn) (k : Gd p e below P T (mkF m pn Ls (.int (x &&& y) :: st))) : Gd p e below P T (mkF m pc Ls (.int y :: .int x :: st)) := by
  obtain ⟨hd, rfl⟩ := hd
  exact k.imp fun t q => ⟨XS.iand X.here hx rfl (hb hby hd) rfl q.1, q.2⟩
theorem g_ior (X : Stand p l e R s m args below meth c T locs cells slots) (hx : p.tables.exec = Jvm.exec) (hby : c.code = code) {x y : Int32} (hd : Ins1 code pc (.ior) 1 pn) (k : Gd p e below P T (mkF m pn Ls (.int (x ||| y) :: st))) : Gd p e below P T (mkF m pc Ls (.int y :: .int x :: st)) := by
  obtain ⟨hd, rfl⟩ := hd
  exact k.imp fun t q => ⟨XS.ior X.here hx rfl (hb hby hd) rfl q.1, q.2⟩
theorem g_ixor (X : Stand p l e R s m args below meth c T locs cells slots) (hx : p.tables.exec = Jvm.exec) (hby : c.code = code) {x y : Int32} (hd : Ins1 code pc (.ixor) 1 pn) (k : Gd p e below P T (mkF m pn Ls (.int (x ^^^ y) :: st))) : Gd p e below P T (mkF m pc Ls (.int y :: .int x :: st)) := by
  obtain ⟨hd, rfl⟩ := hd
  exact k.imp fun t q => ⟨XS.ixor X.here hx rfl (hb hby hd) rfl q.1, q.2⟩
theorem g_ladd (X : Stand p l e R s m args below meth c T locs cells slots) (hx : p.tables.exec = Jvm.exec) (hby : c.code = code) {x y : Int64} (hd : Ins1 code pc (.ladd) 1 pn) (k : Gd p e below P T (mkF m pn Ls (.long (x + y) :: st))) : Gd p e below P T (mkF m pc Ls (.long y :: .long x :: st)) := by
  obtain ⟨hd, rfl⟩ := hd
  exact k.imp fun t q => ⟨XS.ladd X.here hx rfl (hb hby hd) rfl q.1, q.2⟩
theorem g_lsub (X : Stand p l e R s m args below meth c T locs cells slots) (hx : p.tables.exec = Jvm.exec) (hby : c.code = code) {x y : Int64} (hd : Ins1 code pc (.lsub) 1 pn) (k : Gd p e below P T (mkF m pn Ls (.long (x - y) :: st))) : Gd p e below P T (mkF m pc Ls (.long y :: .long x :: st)) := by
  obtain ⟨hd, rfl⟩ := hd
  exact k.imp fun t q => ⟨XS.lsub X.here hx rfl (hb hby hd) rfl q.1, q.2⟩
theorem g_lmul (X : Stand p l e R s m args below meth c T locs cells slots) (hx : p.tables.exec = Jvm.exec) (hby : c.code = code) {x y : Int64} (hd : Ins1 code pc (.lmul) 1 pn) (k : Gd p e below P T (mkF m pn Ls (.long (x * y) :: st))) : Gd p e below P T (mkF m pc Ls (.long y :: .long x :: st)) := by
  obtain ⟨hd, rfl⟩ := hd
  exact k.imp fun t q => ⟨XS.lmul X.here hx rfl (hb hby hd) rfl q.1, q.2⟩
theorem g_land (X : Stand p l e R s m args below meth c T locs cells slots) (hx : p.tables.exec = Jvm.exec) (hby : c.code = code) {x y : Int64} (hd : Ins1 code pc (.land) 1 pn) (k : Gd p e below P T (mkF m pn Ls (.long (x &&& y) :: st))) : Gd p e below P T (mkF m pc Ls (.long y :: .long x :: st)) := by
  obtain ⟨hd, rfl⟩ := hd
  exact k.imp fun t q => ⟨XS.land X.here hx rfl (hb hby hd) rfl q.1, q.2⟩
theorem g_lor (X : Stand p l e R s m args below meth c T locs cells slots) (hx : p.tables.exec = Jvm.exec) (hby : c.code = code) {x y : Int64} (hd : Ins1 code pc (.lor) 1 pn) (k : Gd p e below P T (mkF m pn Ls (.long (x ||| y) :: st))) : Gd p e below P T (mkF m pc Ls (.long y :: .long x :: st)) := by
  obtain ⟨hd, rfl⟩ := hd
  exact k.imp fun t q => ⟨XS.lor X.here hx rfl (hb hby hd) rfl q.1, q.2⟩
theorem g_lxor (X : Stand p l e R s m args below meth c T locs cells slots) (hx : p.tables.exec = Jvm.exec) (hby : c.code = code) {x y : Int64} (hd : Ins1 code pc (.lxor) 1 pn) (k : Gd p e below P T (mkF m pn Ls (.long (x ^^^ y) :: st))) : Gd p e below P T (mkF m pc Ls (.long y :: .long x :: st)) := by
  obtain ⟨hd, rfl⟩ := hd
  exact k.imp fun t q => ⟨XS.lxor X.here hx rfl (hb hby hd) rfl q.1, q.2⟩
theorem g_ishl (X : Stand p l e R s m args below meth c T locs cells slots) (hx : p.tables.exec = Jvm.exec) (hby : c.code = code) {x : Int32} {y : Int32} (hd : Ins1 code pc (.ishl) 1 pn) (k : Gd p e below P T (mkF m pn Ls (.int (x <<< (y &&& 31)) :: st))) : Gd p e below P T (mkF m pc Ls (.int y :: .int x :: st)) := by
  obtain ⟨hd, rfl⟩ := hd
  exact k.imp fun t q => ⟨XS.ishl X.here hx rfl (hb hby hd) rfl q.1, q.2⟩
theorem g_ishr (X : Stand p l e R s m args below meth c T locs cells slots) (hx : p.tables.exec = Jvm.exec) (hby : c.code = code) {x : Int32} {y : Int32} (hd : Ins1 code pc (.ishr) 1 pn) (k : Gd p e below P T (mkF m pn Ls (.int (x >>> (y &&& 31)) :: st))) : Gd p e below P T (mkF m pc Ls (.int y :: .int x :: st)) := by
  obtain ⟨hd, rfl⟩ := hd
  exact k.imp fun t q => ⟨XS.ishr X.here hx rfl (hb hby hd) rfl q.1, q.2⟩
theorem g_iushr (X : Stand p l e R s m args below meth c T locs cells slots) (hx : p.tables.exec = Jvm.exec) (hby : c.code = code) {x : Int32} {y : Int32} (hd : Ins1 code pc (.iushr) 1 pn) (k : Gd p e below P T (mkF m pn Ls (.int ((x.toUInt32 >>> (y &&& 31).toUInt32).toInt32) :: st))) : Gd p e below P T (mkF m pc Ls (.int y :: .int x :: st)) := by
  obtain ⟨hd, rfl⟩ := hd
  exact k.imp fun t q => ⟨XS.iushr X.here hx rfl (hb hby hd) rfl q.1, q.2⟩
theorem g_lshl (X : Stand p l e R s m args below meth c T locs cells slots) (hx : p.tables.exec = Jvm.exec) (hby : c.code = code) {x : Int64} {y : Int32} (hd : Ins1 code pc (.lshl) 1 pn) (k : Gd p e below P T (mkF m pn Ls (.long (x <<< (y &&& 0x3f).toInt64) :: st))) : Gd p e below P T (mkF m pc Ls (.int y :: .long x :: st)) := by
  obtain ⟨hd, rfl⟩ := hd
  exact k.imp fun t q => ⟨XS.lshl X.here hx rfl (hb hby hd) rfl q.1, q.2⟩
theorem g_lshr (X : Stand p l e R s m args below meth c T locs cells slots) (hx : p.tables.exec = Jvm.exec) (hby : c.code = code) {x : Int64} {y : Int32} (hd : Ins1 code pc (.lshr) 1 pn) (k : Gd p e below P T (mkF m pn Ls (.long (x >>> (y &&& 0x3f).toInt64) :: st))) : Gd p e below P T (mkF m pc Ls (.int y :: .long x :: st)) := by
  obtain ⟨hd, rfl⟩ := hd
  exact k.imp fun t q => ⟨XS.lshr X.here hx rfl (hb hby hd) rfl q.1, q.2⟩
theorem g_lushr (X : Stand p l e R s m args below meth c T locs cells slots) (hx : p.tables.exec = Jvm.exec) (hby : c.code = code) {x : Int64} {y : Int32} (hd : Ins1 code pc (.lushr) 1 pn) (k : Gd p e below P T (mkF m pn Ls (.long ((x.toUInt64 >>> (y &&& 0x3f).toInt64.toUInt64).toInt64) :: st))) : Gd p e below P T (mkF m pc Ls (.int y :: .long x :: st)) := by
  obtain ⟨hd, rfl⟩ := hd
  exact k.imp fun t q => ⟨XS.lushr X.here hx rfl (hb hby hd) rfl q.1, q.2⟩
theorem g_ineg (X : Stand p l e R s m args below meth c T locs cells slots) (hx : p.tables.exec = Jvm.exec) (hby : c.code = code) {x : Int32} (hd : Ins1 code pc (.ineg) 1 pn) (k : Gd p e below P T (mkF m pn Ls (.int (-x) :: st))) : Gd p e below P T (mkF m pc Ls (.int x :: st)) := by
  obtain ⟨hd, rfl⟩ := hd
  exact k.imp fun t q => ⟨XS.ineg X.here hx rfl (hb hby hd) rfl q.1, q.2⟩
theorem g_lneg (X : Stand p l e R s m args below meth c T locs cells slots) (hx : p.tables.exec = Jvm.exec) (hby : c.code = code) {x : Int64} (hd : Ins1 code pc (.lneg) 1 pn) (k : Gd p e below P T (mkF m pn Ls (.long (-x) :: st))) : Gd p e below P T (mkF m pc Ls (.long x :: st)) := by
  obtain ⟨hd, rfl⟩ := hd
  exact k.imp fun t q => ⟨XS.lneg X.here hx rfl (hb hby hd) rfl q.1, q.2⟩
theorem g_i2l (X : Stand p l e R s m args below meth c T locs cells slots) (hx : p.tables.exec = Jvm.exec) (hby : c.code = code) {x : Int32} (hd : Ins1 code pc (.i2l) 1 pn) (k : Gd p e below P T (mkF m pn Ls (.long x.toInt64 :: st))) : Gd p e below P T (mkF m pc Ls (.int x :: st)) := by
  obtain ⟨hd, rfl⟩ := hd
  exact k.imp fun t q => ⟨XS.i2l X.here hx rfl (hb hby hd) rfl q.1, q.2⟩
theorem g_l2i (X : Stand p l e R s m args below meth c T locs cells slots) (hx : p.tables.exec = Jvm.exec) (hby : c.code = code) {x : Int64} (hd : Ins1 code pc (.l2i) 1 pn) (k : Gd p e below P T (mkF m pn Ls (.int x.toInt32 :: st))) : Gd p e below P T (mkF m pc Ls (.long x :: st)) := by
  obtain ⟨hd, rfl⟩ := hd
  exact k.imp fun t q => ⟨XS.l2i X.here hx rfl (hb hby hd) rfl q.1, q.2⟩
theorem g_i2b (X : Stand p l e R s m args below meth c T locs cells slots) (hx : p.tables.exec = Jvm.exec) (hby : c.code = code) {x : Int32} (hd : Ins1 code pc (.i2b) 1 pn) (k : Gd p e below P T (mkF m pn Ls (.int x.toInt8.toInt32 :: st))) : Gd p e below P T (mkF m pc Ls (.int x :: st)) := by
  obtain ⟨hd, rfl⟩ := hd
  exact k.imp fun t q => ⟨XS.i2b X.here hx rfl (hb hby hd) rfl q.1, q.2⟩
theorem g_i2s (X : Stand p l e R s m args below meth c T locs cells slots) (hx : p.tables.exec = Jvm.exec) (hby : c.code = code) {x : Int32} (hd : Ins1 code pc (.i2s) 1 pn) (k : Gd p e below P T (mkF m pn Ls (.int x.toInt16.toInt32 :: st))) : Gd p e below P T (mkF m pc Ls (.int x :: st)) := by
  obtain ⟨hd, rfl⟩ := hd
  exact k.imp fun t q => ⟨XS.i2s X.here hx rfl (hb hby hd) rfl q.1, q.2⟩
theorem g_i2c (X : Stand p l e R s m args below meth c T locs cells slots) (hx : p.tables.exec = Jvm.exec) (hby : c.code = code) {x : Int32} (hd : Ins1 code pc (.i2c) 1 pn) (k : Gd p e below P T (mkF m pn Ls (.int x.toUInt32.toUInt16.toUInt32.toInt32 :: st))) : Gd p e below P T (mkF m pc Ls (.int x :: st)) := by
  obtain ⟨hd, rfl⟩ := hd
  exact k.imp fun t q => ⟨XS.i2c X.here hx rfl (hb hby hd) rfl q.1, q.2⟩
theorem g_idiv (X : Stand p l e R s m args below meth c T locs cells slots) (hx : p.tables.exec = Jvm.exec) (hby : c.code = code) {x y : Int32} (hd : Ins1 code pc (.idiv) 1 pn) (hy : y ≠ 0) (k : Gd p e below P T (mkF m pn Ls (.int (x / y) :: st))) : Gd p e below P T (mkF m pc Ls (.int y :: .int x :: st)) := by
  obtain ⟨hd, rfl⟩ := hd
  exact k.imp fun t q => ⟨XS.idiv X.here hx rfl (hb hby hd) rfl hy q.1, q.2⟩
theorem g_ldiv (X : Stand p l e R s m args below meth c T locs cells slots) (hx : p.tables.exec = Jvm.exec) (hby : c.code = code) {x y : Int64} (hd : Ins1 code pc (.ldiv) 1 pn) (hy : y ≠ 0) (k : Gd p e below P T (mkF m pn Ls (.long (x / y) :: st))) : Gd p e below P T (mkF m pc Ls (.long y :: .long x :: st)) := by
  obtain ⟨hd, rfl⟩ := hd
  exact k.imp fun t q => ⟨XS.ldiv X.here hx rfl (hb hby hd) rfl hy q.1, q.2⟩
theorem g_lrem (X : Stand p l e R s m args below meth c T locs cells slots) (hx : p.tables.exec = Jvm.exec) (hby : c.code = code) {x y : Int64} (hd : Ins1 code pc (.lrem) 1 pn) (hy : y ≠ 0) (k : Gd p e below P T (mkF m pn Ls (.long (x - (x / y) * y) :: st))) : Gd p e below P T (mkF m pc Ls (.long y :: .long x :: st)) := by
  obtain ⟨hd, rfl⟩ := hd
  exact k.imp fun t q => ⟨XS.lrem X.here hx rfl (hb hby hd) rfl hy q.1, q.2⟩
theorem g_irem (X : Stand p l e R s m args below meth c T locs cells slots) (hx : p.tables.exec = Jvm.exec) (hby : c.code = code) {x y : Int32} (hd : Ins1 code pc .irem 1 pn) (hy : y ≠ 0) (k : Gd p e below P T (mkF m pn Ls (.int (x % y) :: st))) : Gd p e below P T (mkF m pc Ls (.int y :: .int x :: st)) := by
  obtain ⟨hd, rfl⟩ := hd
  exact k.imp fun t q => ⟨iremM X hx rfl (hb hby hd) rfl hy q.1, q.2⟩
theorem g_iinc (X : Stand p l e R s m args below meth c T locs cells slots) (hx : p.tables.exec = Jvm.exec) (hby : c.code = code) {j : Nat} {i : Int} {x z : Int32} {l' : Array Slot} (hd : Ins1 code pc (.iinc j i) 3 pn) (hl : Ls[j]? = some (.val (.int x))) (hz : x + Int32.ofInt i = z) (hs : storeLocals Ls j (.int z) = some l') (k : Gd p e below P T (mkF m pn l' st)) : Gd p e below P T (mkF m pc Ls st) := by
  obtain ⟨hd, rfl⟩ := hd
  subst hz
  exact k.imp fun t q => ⟨XS.iinc X.here hx rfl (hb hby hd) hl hs q.1, q.2⟩
theorem g_dup (X : Stand p l e R s m args below meth c T locs cells slots) (hx : p.tables.exec = Jvm.exec) (hby : c.code = code) {x : Value} (hd : Ins1 code pc (.dup) 1 pn) (hc : x.category = 1) (k : Gd p e below P T (mkF m pn Ls (x :: x :: st))) : Gd p e below P T (mkF m pc Ls (x :: st)) := by
  obtain ⟨hd, rfl⟩ := hd
  exact k.imp fun t q => ⟨XS.dup X.here hx rfl (hb hby hd) rfl hc q.1, q.2⟩
theorem g_dup2 (X : Stand p l e R s m args below meth c T locs cells slots) (hx : p.tables.exec = Jvm.exec) (hby : c.code = code) {x y : Value} (hd : Ins1 code pc (.dup2) 1 pn) (hc : x.category = 1) (hc2 : y.category = 1) (k : Gd p e below P T (mkF m pn Ls (x :: y :: x :: y :: st))) : Gd p e below P T (mkF m pc Ls (x :: y :: st)) := by
  obtain ⟨hd, rfl⟩ := hd
  exact k.imp fun t q => ⟨XT.dup2 X.here hx rfl (hb hby hd) rfl hc hc2 q.1, q.2⟩
theorem g_dup2L (X : Stand p l e R s m args below meth c T locs cells slots) (hx : p.tables.exec = Jvm.exec) (hby : c.code = code) {x : Int64} (hd : Ins1 code pc (.dup2) 1 pn) (k : Gd p e below P T (mkF m pn Ls (.long x :: .long x :: st))) : Gd p e below P T (mkF m pc Ls (.long x :: st)) := by
  obtain ⟨hd, rfl⟩ := hd
  exact k.imp fun t q => ⟨XT.dup2L X.here hx rfl (hb hby hd) rfl q.1, q.2⟩
theorem g_pop (X : Stand p l e R s m args below meth c T locs cells slots) (hx : p.tables.exec = Jvm.exec) (hby : c.code = code) {x : Value} (hd : Ins1 code pc (.pop) 1 pn) (hc : x.category = 1) (k : Gd p e below P T (mkF m pn Ls (st))) : Gd p e below P T (mkF m pc Ls (x :: st)) := by
  obtain ⟨hd, rfl⟩ := hd
  exact k.imp fun t q => ⟨XS.pop X.here hx rfl (hb hby hd) rfl hc q.1, q.2⟩
theorem g_dup_x1 (X : Stand p l e R s m args below meth c T locs cells slots) (hx : p.tables.exec = Jvm.exec) (hby : c.code = code) {x y : Value} (hd : Ins1 code pc (.dup_x1) 1 pn) (hc : x.category = 1) (hc2 : y.category = 1) (k : Gd p e below P T (mkF m pn Ls (x :: y :: x :: st))) : Gd p e below P T (mkF m pc Ls (x :: y :: st)) := by
  obtain ⟨hd, rfl⟩ := hd
  exact k.imp fun t q => ⟨XS.dupX1 X.here hx rfl (hb hby hd) rfl hc hc2 q.1, q.2⟩
theorem g_i2d (X : Stand p l e R s m args below meth c T locs cells slots) (hx : p.tables.exec = Jvm.exec) (hby : c.code = code) {x : Int32} (hd : Ins1 code pc (.i2d) 1 pn) (k : Gd p e below P T (mkF m pn Ls (.double (FP.i2d x) :: st))) : Gd p e below P T (mkF m pc Ls (.int x :: st)) := by
  obtain ⟨hd, rfl⟩ := hd
  exact k.imp fun t q => ⟨XS.i2dS X.here hx rfl (hb hby hd) rfl rfl q.1, q.2⟩
theorem g_l2d (X : Stand p l e R s m args below meth c T locs cells slots) (hx : p.tables.exec = Jvm.exec) (hby : c.code = code) {x : Int64} (hd : Ins1 code pc (.l2d) 1 pn) (k : Gd p e below P T (mkF m pn Ls (.double (FP.l2d x) :: st))) : Gd p e below P T (mkF m pc Ls (.long x :: st)) := by
  obtain ⟨hd, rfl⟩ := hd
  exact k.imp fun t q => ⟨XS.l2dS X.here hx rfl (hb hby hd) rfl rfl q.1, q.2⟩
theorem g_ddiv (X : Stand p l e R s m args below meth c T locs cells slots) (hx : p.tables.exec = Jvm.exec) (hby : c.code = code) {x y : UInt64} (hd : Ins1 code pc (.ddiv) 1 pn) (hn : Jvm.Free.Fl.NoNaN64 (FP.ddiv x y)) (k : Gd p e below P T (mkF m pn Ls (.double (FP.ddiv x y) :: st))) : Gd p e below P T (mkF m pc Ls (.double y :: .double x :: st)) := by
  obtain ⟨hd, rfl⟩ := hd
  exact k.imp fun t q => ⟨XS.ddivS X.here hx rfl (hb hby hd) rfl hn rfl q.1, q.2⟩
theorem g_dcmp (X : Stand p l e R s m args below meth c T locs cells slots) (hx : p.tables.exec = Jvm.exec) (hby : c.code = code) {x y : UInt64} {o : CmpOp} (hd : Ins1 code pc (.dcmp o) 1 pn) (k : Gd p e below P T (mkF m pn Ls (.int (cmpValue (FP.dcmp x y) o) :: st))) : Gd p e below P T (mkF m pc Ls (.double y :: .double x :: st)) := by
  obtain ⟨hd, rfl⟩ := hd
  exact k.imp fun t q => ⟨XS.dcmpS X.here hx rfl (hb hby hd) rfl rfl q.1, q.2⟩
theorem g_dconst0 (X : Stand p l e R s m args below meth c T locs cells slots) (hx : p.tables.exec = Jvm.exec) (hby : c.code = code)  (hd : Ins1 code pc (.dconst 0) 1 pn) (k : Gd p e below P T (mkF m pn Ls (.double FP.dconst0 :: st))) : Gd p e below P T (mkF m pc Ls (st)) := by
  obtain ⟨hd, rfl⟩ := hd
  exact k.imp fun t q => ⟨XS.dconst0 X.here hx rfl (hb hby hd) rfl q.1, q.2⟩
theorem g_dconst1 (X : Stand p l e R s m args below meth c T locs cells slots) (hx : p.tables.exec = Jvm.exec) (hby : c.code = code)  (hd : Ins1 code pc (.dconst 1) 1 pn) (k : Gd p e below P T (mkF m pn Ls (.double FP.dconst1 :: st))) : Gd p e below P T (mkF m pc Ls (st)) := by
  obtain ⟨hd, rfl⟩ := hd
  exact k.imp fun t q => ⟨XS.dconst1 X.here hx rfl (hb hby hd) rfl q.1, q.2⟩
theorem g_lcmp (X : Stand p l e R s m args below meth c T locs cells slots) (hx : p.tables.exec = Jvm.exec) (hby : c.code = code) {x y : Int64} (hd : Ins1 code pc (.lcmp) 1 pn) (k : Gd p e below P T (mkF m pn Ls (.int (lcmpW x y) :: st))) : Gd p e below P T (mkF m pc Ls (.long y :: .long x :: st)) := by
  obtain ⟨hd, rfl⟩ := hd
  exact k.imp fun t q => ⟨XS.lcmp X.here hx rfl (hb hby hd) rfl q.1, q.2⟩
theorem g_goto (X : Stand p l e R s m args below meth c T locs cells slots) (hx : p.tables.exec = Jvm.exec) (hby : c.code = code) {o : Int} (hd : InsB code pc (.goto o) o pn pt) (k : Gd p e below P T (mkF m pt Ls st)) : Gd p e below P T (mkF m pc Ls st) := by
  obtain ⟨hd, -, ho, hp⟩ := hd
  exact k.imp fun t q => ⟨XS.goto X.here hx rfl rfl (hb hby hd) ho hp q.1, q.2⟩
theorem g_icmp_lt (X : Stand p l e R s m args below meth c T locs cells slots) (hx : p.tables.exec = Jvm.exec) (hby : c.code = code) {x y : Int32} {o : Int} (hd : InsB code pc (.if_icmp .lt o) o pn pt) (ky : x < y → Gd p e below P T (mkF m pt Ls st)) (kn : ¬ x < y → Gd p e below P T (mkF m pn Ls st)) : Gd p e below P T (mkF m pc Ls (.int y :: .int x :: st)) := by
  obtain ⟨hd, rfl, ho, hp⟩ := hd
  by_cases w : x < y
  · exact (ky w).imp fun t q => ⟨XS.icmpYes X.here hx rfl rfl (hb hby hd) rfl (tlt w).1 ho hp q.1, q.2⟩
  · exact (kn w).imp fun t q => ⟨XS.icmpNo X.here hx rfl (hb hby hd) rfl (flt w).1 q.1, q.2⟩
theorem g_if_lt (X : Stand p l e R s m args below meth c T locs cells slots) (hx : p.tables.exec = Jvm.exec) (hby : c.code = code) {x : Int32} {o : Int} (hd : InsB code pc (.ifCond .lt o) o pn pt) (ky : x < 0 → Gd p e below P T (mkF m pt Ls st)) (kn : ¬ x < 0 → Gd p e below P T (mkF m pn Ls st)) : Gd p e below P T (mkF m pc Ls (.int x :: st)) := by
  obtain ⟨hd, rfl, ho, hp⟩ := hd
  by_cases w : x < 0
  · exact (ky w).imp fun t q => ⟨XS.ifYes X.here hx rfl rfl (hb hby hd) rfl ((if0 _ _).trans (tlt w).1) ho hp q.1, q.2⟩
  · exact (kn w).imp fun t q => ⟨XS.ifNo X.here hx rfl (hb hby hd) rfl ((if0 _ _).trans (flt w).1) q.1, q.2⟩
theorem g_lcmp_lt (X : Stand p l e R s m args below meth c T locs cells slots) (hx : p.tables.exec = Jvm.exec) (hby : c.code = code) {x y : Int64} {o : Int} {pc1 : Nat} (hc : Ins1 code pc .lcmp 1 pc1) (hd : InsB code pc1 (.ifCond .lt o) o pn pt) (ky : x < y → Gd p e below P T (mkF m pt Ls st)) (kn : ¬ x < y → Gd p e below P T (mkF m pn Ls st)) : Gd p e below P T (mkF m pc Ls (.long y :: .long x :: st)) :=
  g_lcmp X hx hby hc (g_if_lt X hx hby hd (fun w => ky ((lw_lt x y).mp w)) (fun w => kn (fun q => w ((lw_lt x y).mpr q))))
theorem g_icmp_ge (X : Stand p l e R s m args below meth c T locs cells slots) (hx : p.tables.exec = Jvm.exec) (hby : c.code = code) {x y : Int32} {o : Int} (hd : InsB code pc (.if_icmp .ge o) o pn pt) (ky : ¬ x < y → Gd p e below P T (mkF m pt Ls st)) (kn : x < y → Gd p e below P T (mkF m pn Ls st)) : Gd p e below P T (mkF m pc Ls (.int y :: .int x :: st)) := by
  obtain ⟨hd, rfl, ho, hp⟩ := hd
  by_cases w : x < y
  · exact (kn w).imp fun t q => ⟨XS.icmpNo X.here hx rfl (hb hby hd) rfl (tlt w).2.1 q.1, q.2⟩
  · exact (ky w).imp fun t q => ⟨XS.icmpYes X.here hx rfl rfl (hb hby hd) rfl (flt w).2.1 ho hp q.1, q.2⟩
theorem g_if_ge (X : Stand p l e R s m args below meth c T locs cells slots) (hx : p.tables.exec = Jvm.exec) (hby : c.code = code) {x : Int32} {o : Int} (hd : InsB code pc (.ifCond .ge o) o pn pt) (ky : ¬ x < 0 → Gd p e below P T (mkF m pt Ls st)) (kn : x < 0 → Gd p e below P T (mkF m pn Ls st)) : Gd p e below P T (mkF m pc Ls (.int x :: st)) := by
  obtain ⟨hd, rfl, ho, hp⟩ := hd
  by_cases w : x < 0
  · exact (kn w).imp fun t q => ⟨XS.ifNo X.here hx rfl (hb hby hd) rfl ((if0 _ _).trans (tlt w).2.1) q.1, q.2⟩
  · exact (ky w).imp fun t q => ⟨XS.ifYes X.here hx rfl rfl (hb hby hd) rfl ((if0 _ _).trans (flt w).2.1) ho hp q.1, q.2⟩
theorem g_lcmp_ge (X : Stand p l e R s m args below meth c T locs cells slots) (hx : p.tables.exec = Jvm.exec) (hby : c.code = code) {x y : Int64} {o : Int} {pc1 : Nat} (hc : Ins1 code pc .lcmp 1 pc1) (hd : InsB code pc1 (.ifCond .ge o) o pn pt) (ky : ¬ x < y → Gd p e below P T (mkF m pt Ls st)) (kn : x < y → Gd p e below P T (mkF m pn Ls st)) : Gd p e below P T (mkF m pc Ls (.long y :: .long x :: st)) :=
  g_lcmp X hx hby hc (g_if_ge X hx hby hd (fun w => ky (fun q => w ((lw_lt x y).mpr q))) (fun w => kn ((lw_lt x y).mp w)))
theorem g_icmp_gt (X : Stand p l e R s m args below meth c T locs cells slots) (hx : p.tables.exec = Jvm.exec) (hby : c.code = code) {x y : Int32} {o : Int} (hd : InsB code pc (.if_icmp .gt o) o pn pt) (ky : y < x → Gd p e below P T (mkF m pt Ls st)) (kn : ¬ y < x → Gd p e below P T (mkF m pn Ls st)) : Gd p e below P T (mkF m pc Ls (.int y :: .int x :: st)) := by
  obtain ⟨hd, rfl, ho, hp⟩ := hd
  by_cases w : y < x
  · exact (ky w).imp fun t q => ⟨XS.icmpYes X.here hx rfl rfl (hb hby hd) rfl (tlt w).2.2.1 ho hp q.1, q.2⟩
  · exact (kn w).imp fun t q => ⟨XS.icmpNo X.here hx rfl (hb hby hd) rfl (flt w).2.2.1 q.1, q.2⟩
theorem g_if_gt (X : Stand p l e R s m args below meth c T locs cells slots) (hx : p.tables.exec = Jvm.exec) (hby : c.code = code) {x : Int32} {o : Int} (hd : InsB code pc (.ifCond .gt o) o pn pt) (ky : 0 < x → Gd p e below P T (mkF m pt Ls st)) (kn : ¬ 0 < x → Gd p e below P T (mkF m pn Ls st)) : Gd p e below P T (mkF m pc Ls (.int x :: st)) := by
  obtain ⟨hd, rfl, ho, hp⟩ := hd
  by_cases w : 0 < x
  · exact (ky w).imp fun t q => ⟨XS.ifYes X.here hx rfl rfl (hb hby hd) rfl ((if0 _ _).trans (tlt w).2.2.1) ho hp q.1, q.2⟩
  · exact (kn w).imp fun t q => ⟨XS.ifNo X.here hx rfl (hb hby hd) rfl ((if0 _ _).trans (flt w).2.2.1) q.1, q.2⟩
theorem g_lcmp_gt (X : Stand p l e R s m args below meth c T locs cells slots) (hx : p.tables.exec = Jvm.exec) (hby : c.code = code) {x y : Int64} {o : Int} {pc1 : Nat} (hc : Ins1 code pc .lcmp 1 pc1) (hd : InsB code pc1 (.ifCond .gt o) o pn pt) (ky : y < x → Gd p e below P T (mkF m pt Ls st)) (kn : ¬ y < x → Gd p e below P T (mkF m pn Ls st)) : Gd p e below P T (mkF m pc Ls (.long y :: .long x :: st)) :=
  g_lcmp X hx hby hc (g_if_gt X hx hby hd (fun w => ky ((lw_gt x y).mp w)) (fun w => kn (fun q => w ((lw_gt x y).mpr q))))
theorem g_icmp_le (X : Stand p l e R s m args below meth c T locs cells slots) (hx : p.tables.exec = Jvm.exec) (hby : c.code = code) {x y : Int32} {o : Int} (hd : InsB code pc (.if_icmp .le o) o pn pt) (ky : ¬ y < x → Gd p e below P T (mkF m pt Ls st)) (kn : y < x → Gd p e below P T (mkF m pn Ls st)) : Gd p e below P T (mkF m pc Ls (.int y :: .int x :: st)) := by
  obtain ⟨hd, rfl, ho, hp⟩ := hd
  by_cases w : y < x
  · exact (kn w).imp fun t q => ⟨XS.icmpNo X.here hx rfl (hb hby hd) rfl (tlt w).2.2.2 q.1, q.2⟩
  · exact (ky w).imp fun t q => ⟨XS.icmpYes X.here hx rfl rfl (hb hby hd) rfl (flt w).2.2.2 ho hp q.1, q.2⟩
theorem g_if_le (X : Stand p l e R s m args below meth c T locs cells slots) (hx : p.tables.exec = Jvm.exec) (hby : c.code = code) {x : Int32} {o : Int} (hd : InsB code pc (.ifCond .le o) o pn pt) (ky : ¬ 0 < x → Gd p e below P T (mkF m pt Ls st)) (kn : 0 < x → Gd p e below P T (mkF m pn Ls st)) : Gd p e below P T (mkF m pc Ls (.int x :: st)) := by
  obtain ⟨hd, rfl, ho, hp⟩ := hd
  by_cases w : 0 < x
  · exact (kn w).imp fun t q => ⟨XS.ifNo X.here hx rfl (hb hby hd) rfl ((if0 _ _).trans (tlt w).2.2.2) q.1, q.2⟩
  · exact (ky w).imp fun t q => ⟨XS.ifYes X.here hx rfl rfl (hb hby hd) rfl ((if0 _ _).trans (flt w).2.2.2) ho hp q.1, q.2⟩
theorem g_lcmp_le (X : Stand p l e R s m args below meth c T locs cells slots) (hx : p.tables.exec = Jvm.exec) (hby : c.code = code) {x y : Int64} {o : Int} {pc1 : Nat} (hc : Ins1 code pc .lcmp 1 pc1) (hd : InsB code pc1 (.ifCond .le o) o pn pt) (ky : ¬ y < x → Gd p e below P T (mkF m pt Ls st)) (kn : y < x → Gd p e below P T (mkF m pn Ls st)) : Gd p e below P T (mkF m pc Ls (.long y :: .long x :: st)) :=
  g_lcmp X hx hby hc (g_if_le X hx hby hd (fun w => ky (fun q => w ((lw_gt x y).mpr q))) (fun w => kn ((lw_gt x y).mp w)))
theorem g_icmp_eq (X : Stand p l e R s m args below meth c T locs cells slots) (hx : p.tables.exec = Jvm.exec) (hby : c.code = code) {x y : Int32} {o : Int} (hd : InsB code pc (.if_icmp .eq o) o pn pt) (ky : x = y → Gd p e below P T (mkF m pt Ls st)) (kn : ¬ x = y → Gd p e below P T (mkF m pn Ls st)) : Gd p e below P T (mkF m pc Ls (.int y :: .int x :: st)) := by
  obtain ⟨hd, rfl, ho, hp⟩ := hd
  by_cases w : x = y
  · exact (ky w).imp fun t q => ⟨XS.icmpYes X.here hx rfl rfl (hb hby hd) rfl (teq w).1 ho hp q.1, q.2⟩
  · exact (kn w).imp fun t q => ⟨XS.icmpNo X.here hx rfl (hb hby hd) rfl (feq w).1 q.1, q.2⟩
theorem g_if_eq (X : Stand p l e R s m args below meth c T locs cells slots) (hx : p.tables.exec = Jvm.exec) (hby : c.code = code) {x : Int32} {o : Int} (hd : InsB code pc (.ifCond .eq o) o pn pt) (ky : x = 0 → Gd p e below P T (mkF m pt Ls st)) (kn : ¬ x = 0 → Gd p e below P T (mkF m pn Ls st)) : Gd p e below P T (mkF m pc Ls (.int x :: st)) := by
  obtain ⟨hd, rfl, ho, hp⟩ := hd
  by_cases w : x = 0
  · exact (ky w).imp fun t q => ⟨XS.ifYes X.here hx rfl rfl (hb hby hd) rfl ((if0 _ _).trans (teq w).1) ho hp q.1, q.2⟩
  · exact (kn w).imp fun t q => ⟨XS.ifNo X.here hx rfl (hb hby hd) rfl ((if0 _ _).trans (feq w).1) q.1, q.2⟩
theorem g_lcmp_eq (X : Stand p l e R s m args below meth c T locs cells slots) (hx : p.tables.exec = Jvm.exec) (hby : c.code = code) {x y : Int64} {o : Int} {pc1 : Nat} (hc : Ins1 code pc .lcmp 1 pc1) (hd : InsB code pc1 (.ifCond .eq o) o pn pt) (ky : x = y → Gd p e below P T (mkF m pt Ls st)) (kn : ¬ x = y → Gd p e below P T (mkF m pn Ls st)) : Gd p e below P T (mkF m pc Ls (.long y :: .long x :: st)) :=
  g_lcmp X hx hby hc (g_if_eq X hx hby hd (fun w => ky ((lw_eq x y).mp w)) (fun w => kn (fun q => w ((lw_eq x y).mpr q))))
theorem g_icmp_ne (X : Stand p l e R s m args below meth c T locs cells slots) (hx : p.tables.exec = Jvm.exec) (hby : c.code = code) {x y : Int32} {o : Int} (hd : InsB code pc (.if_icmp .ne o) o pn pt) (ky : ¬ x = y → Gd p e below P T (mkF m pt Ls st)) (kn : x = y → Gd p e below P T (mkF m pn Ls st)) : Gd p e below P T (mkF m pc Ls (.int y :: .int x :: st)) := by
  obtain ⟨hd, rfl, ho, hp⟩ := hd
  by_cases w : x = y
  · exact (kn w).imp fun t q => ⟨XS.icmpNo X.here hx rfl (hb hby hd) rfl (teq w).2 q.1, q.2⟩
  · exact (ky w).imp fun t q => ⟨XS.icmpYes X.here hx rfl rfl (hb hby hd) rfl (feq w).2 ho hp q.1, q.2⟩
theorem g_if_ne (X : Stand p l e R s m args below meth c T locs cells slots) (hx : p.tables.exec = Jvm.exec) (hby : c.code = code) {x : Int32} {o : Int} (hd : InsB code pc (.ifCond .ne o) o pn pt) (ky : ¬ x = 0 → Gd p e below P T (mkF m pt Ls st)) (kn : x = 0 → Gd p e below P T (mkF m pn Ls st)) : Gd p e below P T (mkF m pc Ls (.int x :: st)) := by
  obtain ⟨hd, rfl, ho, hp⟩ := hd
  by_cases w : x = 0
  · exact (kn w).imp fun t q => ⟨XS.ifNo X.here hx rfl (hb hby hd) rfl ((if0 _ _).trans (teq w).2) q.1, q.2⟩
  · exact (ky w).imp fun t q => ⟨XS.ifYes X.here hx rfl rfl (hb hby hd) rfl ((if0 _ _).trans (feq w).2) ho hp q.1, q.2⟩
theorem g_lcmp_ne (X : Stand p l e R s m args below meth c T locs cells slots) (hx : p.tables.exec = Jvm.exec) (hby : c.code = code) {x y : Int64} {o : Int} {pc1 : Nat} (hc : Ins1 code pc .lcmp 1 pc1) (hd : InsB code pc1 (.ifCond .ne o) o pn pt) (ky : ¬ x = y → Gd p e below P T (mkF m pt Ls st)) (kn : x = y → Gd p e below P T (mkF m pn Ls st)) : Gd p e below P T (mkF m pc Ls (.long y :: .long x :: st)) :=
  g_lcmp X hx hby hc (g_if_ne X hx hby hd (fun w => ky (fun q => w ((lw_eq x y).mpr q))) (fun w => kn ((lw_eq x y).mp w)))
theorem g_ifnull_y (X : Stand p l e R s m args below meth c T locs cells slots) (hx : p.tables.exec = Jvm.exec) (hby : c.code = code) {o : Int} (hd : InsB code pc (.ifnull o) o pn pt) (k : Gd p e below P T (mkF m pt Ls st)) : Gd p e below P T (mkF m pc Ls (.null :: st)) := by
  obtain ⟨hd, -, ho, hp⟩ := hd
  exact k.imp fun t q => ⟨XS.ifnullYes X.here hx rfl rfl (hb hby hd) rfl ho hp q.1, q.2⟩
theorem g_ifnull_n (X : Stand p l e R s m args below meth c T locs cells slots) (hx : p.tables.exec = Jvm.exec) (hby : c.code = code) {o : Int} {b : Addr} (hd : InsB code pc (.ifnull o) o pn pt) (k : Gd p e below P T (mkF m pn Ls st)) : Gd p e below P T (mkF m pc Ls (.ref b :: st)) := by
  obtain ⟨hd, rfl, ho, hp⟩ := hd
  exact k.imp fun t q => ⟨XS.ifnullNo X.here hx rfl (hb hby hd) rfl q.1, q.2⟩
theorem g_ifnonnull_n (X : Stand p l e R s m args below meth c T locs cells slots) (hx : p.tables.exec = Jvm.exec) (hby : c.code = code) {o : Int} (hd : InsB code pc (.ifnonnull o) o pn pt) (k : Gd p e below P T (mkF m pn Ls st)) : Gd p e below P T (mkF m pc Ls (.null :: st)) := by
  obtain ⟨hd, rfl, ho, hp⟩ := hd
  exact k.imp fun t q => ⟨XS.ifnonnullNo X.here hx rfl (hb hby hd) rfl q.1, q.2⟩
theorem g_ifnonnull_y (X : Stand p l e R s m args below meth c T locs cells slots) (hx : p.tables.exec = Jvm.exec) (hby : c.code = code) {o : Int} {b : Addr} (hd : InsB code pc (.ifnonnull o) o pn pt) (k : Gd p e below P T (mkF m pt Ls st)) : Gd p e below P T (mkF m pc Ls (.ref b :: st)) := by
  obtain ⟨hd, -, ho, hp⟩ := hd
  exact k.imp fun t q => ⟨XS.ifnonnullYes X.here hx rfl rfl (hb hby hd) rfl ho hp q.1, q.2⟩
theorem g_acmp_eq (X : Stand p l e R s m args below meth c T locs cells slots) (hx : p.tables.exec = Jvm.exec) (hby : c.code = code) {o : Int} {x y : Value} (hd : InsB code pc (.if_acmp .eq o) o pn pt) (h1 : x.isRef = true) (h2 : y.isRef = true) (ky : x = y → Gd p e below P T (mkF m pt Ls st)) (kn : ¬ x = y → Gd p e below P T (mkF m pn Ls st)) : Gd p e below P T (mkF m pc Ls (y :: x :: st)) := by
  obtain ⟨hd, hn, ho, hp⟩ := hd
  by_cases w : x = y
  · exact (ky w).imp fun t q => ⟨Jvm.RoadKit.acmp (g := mkF m pc Ls (y :: x :: st)) X hx rfl h1 h2 rfl (hb hby hd) rfl (same := true) (decide_eq_true w) ho (by show _ = ((pc : Int) + o).toNat; exact hp.symm) q.1, q.2⟩
  · exact (kn w).imp fun t q => ⟨Jvm.RoadKit.acmp (g := mkF m pc Ls (y :: x :: st)) X hx rfl h1 h2 rfl (hb hby hd) rfl (same := false) (decide_eq_false w) ho (by show _ = pc + 3; exact hn.symm) q.1, q.2⟩
theorem g_acmp_ne (X : Stand p l e R s m args below meth c T locs cells slots) (hx : p.tables.exec = Jvm.exec) (hby : c.code = code) {o : Int} {x y : Value} (hd : InsB code pc (.if_acmp .ne o) o pn pt) (h1 : x.isRef = true) (h2 : y.isRef = true) (ky : ¬ x = y → Gd p e below P T (mkF m pt Ls st)) (kn : x = y → Gd p e below P T (mkF m pn Ls st)) : Gd p e below P T (mkF m pc Ls (y :: x :: st)) := by
  obtain ⟨hd, hn, ho, hp⟩ := hd
  by_cases w : x = y
  · exact (kn w).imp fun t q => ⟨Jvm.RoadKit.acmp (g := mkF m pc Ls (y :: x :: st)) X hx rfl h1 h2 rfl (hb hby hd) rfl (same := true) (decide_eq_true w) ho (by show _ = pc + 3; exact hn.symm) q.1, q.2⟩
  · exact (ky w).imp fun t q => ⟨Jvm.RoadKit.acmp (g := mkF m pc Ls (y :: x :: st)) X hx rfl h1 h2 rfl (hb hby hd) rfl (same := false) (decide_eq_false w) ho (by show _ = ((pc : Int) + o).toNat; exact hp.symm) q.1, q.2⟩
theorem g_ldcInt (X : Stand p l e R s m args below meth c T locs cells slots) (hx : p.tables.exec = Jvm.exec) (hby : c.code = code) (hZ : Z.Warmed39 s.vm) {own : String} (hown : s.vm.findClass own = some m.cls) {i : Nat} {v : Int32} (w : (Jvm.Cond.constant own i v).before a0 Z = true) (hd : Ins1 code pc (.ldc i) 2 pn) (k : Gd p e below P T (mkF m pn Ls (.int v :: st))) : Gd p e below P T (mkF m pc Ls st) := by
  obtain ⟨hd, rfl⟩ := hd
  exact k.imp fun t q => ⟨X.ldcInt hx hown (mvT hZ w) (g := mkF m pc Ls st) rfl (hb hby hd) _ q.1, q.2⟩
theorem g_ldc2Long (X : Stand p l e R s m args below meth c T locs cells slots) (hx : p.tables.exec = Jvm.exec) (hby : c.code = code) (hZ : Z.Warmed39 s.vm) {own : String} (hown : s.vm.findClass own = some m.cls) {i : Nat} {v : Int64} (w : (Jvm.Cond.constantLong own i v).before a0 Z = true) (hd : Ins1 code pc (.ldc2_w i) 3 pn) (k : Gd p e below P T (mkF m pn Ls (.long v :: st))) : Gd p e below P T (mkF m pc Ls st) := by
  obtain ⟨hd, rfl⟩ := hd
  exact k.imp fun t q => ⟨X.ldc2Long hx hown (mvT hZ w) (g := mkF m pc Ls st) rfl (hb hby hd) _ q.1, q.2⟩
theorem g_getfield (X : Stand p l e R s m args below meth c T locs cells slots) (hx : p.tables.exec = Jvm.exec) (hby : c.code = code) (hZ : Z.Warmed39 s.vm) {own R0 O n d host : String} {index : Nat} (hown : s.vm.findClass own = some m.cls) (w : (Jvm.Cond.fieldLink own index R0 n d).before a0 Z = true ∨ (Jvm.Cond.fieldLinkNest own index R0 n d host).before a0 Z = true) (via : Via Z R0 O n d) (eT : T.heap = h) {a : Addr} {v : Value} (F : Fld Z h a O n d v) (hd : Ins1 code pc (.getfield index) 3 pn)
    (k : ∀ T', Stand p l e R s m args below meth c T' locs cells slots → T'.heap = h → Gd p e below P T' (mkF m pn Ls (v :: st))) : Gd p e below P T (mkF m pc Ls (.ref a :: st)) := by
  obtain ⟨hd, rfl⟩ := hd
  obtain ⟨T', X', e', stp⟩ := getF X hx hZ hown w via eT F (g := mkF m pc Ls (.ref a :: st)) rfl rfl (hb hby hd)
  exact (k T' X' e').of stp
theorem g_getstatic (X : Stand p l e R s m args below meth c T locs cells slots) (hx : p.tables.exec = Jvm.exec) (hby : c.code = code) (hZ : Z.Warmed39 s.vm) {own R0 O n d host : String} {index : Nat} (hown : s.vm.findClass own = some m.cls) (w : (Jvm.Cond.fieldLink own index R0 n d).before a0 Z = true ∨ (Jvm.Cond.fieldLinkNest own index R0 n d host).before a0 Z = true) (via : Via Z R0 O n d) (eT : T.heap = h) {v : Value} (F : Sta Z h O n d v) (hd : Ins1 code pc (.getstatic index) 3 pn)
    (k : ∀ T', Stand p l e R s m args below meth c T' locs cells slots → T'.heap = h → Gd p e below P T' (mkF m pn Ls (v :: st))) : Gd p e below P T (mkF m pc Ls st) := by
  obtain ⟨hd, rfl⟩ := hd
  obtain ⟨T', X', e', stp⟩ := getS2 X hx hZ hown w via eT F (g := mkF m pc Ls st) rfl (hb hby hd)
  exact (k T' X' e').of stp
theorem g_putfield (X : Stand p l e R s m args below meth c T locs cells slots) (hx : p.tables.exec = Jvm.exec) (hby : c.code = code) (hZ : Z.Warmed39 s.vm) {own R0 O n d host C : String} {index kk : Nat} {ty : FieldType} (hown : s.vm.findClass own = some m.cls) (w : (Jvm.Cond.fieldLink own index R0 n d).before a0 Z = true ∨ (Jvm.Cond.fieldLinkNest own index R0 n d host).before a0 Z = true) (via : Via Z R0 O n d) (eT : T.heap = h) {a : Addr} {v old : Value} (F : Fld Z h a O n d old) (E : Exa Z h a C)
    (L : (Jvm.Cond.lays C O n d).before a0 Z = true ∨ ((Jvm.Cond.laysFinal C O n d).before a0 Z = true ∧ own = O ∧ meth.name = "<init>")) (wi : (Jvm.Cond.instantiable C kk).before a0 Z = true) (hty : parseFieldDescriptor d = some ty) (hn : narrow ty v = v) (hf : fits ty v = true) (hd : Ins1 code pc (.putfield index) 3 pn)
    (k : ∀ T' h', Stand p l e R s m args below meth c T' (locs ++ [⟨a, Jvm.RoadKit.slotOf Z O n d⟩]) cells slots → T'.heap = h' → Wr h h' a (Jvm.RoadKit.slotOf Z O n d) v → Gd p e below P T' (mkF m pn Ls st)) : Gd p e below P T (mkF m pc Ls (v :: .ref a :: st)) := by
  obtain ⟨hd, rfl⟩ := hd
  obtain ⟨T', h', X', e', W, stp⟩ := putF X hx hZ hown w via eT F E L wi hty hn hf (g := mkF m pc Ls (v :: .ref a :: st)) rfl rfl (hb hby hd)
  exact (k T' h' X' e' W).of stp
theorem g_putfieldN (X : Stand p l e R s m args below meth c T locs cells slots) (hx : p.tables.exec = Jvm.exec) (hby : c.code = code) (hZ : Z.Warmed39 s.vm) {own R0 O n d C : String} {index kk : Nat} {ty : FieldType} (hown : s.vm.findClass own = some m.cls) (w : (Jvm.Cond.fieldLink own index R0 n d).before a0 Z = true) (via : Via Z R0 O n d) (eT : T.heap = h) {a : Addr} {v v' old : Value} (F : Fld Z h a O n d old) (E : Exa Z h a C)
    (L : (Jvm.Cond.lays C O n d).before a0 Z = true ∨ ((Jvm.Cond.laysFinal C O n d).before a0 Z = true ∧ own = O ∧ meth.name = "<init>")) (wi : (Jvm.Cond.instantiable C kk).before a0 Z = true) (hty : parseFieldDescriptor d = some ty) (hn : narrow ty v = v') (hf : fits ty v' = true) (hd : Ins1 code pc (.putfield index) 3 pn)
    (k : ∀ T' h', Stand p l e R s m args below meth c T' (locs ++ [⟨a, Jvm.RoadKit.slotOf Z O n d⟩]) cells slots → T'.heap = h' → Wr h h' a (Jvm.RoadKit.slotOf Z O n d) v' → Gd p e below P T' (mkF m pn Ls st)) : Gd p e below P T (mkF m pc Ls (v :: .ref a :: st)) := by
  obtain ⟨hd, rfl⟩ := hd
  obtain ⟨T', h', X', e', W, stp⟩ := putFN X hx hZ hown w via eT F E L wi hty hn hf (g := mkF m pc Ls (v :: .ref a :: st)) rfl rfl (hb hby hd)
  exact (k T' h' X' e' W).of stp
theorem g_new (X : Stand p l e R s m args below meth c T locs cells slots) (hx : p.tables.exec = Jvm.exec) (hby : c.code = code) (hZ : Z.Warmed39 s.vm) {own C : String} {index n : Nat} (hown : s.vm.findClass own = some m.cls) (w : (Jvm.Cond.classLink own index C).before a0 Z = true) (wi : (Jvm.Cond.instantiable C n).before a0 Z = true) (wz : (Jvm.Cond.initialized C).before a0 Z = true) (eT : T.heap = h) (hd : Ins1 code pc (.new index) 3 pn) (hc : cells + 1 ≤ R.cells) (hl : slots + n ≤ R.slots)
    (k : ∀ T' h' b, Stand p l e R s m args below meth c T' locs (cells + 1) (slots + n) → T'.heap = h' → Ext h h' → b = h.size → Exa Z h' b C → (∀ {O nm d : String} {ty : FieldType}, Laid Z a0 C O nm d → parseFieldDescriptor d = some ty → Fld Z h' b O nm d (defaultValue ty)) → Gd p e below P T' (mkF m pn Ls (.ref b :: st))) : Gd p e below P T (mkF m pc Ls st) := by
  obtain ⟨hd, rfl⟩ := hd
  obtain ⟨T', h', X', e', E, A, D, -, stp⟩ := newO X hx hZ hown w wi wz eT (g := mkF m pc Ls st) rfl (hb hby hd) hc hl
  exact (k T' h' _ X' e' E rfl A D).of stp
theorem g_newarray (X : Stand p l e R s m args below meth c T locs cells slots) (hx : p.tables.exec = Jvm.exec) (hby : c.code = code) (hZ : Z.Warmed39 s.vm) {aty : ArrayType} {n : Int32} {ty : FieldType} (hty : newarray.typeOf aty = ty) (w : (Jvm.Cond.arrayClass ty).before a0 Z = true) (eT : T.heap = h) (hd : Ins1 code pc (.newarray aty) 2 pn) (hn : ¬ n < 0) (cap : Nat) (hcap : n.toNatClampNeg ≤ cap) (hb' : cap * 8 ≤ 536870912) (hc : cells + 1 ≤ R.cells) (hl : slots + cap ≤ R.slots)
    (k : ∀ T' h' b cA, Stand p l e R s m args below meth c T' locs (cells + 1) (slots + cap) → T'.heap = h' → Ext h h' → b = h.size → Arv Z h' b cA ty n [] (defaultValue ty) → Gd p e below P T' (mkF m pn Ls (.ref b :: st))) : Gd p e below P T (mkF m pc Ls (.int n :: st)) := by
  obtain ⟨hd, rfl⟩ := hd
  subst hty
  obtain ⟨T', h', cA, X', e', E, A, stp⟩ := newP X hx hZ w eT (g := mkF m pc Ls (.int n :: st)) rfl (hb hby hd) rfl hn hcap hb' hc hl
  exact (k T' h' _ cA X' e' E rfl (Arv.new A hn)).of stp
theorem g_iastore (X : Stand p l e R s m args below meth c T locs cells slots) (hx : p.tables.exec = Jvm.exec) (hby : c.code = code) (hZ : Z.Warmed39 s.vm) (eT : T.heap = h) {a : Addr} {kc : ClassId} {z j : Int32} {vs : List Value} {dv : Value} {x : Int32} (A : Arv Z h a kc .int z vs dv) {i : Nat} (hj0 : ¬ j < 0) (hj : j < z) (hji : j.toNatClampNeg = i) (hil : i < vs.length) (hd : Ins1 code pc .iastore 1 pn)
    (k : ∀ T' h', Stand p l e R s m args below meth c T' (locs ++ [⟨a, i⟩]) cells slots → T'.heap = h' → Wr h h' a i (.int x) → Arv Z h' a kc .int z (vs.set i (.int x)) dv → Gd p e below P T' (mkF m pn Ls st)) : Gd p e below P T (mkF m pc Ls (.int x :: .int j :: .ref a :: st)) := by
  obtain ⟨hd, rfl⟩ := hd
  obtain ⟨cl, Ar, q1, S, N, H, G⟩ := A
  obtain ⟨T', h', X', e', W, stp⟩ := stI X hx hZ eT Ar (j := j) (inb_of S ⟨hj0, hj⟩) (g := mkF m pc Ls (.int x :: .int j :: .ref a :: st)) rfl rfl (hb hby hd)
  have V := Arv.set Ar q1 S N H G rfl W i hji hil
  rw [hji] at X' W
  exact (k T' h' X' e' W V).of stp
theorem g_lastore (X : Stand p l e R s m args below meth c T locs cells slots) (hx : p.tables.exec = Jvm.exec) (hby : c.code = code) (hZ : Z.Warmed39 s.vm) (eT : T.heap = h) {a : Addr} {kc : ClassId} {z j : Int32} {vs : List Value} {dv : Value} {x : Int64} (A : Arv Z h a kc .long z vs dv) {i : Nat} (hj0 : ¬ j < 0) (hj : j < z) (hji : j.toNatClampNeg = i) (hil : i < vs.length) (hd : Ins1 code pc .lastore 1 pn)
    (k : ∀ T' h', Stand p l e R s m args below meth c T' (locs ++ [⟨a, i⟩]) cells slots → T'.heap = h' → Wr h h' a i (.long x) → Arv Z h' a kc .long z (vs.set i (.long x)) dv → Gd p e below P T' (mkF m pn Ls st)) : Gd p e below P T (mkF m pc Ls (.long x :: .int j :: .ref a :: st)) := by
  obtain ⟨hd, rfl⟩ := hd
  obtain ⟨cl, Ar, q1, S, N, H, G⟩ := A
  obtain ⟨T', h', X', e', W, stp⟩ := stJ X hx hZ eT Ar (j := j) (inb_of S ⟨hj0, hj⟩) (g := mkF m pc Ls (.long x :: .int j :: .ref a :: st)) rfl rfl (hb hby hd)
  have V := Arv.set Ar q1 S N H G rfl W i hji hil
  rw [hji] at X' W
  exact (k T' h' X' e' W V).of stp
theorem g_castore (X : Stand p l e R s m args below meth c T locs cells slots) (hx : p.tables.exec = Jvm.exec) (hby : c.code = code) (hZ : Z.Warmed39 s.vm) (eT : T.heap = h) {a : Addr} {kc : ClassId} {z j : Int32} {vs : List Value} {dv : Value} {x : Int32} (A : Arv Z h a kc .char z vs dv) {i : Nat} (hj0 : ¬ j < 0) (hj : j < z) (hji : j.toNatClampNeg = i) (hil : i < vs.length) (hd : Ins1 code pc .castore 1 pn)
    (k : ∀ T' h', Stand p l e R s m args below meth c T' (locs ++ [⟨a, i⟩]) cells slots → T'.heap = h' → Wr h h' a i (.int (nar .char x)) → Arv Z h' a kc .char z (vs.set i (.int (nar .char x))) dv → Gd p e below P T' (mkF m pn Ls st)) : Gd p e below P T (mkF m pc Ls (.int x :: .int j :: .ref a :: st)) := by
  obtain ⟨hd, rfl⟩ := hd
  obtain ⟨cl, Ar, q1, S, N, H, G⟩ := A
  obtain ⟨T', h', X', e', W, stp⟩ := stC X hx hZ eT Ar (j := j) (inb_of S ⟨hj0, hj⟩) (g := mkF m pc Ls (.int x :: .int j :: .ref a :: st)) rfl rfl (hb hby hd)
  have V := Arv.set Ar q1 S N H G (fits_nar_char x) W i hji hil
  rw [hji] at X' W
  exact (k T' h' X' e' W V).of stp
theorem g_sastore (X : Stand p l e R s m args below meth c T locs cells slots) (hx : p.tables.exec = Jvm.exec) (hby : c.code = code) (hZ : Z.Warmed39 s.vm) (eT : T.heap = h) {a : Addr} {kc : ClassId} {z j : Int32} {vs : List Value} {dv : Value} {x : Int32} (A : Arv Z h a kc .short z vs dv) {i : Nat} (hj0 : ¬ j < 0) (hj : j < z) (hji : j.toNatClampNeg = i) (hil : i < vs.length) (hd : Ins1 code pc .sastore 1 pn)
    (k : ∀ T' h', Stand p l e R s m args below meth c T' (locs ++ [⟨a, i⟩]) cells slots → T'.heap = h' → Wr h h' a i (.int (nar .short x)) → Arv Z h' a kc .short z (vs.set i (.int (nar .short x))) dv → Gd p e below P T' (mkF m pn Ls st)) : Gd p e below P T (mkF m pc Ls (.int x :: .int j :: .ref a :: st)) := by
  obtain ⟨hd, rfl⟩ := hd
  obtain ⟨cl, Ar, q1, S, N, H, G⟩ := A
  obtain ⟨T', h', X', e', W, stp⟩ := stS X hx hZ eT Ar (j := j) (inb_of S ⟨hj0, hj⟩) (g := mkF m pc Ls (.int x :: .int j :: .ref a :: st)) rfl rfl (hb hby hd)
  have V := Arv.set Ar q1 S N H G (fits_nar_short x) W i hji hil
  rw [hji] at X' W
  exact (k T' h' X' e' W V).of stp
theorem g_bastore (X : Stand p l e R s m args below meth c T locs cells slots) (hx : p.tables.exec = Jvm.exec) (hby : c.code = code) (hZ : Z.Warmed39 s.vm) (eT : T.heap = h) {a : Addr} {kc : ClassId} {z j : Int32} {vs : List Value} {dv : Value} {x : Int32} (A : Arv Z h a kc .byte z vs dv) {i : Nat} (hj0 : ¬ j < 0) (hj : j < z) (hji : j.toNatClampNeg = i) (hil : i < vs.length) (hd : Ins1 code pc .bastore 1 pn)
    (k : ∀ T' h', Stand p l e R s m args below meth c T' (locs ++ [⟨a, i⟩]) cells slots → T'.heap = h' → Wr h h' a i (.int (nar .byte x)) → Arv Z h' a kc .byte z (vs.set i (.int (nar .byte x))) dv → Gd p e below P T' (mkF m pn Ls st)) : Gd p e below P T (mkF m pc Ls (.int x :: .int j :: .ref a :: st)) := by
  obtain ⟨hd, rfl⟩ := hd
  obtain ⟨cl, Ar, q1, S, N, H, G⟩ := A
  obtain ⟨T', h', X', e', W, stp⟩ := stB X hx hZ eT Ar (j := j) (inb_of S ⟨hj0, hj⟩) (g := mkF m pc Ls (.int x :: .int j :: .ref a :: st)) rfl rfl (hb hby hd)
  have V := Arv.set Ar q1 S N H G (fits_nar_byte x) W i hji hil
  rw [hji] at X' W
  exact (k T' h' X' e' W V).of stp
theorem g_iaload (X : Stand p l e R s m args below meth c T locs cells slots) (hx : p.tables.exec = Jvm.exec) (hby : c.code = code) (hZ : Z.Warmed39 s.vm) (eT : T.heap = h) {a : Addr} {kc : ClassId} {z j : Int32} {vs : List Value} {dv v : Value} (A : Arv Z h a kc .int z vs dv) {i : Nat} (hj0 : ¬ j < 0) (hj : j < z) (hji : j.toNatClampNeg = i) (hv : vs.getD i dv = v) (hd : Ins1 code pc .iaload 1 pn)
    (k : Gd p e below P T (mkF m pn Ls (v :: st))) : Gd p e below P T (mkF m pc Ls (.int j :: .ref a :: st)) := by
  obtain ⟨hd, rfl⟩ := hd
  obtain ⟨cl, Ar, q1, S, N, H, G⟩ := A
  have hin := inb_of S ⟨hj0, hj⟩
  exact k.imp fun t q => ⟨X.iaload hx (j := j) (v := v) (by rw [eT]; exact Ar.1) (State.isArrayOf_alike hZ.alike Ar.2.1) Ar.2.2 hin (H.at hin (by rw [hji]; exact hv)) (g := mkF m pc Ls (.int j :: .ref a :: st)) rfl rfl (hb hby hd) _ q.1, q.2⟩
theorem g_laload (X : Stand p l e R s m args below meth c T locs cells slots) (hx : p.tables.exec = Jvm.exec) (hby : c.code = code) (hZ : Z.Warmed39 s.vm) (eT : T.heap = h) {a : Addr} {kc : ClassId} {z j : Int32} {vs : List Value} {dv v : Value} (A : Arv Z h a kc .long z vs dv) {i : Nat} (hj0 : ¬ j < 0) (hj : j < z) (hji : j.toNatClampNeg = i) (hv : vs.getD i dv = v) (hd : Ins1 code pc .laload 1 pn)
    (k : Gd p e below P T (mkF m pn Ls (v :: st))) : Gd p e below P T (mkF m pc Ls (.int j :: .ref a :: st)) := by
  obtain ⟨hd, rfl⟩ := hd
  obtain ⟨cl, Ar, q1, S, N, H, G⟩ := A
  have hin := inb_of S ⟨hj0, hj⟩
  exact k.imp fun t q => ⟨X.laload hx (j := j) (v := v) (by rw [eT]; exact Ar.1) (State.isArrayOf_alike hZ.alike Ar.2.1) Ar.2.2 hin (H.at hin (by rw [hji]; exact hv)) (g := mkF m pc Ls (.int j :: .ref a :: st)) rfl rfl (hb hby hd) _ q.1, q.2⟩
theorem g_caload (X : Stand p l e R s m args below meth c T locs cells slots) (hx : p.tables.exec = Jvm.exec) (hby : c.code = code) (hZ : Z.Warmed39 s.vm) (eT : T.heap = h) {a : Addr} {kc : ClassId} {z j : Int32} {vs : List Value} {dv v : Value} (A : Arv Z h a kc .char z vs dv) {i : Nat} (hj0 : ¬ j < 0) (hj : j < z) (hji : j.toNatClampNeg = i) (hv : vs.getD i dv = v) (hd : Ins1 code pc .caload 1 pn)
    (k : Gd p e below P T (mkF m pn Ls (v :: st))) : Gd p e below P T (mkF m pc Ls (.int j :: .ref a :: st)) := by
  obtain ⟨hd, rfl⟩ := hd
  obtain ⟨cl, Ar, q1, S, N, H, G⟩ := A
  have hin := inb_of S ⟨hj0, hj⟩
  exact k.imp fun t q => ⟨X.caload hx (j := j) (v := v) (by rw [eT]; exact Ar.1) (State.isArrayOf_alike hZ.alike Ar.2.1) Ar.2.2 hin (H.at hin (by rw [hji]; exact hv)) (g := mkF m pc Ls (.int j :: .ref a :: st)) rfl rfl (hb hby hd) _ q.1, q.2⟩
theorem g_saload (X : Stand p l e R s m args below meth c T locs cells slots) (hx : p.tables.exec = Jvm.exec) (hby : c.code = code) (hZ : Z.Warmed39 s.vm) (eT : T.heap = h) {a : Addr} {kc : ClassId} {z j : Int32} {vs : List Value} {dv v : Value} (A : Arv Z h a kc .short z vs dv) {i : Nat} (hj0 : ¬ j < 0) (hj : j < z) (hji : j.toNatClampNeg = i) (hv : vs.getD i dv = v) (hd : Ins1 code pc .saload 1 pn)
    (k : Gd p e below P T (mkF m pn Ls (v :: st))) : Gd p e below P T (mkF m pc Ls (.int j :: .ref a :: st)) := by
  obtain ⟨hd, rfl⟩ := hd
  obtain ⟨cl, Ar, q1, S, N, H, G⟩ := A
  have hin := inb_of S ⟨hj0, hj⟩
  exact k.imp fun t q => ⟨X.saload hx (j := j) (v := v) (by rw [eT]; exact Ar.1) (State.isArrayOf_alike hZ.alike Ar.2.1) Ar.2.2 hin (H.at hin (by rw [hji]; exact hv)) (g := mkF m pc Ls (.int j :: .ref a :: st)) rfl rfl (hb hby hd) _ q.1, q.2⟩
theorem g_baload (X : Stand p l e R s m args below meth c T locs cells slots) (hx : p.tables.exec = Jvm.exec) (hby : c.code = code) (hZ : Z.Warmed39 s.vm) (eT : T.heap = h) {a : Addr} {kc : ClassId} {z j : Int32} {vs : List Value} {dv v : Value} (A : Arv Z h a kc .byte z vs dv) {i : Nat} (hj0 : ¬ j < 0) (hj : j < z) (hji : j.toNatClampNeg = i) (hv : vs.getD i dv = v) (hd : Ins1 code pc .baload 1 pn)
    (k : Gd p e below P T (mkF m pn Ls (v :: st))) : Gd p e below P T (mkF m pc Ls (.int j :: .ref a :: st)) := by
  obtain ⟨hd, rfl⟩ := hd
  obtain ⟨cl, Ar, q1, S, N, H, G⟩ := A
  have hin := inb_of S ⟨hj0, hj⟩
  exact k.imp fun t q => ⟨X.baloadBytes hx (j := j) (v := v) (by rw [eT]; exact Ar.1) (State.isArrayOf_alike hZ.alike Ar.2.1) Ar.2.2 hin (H.at hin (by rw [hji]; exact hv)) (g := mkF m pc Ls (.int j :: .ref a :: st)) rfl rfl (hb hby hd) _ q.1, q.2⟩
theorem g_arraylength (X : Stand p l e R s m args below meth c T locs cells slots) (hx : p.tables.exec = Jvm.exec) (hby : c.code = code) (hZ : Z.Warmed39 s.vm) (eT : T.heap = h) {a : Addr} {kc : ClassId} {ty : FieldType} {z : Int32} {vs : List Value} {dv : Value} (A : Arv Z h a kc ty z vs dv) (hd : Ins1 code pc .arraylength 1 pn) (k : Gd p e below P T (mkF m pn Ls (.int z :: st))) : Gd p e below P T (mkF m pc Ls (.ref a :: st)) := by
  obtain ⟨hd, rfl⟩ := hd
  obtain ⟨cl, Ar, q1, S, N, H, G⟩ := A
  rw [← len_of S N] at k
  exact k.imp fun t q => ⟨X.arraylength hx (by rw [eT]; exact Ar.1) (State.isArrayOf_alike hZ.alike Ar.2.1) (g := mkF m pc Ls (.ref a :: st)) rfl rfl (hb hby hd) _ q.1, q.2⟩
theorem g_objInit (X : Stand p l e R s m args below meth c T locs cells slots) (hx : p.tables.exec = Jvm.exec) (hby : c.code = code) (hZ : Z.Warmed39 s.vm) {own : String} {idx : Nat} (hown : s.vm.findClass own = some m.cls) (w1 : (Jvm.Cond.methodLink own idx Lib.objectInit).before a0 Z = true) (w2 : (Jvm.Cond.instanceMethod Lib.objectInit).before a0 Z = true) (w3 : (Jvm.Cond.code Lib.objectInit ⟨#[0xb1]⟩ 1 none).before a0 Z = true) (eT : T.heap = h) (hsize : Ls.size = c.maxLocals) {a : Addr} (hd : Ins1 code pc (.invokespecial idx) 3 pn)
    (W : Nat) (hW : (st.map fun v => v.category).sum = W) (hf : 1 ≤ R.frames) (hl : W + 12 ≤ R.locals) (k : ∀ T', Stand p l e R s m args below meth c T' locs cells slots → T'.heap = h → Gd p e below P T' (mkF m pn Ls st)) : Gd p e below P T (mkF m pc Ls (.ref a :: st)) := by
  obtain ⟨hd, rfl⟩ := hd
  obtain ⟨T', X', e', stp⟩ := initO X hx hZ hown w1 w2 w3 eT (g := mkF m pc Ls (.ref a :: st)) rfl hsize rfl (hb hby hd) hf (W := W) (by show 2 * 0 + _ ≤ _; rw [hW]; omega) hl
  exact (k T' X' e').of stp
theorem g_callS0 (X : Stand p l e R s m args below meth c T locs cells slots) (hx : p.tables.exec = Jvm.exec) (hby : c.code = code) (hZ : Z.Warmed39 s.vm) {y : MethodName} {bytes : ByteArray} {maxL : Nat} {ret : Option FieldType} {rm : Room} {argsL rest : List Value} {Q : Option Value → Heap → List Loc → Prop} {own : String} {index : Nat} (hown : s.vm.findClass own = some m.cls) (w1 : (Jvm.Cond.methodLink own index y).before a0 Z = true) (w2 : (Jvm.Cond.static y).before a0 Z = true) (w3 : (Jvm.Cond.initialized y.cls).before a0 Z = true) (w4 : (Jvm.Cond.code y bytes maxL ret).before a0 Z = true) (hy : y.cls ≠ "java/lang/invoke/MethodHandle" ∧ y.cls ≠ "java/lang/invoke/VarHandle")
    (M : Met1 l y bytes maxL ret [] rm argsL.toArray Z h Q) (eT : T.heap = h) (hsize : Ls.size = c.maxLocals) {ps : List FieldType} {r : Option FieldType} (hpd : parseMethodDescriptor y.desc = some ⟨ps, r⟩) (hlen : argsL.length = ps.length) (hst : st = argsL.reverse ++ rest) (hd : Ins1 code pc (.invokestatic index) 3 pn) (hf : rm.frames + 1 ≤ R.frames) (W : Nat) (hW : (rest.map fun v => v.category).sum = W) (hl : W + (maxL + 11) + rm.locals ≤ R.locals) (hcl : cells + rm.cells ≤ R.cells) (hsl : slots + rm.slots ≤ R.slots)
    (k : ∀ T' v L, Stand p l e R s m args below meth c T' (locs ++ L) (cells + rm.cells) (slots + rm.slots) → Q v T'.heap L → Gd p e below P T' (mkF m pn Ls (v.toList ++ rest))) : Gd p e below P T (mkF m pc Ls st) := by
  obtain ⟨hd, rfl⟩ := hd
  obtain ⟨v, _, ⟨T', L', k', n'⟩, -, X', ⟨Lc, hQ, l1, y1, z1⟩, stp⟩ := Jvm.LawKit.callS X hx (y := y) hown (mvT hZ w1) (mvT hZ w2) (mvT hZ w3) (mvT hZ w4) hy (backOf (W := W) M hZ w4 w3 hf hl) (g := mkF m pc Ls st) rfl hsize (argsL := argsL) (rest := rest) (lenOf hpd hlen) hst (by show 2 * 0 + _ ≤ _; rw [hW]; omega) (hb hby hd) (fun _ _ => ⟨rfl, eT, hcl, hsl⟩)
  dsimp only [Pt.U, Pt.locs, Pt.cells, Pt.slots] at X' l1 y1 z1 stp hQ
  subst l1 y1 z1
  exact (k T' v Lc X' hQ).of stp
theorem g_callInit0 (X : Stand p l e R s m args below meth c T locs cells slots) (hx : p.tables.exec = Jvm.exec) (hby : c.code = code) (hZ : Z.Warmed39 s.vm) {y : MethodName} {bytes : ByteArray} {maxL : Nat} {rm : Room} {argsL rest : List Value} {Q : Option Value → Heap → List Loc → Prop} {own : String} {index : Nat} (hy1 : y.name = "<init>") (hown : s.vm.findClass own = some m.cls) (w1 : (Jvm.Cond.methodLink own index y).before a0 Z = true) (w2 : (Jvm.Cond.instanceMethod y).before a0 Z = true) (w3 : (Jvm.Cond.initialized y.cls).before a0 Z = true) (w4 : (Jvm.Cond.code y bytes maxL none).before a0 Z = true) (hy : y.cls ≠ "java/lang/invoke/MethodHandle" ∧ y.cls ≠ "java/lang/invoke/VarHandle")
    {a : Addr} (M : Met1 l y bytes maxL none [] rm (.ref a :: argsL).toArray Z h Q) (eT : T.heap = h) (hsize : Ls.size = c.maxLocals) {ps : List FieldType} {r : Option FieldType} (hpd : parseMethodDescriptor y.desc = some ⟨ps, r⟩) (hlen : argsL.length = ps.length) (hst : st = argsL.reverse ++ .ref a :: rest) (hd : Ins1 code pc (.invokespecial index) 3 pn) (hf : rm.frames + 1 ≤ R.frames) (W : Nat) (hW : (rest.map fun v => v.category).sum = W) (hl : W + (maxL + 11) + rm.locals ≤ R.locals) (hcl : cells + rm.cells ≤ R.cells) (hsl : slots + rm.slots ≤ R.slots)
    (k : ∀ T' v L, Stand p l e R s m args below meth c T' (locs ++ L) (cells + rm.cells) (slots + rm.slots) → Q v T'.heap L → Gd p e below P T' (mkF m pn Ls (v.toList ++ rest))) : Gd p e below P T (mkF m pc Ls st) := by
  obtain ⟨hd, rfl⟩ := hd
  obtain ⟨v, _, ⟨T', L', k', n'⟩, -, X', ⟨Lc, hQ, l1, y1, z1⟩, stp⟩ := X.specialBack hx (y := y) hy1 hown (mvT hZ w1) (mvT hZ w2) (mvT hZ w4) hy (backOf (W := W) M hZ w4 w3 hf hl) (g := mkF m pc Ls st) rfl hsize (Steps.refl _) (a := a) (argsL := argsL) (rest := rest) (lenOf hpd hlen) hst (by show 2 * 0 + _ ≤ _; rw [hW]; omega) (hb hby hd) (fun _ _ => ⟨rfl, eT, hcl, hsl⟩)
  dsimp only [Pt.U, Pt.locs, Pt.cells, Pt.slots] at X' l1 y1 z1 stp hQ
  subst l1 y1 z1
  exact (k T' v Lc X' hQ).of fun t q => stp.trans q
theorem g_callV0 (X : Stand p l e R s m args below meth c T locs cells slots) (hx : p.tables.exec = Jvm.exec) (hby : c.code = code) (hZ : Z.Warmed39 s.vm) {y : MethodName} {bytes : ByteArray} {maxL : Nat} {ret : Option FieldType} {rm : Room} {argsL rest : List Value} {Q : Option Value → Heap → List Loc → Prop} {own C : String} {index : Nat} {y0 : MethodName} (hown : s.vm.findClass own = some m.cls) (w1 : (Jvm.Cond.methodLink own index y0).before a0 Z = true) (w2 : (Jvm.Cond.declares y0).before a0 Z = true) (hnf : NotFace s y0) (w5 : (Jvm.Cond.selects C y0 y).before a0 Z = true) (w6 : (Jvm.Cond.instanceMethod y).before a0 Z = true) (w3 : (Jvm.Cond.initialized y.cls).before a0 Z = true) (w4 : (Jvm.Cond.code y bytes maxL ret).before a0 Z = true) (hy : y0.cls ≠ "java/lang/invoke/MethodHandle" ∧ y0.cls ≠ "java/lang/invoke/VarHandle")
    {a : Addr} (E : Exa Z h a C) (M : Met1 l y bytes maxL ret [] rm (.ref a :: argsL).toArray Z h Q) (eT : T.heap = h) (hsize : Ls.size = c.maxLocals) {ps : List FieldType} {r : Option FieldType} (hpd : parseMethodDescriptor y0.desc = some ⟨ps, r⟩) (hlen : argsL.length = ps.length) (hst : st = argsL.reverse ++ .ref a :: rest) (hd : Ins1 code pc (.invokevirtual index) 3 pn) (hf : rm.frames + 1 ≤ R.frames) (W : Nat) (hW : (rest.map fun v => v.category).sum = W) (hl : W + (maxL + 11) + rm.locals ≤ R.locals) (hcl : cells + rm.cells ≤ R.cells) (hsl : slots + rm.slots ≤ R.slots)
    (k : ∀ T' v L, Stand p l e R s m args below meth c T' (locs ++ L) (cells + rm.cells) (slots + rm.slots) → Q v T'.heap L → Gd p e below P T' (mkF m pn Ls (v.toList ++ rest))) : Gd p e below P T (mkF m pc Ls st) := by
  obtain ⟨hd, rfl⟩ := hd
  obtain ⟨cq, kq, qa, qb, qc⟩ := isOf hZ eT E
  obtain ⟨v, _, ⟨T', L', k', n'⟩, -, X', ⟨Lc, hQ, l1, y1, z1⟩, stp⟩ := X.virtualBack hx (y := y0) (z := y) hown (mvT hZ w1) (mvT hZ w2) hnf (mvT hZ w5) (mvT hZ w6) hy (backOf (W := W) M hZ w4 w3 hf hl) qa qc (g := mkF m pc Ls st) rfl hsize (Steps.refl _) (argsL := argsL) (rest := rest) (lenOf hpd hlen) hst (by show 2 * 0 + _ ≤ _; rw [hW]; omega) (hb hby hd) (fun _ _ => ⟨rfl, eT, hcl, hsl⟩)
  dsimp only [Pt.U, Pt.locs, Pt.cells, Pt.slots] at X' l1 y1 z1 stp hQ
  subst l1 y1 z1
  exact (k T' v Lc X' hQ).of fun t q => stp.trans q
theorem g_ireturn (X : Stand p l e R s m args below meth c T locs cells slots) (hx : p.tables.exec = Jvm.exec) (hby : c.code = code) (hret : meth.sig.returnType = some .int) (hlk : meth.locks = false) {z : Int32} {Q : Option Value → Heap → List Loc → Prop} {C S : Nat} (hd : Ins1 code pc .ireturn 1 pn) (hc : cells ≤ C) (hs : slots ≤ S) (hQ : Q (some (.int z)) T.heap locs) : Gd p e below (Fin1 s below C S Q) T (mkF m pc Ls (.int z :: st)) := by
  obtain ⟨fs, hr, hrun, hended, hW, hsame⟩ := X.leave (v := some (.int z)) (fun q => by rw [hret] at q; cases q) hlk
  exact ⟨_, retOut X hx (t := .int) hret rfl (Or.inl ⟨rfl, Or.inl rfl, z, rfl⟩) (hb hby hd.1) hr, _, hrun, hended, _, _, rfl, hQ, ⟨_, rfl⟩, hW, hsame.mono hc hs⟩
theorem g_ireturnN (X : Stand p l e R s m args below meth c T locs cells slots) (hx : p.tables.exec = Jvm.exec) (hby : c.code = code) {ty : FieldType} (hret : meth.sig.returnType = some ty) (hty : ty = .boolean ∨ ty = .byte ∨ ty = .char ∨ ty = .short) (hlk : meth.locks = false) {z : Int32} {Q : Option Value → Heap → List Loc → Prop} {C S : Nat} (hd : Ins1 code pc .ireturn 1 pn) (hc : cells ≤ C) (hs : slots ≤ S) (hQ : Q (some (.int (nar ty z))) T.heap locs) : Gd p e below (Fin1 s below C S Q) T (mkF m pc Ls (.int z :: st)) := by
  obtain ⟨fs, hr, hrun, hended, hW, hsame⟩ := X.leave (v := some (.int (nar ty z))) (fun q => by rw [hret] at q; cases q) hlk
  exact ⟨_, retN X hx hret hty (hb hby hd.1) hr, _, hrun, hended, _, _, rfl, hQ, ⟨_, rfl⟩, hW, hsame.mono hc hs⟩
theorem g_lreturn (X : Stand p l e R s m args below meth c T locs cells slots) (hx : p.tables.exec = Jvm.exec) (hby : c.code = code) (hret : meth.sig.returnType = some .long) (hlk : meth.locks = false) {z : Int64} {Q : Option Value → Heap → List Loc → Prop} {C S : Nat} (hd : Ins1 code pc .lreturn 1 pn) (hc : cells ≤ C) (hs : slots ≤ S) (hQ : Q (some (.long z)) T.heap locs) : Gd p e below (Fin1 s below C S Q) T (mkF m pc Ls (.long z :: st)) := by
  obtain ⟨fs, hr, hrun, hended, hW, hsame⟩ := X.leave (v := some (.long z)) (fun q => by rw [hret] at q; cases q) hlk
  exact ⟨_, retOut X hx (t := .long) hret rfl (Or.inr (Or.inl ⟨rfl, rfl, z, rfl⟩)) (hb hby hd.1) hr, _, hrun, hended, _, _, rfl, hQ, ⟨_, rfl⟩, hW, hsame.mono hc hs⟩
theorem g_dreturn (X : Stand p l e R s m args below meth c T locs cells slots) (hx : p.tables.exec = Jvm.exec) (hby : c.code = code) (hret : meth.sig.returnType = some .double) (hlk : meth.locks = false) {z : UInt64} {Q : Option Value → Heap → List Loc → Prop} {C S : Nat} (hd : Ins1 code pc .dreturn 1 pn) (hc : cells ≤ C) (hs : slots ≤ S) (hQ : Q (some (.double z)) T.heap locs) : Gd p e below (Fin1 s below C S Q) T (mkF m pc Ls (.double z :: st)) := by
  obtain ⟨fs, hr, hrun, hended, hW, hsame⟩ := X.leave (v := some (.double z)) (fun q => by rw [hret] at q; cases q) hlk
  exact ⟨_, retOut X hx (t := .double) hret rfl (Or.inr (Or.inr (Or.inl ⟨rfl, rfl, z, rfl⟩))) (hb hby hd.1) hr, _, hrun, hended, _, _, rfl, hQ, ⟨_, rfl⟩, hW, hsame.mono hc hs⟩
theorem g_areturn (X : Stand p l e R s m args below meth c T locs cells slots) (hx : p.tables.exec = Jvm.exec) (hby : c.code = code) {ty : FieldType} (hret : meth.sig.returnType = some ty) (hty : ty.isReference = true) (hn : ∀ v, narrow ty v = v) (hlk : meth.locks = false) {z : Value} (hz : z.isRef = true) {Q : Option Value → Heap → List Loc → Prop} {C S : Nat} (hd : Ins1 code pc .areturn 1 pn) (hc : cells ≤ C) (hs : slots ≤ S) (hQ : Q (some z) T.heap locs) : Gd p e below (Fin1 s below C S Q) T (mkF m pc Ls (z :: st)) := by
  obtain ⟨fs, hr, hrun, hended, hW, hsame⟩ := X.leave (v := some z) (fun q => by rw [hret] at q; cases q) hlk
  exact ⟨_, retOut X hx hret (hn z) (Or.inr (Or.inr (Or.inr (Or.inr ⟨rfl, hty, hz⟩)))) (hb hby hd.1) hr, _, hrun, hended, _, _, rfl, hQ, ⟨_, rfl⟩, hW, hsame.mono hc hs⟩
theorem g_return (X : Stand p l e R s m args below meth c T locs cells slots) (hx : p.tables.exec = Jvm.exec) (hby : c.code = code) (hret : meth.sig.returnType = none) (hlk : meth.locks = false) {Q : Option Value → Heap → List Loc → Prop} {C S : Nat} (hd : Ins1 code pc .return_ 1 pn) (hc : cells ≤ C) (hs : slots ≤ S) (hQ : Q none T.heap locs) : Gd p e below (Fin1 s below C S Q) T (mkF m pc Ls []) := by
  obtain ⟨fs, hr, hrun, hended, hW, hsame⟩ := X.leave (v := none) (fun _ => rfl) hlk
  exact ⟨_, X.returnOut hx hret (hb hby hd.1) hr, _, hrun, hended, _, _, rfl, hQ, ⟨_, rfl⟩, hW, hsame.mono hc hs⟩
theorem own_stat {C n d K : String} (hx : (Jvm.Cond.exactly (.static C n d) K).value args Z none Z [] = some true) (w1 : (Jvm.Cond.initialized C).before args Z = true) (w2 : (Jvm.Cond.laysStatic C n d).before args Z = true) : ∃ a, (Term.static C n d).eval args Z none [] Z = some (.ref a) ∧ Sta Z Z.heap C n d (.ref a) ∧ Exa Z Z.heap a K := by
  obtain ⟨a, c', cell, k, e1, -⟩ := Cond.exactly_spec (Cond.before_iff.mpr hx)
  exact ⟨a, e1, Sta.start e1 (Or.inr ⟨w1, w2⟩), Exa.start e1 hx⟩
theorem own_sfld {t : Term} {a : Addr} {C f dd : String} {n : Int32} (ev : t.eval args Z none [] Z = some (.ref a)) (q : (Jvm.Cond.eq (.field t C f dd) (.int n)).value args Z none Z [] = some true) : Fld Z Z.heap a C f dd (.int n) := Fld.start (by rw [← fld_at (C := C) (n := f) (dd := dd) ev]; exact eqv_i (Term.int_eval n) q)
end K
end Jvm.OwnG
namespace Jvm.Pilot.@@N@@
open Jvm Jvm.ClassFile Sem Op Lib Jvm.Free Jvm.Stand Jvm.LawKit Jvm.RoadKit Jvm.OwnG Bundle Jvm.Pilot.@@N@@.Jvm.D
def own_i (i : Nat) : Int32 := Int32.ofNat i
def own_acc (w : Nat → Int32) : Nat → Int64
  | 0 => 0
  | i + 1 => (own_acc w i <<< ((8 : Int32) &&& 0x3f).toInt64) ||| ((w i &&& (255 : Int32)).toInt64)
theorem own_irr (x : Int32) : ¬ x < x := by rw [Int32.lt_iff_toInt_lt]; omega
theorem own_ti {i : Nat} (h : i ≤ 8) : (own_i i).toInt = i := by unfold own_i; rw [Int32.toInt_ofNat_of_lt (by omega)]
theorem own_lt {i n : Nat} (h : i < n) (hn : n ≤ 8) : own_i i < own_i n := by rw [Int32.lt_iff_toInt_lt, own_ti (by omega), own_ti hn]; omega
theorem own_succ (i : Nat) : own_i i + Int32.ofInt 1 = own_i (i + 1) := by
  unfold own_i
  rw [Int32.ofNat_add]
  rfl
theorem own_p {v x : Int32} (hv : v = (1 : Int32) + (x &&& (7 : Int32))) : v = 1 ∨ v = 2 ∨ v = 3 ∨ v = 4 ∨ v = 5 ∨ v = 6 ∨ v = 7 ∨ v = 8 := by
  have h := c_mask x 7 3 (by decide) (by decide)
  have e1 : (1 : Int32).toInt = 1 := by decide
  have e2 : (2 : Int32).toInt = 2 := by decide
  have e3 : (3 : Int32).toInt = 3 := by decide
  have e4 : (4 : Int32).toInt = 4 := by decide
  have e5 : (5 : Int32).toInt = 5 := by decide
  have e6 : (6 : Int32).toInt = 6 := by decide
  have e7 : (7 : Int32).toInt = 7 := by decide
  have e8 : (8 : Int32).toInt = 8 := by decide
  have a := c_iadd 1 (x &&& 7)
  have r := rng32 (1 + (x &&& 7))
  rw [← hv] at a r
  simp only [← Int32.toInt_inj, e1, e2, e3, e4, e5, e6, e7, e8] at *
  omega
theorem own_s {v x : Int32} (hv : v = ((x &&& (2147483647 : Int32)) % (9 : Int32))) : ∃ n, n ≤ 8 ∧ v = own_i n := by
  have m := c_mask x 2147483647 31 (by decide) (by decide)
  have r := (c_irem (x &&& 2147483647) 9 9 (by decide)).1 (by omega)
  rw [← hv] at r
  refine ⟨v.toInt.toNat, by omega, ?_⟩
  apply Int32.toInt_inj.mp
  rw [own_ti (by omega)]
  omega
theorem own_hl {i : Nat} {vs : List Value} (h : vs.length = 18) (k : i < 18) : i < vs.length := by rw [h]; exact k
def own_x (q : Int64) (k : Nat) : Int32 := match k with
  | 0 => ((q.toUInt64 >>> ((56 : Int32) &&& 0x3f).toInt64.toUInt64).toInt64).toInt32.toInt8.toInt32
  | 1 => ((q.toUInt64 >>> ((48 : Int32) &&& 0x3f).toInt64.toUInt64).toInt64).toInt32.toInt8.toInt32
  | 2 => ((q.toUInt64 >>> ((40 : Int32) &&& 0x3f).toInt64.toUInt64).toInt64).toInt32.toInt8.toInt32
  | 3 => ((q.toUInt64 >>> ((32 : Int32) &&& 0x3f).toInt64.toUInt64).toInt64).toInt32.toInt8.toInt32
  | 4 => ((q.toUInt64 >>> ((24 : Int32) &&& 0x3f).toInt64.toUInt64).toInt64).toInt32.toInt8.toInt32
  | 5 => ((q.toUInt64 >>> ((16 : Int32) &&& 0x3f).toInt64.toUInt64).toInt64).toInt32.toInt8.toInt32
  | 6 => ((q.toUInt64 >>> ((8 : Int32) &&& 0x3f).toInt64.toUInt64).toInt64).toInt32.toInt8.toInt32
  | _ => q.toInt32.toInt8.toInt32
theorem own_255 (t : Nat) : (255#64).getLsbD t = decide (t < 8) := by
  rw [BitVec.getLsbD_ofNat]
  by_cases h : t < 8
  · have : ∀ t : Fin 8, (decide (t.1 < 64) && Nat.testBit 255 t.1) = true := by decide
    simpa [h] using this ⟨t, h⟩
  · have h3 : Nat.testBit 255 t = false := Nat.testBit_lt_two_pow (Nat.lt_of_lt_of_le (by decide : 255 < 2 ^ 8) (Nat.pow_le_pow_right (by decide) (by omega)))
    simp [h, h3]
theorem own_byte (y : Int64) (t : Nat) : (((y.toInt32.toInt8.toInt32).toInt8.toInt32 &&& (255 : Int32)).toInt64).toBitVec.getLsbD t = (decide (t < 8) && y.toBitVec.getLsbD t) := by
  have e : (((y.toInt32.toInt8.toInt32).toInt8.toInt32 &&& (255 : Int32)).toInt64).toBitVec = (BitVec.signExtend 64 (BitVec.signExtend 8 y.toBitVec)) &&& 255#64 := by
    simp
  rw [e, BitVec.getLsbD_and, own_255, BitVec.getLsbD_signExtend, BitVec.getLsbD_signExtend]
  by_cases h : t < 8
  · have h1 : t < 64 := by omega
    simp [h, h1]
  · simp [h]
theorem own_sh (q : Int64) (c : Int32) (k : Nat) (hc : (c &&& 0x3f).toInt64.toUInt64 = UInt64.ofNat k) (hk : k < 64) (t : Nat) : ((q.toUInt64 >>> (c &&& 0x3f).toInt64.toUInt64).toInt64).toBitVec.getLsbD t = q.toBitVec.getLsbD (k + t) := by
  rw [hc]
  have e : ((q.toUInt64 >>> UInt64.ofNat k).toInt64).toBitVec = q.toBitVec >>> k := by
    apply BitVec.eq_of_toNat_eq
    have : k % 18446744073709551616 % 64 = k := by omega
    simp [BitVec.toNat_umod, this]
  rw [e, BitVec.getLsbD_ushiftRight]
theorem own_shl8 (a : Int64) (t : Nat) : (a <<< ((8 : Int32) &&& 0x3f).toInt64).toBitVec.getLsbD t = (decide (t < 64) && !decide (t < 8) && a.toBitVec.getLsbD (t - 8)) := by
  have e : ((8 : Int32) &&& 0x3f).toInt64 = 8 := by decide
  rw [e]
  have e2 : (a <<< (8 : Int64)).toBitVec = a.toBitVec <<< 8 := by
    simp [Int64.toBitVec_shiftLeft]
  rw [e2, BitVec.getLsbD_shiftLeft]
theorem own_xb (q : Int64) (k : Nat) (hk : k < 8) (t : Nat) : ((nar .byte (own_x q k) &&& (255 : Int32)).toInt64).toBitVec.getLsbD t = (decide (t < 8) && q.toBitVec.getLsbD (8 * (7 - k) + t)) := by
  match k, hk with
  | 0, _ => exact (own_byte _ t).trans (by rw [own_sh q 56 56 (by decide) (by decide)])
  | 1, _ => exact (own_byte _ t).trans (by rw [own_sh q 48 48 (by decide) (by decide)])
  | 2, _ => exact (own_byte _ t).trans (by rw [own_sh q 40 40 (by decide) (by decide)])
  | 3, _ => exact (own_byte _ t).trans (by rw [own_sh q 32 32 (by decide) (by decide)])
  | 4, _ => exact (own_byte _ t).trans (by rw [own_sh q 24 24 (by decide) (by decide)])
  | 5, _ => exact (own_byte _ t).trans (by rw [own_sh q 16 16 (by decide) (by decide)])
  | 6, _ => exact (own_byte _ t).trans (by rw [own_sh q 8 8 (by decide) (by decide)])
  | 7, _ => exact (own_byte _ t).trans (by rw [show 8 * (7 - 7) + t = t by omega])
theorem own_accb (q : Int64) (n : Nat) (hn : n ≤ 8) (w : Nat → Int32) (hw : ∀ i, i < n → ∀ t, ((w i &&& (255 : Int32)).toInt64).toBitVec.getLsbD t = (decide (t < 8) && q.toBitVec.getLsbD (8 * (7 - (8 - n + i)) + t))) : ∀ i, i ≤ n → ∀ t, (own_acc w i).toBitVec.getLsbD t = (decide (t < 8 * i) && q.toBitVec.getLsbD (8 * (n - i) + t)) := by
  intro i
  induction i with
  | zero => intro _ t; simp [own_acc]
  | succ i ih =>
    intro hi t
    have e : (own_acc w (i + 1)).toBitVec = (own_acc w i <<< ((8 : Int32) &&& 0x3f).toInt64).toBitVec ||| ((w i &&& (255 : Int32)).toInt64).toBitVec := rfl
    rw [e, BitVec.getLsbD_or, own_shl8, hw i (by omega), ih (by omega)]
    by_cases h : t < 8
    · have h1 : 8 * (7 - (8 - n + i)) + t = 8 * (n - (i + 1)) + t := by omega
      have h2 : t < 8 * (i + 1) := by omega
      rw [h1]
      simp [h, h2]
    · by_cases h3 : t < 8 * (i + 1)
      · have h4 : t < 64 := by omega
        have h5 : t - 8 < 8 * i := by omega
        have h6 : 8 * (n - i) + (t - 8) = 8 * (n - (i + 1)) + t := by omega
        rw [h6]
        simp [h, h3, h4, h5]
      · have h5 : ¬ t - 8 < 8 * i := by omega
        simp [h, h3, h5]
theorem own_mask : ∀ (n : Fin 8) (t : Fin 64), (((1 : Int64) <<< ((own_i n.1 * (8 : Int32)) &&& 0x3f).toInt64) - (1 : Int64)).toBitVec.getLsbD t.1 = decide (t.1 < 8 * n.1) := by decide +kernel
theorem own_main (q : Int64) (n : Nat) (hn : n ≤ 8) (w : Nat → Int32) (hw : ∀ i, i < n → ∀ t, ((w i &&& (255 : Int32)).toInt64).toBitVec.getLsbD t = (decide (t < 8) && q.toBitVec.getLsbD (8 * (7 - (8 - n + i)) + t))) (mask : Int64) (h : (own_i n = (8 : Int32) ∧ mask = -1) ∨ (¬ own_i n = (8 : Int32) ∧ mask = ((1 : Int64) <<< ((own_i n * (8 : Int32)) &&& 0x3f).toInt64) - (1 : Int64))) : own_acc w n = q &&& mask := by
  apply Int64.toBitVec_inj.mp
  apply BitVec.eq_of_getLsbD_eq
  intro t ht
  rw [own_accb q n hn w hw n (Nat.le_refl _)]
  have e : (q &&& mask).toBitVec = q.toBitVec &&& mask.toBitVec := rfl
  rw [e, BitVec.getLsbD_and, Nat.sub_self, Nat.mul_zero, Nat.zero_add]
  have hc : mask.toBitVec.getLsbD t = decide (t < 8 * n) := by
    rcases h with ⟨h1, rfl⟩ | ⟨h1, rfl⟩
    · have h8 : n = 8 := by
        have : ∀ m : Fin 9, own_i m.1 = 8 → m.1 = 8 := by decide
        exact this ⟨n, by omega⟩ h1
      subst h8
      have : ∀ t : Fin 64, (-1 : Int64).toBitVec.getLsbD t.1 = decide (t.1 < 8 * 8) := by decide +kernel
      exact this ⟨t, ht⟩
    · have h8 : n < 8 := by
        rcases Nat.lt_or_ge n 8 with k | k
        · exact k
        · have : n = 8 := by omega
          subst this
          exact absurd (by decide) h1
      exact own_mask ⟨n, h8⟩ ⟨t, ht⟩
  rw [hc, Bool.and_comm]
theorem own_idx {P n i : Nat} (hP : 1 ≤ P ∧ P ≤ 8) (hn : n ≤ 8) (hi : i < n) : (own_i P + (8 : Int32)) - own_i n + own_i i = own_i (P + (8 - n + i)) := by
  have q : ∀ (n : Fin 9) (i : Fin 9), i.1 < n.1 → ∀ P : Fin 9, (own_i P.1 + (8 : Int32)) - own_i n.1 + own_i i.1 = own_i (P.1 + (8 - n.1 + i.1)) := by decide +kernel
  exact q ⟨n, by omega⟩ ⟨i, by omega⟩ hi ⟨P, by omega⟩
def own_ten (l : List Value) (p : Int32) (x0 x1 x2 x3 x4 x5 x6 x7 x8 x9 : Value) : List Value := (((((((((l.set (p - (1 : Int32)).toNatClampNeg x0).set p.toNatClampNeg x1).set (p + (1 : Int32)).toNatClampNeg x2).set (p + (2 : Int32)).toNatClampNeg x3).set (p + (3 : Int32)).toNatClampNeg x4).set (p + (4 : Int32)).toNatClampNeg x5).set (p + (5 : Int32)).toNatClampNeg x6).set (p + (6 : Int32)).toNatClampNeg x7).set (p + (7 : Int32)).toNatClampNeg x8).set (p + (8 : Int32)).toNatClampNeg x9
def own_tenN (l : List Value) (p : Nat) (x0 x1 x2 x3 x4 x5 x6 x7 x8 x9 : Value) : List Value := (((((((((l.set (p - 1) x0).set p x1).set (p + 1) x2).set (p + 2) x3).set (p + 3) x4).set (p + 4) x5).set (p + 5) x6).set (p + 6) x7).set (p + 7) x8).set (p + 8) x9
theorem own_miss {l : List Value} {i j : Nat} {x d : Value} (h : i ≠ j) : (l.set i x).getD j d = l.getD j d := by
  rw [List.getD_eq_getElem?_getD, List.getD_eq_getElem?_getD, List.getElem?_set_ne h]
theorem own_hit {l : List Value} {i : Nat} {x d : Value} (h : i < l.length) : (l.set i x).getD i d = x := by
  rw [List.getD_eq_getElem?_getD, List.getElem?_set_self h]; rfl
theorem own_tenAt {P : Nat} (hP : 1 ≤ P ∧ P ≤ 8) {m : Nat} (hm : m < 8) (l : List Value) (hl : l.length = 18) (d x0 x1 x2 x3 x4 x5 x6 x7 x8 x9 : Value) :
    (own_tenN l P x0 x1 x2 x3 x4 x5 x6 x7 x8 x9).getD (P + m) d = [x1, x2, x3, x4, x5, x6, x7, x8].getD m d := by
  unfold own_tenN
  match m, hm with
  | 0, _ =>
    iterate 8 rw [own_miss (by omega)]
    exact own_hit (by simp only [List.length_set, hl]; omega)
  | 1, _ =>
    iterate 7 rw [own_miss (by omega)]
    exact own_hit (by simp only [List.length_set, hl]; omega)
  | 2, _ =>
    iterate 6 rw [own_miss (by omega)]
    exact own_hit (by simp only [List.length_set, hl]; omega)
  | 3, _ =>
    iterate 5 rw [own_miss (by omega)]
    exact own_hit (by simp only [List.length_set, hl]; omega)
  | 4, _ =>
    iterate 4 rw [own_miss (by omega)]
    exact own_hit (by simp only [List.length_set, hl]; omega)
  | 5, _ =>
    iterate 3 rw [own_miss (by omega)]
    exact own_hit (by simp only [List.length_set, hl]; omega)
  | 6, _ =>
    iterate 2 rw [own_miss (by omega)]
    exact own_hit (by simp only [List.length_set, hl]; omega)
  | 7, _ =>
    rw [own_miss (by omega)]
    exact own_hit (by simp only [List.length_set, hl]; omega)
theorem own_tens {P : Nat} (hP : 1 ≤ P ∧ P ≤ 8) (l : List Value) (x0 x1 x2 x3 x4 x5 x6 x7 x8 x9 : Value) : own_ten l (own_i P) x0 x1 x2 x3 x4 x5 x6 x7 x8 x9 = own_tenN l P x0 x1 x2 x3 x4 x5 x6 x7 x8 x9 := by
  have q0 : ∀ P : Fin 9, 1 ≤ P.1 → (own_i P.1 - (1 : Int32)).toNatClampNeg = P.1 - 1 := by decide +kernel
  have qs : ∀ (P : Fin 9) (k : Fin 9), (own_i P.1 + own_i k.1).toNatClampNeg = P.1 + k.1 := by decide +kernel
  have qp : ∀ P : Fin 9, (own_i P.1).toNatClampNeg = P.1 := by decide +kernel
  have q := fun k => qs ⟨P, by omega⟩ k
  unfold own_ten own_tenN
  rw [q0 ⟨P, by omega⟩ hP.1, qp ⟨P, by omega⟩]
  have r1 : (own_i P + (1 : Int32)).toNatClampNeg = P + 1 := q 1
  have r2 : (own_i P + (2 : Int32)).toNatClampNeg = P + 2 := q 2
  have r3 : (own_i P + (3 : Int32)).toNatClampNeg = P + 3 := q 3
  have r4 : (own_i P + (4 : Int32)).toNatClampNeg = P + 4 := q 4
  have r5 : (own_i P + (5 : Int32)).toNatClampNeg = P + 5 := q 5
  have r6 : (own_i P + (6 : Int32)).toNatClampNeg = P + 6 := q 6
  have r7 : (own_i P + (7 : Int32)).toNatClampNeg = P + 7 := q 7
  have r8 : (own_i P + (8 : Int32)).toNatClampNeg = P + 8 := q 8
  rw [r1, r2, r3, r4, r5, r6, r7, r8]
theorem own_inb {P m : Nat} (hP : 1 ≤ P ∧ P ≤ 8) (hm : m < 8) : ¬ own_i (P + m) < 0 ∧ own_i (P + m) < (18 : Int32) ∧ (own_i (P + m)).toNatClampNeg = P + m := by
  have q : ∀ k : Fin 16, ¬ own_i k.1 < 0 ∧ own_i k.1 < (18 : Int32) ∧ (own_i k.1).toNatClampNeg = k.1 := by decide +kernel
  exact q ⟨P + m, by omega⟩
theorem own_xat (q : Int64) {m : Nat} (hm : m < 8) (d : Value) : [(Value.int (nar .byte (own_x q 0))), (.int (nar .byte (own_x q 1))), (.int (nar .byte (own_x q 2))), (.int (nar .byte (own_x q 3))), (.int (nar .byte (own_x q 4))), (.int (nar .byte (own_x q 5))), (.int (nar .byte (own_x q 6))), (.int (nar .byte (own_x q 7)))].getD m d = .int (nar .byte (own_x q m)) := by
  match m, hm with
  | 0, _ => rfl
  | 1, _ => rfl
  | 2, _ => rfl
  | 3, _ => rfl
  | 4, _ => rfl
  | 5, _ => rfl
  | 6, _ => rfl
  | 7, _ => rfl
theorem own_in {p : Int32} {P : Nat} (hp : p = own_i P) (hP : 1 ≤ P ∧ P ≤ 8) {n i : Nat} (hn : n ≤ 8) (hi : i < n) (q : Int64) (l : List Value) (hl : l.length = 18) (x0 x9 : Value) :
    ¬ ((p + (8 : Int32)) - own_i n + own_i i) < 0 ∧ ((p + (8 : Int32)) - own_i n + own_i i) < (18 : Int32) ∧ (own_ten l p x0 (.int (nar .byte (own_x q 0))) (.int (nar .byte (own_x q 1))) (.int (nar .byte (own_x q 2))) (.int (nar .byte (own_x q 3))) (.int (nar .byte (own_x q 4))) (.int (nar .byte (own_x q 5))) (.int (nar .byte (own_x q 6))) (.int (nar .byte (own_x q 7))) x9).getD ((p + (8 : Int32)) - own_i n + own_i i).toNatClampNeg (.int (0 : Int32)) = .int (nar .byte (own_x q (8 - n + i))) := by
  subst hp
  have hm : 8 - n + i < 8 := by omega
  obtain ⟨b1, b2, b3⟩ := own_inb hP hm
  rw [own_idx hP hn hi, own_tens hP, b3, own_tenAt hP hm l hl]
  exact ⟨b1, b2, own_xat q hm _⟩
theorem own_P {v : Int32} (h : v = 1 ∨ v = 2 ∨ v = 3 ∨ v = 4 ∨ v = 5 ∨ v = 6 ∨ v = 7 ∨ v = 8) : ∃ P, v = own_i P ∧ 1 ≤ P ∧ P ≤ 8 := by
  rcases h with rfl | rfl | rfl | rfl | rfl | rfl | rfl | rfl
  · exact ⟨1, by decide, by decide, by decide⟩
  · exact ⟨2, by decide, by decide, by decide⟩
  · exact ⟨3, by decide, by decide, by decide⟩
  · exact ⟨4, by decide, by decide, by decide⟩
  · exact ⟨5, by decide, by decide, by decide⟩
  · exact ⟨6, by decide, by decide, by decide⟩
  · exact ⟨7, by decide, by decide, by decide⟩
  · exact ⟨8, by decide, by decide, by decide⟩
theorem own_w (q : Int64) {n : Nat} (hn : n ≤ 8) : ∀ i, i < n → ∀ t, ((nar .byte (own_x q (8 - n + i)) &&& (255 : Int32)).toInt64).toBitVec.getLsbD t = (decide (t < 8) && q.toBitVec.getLsbD (8 * (7 - (8 - n + i)) + t)) := fun i hi t => own_xb q (8 - n + i) (by omega) t
theorem i1_0 : Ins1 prog_30_method_29_code 0 (.lconst 0) 1 1 := ⟨by decide +kernel, rfl⟩
theorem i1_1 : Ins1 prog_30_method_29_code 1 (.lstore_n 3) 1 2 := ⟨by decide +kernel, rfl⟩
theorem i1_2 : Ins1 prog_30_method_29_code 2 (.iconst 0) 1 3 := ⟨by decide +kernel, rfl⟩
theorem i1_3 : Ins1 prog_30_method_29_code 3 (.istore 5) 2 5 := ⟨by decide +kernel, rfl⟩
theorem i1_5 : Ins1 prog_30_method_29_code 5 (.iload 5) 2 7 := ⟨by decide +kernel, rfl⟩
theorem i1_7 : Ins1 prog_30_method_29_code 7 (.iload_n 2) 1 8 := ⟨by decide +kernel, rfl⟩
theorem i1_8 : InsB prog_30_method_29_code 8 (.if_icmp .ge 26) 26 11 34 := ⟨by decide +kernel, rfl, by decide, by decide⟩
theorem i1_11 : Ins1 prog_30_method_29_code 11 (.lload_n 3) 1 12 := ⟨by decide +kernel, rfl⟩
theorem i1_12 : Ins1 prog_30_method_29_code 12 (.bipush 8) 2 14 := ⟨by decide +kernel, rfl⟩
theorem i1_14 : Ins1 prog_30_method_29_code 14 (.lshl) 1 15 := ⟨by decide +kernel, rfl⟩
theorem i1_15 : Ins1 prog_30_method_29_code 15 (.aload_n 0) 1 16 := ⟨by decide +kernel, rfl⟩
theorem i1_16 : Ins1 prog_30_method_29_code 16 (.iload_n 1) 1 17 := ⟨by decide +kernel, rfl⟩
theorem i1_17 : Ins1 prog_30_method_29_code 17 (.iload 5) 2 19 := ⟨by decide +kernel, rfl⟩
theorem i1_19 : Ins1 prog_30_method_29_code 19 (.iadd) 1 20 := ⟨by decide +kernel, rfl⟩
theorem i1_20 : Ins1 prog_30_method_29_code 20 (.baload) 1 21 := ⟨by decide +kernel, rfl⟩
theorem i1_21 : Ins1 prog_30_method_29_code 21 (.sipush 255) 3 24 := ⟨by decide +kernel, rfl⟩
theorem i1_24 : Ins1 prog_30_method_29_code 24 (.iand) 1 25 := ⟨by decide +kernel, rfl⟩
theorem i1_25 : Ins1 prog_30_method_29_code 25 (.i2l) 1 26 := ⟨by decide +kernel, rfl⟩
theorem i1_26 : Ins1 prog_30_method_29_code 26 (.lor) 1 27 := ⟨by decide +kernel, rfl⟩
theorem i1_27 : Ins1 prog_30_method_29_code 27 (.lstore_n 3) 1 28 := ⟨by decide +kernel, rfl⟩
theorem i1_28 : Ins1 prog_30_method_29_code 28 (.iinc 5 1) 3 31 := ⟨by decide +kernel, rfl⟩
theorem i1_31 : InsB prog_30_method_29_code 31 (.goto (-26)) (-26) 34 5 := ⟨by decide +kernel, rfl, by decide, by decide⟩
theorem i1_34 : Ins1 prog_30_method_29_code 34 (.lload_n 3) 1 35 := ⟨by decide +kernel, rfl⟩
theorem i1_35 : Ins1 prog_30_method_29_code 35 (.lreturn) 1 36 := ⟨by decide +kernel, rfl⟩
set_option maxRecDepth 65536 in
set_option maxHeartbeats 40000000 in
theorem lp1 {p : Program} {l : Launch} {e : Env} {R : Room} {s : State} {m : MethodId} {args : Array Value} {below : List Frame} {meth : Method} {c : Code} {locs : List Loc} {cells slots : Nat} {Z : State} {h0 : Heap} {P : State → Prop} (hx : p.tables.exec = Jvm.exec) (hby : c.code = prog_30_method_29_code) (hZ : Z.Warmed39 s.vm) (a : Addr) (kc : ClassId) (z : Int32) (vs : List Value) (dv : Value) (p1 : Int32) (w : Nat → Int32) (n : Nat) (V : Arv Z h0 a kc .byte z vs dv) (hn : n ≤ 8)
    (hin : ∀ i, i < n → ¬ (p1 + own_i i) < 0 ∧ (p1 + own_i i) < z ∧ vs.getD (p1 + own_i i).toNatClampNeg dv = .int (w i)) :
    ∀ (k i : Nat), i + k = n → ∀ T0, Stand p l e R s m args below meth c T0 locs cells slots → T0.heap = h0 → (∀ T', Stand p l e R s m args below meth c T' locs cells slots → T'.heap = h0 → Gd p e below P T' (mkF m 34 #[.val (.ref a), .val (.int p1), .val (.int (own_i n)), .val (.long (own_acc w n)), .second, .val (.int (own_i n))] [])) → Gd p e below P T0 (mkF m 5 #[.val (.ref a), .val (.int p1), .val (.int (own_i n)), .val (.long (own_acc w i)), .second, .val (.int (own_i i))] []) := by
  intro k
  induction k with
  | zero =>
    intro i hi T0 X0 e0 kont
    obtain rfl : i = n := by omega
    refine g_iload X0 hx hby i1_5 rfl ?_
    refine g_iloadN X0 hx hby i1_7 rfl ?_
    refine g_icmp_ge X0 hx hby i1_8 (fun c8_1 => ?_) (fun c8_1 => False.elim (absurd c8_1 (own_irr _)))
    exact kont T0 X0 e0
  | succ k ih =>
    intro i hi T0 X0 e0 kont
    have hlt : i < n := by omega
    obtain ⟨b0, b1, b2⟩ := hin i hlt
    refine g_iload X0 hx hby i1_5 rfl ?_
    refine g_iloadN X0 hx hby i1_7 rfl ?_
    refine g_icmp_ge X0 hx hby i1_8 (fun c8_2 => False.elim (c8_2 (own_lt hlt hn))) fun c8_2 => ?_
    refine g_lloadN X0 hx hby i1_11 rfl ?_
    refine g_bipush X0 hx hby i1_12 (z := (8 : Int32)) (by decide) ?_
    refine g_lshl X0 hx hby i1_14 ?_
    refine g_aloadN X0 hx hby i1_15 rfl rfl ?_
    refine g_iloadN X0 hx hby i1_16 rfl ?_
    refine g_iload X0 hx hby i1_17 rfl ?_
    refine g_iadd X0 hx hby i1_19 ?_
    refine g_baload X0 hx hby hZ e0 V (i := (p1 + own_i i).toNatClampNeg) b0 b1 rfl b2 i1_20 ?_
    refine g_sipush X0 hx hby i1_21 (z := (255 : Int32)) (by decide) ?_
    refine g_iand X0 hx hby i1_24 ?_
    refine g_i2l X0 hx hby i1_25 ?_
    refine g_lor X0 hx hby i1_26 ?_
    refine g_lstoreN X0 hx hby i1_27 (l' := #[.val (.ref a), .val (.int p1), .val (.int (own_i n)), .val (.long (((own_acc w i) <<< ((8 : Int32) &&& 0x3f).toInt64) ||| ((w i) &&& (255 : Int32)).toInt64)), .second, .val (.int (own_i i))]) rfl ?_
    refine g_iinc X0 hx hby i1_28 rfl (z := (own_i (i + 1))) (own_succ i) (l' := #[.val (.ref a), .val (.int p1), .val (.int (own_i n)), .val (.long (((own_acc w i) <<< ((8 : Int32) &&& 0x3f).toInt64) ||| ((w i) &&& (255 : Int32)).toInt64)), .second, .val (.int (own_i (i + 1)))]) rfl ?_
    refine g_goto X0 hx hby i1_31 ?_
    exact ih (i + 1) (by omega) T0 X0 e0 kont
theorem pn_com_example_ariel_ariel_cbor_CborReader : plainName "com/example/ariel/ariel/cbor/CborReader" = true := by first | (simp [plainName, overriddenIn]; done) | decide +kernel
theorem ef_1 (m : MethodId) (a0' : Addr) (p1 : Int32) (p2 : Int32) : entryFrame m #[(.ref a0'), (.int p1), (.int p2)] 6 = mkF m 0 #[.val (.ref a0'), .val (.int p1), .val (.int p2), .unset, .unset, .unset] [] := by first | (simp [entryFrame, mkF, argsToLocals, Value.category]; done) | rfl
set_option maxRecDepth 65536 in
set_option maxHeartbeats 40000000 in
theorem rm1 (l : Launch) (Z : State) (a0 : Array Value) (hw : ∀ d ∈ tables_1, d.before a0 Z = true) (ws : List Jvm.Cond) (a0' : Addr) (p1 : Int32) (p2 : Int32) (kc : ClassId) (z : Int32) (vs : List Value) (dv : Value) (w : Nat → Int32) (n : Nat) (h0 : Heap) (n0 : Nat) (Z0 : n0 ≤ h0.size) (V : Arv Z h0 a0' kc .byte z vs dv) (hn : n ≤ 8) (hp2 : p2 = own_i n) (hin : ∀ i, i < n → ¬ (p1 + own_i i) < 0 ∧ (p1 + own_i i) < z ∧ vs.getD (p1 + own_i i).toNatClampNeg dv = .int (w i)) :
    Met1 l (⟨"com/example/ariel/ariel/cbor/CborReader", "bigEndian", "([BII)J"⟩ : MethodName) prog_30_method_29_code 6 (some .long) ws ({ frames := 0, cells := 0, slots := 0, locals := 0 } : Room) #[(.ref a0'), (.int p1), (.int p2)] Z h0 (RV fun v h L => v = .long (own_acc w n) ∧ h = h0 ∧ Fr n0 L) := by
  refine met_of (plainFor_of_name pn_com_example_ariel_ariel_cbor_CborReader) ?_
  intro p e s m below meth c T0 X0 hx hby hml hZ hown hnm hret hlk e0 es
  have N0 := Fr.nil n0
  refine Gd.cast (ef_1 m a0' p1 p2) ?_
  subst hp2
  refine g_lconst X0 hx hby i1_0 (z := (0 : Int64)) (by decide) ?_
  refine g_lstoreN X0 hx hby i1_1 (l' := #[.val (.ref a0'), .val (.int p1), .val (.int (own_i n)), .val (.long (0 : Int64)), .second, .unset]) rfl ?_
  refine g_iconst X0 hx hby i1_2 (z := (0 : Int32)) (by decide) ?_
  refine g_istore X0 hx hby i1_3 (l' := #[.val (.ref a0'), .val (.int p1), .val (.int (own_i n)), .val (.long (0 : Int64)), .second, .val (.int (0 : Int32))]) rfl ?_
  refine lp1 hx hby hZ a0' kc z vs dv p1 w n V hn hin n 0 (Nat.zero_add n) T0 X0 e0 fun T1 X1 e1 => ?_
  refine g_lloadN X1 hx hby i1_34 rfl ?_
  refine g_lreturn X1 hx hby hret hlk i1_35 (by decide) (by decide) ?_
  exact ⟨_, rfl, rfl, e1, N0⟩
theorem i0_0 : Ins1 code 0 (.iload_n 3) 1 1 := ⟨at_0, rfl⟩
theorem i0_1 : Ins1 code 1 (.ldc 7) 2 3 := ⟨at_1, rfl⟩
theorem i0_3 : Ins1 code 3 (.iand) 1 4 := ⟨at_3, rfl⟩
theorem i0_4 : Ins1 code 4 (.bipush 9) 2 6 := ⟨at_4, rfl⟩
theorem i0_6 : Ins1 code 6 (.irem) 1 7 := ⟨at_6, rfl⟩
theorem i0_7 : Ins1 code 7 (.istore 5) 2 9 := ⟨at_7, rfl⟩
theorem i0_9 : Ins1 code 9 (.iconst 1) 1 10 := ⟨at_9, rfl⟩
theorem i0_10 : Ins1 code 10 (.iload_n 2) 1 11 := ⟨at_10, rfl⟩
theorem i0_11 : Ins1 code 11 (.bipush 7) 2 13 := ⟨at_11, rfl⟩
theorem i0_13 : Ins1 code 13 (.iand) 1 14 := ⟨at_13, rfl⟩
theorem i0_14 : Ins1 code 14 (.iadd) 1 15 := ⟨at_14, rfl⟩
theorem i0_15 : Ins1 code 15 (.istore 6) 2 17 := ⟨at_15, rfl⟩
theorem i0_17 : Ins1 code 17 (.bipush 18) 2 19 := ⟨at_17, rfl⟩
theorem i0_19 : Ins1 code 19 (.newarray .byte) 2 21 := ⟨at_19, rfl⟩
theorem i0_21 : Ins1 code 21 (.astore 7) 2 23 := ⟨at_21, rfl⟩
theorem i0_23 : Ins1 code 23 (.aload 7) 2 25 := ⟨at_23, rfl⟩
theorem i0_25 : Ins1 code 25 (.iload 6) 2 27 := ⟨at_25, rfl⟩
theorem i0_27 : Ins1 code 27 (.iconst 1) 1 28 := ⟨at_27, rfl⟩
theorem i0_28 : Ins1 code 28 (.isub) 1 29 := ⟨at_28, rfl⟩
theorem i0_29 : Ins1 code 29 (.iload 4) 2 31 := ⟨at_29, rfl⟩
theorem i0_31 : Ins1 code 31 (.i2b) 1 32 := ⟨at_31, rfl⟩
theorem i0_32 : Ins1 code 32 (.bastore) 1 33 := ⟨at_32, rfl⟩
theorem i0_33 : Ins1 code 33 (.aload 7) 2 35 := ⟨at_33, rfl⟩
theorem i0_35 : Ins1 code 35 (.iload 6) 2 37 := ⟨at_35, rfl⟩
theorem i0_37 : Ins1 code 37 (.lload_n 0) 1 38 := ⟨at_37, rfl⟩
theorem i0_38 : Ins1 code 38 (.bipush 56) 2 40 := ⟨at_38, rfl⟩
theorem i0_40 : Ins1 code 40 (.lushr) 1 41 := ⟨at_40, rfl⟩
theorem i0_41 : Ins1 code 41 (.l2i) 1 42 := ⟨at_41, rfl⟩
theorem i0_42 : Ins1 code 42 (.i2b) 1 43 := ⟨at_42, rfl⟩
theorem i0_43 : Ins1 code 43 (.bastore) 1 44 := ⟨at_43, rfl⟩
theorem i0_44 : Ins1 code 44 (.aload 7) 2 46 := ⟨at_44, rfl⟩
theorem i0_46 : Ins1 code 46 (.iload 6) 2 48 := ⟨at_46, rfl⟩
theorem i0_48 : Ins1 code 48 (.iconst 1) 1 49 := ⟨at_48, rfl⟩
theorem i0_49 : Ins1 code 49 (.iadd) 1 50 := ⟨at_49, rfl⟩
theorem i0_50 : Ins1 code 50 (.lload_n 0) 1 51 := ⟨at_50, rfl⟩
theorem i0_51 : Ins1 code 51 (.bipush 48) 2 53 := ⟨at_51, rfl⟩
theorem i0_53 : Ins1 code 53 (.lushr) 1 54 := ⟨at_53, rfl⟩
theorem i0_54 : Ins1 code 54 (.l2i) 1 55 := ⟨at_54, rfl⟩
theorem i0_55 : Ins1 code 55 (.i2b) 1 56 := ⟨at_55, rfl⟩
theorem i0_56 : Ins1 code 56 (.bastore) 1 57 := ⟨at_56, rfl⟩
theorem i0_57 : Ins1 code 57 (.aload 7) 2 59 := ⟨at_57, rfl⟩
theorem i0_59 : Ins1 code 59 (.iload 6) 2 61 := ⟨at_59, rfl⟩
theorem i0_61 : Ins1 code 61 (.iconst 2) 1 62 := ⟨at_61, rfl⟩
theorem i0_62 : Ins1 code 62 (.iadd) 1 63 := ⟨at_62, rfl⟩
theorem i0_63 : Ins1 code 63 (.lload_n 0) 1 64 := ⟨at_63, rfl⟩
theorem i0_64 : Ins1 code 64 (.bipush 40) 2 66 := ⟨at_64, rfl⟩
theorem i0_66 : Ins1 code 66 (.lushr) 1 67 := ⟨at_66, rfl⟩
theorem i0_67 : Ins1 code 67 (.l2i) 1 68 := ⟨at_67, rfl⟩
theorem i0_68 : Ins1 code 68 (.i2b) 1 69 := ⟨at_68, rfl⟩
theorem i0_69 : Ins1 code 69 (.bastore) 1 70 := ⟨at_69, rfl⟩
theorem i0_70 : Ins1 code 70 (.aload 7) 2 72 := ⟨at_70, rfl⟩
theorem i0_72 : Ins1 code 72 (.iload 6) 2 74 := ⟨at_72, rfl⟩
theorem i0_74 : Ins1 code 74 (.iconst 3) 1 75 := ⟨at_74, rfl⟩
theorem i0_75 : Ins1 code 75 (.iadd) 1 76 := ⟨at_75, rfl⟩
theorem i0_76 : Ins1 code 76 (.lload_n 0) 1 77 := ⟨at_76, rfl⟩
theorem i0_77 : Ins1 code 77 (.bipush 32) 2 79 := ⟨at_77, rfl⟩
theorem i0_79 : Ins1 code 79 (.lushr) 1 80 := ⟨at_79, rfl⟩
theorem i0_80 : Ins1 code 80 (.l2i) 1 81 := ⟨at_80, rfl⟩
theorem i0_81 : Ins1 code 81 (.i2b) 1 82 := ⟨at_81, rfl⟩
theorem i0_82 : Ins1 code 82 (.bastore) 1 83 := ⟨at_82, rfl⟩
theorem i0_83 : Ins1 code 83 (.aload 7) 2 85 := ⟨at_83, rfl⟩
theorem i0_85 : Ins1 code 85 (.iload 6) 2 87 := ⟨at_85, rfl⟩
theorem i0_87 : Ins1 code 87 (.iconst 4) 1 88 := ⟨at_87, rfl⟩
theorem i0_88 : Ins1 code 88 (.iadd) 1 89 := ⟨at_88, rfl⟩
theorem i0_89 : Ins1 code 89 (.lload_n 0) 1 90 := ⟨at_89, rfl⟩
theorem i0_90 : Ins1 code 90 (.bipush 24) 2 92 := ⟨at_90, rfl⟩
theorem i0_92 : Ins1 code 92 (.lushr) 1 93 := ⟨at_92, rfl⟩
theorem i0_93 : Ins1 code 93 (.l2i) 1 94 := ⟨at_93, rfl⟩
theorem i0_94 : Ins1 code 94 (.i2b) 1 95 := ⟨at_94, rfl⟩
theorem i0_95 : Ins1 code 95 (.bastore) 1 96 := ⟨at_95, rfl⟩
theorem i0_96 : Ins1 code 96 (.aload 7) 2 98 := ⟨at_96, rfl⟩
theorem i0_98 : Ins1 code 98 (.iload 6) 2 100 := ⟨at_98, rfl⟩
theorem i0_100 : Ins1 code 100 (.iconst 5) 1 101 := ⟨at_100, rfl⟩
theorem i0_101 : Ins1 code 101 (.iadd) 1 102 := ⟨at_101, rfl⟩
theorem i0_102 : Ins1 code 102 (.lload_n 0) 1 103 := ⟨at_102, rfl⟩
theorem i0_103 : Ins1 code 103 (.bipush 16) 2 105 := ⟨at_103, rfl⟩
theorem i0_105 : Ins1 code 105 (.lushr) 1 106 := ⟨at_105, rfl⟩
theorem i0_106 : Ins1 code 106 (.l2i) 1 107 := ⟨at_106, rfl⟩
theorem i0_107 : Ins1 code 107 (.i2b) 1 108 := ⟨at_107, rfl⟩
theorem i0_108 : Ins1 code 108 (.bastore) 1 109 := ⟨at_108, rfl⟩
theorem i0_109 : Ins1 code 109 (.aload 7) 2 111 := ⟨at_109, rfl⟩
theorem i0_111 : Ins1 code 111 (.iload 6) 2 113 := ⟨at_111, rfl⟩
theorem i0_113 : Ins1 code 113 (.bipush 6) 2 115 := ⟨at_113, rfl⟩
theorem i0_115 : Ins1 code 115 (.iadd) 1 116 := ⟨at_115, rfl⟩
theorem i0_116 : Ins1 code 116 (.lload_n 0) 1 117 := ⟨at_116, rfl⟩
theorem i0_117 : Ins1 code 117 (.bipush 8) 2 119 := ⟨at_117, rfl⟩
theorem i0_119 : Ins1 code 119 (.lushr) 1 120 := ⟨at_119, rfl⟩
theorem i0_120 : Ins1 code 120 (.l2i) 1 121 := ⟨at_120, rfl⟩
theorem i0_121 : Ins1 code 121 (.i2b) 1 122 := ⟨at_121, rfl⟩
theorem i0_122 : Ins1 code 122 (.bastore) 1 123 := ⟨at_122, rfl⟩
theorem i0_123 : Ins1 code 123 (.aload 7) 2 125 := ⟨at_123, rfl⟩
theorem i0_125 : Ins1 code 125 (.iload 6) 2 127 := ⟨at_125, rfl⟩
theorem i0_127 : Ins1 code 127 (.bipush 7) 2 129 := ⟨at_127, rfl⟩
theorem i0_129 : Ins1 code 129 (.iadd) 1 130 := ⟨at_129, rfl⟩
theorem i0_130 : Ins1 code 130 (.lload_n 0) 1 131 := ⟨at_130, rfl⟩
theorem i0_131 : Ins1 code 131 (.l2i) 1 132 := ⟨at_131, rfl⟩
theorem i0_132 : Ins1 code 132 (.i2b) 1 133 := ⟨at_132, rfl⟩
theorem i0_133 : Ins1 code 133 (.bastore) 1 134 := ⟨at_133, rfl⟩
theorem i0_134 : Ins1 code 134 (.aload 7) 2 136 := ⟨at_134, rfl⟩
theorem i0_136 : Ins1 code 136 (.iload 6) 2 138 := ⟨at_136, rfl⟩
theorem i0_138 : Ins1 code 138 (.bipush 8) 2 140 := ⟨at_138, rfl⟩
theorem i0_140 : Ins1 code 140 (.iadd) 1 141 := ⟨at_140, rfl⟩
theorem i0_141 : Ins1 code 141 (.iload 4) 2 143 := ⟨at_141, rfl⟩
theorem i0_143 : Ins1 code 143 (.bipush 8) 2 145 := ⟨at_143, rfl⟩
theorem i0_145 : Ins1 code 145 (.iushr) 1 146 := ⟨at_145, rfl⟩
theorem i0_146 : Ins1 code 146 (.i2b) 1 147 := ⟨at_146, rfl⟩
theorem i0_147 : Ins1 code 147 (.bastore) 1 148 := ⟨at_147, rfl⟩
theorem i0_148 : Ins1 code 148 (.iload 5) 2 150 := ⟨at_148, rfl⟩
theorem i0_150 : Ins1 code 150 (.bipush 8) 2 152 := ⟨at_150, rfl⟩
theorem i0_152 : InsB code 152 (.if_icmp .ne 9) 9 155 161 := ⟨at_152, rfl, by decide, by decide⟩
theorem i0_155 : Ins1 code 155 (.ldc2_w 8) 3 158 := ⟨at_155, rfl⟩
theorem i0_158 : InsB code 158 (.goto 12) 12 161 170 := ⟨at_158, rfl, by decide, by decide⟩
theorem i0_161 : Ins1 code 161 (.lconst 1) 1 162 := ⟨at_161, rfl⟩
theorem i0_162 : Ins1 code 162 (.iload 5) 2 164 := ⟨at_162, rfl⟩
theorem i0_164 : Ins1 code 164 (.bipush 8) 2 166 := ⟨at_164, rfl⟩
theorem i0_166 : Ins1 code 166 (.imul) 1 167 := ⟨at_166, rfl⟩
theorem i0_167 : Ins1 code 167 (.lshl) 1 168 := ⟨at_167, rfl⟩
theorem i0_168 : Ins1 code 168 (.lconst 1) 1 169 := ⟨at_168, rfl⟩
theorem i0_169 : Ins1 code 169 (.lsub) 1 170 := ⟨at_169, rfl⟩
theorem i0_170 : Ins1 code 170 (.lstore 8) 2 172 := ⟨at_170, rfl⟩
theorem i0_172 : Ins1 code 172 (.lload_n 0) 1 173 := ⟨at_172, rfl⟩
theorem i0_173 : Ins1 code 173 (.lload 8) 2 175 := ⟨at_173, rfl⟩
theorem i0_175 : Ins1 code 175 (.land) 1 176 := ⟨at_175, rfl⟩
theorem i0_176 : Ins1 code 176 (.lstore 10) 2 178 := ⟨at_176, rfl⟩
theorem i0_178 : Ins1 code 178 (.aload 7) 2 180 := ⟨at_178, rfl⟩
theorem i0_180 : Ins1 code 180 (.iload 6) 2 182 := ⟨at_180, rfl⟩
theorem i0_182 : Ins1 code 182 (.bipush 8) 2 184 := ⟨at_182, rfl⟩
theorem i0_184 : Ins1 code 184 (.iadd) 1 185 := ⟨at_184, rfl⟩
theorem i0_185 : Ins1 code 185 (.iload 5) 2 187 := ⟨at_185, rfl⟩
theorem i0_187 : Ins1 code 187 (.isub) 1 188 := ⟨at_187, rfl⟩
theorem i0_188 : Ins1 code 188 (.iload 5) 2 190 := ⟨at_188, rfl⟩
theorem i0_190 : Ins1 code 190 (.invokestatic 10) 3 193 := ⟨at_190, rfl⟩
theorem i0_193 : Ins1 code 193 (.lstore 12) 2 195 := ⟨at_193, rfl⟩
theorem i0_195 : Ins1 code 195 (.lload 12) 2 197 := ⟨at_195, rfl⟩
theorem i0_197 : Ins1 code 197 (.lload 10) 2 199 := ⟨at_197, rfl⟩
theorem i0_199 : Ins1 code 199 (.lcmp) 1 200 := ⟨at_199, rfl⟩
theorem i0_200 : InsB code 200 (.ifCond .ne 7) 7 203 207 := ⟨at_200, rfl, by decide, by decide⟩
theorem i0_203 : Ins1 code 203 (.iconst 1) 1 204 := ⟨at_203, rfl⟩
theorem i0_204 : InsB code 204 (.goto 4) 4 207 208 := ⟨at_204, rfl, by decide, by decide⟩
theorem i0_207 : Ins1 code 207 (.iconst 0) 1 208 := ⟨at_207, rfl⟩
theorem i0_208 : Ins1 code 208 (.ireturn) 1 209 := ⟨at_208, rfl⟩
theorem pn_com_example_ariel_ariel_cbor_CborReaderBigEndianPinLaw : plainName "com/example/ariel/ariel/cbor/CborReaderBigEndianPinLaw" = true := by first | (simp [plainName, overriddenIn]; done) | decide +kernel
theorem ef_0 (m : MethodId) (q0 : Int64) (p1 : Int32) (p2 : Int32) (p3 : Int32) : entryFrame m #[(.long q0), (.int p1), (.int p2), (.int p3)] maxLocals = mkF m 0 #[.val (.long q0), .second, .val (.int p1), .val (.int p2), .val (.int p3), .unset, .unset, .unset, .unset, .unset, .unset, .unset, .unset, .unset] [] := by first | (simp [entryFrame, mkF, argsToLocals, Value.category, maxLocals]; done) | rfl
theorem pd_0 : parseMethodDescriptor "([BII)J" = some ⟨[(.array .byte), .int, .int], some .long⟩ := by decide +kernel
set_option maxRecDepth 65536 in
set_option maxHeartbeats 40000000 in
theorem rm0 (l : Launch) (Z : State) (a0 : Array Value) (hw : ∀ d ∈ tables_1, d.before a0 Z = true) (ws : List Jvm.Cond) (q0 : Int64) (p1 : Int32) (p2 : Int32) (p3 : Int32)  (h0 : Heap) (n0 : Nat) (Z0 : n0 ≤ h0.size)  :
    Met1 l x code maxLocals ret ws room_1 #[(.long q0), (.int p1), (.int p2), (.int p3)] Z h0 (RV fun z _ L => z = .int 1 ∧ Fr n0 L) := by
  refine met_of (plainFor_of_name pn_com_example_ariel_ariel_cbor_CborReaderBigEndianPinLaw) ?_
  intro p e s m below meth c T0 X0 hx hby hml hZ hown hnm hret hlk e0 es
  have N0 := Fr.nil n0
  refine Gd.cast (ef_0 m q0 p1 p2 p3) ?_
  replace hown : s.vm.findClass "com/example/ariel/ariel/cbor/CborReaderBigEndianPinLaw" = some m.cls := hown
  refine g_iloadN X0 hx hby i0_0 rfl ?_
  refine g_ldcInt X0 hx hby hZ hown (hw _ (List.mem_of_getElem? (i := 0) rfl)) i0_1 ?_
  refine g_iand X0 hx hby i0_3 ?_
  refine g_bipush X0 hx hby i0_4 (z := (9 : Int32)) (by decide) ?_
  refine g_irem X0 hx hby i0_6 (by decide) ?_
  refine g_istoreW X0 hx hby i0_7 (l' := fun v1 => #[.val (.long q0), .second, .val (.int p1), .val (.int p2), .val (.int p3), .val (.int v1), .unset, .unset, .unset, .unset, .unset, .unset, .unset, .unset]) (fun _ => rfl) fun v1 hv1 => ?_
  refine g_iconst X0 hx hby i0_9 (z := (1 : Int32)) (by decide) ?_
  refine g_iloadN X0 hx hby i0_10 rfl ?_
  refine g_bipush X0 hx hby i0_11 (z := (7 : Int32)) (by decide) ?_
  refine g_iand X0 hx hby i0_13 ?_
  refine g_iadd X0 hx hby i0_14 ?_
  refine g_istoreW X0 hx hby i0_15 (l' := fun v2 => #[.val (.long q0), .second, .val (.int p1), .val (.int p2), .val (.int p3), .val (.int v1), .val (.int v2), .unset, .unset, .unset, .unset, .unset, .unset, .unset]) (fun _ => rfl) fun v2 hv2 => ?_
  have hp := own_p hv2
  refine g_bipush X0 hx hby i0_17 (z := (18 : Int32)) (by decide) ?_
  refine g_newarray X0 hx hby hZ (ty := .byte) rfl (hw _ (List.mem_of_getElem? (i := 1) rfl)) e0 i0_19 (by decide) 18 (by decide) (by decide) (by decide) (by decide) fun T3 h3 b3 k3 X3 e3 E3 hb3 V3 => ?_
  have g_b3 : n0 ≤ b3 := Nat.le_trans Z0 (Nat.le_of_eq hb3.symm)
  have Z0 : n0 ≤ h3.size := Nat.le_trans Z0 E3.1
  have V3 : Arv Z h3 b3 k3 .byte (18 : Int32) [(.int (0 : Int32)), (.int (0 : Int32)), (.int (0 : Int32)), (.int (0 : Int32)), (.int (0 : Int32)), (.int (0 : Int32)), (.int (0 : Int32)), (.int (0 : Int32)), (.int (0 : Int32)), (.int (0 : Int32)), (.int (0 : Int32)), (.int (0 : Int32)), (.int (0 : Int32)), (.int (0 : Int32)), (.int (0 : Int32)), (.int (0 : Int32)), (.int (0 : Int32)), (.int (0 : Int32))] (.int (0 : Int32)) := V3.pad (pad_rep [] _ 18)
  refine g_astore X3 hx hby i0_21 rfl (l' := #[.val (.long q0), .second, .val (.int p1), .val (.int p2), .val (.int p3), .val (.int v1), .val (.int v2), .val (.ref b3), .unset, .unset, .unset, .unset, .unset, .unset]) rfl ?_
  refine g_aload X3 hx hby i0_23 rfl rfl ?_
  refine g_iload X3 hx hby i0_25 rfl ?_
  refine g_iconst X3 hx hby i0_27 (z := (1 : Int32)) (by decide) ?_
  refine g_isub X3 hx hby i0_28 ?_
  refine g_iload X3 hx hby i0_29 rfl ?_
  refine g_i2b X3 hx hby i0_31 ?_
  refine g_bastore X3 hx hby hZ e3 V3 (i := (v2 - (1 : Int32)).toNatClampNeg) (by rcases hp with rfl | rfl | rfl | rfl | rfl | rfl | rfl | rfl <;> decide) (by rcases hp with rfl | rfl | rfl | rfl | rfl | rfl | rfl | rfl <;> decide) rfl (own_hl (by first | rfl | simp only [List.length_set] <;> rfl) (by rcases hp with rfl | rfl | rfl | rfl | rfl | rfl | rfl | rfl <;> decide)) i0_32 fun T5 h5 X5 e5 W5 V3 => ?_
  have Z0 : n0 ≤ h5.size := Nat.le_trans Z0 (Nat.le_of_eq W5.size.symm)
  have N0 := Fr.snoc X5 N0 g_b3
  refine g_aload X5 hx hby i0_33 rfl rfl ?_
  refine g_iload X5 hx hby i0_35 rfl ?_
  refine g_lloadN X5 hx hby i0_37 rfl ?_
  refine g_bipush X5 hx hby i0_38 (z := (56 : Int32)) (by decide) ?_
  refine g_lushr X5 hx hby i0_40 ?_
  refine g_l2i X5 hx hby i0_41 ?_
  refine g_i2b X5 hx hby i0_42 ?_
  refine g_bastore X5 hx hby hZ e5 V3 (i := v2.toNatClampNeg) (by rcases hp with rfl | rfl | rfl | rfl | rfl | rfl | rfl | rfl <;> decide) (by rcases hp with rfl | rfl | rfl | rfl | rfl | rfl | rfl | rfl <;> decide) rfl (own_hl (by first | rfl | simp only [List.length_set] <;> rfl) (by rcases hp with rfl | rfl | rfl | rfl | rfl | rfl | rfl | rfl <;> decide)) i0_43 fun T7 h7 X7 e7 W7 V3 => ?_
  have Z0 : n0 ≤ h7.size := Nat.le_trans Z0 (Nat.le_of_eq W7.size.symm)
  have N0 := Fr.snoc X7 N0 g_b3
  refine g_aload X7 hx hby i0_44 rfl rfl ?_
  refine g_iload X7 hx hby i0_46 rfl ?_
  refine g_iconst X7 hx hby i0_48 (z := (1 : Int32)) (by decide) ?_
  refine g_iadd X7 hx hby i0_49 ?_
  refine g_lloadN X7 hx hby i0_50 rfl ?_
  refine g_bipush X7 hx hby i0_51 (z := (48 : Int32)) (by decide) ?_
  refine g_lushr X7 hx hby i0_53 ?_
  refine g_l2i X7 hx hby i0_54 ?_
  refine g_i2b X7 hx hby i0_55 ?_
  refine g_bastore X7 hx hby hZ e7 V3 (i := (v2 + (1 : Int32)).toNatClampNeg) (by rcases hp with rfl | rfl | rfl | rfl | rfl | rfl | rfl | rfl <;> decide) (by rcases hp with rfl | rfl | rfl | rfl | rfl | rfl | rfl | rfl <;> decide) rfl (own_hl (by first | rfl | simp only [List.length_set] <;> rfl) (by rcases hp with rfl | rfl | rfl | rfl | rfl | rfl | rfl | rfl <;> decide)) i0_56 fun T9 h9 X9 e9 W9 V3 => ?_
  have Z0 : n0 ≤ h9.size := Nat.le_trans Z0 (Nat.le_of_eq W9.size.symm)
  have N0 := Fr.snoc X9 N0 g_b3
  refine g_aload X9 hx hby i0_57 rfl rfl ?_
  refine g_iload X9 hx hby i0_59 rfl ?_
  refine g_iconst X9 hx hby i0_61 (z := (2 : Int32)) (by decide) ?_
  refine g_iadd X9 hx hby i0_62 ?_
  refine g_lloadN X9 hx hby i0_63 rfl ?_
  refine g_bipush X9 hx hby i0_64 (z := (40 : Int32)) (by decide) ?_
  refine g_lushr X9 hx hby i0_66 ?_
  refine g_l2i X9 hx hby i0_67 ?_
  refine g_i2b X9 hx hby i0_68 ?_
  refine g_bastore X9 hx hby hZ e9 V3 (i := (v2 + (2 : Int32)).toNatClampNeg) (by rcases hp with rfl | rfl | rfl | rfl | rfl | rfl | rfl | rfl <;> decide) (by rcases hp with rfl | rfl | rfl | rfl | rfl | rfl | rfl | rfl <;> decide) rfl (own_hl (by first | rfl | simp only [List.length_set] <;> rfl) (by rcases hp with rfl | rfl | rfl | rfl | rfl | rfl | rfl | rfl <;> decide)) i0_69 fun T11 h11 X11 e11 W11 V3 => ?_
  have Z0 : n0 ≤ h11.size := Nat.le_trans Z0 (Nat.le_of_eq W11.size.symm)
  have N0 := Fr.snoc X11 N0 g_b3
  refine g_aload X11 hx hby i0_70 rfl rfl ?_
  refine g_iload X11 hx hby i0_72 rfl ?_
  refine g_iconst X11 hx hby i0_74 (z := (3 : Int32)) (by decide) ?_
  refine g_iadd X11 hx hby i0_75 ?_
  refine g_lloadN X11 hx hby i0_76 rfl ?_
  refine g_bipush X11 hx hby i0_77 (z := (32 : Int32)) (by decide) ?_
  refine g_lushr X11 hx hby i0_79 ?_
  refine g_l2i X11 hx hby i0_80 ?_
  refine g_i2b X11 hx hby i0_81 ?_
  refine g_bastore X11 hx hby hZ e11 V3 (i := (v2 + (3 : Int32)).toNatClampNeg) (by rcases hp with rfl | rfl | rfl | rfl | rfl | rfl | rfl | rfl <;> decide) (by rcases hp with rfl | rfl | rfl | rfl | rfl | rfl | rfl | rfl <;> decide) rfl (own_hl (by first | rfl | simp only [List.length_set] <;> rfl) (by rcases hp with rfl | rfl | rfl | rfl | rfl | rfl | rfl | rfl <;> decide)) i0_82 fun T13 h13 X13 e13 W13 V3 => ?_
  have Z0 : n0 ≤ h13.size := Nat.le_trans Z0 (Nat.le_of_eq W13.size.symm)
  have N0 := Fr.snoc X13 N0 g_b3
  refine g_aload X13 hx hby i0_83 rfl rfl ?_
  refine g_iload X13 hx hby i0_85 rfl ?_
  refine g_iconst X13 hx hby i0_87 (z := (4 : Int32)) (by decide) ?_
  refine g_iadd X13 hx hby i0_88 ?_
  refine g_lloadN X13 hx hby i0_89 rfl ?_
  refine g_bipush X13 hx hby i0_90 (z := (24 : Int32)) (by decide) ?_
  refine g_lushr X13 hx hby i0_92 ?_
  refine g_l2i X13 hx hby i0_93 ?_
  refine g_i2b X13 hx hby i0_94 ?_
  refine g_bastore X13 hx hby hZ e13 V3 (i := (v2 + (4 : Int32)).toNatClampNeg) (by rcases hp with rfl | rfl | rfl | rfl | rfl | rfl | rfl | rfl <;> decide) (by rcases hp with rfl | rfl | rfl | rfl | rfl | rfl | rfl | rfl <;> decide) rfl (own_hl (by first | rfl | simp only [List.length_set] <;> rfl) (by rcases hp with rfl | rfl | rfl | rfl | rfl | rfl | rfl | rfl <;> decide)) i0_95 fun T15 h15 X15 e15 W15 V3 => ?_
  have Z0 : n0 ≤ h15.size := Nat.le_trans Z0 (Nat.le_of_eq W15.size.symm)
  have N0 := Fr.snoc X15 N0 g_b3
  refine g_aload X15 hx hby i0_96 rfl rfl ?_
  refine g_iload X15 hx hby i0_98 rfl ?_
  refine g_iconst X15 hx hby i0_100 (z := (5 : Int32)) (by decide) ?_
  refine g_iadd X15 hx hby i0_101 ?_
  refine g_lloadN X15 hx hby i0_102 rfl ?_
  refine g_bipush X15 hx hby i0_103 (z := (16 : Int32)) (by decide) ?_
  refine g_lushr X15 hx hby i0_105 ?_
  refine g_l2i X15 hx hby i0_106 ?_
  refine g_i2b X15 hx hby i0_107 ?_
  refine g_bastore X15 hx hby hZ e15 V3 (i := (v2 + (5 : Int32)).toNatClampNeg) (by rcases hp with rfl | rfl | rfl | rfl | rfl | rfl | rfl | rfl <;> decide) (by rcases hp with rfl | rfl | rfl | rfl | rfl | rfl | rfl | rfl <;> decide) rfl (own_hl (by first | rfl | simp only [List.length_set] <;> rfl) (by rcases hp with rfl | rfl | rfl | rfl | rfl | rfl | rfl | rfl <;> decide)) i0_108 fun T17 h17 X17 e17 W17 V3 => ?_
  have Z0 : n0 ≤ h17.size := Nat.le_trans Z0 (Nat.le_of_eq W17.size.symm)
  have N0 := Fr.snoc X17 N0 g_b3
  refine g_aload X17 hx hby i0_109 rfl rfl ?_
  refine g_iload X17 hx hby i0_111 rfl ?_
  refine g_bipush X17 hx hby i0_113 (z := (6 : Int32)) (by decide) ?_
  refine g_iadd X17 hx hby i0_115 ?_
  refine g_lloadN X17 hx hby i0_116 rfl ?_
  refine g_bipush X17 hx hby i0_117 (z := (8 : Int32)) (by decide) ?_
  refine g_lushr X17 hx hby i0_119 ?_
  refine g_l2i X17 hx hby i0_120 ?_
  refine g_i2b X17 hx hby i0_121 ?_
  refine g_bastore X17 hx hby hZ e17 V3 (i := (v2 + (6 : Int32)).toNatClampNeg) (by rcases hp with rfl | rfl | rfl | rfl | rfl | rfl | rfl | rfl <;> decide) (by rcases hp with rfl | rfl | rfl | rfl | rfl | rfl | rfl | rfl <;> decide) rfl (own_hl (by first | rfl | simp only [List.length_set] <;> rfl) (by rcases hp with rfl | rfl | rfl | rfl | rfl | rfl | rfl | rfl <;> decide)) i0_122 fun T19 h19 X19 e19 W19 V3 => ?_
  have Z0 : n0 ≤ h19.size := Nat.le_trans Z0 (Nat.le_of_eq W19.size.symm)
  have N0 := Fr.snoc X19 N0 g_b3
  refine g_aload X19 hx hby i0_123 rfl rfl ?_
  refine g_iload X19 hx hby i0_125 rfl ?_
  refine g_bipush X19 hx hby i0_127 (z := (7 : Int32)) (by decide) ?_
  refine g_iadd X19 hx hby i0_129 ?_
  refine g_lloadN X19 hx hby i0_130 rfl ?_
  refine g_l2i X19 hx hby i0_131 ?_
  refine g_i2b X19 hx hby i0_132 ?_
  refine g_bastore X19 hx hby hZ e19 V3 (i := (v2 + (7 : Int32)).toNatClampNeg) (by rcases hp with rfl | rfl | rfl | rfl | rfl | rfl | rfl | rfl <;> decide) (by rcases hp with rfl | rfl | rfl | rfl | rfl | rfl | rfl | rfl <;> decide) rfl (own_hl (by first | rfl | simp only [List.length_set] <;> rfl) (by rcases hp with rfl | rfl | rfl | rfl | rfl | rfl | rfl | rfl <;> decide)) i0_133 fun T21 h21 X21 e21 W21 V3 => ?_
  have Z0 : n0 ≤ h21.size := Nat.le_trans Z0 (Nat.le_of_eq W21.size.symm)
  have N0 := Fr.snoc X21 N0 g_b3
  refine g_aload X21 hx hby i0_134 rfl rfl ?_
  refine g_iload X21 hx hby i0_136 rfl ?_
  refine g_bipush X21 hx hby i0_138 (z := (8 : Int32)) (by decide) ?_
  refine g_iadd X21 hx hby i0_140 ?_
  refine g_iload X21 hx hby i0_141 rfl ?_
  refine g_bipush X21 hx hby i0_143 (z := (8 : Int32)) (by decide) ?_
  refine g_iushr X21 hx hby i0_145 ?_
  refine g_i2b X21 hx hby i0_146 ?_
  refine g_bastore X21 hx hby hZ e21 V3 (i := (v2 + (8 : Int32)).toNatClampNeg) (by rcases hp with rfl | rfl | rfl | rfl | rfl | rfl | rfl | rfl <;> decide) (by rcases hp with rfl | rfl | rfl | rfl | rfl | rfl | rfl | rfl <;> decide) rfl (own_hl (by first | rfl | simp only [List.length_set] <;> rfl) (by rcases hp with rfl | rfl | rfl | rfl | rfl | rfl | rfl | rfl <;> decide)) i0_147 fun T23 h23 X23 e23 W23 V3 => ?_
  have Z0 : n0 ≤ h23.size := Nat.le_trans Z0 (Nat.le_of_eq W23.size.symm)
  have N0 := Fr.snoc X23 N0 g_b3
  refine g_iload X23 hx hby i0_148 rfl ?_
  refine g_bipush X23 hx hby i0_150 (z := (8 : Int32)) (by decide) ?_
  refine g_icmp_ne X23 hx hby i0_152 (fun c152_24 => ?_) (fun c152_24 => ?_)
  · refine g_lconst X23 hx hby i0_161 (z := (1 : Int64)) (by decide) ?_
    refine g_iload X23 hx hby i0_162 rfl ?_
    refine g_bipush X23 hx hby i0_164 (z := (8 : Int32)) (by decide) ?_
    refine g_imul X23 hx hby i0_166 ?_
    refine g_lshl X23 hx hby i0_167 ?_
    refine g_lconst X23 hx hby i0_168 (z := (1 : Int64)) (by decide) ?_
    refine g_lsub X23 hx hby i0_169 ?_
    refine g_lstoreW X23 hx hby i0_170 (l' := fun v25 => #[.val (.long q0), .second, .val (.int p1), .val (.int p2), .val (.int p3), .val (.int v1), .val (.int v2), .val (.ref b3), .val (.long v25), .second, .unset, .unset, .unset, .unset]) (fun _ => rfl) fun v25 hv25 => ?_
    refine g_lloadN X23 hx hby i0_172 rfl ?_
    refine g_lload X23 hx hby i0_173 rfl ?_
    refine g_land X23 hx hby i0_175 ?_
    refine g_lstoreW X23 hx hby i0_176 (l' := fun v26 => #[.val (.long q0), .second, .val (.int p1), .val (.int p2), .val (.int p3), .val (.int v1), .val (.int v2), .val (.ref b3), .val (.long v25), .second, .val (.long v26), .second, .unset, .unset]) (fun _ => rfl) fun v26 hv26 => ?_
    refine g_aload X23 hx hby i0_178 rfl rfl ?_
    refine g_iload X23 hx hby i0_180 rfl ?_
    refine g_bipush X23 hx hby i0_182 (z := (8 : Int32)) (by decide) ?_
    refine g_iadd X23 hx hby i0_184 ?_
    refine g_iload X23 hx hby i0_185 rfl ?_
    refine g_isub X23 hx hby i0_187 ?_
    refine g_iload X23 hx hby i0_188 rfl ?_
    obtain ⟨n, hn, hsn⟩ := own_s hv1
    obtain ⟨P, hpP⟩ := own_P hp
    refine g_callS0 X23 hx hby hZ (y := (⟨"com/example/ariel/ariel/cbor/CborReader", "bigEndian", "([BII)J"⟩ : MethodName)) (argsL := [(.ref b3), (.int ((v2 + (8 : Int32)) - v1)), (.int v1)]) (rest := []) hown (hw _ (List.mem_of_getElem? (i := 2) rfl)) (hw _ (List.mem_of_getElem? (i := 3) rfl)) (hw _ (List.mem_of_getElem? (i := 4) rfl)) (hw _ (List.mem_of_getElem? (i := 5) rfl)) (by decide) (rm1 l Z a0 hw [] b3 ((v2 + (8 : Int32)) - v1) v1 k3 (18 : Int32) _ (.int (0 : Int32)) (fun i => nar .byte (own_x q0 (8 - n + i))) n h23 n0 Z0 V3 hn hsn (fun i hi => by rw [hsn]; exact own_in hpP.1 hpP.2 hn hi q0 _ rfl _ _)) e23 (by rw [hml]; rfl) pd_0 rfl rfl i0_190 (by decide) 0 rfl (by decide) (by decide) (by decide) fun T27 v27 L27 X27 q27 => ?_
    obtain ⟨_, rfl, rfl, e27, N27⟩ := q27
    have N0 := Fr.app N0 N27
    show Gd p e below _ T27 (mkF m 193 #[.val (.long q0), .second, .val (.int p1), .val (.int p2), .val (.int p3), .val (.int v1), .val (.int v2), .val (.ref b3), .val (.long v25), .second, .val (.long v26), .second, .unset, .unset] [(.long (own_acc (fun i => nar .byte (own_x q0 (8 - n + i))) n))])
    refine g_lstoreW X27 hx hby i0_193 (l' := fun v28 => #[.val (.long q0), .second, .val (.int p1), .val (.int p2), .val (.int p3), .val (.int v1), .val (.int v2), .val (.ref b3), .val (.long v25), .second, .val (.long v26), .second, .val (.long v28), .second]) (fun _ => rfl) fun v28 hv28 => ?_
    refine g_lload X27 hx hby i0_195 rfl ?_
    refine g_lload X27 hx hby i0_197 rfl ?_
    refine g_lcmp_ne X27 hx hby i0_199 i0_200 (fun c199_29 => False.elim (c199_29 (by rw [hv28, hv26]; exact own_main q0 n hn _ (own_w q0 hn) _ (Or.inr ⟨by rw [← hsn]; exact c152_24, by rw [hv25, hsn]⟩)))) fun c199_29 => ?_
    refine g_iconst X27 hx hby i0_203 (z := (1 : Int32)) (by decide) ?_
    refine g_goto X27 hx hby i0_204 ?_
    refine g_ireturnN X27 hx hby (ty := .boolean) hret (by simp) hlk i0_208 (by decide) (by decide) ?_
    exact ⟨_, rfl, rfl, N0⟩
  · refine g_ldc2Long X23 hx hby hZ hown (hw _ (List.mem_of_getElem? (i := 6) rfl)) i0_155 ?_
    refine g_goto X23 hx hby i0_158 ?_
    refine g_lstore X23 hx hby i0_170 (l' := #[.val (.long q0), .second, .val (.int p1), .val (.int p2), .val (.int p3), .val (.int v1), .val (.int v2), .val (.ref b3), .val (.long (-1 : Int64)), .second, .unset, .unset, .unset, .unset]) rfl ?_
    refine g_lloadN X23 hx hby i0_172 rfl ?_
    refine g_lload X23 hx hby i0_173 rfl ?_
    refine g_land X23 hx hby i0_175 ?_
    refine g_lstoreW X23 hx hby i0_176 (l' := fun v30 => #[.val (.long q0), .second, .val (.int p1), .val (.int p2), .val (.int p3), .val (.int v1), .val (.int v2), .val (.ref b3), .val (.long (-1 : Int64)), .second, .val (.long v30), .second, .unset, .unset]) (fun _ => rfl) fun v30 hv30 => ?_
    refine g_aload X23 hx hby i0_178 rfl rfl ?_
    refine g_iload X23 hx hby i0_180 rfl ?_
    refine g_bipush X23 hx hby i0_182 (z := (8 : Int32)) (by decide) ?_
    refine g_iadd X23 hx hby i0_184 ?_
    refine g_iload X23 hx hby i0_185 rfl ?_
    refine g_isub X23 hx hby i0_187 ?_
    refine g_iload X23 hx hby i0_188 rfl ?_
    obtain ⟨n, hn, hsn⟩ := own_s hv1
    obtain ⟨P, hpP⟩ := own_P hp
    refine g_callS0 X23 hx hby hZ (y := (⟨"com/example/ariel/ariel/cbor/CborReader", "bigEndian", "([BII)J"⟩ : MethodName)) (argsL := [(.ref b3), (.int ((v2 + (8 : Int32)) - v1)), (.int v1)]) (rest := []) hown (hw _ (List.mem_of_getElem? (i := 2) rfl)) (hw _ (List.mem_of_getElem? (i := 3) rfl)) (hw _ (List.mem_of_getElem? (i := 4) rfl)) (hw _ (List.mem_of_getElem? (i := 5) rfl)) (by decide) (rm1 l Z a0 hw [] b3 ((v2 + (8 : Int32)) - v1) v1 k3 (18 : Int32) _ (.int (0 : Int32)) (fun i => nar .byte (own_x q0 (8 - n + i))) n h23 n0 Z0 V3 hn hsn (fun i hi => by rw [hsn]; exact own_in hpP.1 hpP.2 hn hi q0 _ rfl _ _)) e23 (by rw [hml]; rfl) pd_0 rfl rfl i0_190 (by decide) 0 rfl (by decide) (by decide) (by decide) fun T31 v31 L31 X31 q31 => ?_
    obtain ⟨_, rfl, rfl, e31, N31⟩ := q31
    have N0 := Fr.app N0 N31
    show Gd p e below _ T31 (mkF m 193 #[.val (.long q0), .second, .val (.int p1), .val (.int p2), .val (.int p3), .val (.int v1), .val (.int v2), .val (.ref b3), .val (.long (-1 : Int64)), .second, .val (.long v30), .second, .unset, .unset] [(.long (own_acc (fun i => nar .byte (own_x q0 (8 - n + i))) n))])
    refine g_lstoreW X31 hx hby i0_193 (l' := fun v32 => #[.val (.long q0), .second, .val (.int p1), .val (.int p2), .val (.int p3), .val (.int v1), .val (.int v2), .val (.ref b3), .val (.long (-1 : Int64)), .second, .val (.long v30), .second, .val (.long v32), .second]) (fun _ => rfl) fun v32 hv32 => ?_
    refine g_lload X31 hx hby i0_195 rfl ?_
    refine g_lload X31 hx hby i0_197 rfl ?_
    refine g_lcmp_ne X31 hx hby i0_199 i0_200 (fun c199_33 => False.elim (c199_33 (by rw [hv32, hv30]; exact own_main q0 n hn _ (own_w q0 hn) _ (Or.inl ⟨by rw [← hsn]; exact c152_24, rfl⟩)))) fun c199_33 => ?_
    refine g_iconst X31 hx hby i0_203 (z := (1 : Int32)) (by decide) ?_
    refine g_goto X31 hx hby i0_204 ?_
    refine g_ireturnN X31 hx hby (ty := .boolean) hret (by simp) hlk i0_208 (by decide) (by decide) ?_
    exact ⟨_, rfl, rfl, N0⟩
set_option maxRecDepth 65536 in
set_option maxHeartbeats 40000000 in
theorem comes_1 {Post : Tables → Env → Array Value → State → Outcome → State → Prop} (hpost : ∀ tb e args s v u, (limb_1_1.after args s (.returned v) u = true ∧ limb_1_2.after args s (.returned v) u = true ∧ True) → FrameEnd s (.returned v) u (Jvm.fieldLocs frame_1_writes args s ++ Jvm.arrayLocs frame_1_arrays args s ++ Jvm.staticLocs frame_1_statics s) 16 128 → Post tb e args s (.returned v) u) :
    ArmFor flags0 classFile x code maxLocals ret World_1 tables_1 room_1 Calls_1 rest_1 Pre_1 Post := by
  intro l hfl _ _ p e ha hc hk s m args below hf hA hF happ hP
  obtain ⟨hcalls, hrest, hpre⟩ := hP
  obtain ⟨-, -, -, hnamed, -, -, -, hat⟩ := (Spec.applies_iff hf).mp happ
  obtain ⟨hg, hn⟩ := and_e (Cond.before_iff.mp (show (Jvm.Cond.and given_1 narrow_1).before args s = true from hpre))
  obtain ⟨hcount, g0⟩ := and_e hg
  obtain ⟨a0, g1⟩ := and_e g0
  obtain ⟨a1, g2⟩ := and_e g1
  obtain ⟨a2, g3⟩ := and_e g2
  obtain ⟨w0, w1, w2, w3, rfl⟩ : ∃ w0 w1 w2 w3 : Value, args = #[w0, w1, w2, w3] := by
    have hs : args.size = 4 := by simpa [Cond.value, given_1] using hcount
    obtain ⟨L⟩ := args
    match L, hs with
    | [w0, w1, w2, w3], _ => exact ⟨w0, w1, w2, w3, rfl⟩
  have hw := fun d (hd : d ∈ tables_1) => atoms_spec (ws := Jvm.Cond.code x code maxLocals ret :: tables_1) hat d (List.mem_cons_of_mem _ hd)
  have hfit : Fit s := fun {y c} hc i hi => by
    obtain ⟨ha, rfl⟩ := Array.getElem?_eq_some_iff.mp hc
    have q := List.all_eq_true.mp ((Array.all_eq_true_iff_forall_mem.mp hF) _ (Array.getElem_mem ha)) i (List.mem_range.mpr hi)
    simpa [Array.getElem?_eq_getElem hi] using q
  obtain ⟨i0, ei0⟩ := isL_v a0
  obtain rfl : w0 = (.long i0) := Option.some.inj ei0
  obtain ⟨i1, ei1⟩ := is_v a1
  obtain rfl : w1 = (.int i1) := Option.some.inj ei1
  obtain ⟨i2, ei2⟩ := is_v a2
  obtain rfl : w2 = (.int i2) := Option.some.inj ei2
  obtain ⟨i3, ei3⟩ := is_v g3
  obtain rfl : w3 = (.int i3) := Option.some.inj ei3
  obtain ⟨n, o, h1, h2, h3, _, L, rfl, ⟨_, rfl, rfl, N⟩, hq⟩ := rm0 l s _ hw tables_1 i0 i1 i2 i3 s.heap s.heap.size (Nat.le_refl _)  p e ha hc hk s m _ below hf ((Spec.applies_iff_loose hf).mp happ).1 ⟨rfl, State.Warmed39.refl s, rfl⟩ trivial
  refine ⟨n, _, h1, h2, h3, hpost _ _ _ _ _ _ ⟨Cond.after_iff.mpr rfl, Cond.after_iff.mpr (eq_i res_at (Term.int_eval (1)) rfl), trivial⟩ ⟨hq.1, hq.2.1, (hq.2.2.sift fun y hy => Or.inr (N y hy)).mono (by decide) (by decide)⟩⟩
theorem main_1_1 : Claimed_1_1 := comes_1 fun _ _ _ _ _ _ h hF => ⟨h.1, hF⟩
theorem main_1_2 : Claimed_1_2 := comes_1 fun _ _ _ _ _ _ h hF => ⟨h.2.1, hF⟩
end Jvm.Pilot.@@N@@
namespace Jvm.Pilot.@@N@@
open Jvm Jvm.ClassFile Sem Op Lib Jvm.Free Jvm.Stand Jvm.Pilot.@@N@@.Jvm.D
/-! MADE BY PROGRAM (witnessworld.py) out of the Statement's table words and the real class files: 9 classes; the members and pool entries that the words name. The judged class is class 1, her method 1. -/
namespace start1
open Jvm.ClassFile
def u (s : String) : CpInfo := .utf8 (stringToUtf16 s)
/-- a pool by its gaps: so many unusable entries, then the entry; so many at the end -/
def gap : Nat → List CpInfo → List CpInfo
  | 0, r => r
  | n + 1, r => .unusable :: gap n r
def poolList (es : List (Nat × CpInfo)) (last : Nat) : List CpInfo := es.foldr (fun e r => gap e.1 (e.2 :: r)) (gap last [])
def pool (es : List (Nat × CpInfo)) (last : Nat) : Array CpInfo := ⟨poolList es last⟩
def fileOf (pool : Array CpInfo) (this : Nat) (attrs : Array Attribute := #[]) (ms : Array MethodInfo := #[]) (fl : Nat := 33) (sup : Nat := 0) (ifs : Array Nat := #[]) (fds : Array FieldInfo := #[]) : ClassFile where
  minorVersion := 0
  majorVersion := 65
  constantPool := pool
  accessFlags := fl
  thisClass := this
  superClass := sup
  interfaces := ifs
  fields := fds
  methods := ms
  attributes := attrs
def plain (name : String) (sup : Option ClassId) : Class where
  name := name
  kind := .ordinary
  loader := none
  accessFlags := 33
  super := sup
  interfaces := #[]
  cf := none
  fields := #[]
  methods := #[]
  instanceTypes := #[]
  staticTypes := #[]
  resolved := #[]
  callSites := []
  init := .initialized
  statics := none
  mirror := none

def pool0 : Array CpInfo := pool [(5, u "<init>"), (0, u "()V"), (1, .class_ 10), (1, u "java/lang/Object")] 113

def k0m0 : Method := { name := "<init>", desc := "()V", sig := { parameters := [], returnType := none }, accessFlags := 1, code := none }
/-- java/lang/Object -/
def k0 : Class := { plain "java/lang/Object" none with
  accessFlags := 33
  interfaces := #[]
  cf := some (fileOf pool0 8 #[] #[{ accessFlags := 1, nameIndex := 5, descriptorIndex := 6, attributes := #[] }] 33 0 #[] #[])
  fields := #[]
  methods := #[k0m0]
  instanceTypes := #[]
  staticTypes := #[]
  resolved := Array.replicate 124 none
  statics := none }

def pool1 : Array CpInfo := pool [(2, .class_ 4), (1, u "java/lang/Object"), (0, u "<init>"), (0, u "()V"), (0, .integer 2147483647), (0, .long 18446744073709551615), (1, .methodref 11 12), (0, .class_ 13), (0, .nameAndType 14 15), (0, u "com/example/ariel/ariel/cbor/CborReader"), (0, u "bigEndian"), (0, u "([BII)J"), (0, .class_ 17), (0, u "com/example/ariel/ariel/cbor/CborReaderBigEndianPinLaw"), (2, u "law"), (0, u "(JIII)Z")] 5

def k1m0 : Method := { name := "<init>", desc := "()V", sig := { parameters := [], returnType := none }, accessFlags := 2, code := none }
def k1c1 : Code := { maxStack := 5, maxLocals := 14, code := code, exceptionTable := #[], attributes := #[] }
def k1m1 : Method := { name := "law", desc := "(JIII)Z", sig := { parameters := [.long, .int, .int, .int], returnType := some .boolean }, accessFlags := 9, code := some k1c1 }
/-- com/example/ariel/ariel/cbor/CborReaderBigEndianPinLaw -/
def k1 : Class := { plain "com/example/ariel/ariel/cbor/CborReaderBigEndianPinLaw" (some 0) with
  accessFlags := 49
  interfaces := #[]
  cf := some (fileOf pool1 16 #[] #[{ accessFlags := 2, nameIndex := 5, descriptorIndex := 6, attributes := #[] }, { accessFlags := 9, nameIndex := 20, descriptorIndex := 21, attributes := #[] }] 49 2 #[] #[])
  fields := #[]
  methods := #[k1m0, k1m1]
  instanceTypes := #[]
  staticTypes := #[]
  resolved := Array.replicate 27 none
  statics := none }

def pool2 : Array CpInfo := pool [(5, .class_ 7), (1, u "com/example/ariel/ariel/cbor/CborReader"), (6, .class_ 16), (1, u "java/lang/Object"), (13, u "source"), (0, u "[B"), (2, u "position"), (0, u "I"), (2, u "limit"), (2, u "maxItems"), (2, u "abridged"), (0, u "Z"), (2, u "chunkedLengths"), (0, u "[J"), (29, u "itemsLeft"), (4, .class_ 85), (0, u "com/example/ariel/ariel/cbor/CborReader$Truncated"), (2, u "TRUNCATED"), (0, u "Lcom/example/ariel/ariel/cbor/CborReader$Truncated;"), (142, u "chunkedRead"), (96, u "bigEndian"), (0, u "([BII)J"), (16, u "MAX_DEPTH"), (2, u "BREAK"), (1, u "INDEFINITE"), (1, u "UNTIL_BREAK")] 43

def k2c0 : Code := { maxStack := 5, maxLocals := 6, code := prog_30_method_29_code, exceptionTable := #[], attributes := #[] }
def k2m0 : Method := { name := "bigEndian", desc := "([BII)J", sig := { parameters := [(.array .byte), .int, .int], returnType := some .long }, accessFlags := 8, code := some k2c0 }
/-- com/example/ariel/ariel/cbor/CborReader -/
def k2 : Class := { plain "com/example/ariel/ariel/cbor/CborReader" (some 0) with
  accessFlags := 49
  interfaces := #[]
  cf := some (fileOf pool2 5 #[.nestMembers #[84]] #[{ accessFlags := 8, nameIndex := 329, descriptorIndex := 330, attributes := #[] }] 49 14 #[] #[{ accessFlags := 25, nameIndex := 347, descriptorIndex := 35, attributes := #[] }, { accessFlags := 24, nameIndex := 350, descriptorIndex := 35, attributes := #[] }, { accessFlags := 24, nameIndex := 352, descriptorIndex := 35, attributes := #[] }, { accessFlags := 26, nameIndex := 354, descriptorIndex := 35, attributes := #[] }, { accessFlags := 26, nameIndex := 88, descriptorIndex := 89, attributes := #[] }, { accessFlags := 18, nameIndex := 30, descriptorIndex := 31, attributes := #[] }, { accessFlags := 18, nameIndex := 38, descriptorIndex := 35, attributes := #[] }, { accessFlags := 18, nameIndex := 41, descriptorIndex := 35, attributes := #[] }, { accessFlags := 18, nameIndex := 44, descriptorIndex := 45, attributes := #[] }, { accessFlags := 18, nameIndex := 48, descriptorIndex := 49, attributes := #[] }, { accessFlags := 2, nameIndex := 232, descriptorIndex := 35, attributes := #[] }, { accessFlags := 2, nameIndex := 34, descriptorIndex := 35, attributes := #[] }, { accessFlags := 2, nameIndex := 79, descriptorIndex := 35, attributes := #[] }])
  fields := #[{ name := "MAX_DEPTH", type := .int, accessFlags := 25, slot := 0, constantValue := 0 }, { name := "BREAK", type := .int, accessFlags := 24, slot := 1, constantValue := 0 }, { name := "INDEFINITE", type := .int, accessFlags := 24, slot := 2, constantValue := 0 }, { name := "UNTIL_BREAK", type := .int, accessFlags := 26, slot := 3, constantValue := 0 }, { name := "TRUNCATED", type := (.object "com/example/ariel/ariel/cbor/CborReader$Truncated"), accessFlags := 26, slot := 4, constantValue := 0 }, { name := "source", type := (.array .byte), accessFlags := 18, slot := 0, constantValue := 0 }, { name := "limit", type := .int, accessFlags := 18, slot := 1, constantValue := 0 }, { name := "maxItems", type := .int, accessFlags := 18, slot := 2, constantValue := 0 }, { name := "abridged", type := .boolean, accessFlags := 18, slot := 3, constantValue := 0 }, { name := "chunkedLengths", type := (.array .long), accessFlags := 18, slot := 4, constantValue := 0 }, { name := "chunkedRead", type := .int, accessFlags := 2, slot := 5, constantValue := 0 }, { name := "position", type := .int, accessFlags := 2, slot := 6, constantValue := 0 }, { name := "itemsLeft", type := .int, accessFlags := 2, slot := 7, constantValue := 0 }]
  methods := #[k2m0]
  instanceTypes := #[(.array .byte), .int, .int, .boolean, (.array .long), .int, .int, .int]
  staticTypes := #[.int, .int, .int, .int, (.object "com/example/ariel/ariel/cbor/CborReader$Truncated")]
  resolved := Array.replicate 398 none
  statics := none }

def pool3 : Array CpInfo := pool [(1, u "java/lang/Cloneable"), (0, .class_ 1), (0, u "java/lang/Object"), (0, .class_ 3)] 3

/-- java/lang/Cloneable -/
def k3 : Class := { plain "java/lang/Cloneable" (some 0) with
  accessFlags := 1537
  interfaces := #[]
  cf := some (fileOf pool3 2 #[] #[] 1537 4 #[] #[])
  fields := #[]
  methods := #[]
  instanceTypes := #[]
  staticTypes := #[]
  resolved := Array.replicate 8 none
  statics := none }

def pool4 : Array CpInfo := pool [(1, u "java/io/Serializable"), (0, .class_ 1), (0, u "java/lang/Object"), (0, .class_ 3)] 3

/-- java/io/Serializable -/
def k4 : Class := { plain "java/io/Serializable" (some 0) with
  accessFlags := 1537
  interfaces := #[]
  cf := some (fileOf pool4 2 #[] #[] 1537 4 #[] #[])
  fields := #[]
  methods := #[]
  instanceTypes := #[]
  staticTypes := #[]
  resolved := Array.replicate 8 none
  statics := none }

/-- the primitive byte -/
def k5 : Class := { plain "byte" none with kind := .primitive 'B', accessFlags := 0x411 }
/-- [B -/
def k6 : Class := { plain "[B" (some 0) with kind := .array 5 .byte, interfaces := #[3, 4], accessFlags := 1041 }

/-- the primitive int -/
def k7 : Class := { plain "int" none with kind := .primitive 'I', accessFlags := 0x411 }
/-- [I -/
def k8 : Class := { plain "[I" (some 0) with kind := .array 7 .int, interfaces := #[3, 4], accessFlags := 1041 }

def heap : Heap := #[]
def classes : Array Class := #[k0, k1, k2, k3, k4, k5, k6, k7, k8]
def interned : List (Array UInt16 × Addr) := []
def slotsUsed : Nat := 0
def theMethod : MethodId := ⟨1, 1⟩
def args0 : Array Value := #[.long 5, .int 4, .int 3, .int 9]
def aboutOver (below : List Frame) : State where
  vm := { classes := classes, interned := interned.toArray }
  heap := heap
  slotsUsed := slotsUsed
  threads := #[{ frames := .invoking theMethod args0 :: below }]
def below0 : List Frame := [.native { method := ⟨0, 0⟩, args := #[] }]
def about1 : State := aboutOver below0
def p0 : Program := .bare "" "" ""
def e0 : Env := launch0.env 0 0 0
theorem w_frames : about1.frames = Frame.invoking theMethod args0 :: below0 := rfl
set_option maxRecDepth 65536 in
theorem w_args : argsFit about1.vm theMethod args0 = true := by decide +kernel
set_option maxRecDepth 65536 in
theorem w_heap : heapFits about1 = true := by decide +kernel
set_option maxRecDepth 65536 in
theorem w_runnable : about1.curStatus? = some .runnable := by decide +kernel
set_option maxRecDepth 65536 in
theorem w_alone : about1.alone = true := by decide +kernel
set_option maxRecDepth 65536 in
theorem w_named : about1.methodNamed? x = some theMethod := by decide +kernel
set_option maxRecDepth 65536 in
theorem w_hears : about1.hears theMethod below0 = true := by decide +kernel
set_option maxRecDepth 65536 in
theorem w_ripe : about1.ripe theMethod args0 below0 = true := by decide +kernel
theorem w_running : about1.status = .running := rfl
set_option maxRecDepth 65536 in
theorem w_room : about1.hasRoom e0.platform room_1 = true :=
  launch0.hasRoom_least _ room_1 (by decide +kernel) (by decide +kernel) (by decide +kernel) (by decide +kernel) (by decide +kernel) (by decide +kernel)
theorem allAtoms_all (ts : List Jvm.Cond) (a : Array Jvm.Value) (st : Jvm.State) : (allAtoms ts).before a st = ts.all (fun c => c.before a st) := by
  induction ts with
  | nil => rfl
  | cons c t ih =>
    show (Jvm.Cond.and c (allAtoms t)).before a st = _
    rw [Jvm.Cond.before_and, ih, List.all_cons]
def words1 : List Jvm.Cond := Jvm.Cond.code x code maxLocals ret :: tables_1
/-- a 'code' word, met by the world's own term for the bytes: nothing is compared byte by byte -/
theorem code_word {y : MethodName} {bytes : ByteArray} {mx : Nat} {rt : Option FieldType} {a : Array Value} {s : State} {m : MethodId} {meth : Method} {c : Code} (h1 : s.methodNamed? y = some m) (h2 : s.vm.method? m = some meth) (h3 : meth.code = some c) (h4 : c.code = bytes)
    (h5 : (c.maxLocals == mx && c.exceptionTable.isEmpty && decide (c.maxStack ≤ mostOperands) && decide (meth.sig.returnType = rt) && !meth.locks && decide (parseMethodDescriptor y.desc = some meth.sig)) = true) : (Jvm.Cond.code y bytes mx rt).before a s = true := by
  simp only [Bool.and_eq_true, beq_iff_eq, Bool.not_eq_true', decide_eq_true_eq] at h5
  obtain ⟨⟨⟨⟨⟨g1, g2⟩, g3⟩, g4⟩, g5⟩, g6⟩ := h5
  simp [Cond.before, Cond.holds, Cond.value, h1, h2, h3, h4, g1, g2, g3, g4, g5, g6]
def isCode : Jvm.Cond → Bool
  | .code _ _ _ _ => true
  | _ => false
theorem all_split {L : List Jvm.Cond} {P : Jvm.Cond → Bool} (h1 : L.all (fun c => isCode c || P c) = true) (h2 : ∀ c ∈ L.filter isCode, P c = true) : L.all P = true := by
  refine List.all_eq_true.mpr fun c hc => ?_
  have h := List.all_eq_true.mp h1 c hc
  rcases Bool.eq_false_or_eq_true (isCode c) with hi | hi
  · exact h2 c (List.mem_filter.mpr ⟨hc, hi⟩)
  · simpa [hi] using h
set_option maxRecDepth 65536 in
theorem w_c0 : (Jvm.Cond.code x code maxLocals ret).before args0 about1 = true := code_word (m := ⟨1, 1⟩) (meth := k1m1) (c := k1c1) (by decide +kernel) rfl rfl rfl (by decide +kernel)
set_option maxRecDepth 65536 in
theorem w_c1 : (Jvm.Cond.code ({ cls := "com/example/ariel/ariel/cbor/CborReader", name := "bigEndian", desc := "([BII)J" } : Jvm.MethodName) prog_30_method_29_code (6 : Nat) (Option.some Jvm.ClassFile.FieldType.long)).before args0 about1 = true := code_word (m := ⟨2, 0⟩) (meth := k2m0) (c := k2c0) (by decide +kernel) rfl rfl rfl (by decide +kernel)
def codes1 : List Jvm.Cond := [Jvm.Cond.code x code maxLocals ret, Jvm.Cond.code ({ cls := "com/example/ariel/ariel/cbor/CborReader", name := "bigEndian", desc := "([BII)J" } : Jvm.MethodName) prog_30_method_29_code (6 : Nat) (Option.some Jvm.ClassFile.FieldType.long)]
set_option maxRecDepth 65536 in
theorem codes_eq : words1.filter isCode = codes1 := rfl
theorem w_codes : ∀ c ∈ words1.filter isCode, c.before args0 about1 = true := by
  rw [codes_eq]
  intro c hc
  simp only [codes1, List.mem_cons, List.not_mem_nil, or_false] at hc
  rcases hc with rfl | rfl
  · exact w_c0
  · exact w_c1
set_option maxRecDepth 65536 in
theorem w_t1 : words1.all (fun c => isCode c || c.before args0 about1) = true := by decide +kernel
theorem w_tables : (allAtoms (Jvm.Cond.code x code maxLocals ret :: tables_1)).before args0 about1 = true := by
  rw [allAtoms_all]
  show words1.all (fun c => c.before args0 about1) = true
  refine all_split ?_ w_codes
  rw [w_t1]
set_option maxRecDepth 65536 in
theorem w_case : (Jvm.Cond.and given_1 narrow_1).before args0 about1 = true := by decide +kernel
theorem w_applies : (headSpec (Jvm.Cond.code x code maxLocals ret :: tables_1) room_1).applies x e0.platform about1 = true :=
  (Spec.applies_iff w_frames).mpr ⟨w_running, w_runnable, w_alone, w_named, w_hears, w_ripe, w_room, w_tables⟩
theorem atStart : AtStart classFile x code maxLocals ret World_1 tables_1 room_1 Calls_1 rest_1 Pre_1 launch0 p0 e0 about1 theMethod args0 below0 :=
  ⟨lists_1, trivial, launch0.admits_env _ _ _, launch0.least_env, fairChoices_fair.cas, fairChoices_fair.clock, w_frames, w_args, w_heap, w_applies, trivial, trivial, w_case⟩
end start1
theorem witness_1 : WitnessClaimed_1 := ⟨start1.p0, start1.e0, start1.about1, start1.theMethod, start1.args0, start1.below0, start1.atStart⟩
end Jvm.Pilot.@@N@@
