import JvmDerived
import JvmDerived.Pilot.@@N@@Statement
import JvmDerived.Pilot.@@N@@Code
set_option linter.unusedVariables false
set_option linter.unusedSimpArgs false
namespace Jvm.Pilot.@@N@@
open Jvm Jvm.ClassFile Sem Op Lib Jvm.Free Jvm.Stand Jvm.LawKit Jvm.RoadKit Bundle Jvm.Pilot.@@N@@.Jvm.D
def own_Fin (p : Program) (e : Env) (below : List Frame) (E : Outcome → State → Prop) (σ : State) : Prop :=
  ∃ s₂ o, Steps p.tables e below σ s₂ ∧ s₂.status = .running ∧ Ended s₂ below o ∧ E o s₂
def own_End (s : State) (Q : Option Value → Heap → List Loc → Prop) (kc ks : Nat) (o : Outcome) (t : State) : Prop :=
  ∃ v L, o = .returned v ∧ Q v t.heap L ∧ FrameEnd s o t L kc ks
def own_Met (l : Launch) (Z : State) (y : MethodName) (bytes : ByteArray) (maxL : Nat) (ret : Option FieldType) (rm : Room) (as' : Array Value) (h : Heap) (Q : Option Value → Heap → List Loc → Prop) : Prop :=
  ∀ ws : List Jvm.Cond, MetFree l y (head1 (Jvm.Cond.code y bytes maxL ret :: ws) rm) (fun a U => a = as' ∧ Z.Warmed39 U.vm ∧ U.heap = h) (fun _ _ _ _ _ => True) (fun _ U o U' => ∃ v L, o = .returned v ∧ Q v U'.heap L ∧ FrameEnd U o U' L rm.cells rm.slots)
section Own
variable {p : Program} {l : Launch} {e : Env} {R : Room} {s : State} {m : MethodId} {args : Array Value} {below : List Frame} {meth : Method} {c : Code} {T : State} {locs : List Loc} {cells slots : Nat} {E : Outcome → State → Prop} {Q : Option Value → Heap → List Loc → Prop} {kc ks : Nat} {Z : State} {a0 : Array Value} {h : Heap} {pc : Nat} {Ls : Array Slot} {st : List Value}
theorem own_via {σ σ' : State} (h : own_Fin p e below E σ') (k : ∀ t, Steps p.tables e below σ' t → Steps p.tables e below σ t) : own_Fin p e below E σ := by
  obtain ⟨s₂, o, h1, r⟩ := h
  exact ⟨s₂, o, k _ h1, r⟩
theorem own_mono {σ : State} {Q' : Option Value → Heap → List Loc → Prop} (k : ∀ v h L, Q v h L → Q' v h L) (h : own_Fin p e below (own_End s Q kc ks) σ) : own_Fin p e below (own_End s Q' kc ks) σ := by
  obtain ⟨s₂, o, h1, h2, h3, v, L, h4, h5, r⟩ := h
  exact ⟨s₂, o, h1, h2, h3, v, L, h4, k _ _ _ h5, r⟩
theorem own_body {y : MethodName} {bytes : ByteArray} {maxL : Nat} {ret : Option FieldType} {rm : Room} {as' : Array Value} (hp : plainFor y = true) (hef : ∀ m, entryFrame m as' maxL = mkF m 0 Ls [])
    (K : ∀ (p : Program) (e : Env) (s : State) (m : MethodId) (below : List Frame) (meth : Method) (c : Code) (s₁ : State), p.tables.exec = Jvm.exec → Z.Warmed39 s.vm → c.code = bytes → c.maxLocals = maxL → s.vm.findClass y.cls = some m.cls → meth.name = y.name → meth.sig.returnType = ret → meth.locks = false →
      Stand p l e rm s m as' below meth c s₁ [] 0 0 → s₁.heap = h → own_Fin p e below (own_End s Q rm.cells rm.slots) (s₁.setTop (mkF m 0 Ls []))) : own_Met l Z y bytes maxL ret rm as' h Q := by
  intro ws
  refine MetFree.of_bodySF hp hisR ?_
  intro p e s m args below meth c s₁ Bd hml0 hP hK
  obtain ⟨rfl, hZ, hh⟩ := hP
  obtain ⟨s₂, o, h1, r⟩ := K p e s m below meth c s₁ Bd.exec hZ Bd.bytes hml0 (findClass_of_methodNamed Bd.named) (name_of_methodNamed Bd.named Bd.method).1 Bd.returns Bd.notSynchronized (Stand.of_body Bd) (by rw [← hh, Bd.state]; rfl)
  exact ⟨s₂, o, castTop (hef m) h1, r⟩
theorem own_aloadN (X : Stand p l e R s m args below meth c T locs cells slots) (hx : p.tables.exec = Jvm.exec) {k : Fin 4} {v : Value} (hd : decode c.code pc = .ok (.aload_n k, 1)) (hl : Ls[k.val]? = some (.val v)) (hv : v.isRef = true)
    (K : own_Fin p e below E (T.setTop (mkF m (pc + 1) Ls (v :: st)))) : own_Fin p e below E (T.setTop (mkF m pc Ls st)) :=
  own_via K fun t k => XS.aloadN X.here hx rfl hd hl hv k
theorem own_aload (X : Stand p l e R s m args below meth c T locs cells slots) (hx : p.tables.exec = Jvm.exec) {k : Nat} {v : Value} (hd : decode c.code pc = .ok (.aload k, 2)) (hl : Ls[k]? = some (.val v)) (hv : v.isRef = true)
    (K : own_Fin p e below E (T.setTop (mkF m (pc + 2) Ls (v :: st)))) : own_Fin p e below E (T.setTop (mkF m pc Ls st)) :=
  own_via K fun t k => XS.aload X.here hx rfl hd hl hv k
theorem own_iloadN (X : Stand p l e R s m args below meth c T locs cells slots) (hx : p.tables.exec = Jvm.exec) {k : Fin 4} {v : Int32} (hd : decode c.code pc = .ok (.iload_n k, 1)) (hl : Ls[k.val]? = some (.val (.int v)))
    (K : own_Fin p e below E (T.setTop (mkF m (pc + 1) Ls (.int v :: st)))) : own_Fin p e below E (T.setTop (mkF m pc Ls st)) :=
  own_via K fun t k => XS.iloadN X.here hx rfl hd hl k
theorem own_iload (X : Stand p l e R s m args below meth c T locs cells slots) (hx : p.tables.exec = Jvm.exec) {k : Nat} {v : Int32} (hd : decode c.code pc = .ok (.iload k, 2)) (hl : Ls[k]? = some (.val (.int v)))
    (K : own_Fin p e below E (T.setTop (mkF m (pc + 2) Ls (.int v :: st)))) : own_Fin p e below E (T.setTop (mkF m pc Ls st)) :=
  own_via K fun t k => XS.iload X.here hx rfl hd hl k
theorem own_lloadN (X : Stand p l e R s m args below meth c T locs cells slots) (hx : p.tables.exec = Jvm.exec) {k : Fin 4} {v : Int64} (hd : decode c.code pc = .ok (.lload_n k, 1)) (hl : Ls[k.val]? = some (.val (.long v)))
    (K : own_Fin p e below E (T.setTop (mkF m (pc + 1) Ls (.long v :: st)))) : own_Fin p e below E (T.setTop (mkF m pc Ls st)) :=
  own_via K fun t k => Jvm.Free.XT.lloadN X.here hx rfl hd hl k
theorem own_lload (X : Stand p l e R s m args below meth c T locs cells slots) (hx : p.tables.exec = Jvm.exec) {k : Nat} {v : Int64} (hd : decode c.code pc = .ok (.lload k, 2)) (hl : Ls[k]? = some (.val (.long v)))
    (K : own_Fin p e below E (T.setTop (mkF m (pc + 2) Ls (.long v :: st)))) : own_Fin p e below E (T.setTop (mkF m pc Ls st)) :=
  own_via K fun t k => Jvm.Free.XT.lload X.here hx rfl hd hl k
theorem own_iconst (X : Stand p l e R s m args below meth c T locs cells slots) (hx : p.tables.exec = Jvm.exec) {i : Int} (v : Int32) (hd : decode c.code pc = .ok (.iconst i, 1)) (hv : Int32.ofInt i = v)
    (K : own_Fin p e below E (T.setTop (mkF m (pc + 1) Ls (.int v :: st)))) : own_Fin p e below E (T.setTop (mkF m pc Ls st)) :=
  own_via K fun t k => Jvm.Free.XT.iconstV X.here hx rfl v hd hv k
theorem own_bipush (X : Stand p l e R s m args below meth c T locs cells slots) (hx : p.tables.exec = Jvm.exec) {i : Int} (v : Int32) (hd : decode c.code pc = .ok (.bipush i, 2)) (hv : (Int8.ofInt i).toInt32 = v)
    (K : own_Fin p e below E (T.setTop (mkF m (pc + 2) Ls (.int v :: st)))) : own_Fin p e below E (T.setTop (mkF m pc Ls st)) :=
  own_via K fun t k => Jvm.Free.XT.bipushV X.here hx rfl v hd hv k
theorem own_sipush (X : Stand p l e R s m args below meth c T locs cells slots) (hx : p.tables.exec = Jvm.exec) {i : Int} (v : Int32) (hd : decode c.code pc = .ok (.sipush i, 3)) (hv : (Int16.ofInt i).toInt32 = v)
    (K : own_Fin p e below E (T.setTop (mkF m (pc + 3) Ls (.int v :: st)))) : own_Fin p e below E (T.setTop (mkF m pc Ls st)) :=
  own_via K fun t k => Jvm.Free.XT.sipushV X.here hx rfl v hd hv k
theorem own_lconst (X : Stand p l e R s m args below meth c T locs cells slots) (hx : p.tables.exec = Jvm.exec) {i : Fin 2} (v : Int64) (hd : decode c.code pc = .ok (.lconst i, 1)) (hv : Int64.ofNat i = v)
    (K : own_Fin p e below E (T.setTop (mkF m (pc + 1) Ls (.long v :: st)))) : own_Fin p e below E (T.setTop (mkF m pc Ls st)) :=
  own_via K fun t k => Jvm.Free.XT.lconstV X.here hx rfl v hd hv k
theorem own_aconst_null (X : Stand p l e R s m args below meth c T locs cells slots) (hx : p.tables.exec = Jvm.exec) (hd : decode c.code pc = .ok (.aconst_null, 1))
    (K : own_Fin p e below E (T.setTop (mkF m (pc + 1) Ls (.null :: st)))) : own_Fin p e below E (T.setTop (mkF m pc Ls st)) :=
  own_via K fun t k => XS.aconstNull X.here hx rfl hd k
theorem own_ldcI (X : Stand p l e R s m args below meth c T locs cells slots) (hx : p.tables.exec = Jvm.exec) (hZ : Z.Warmed39 s.vm) {own : String} {index : Nat} {v : Int32} (hown : s.vm.findClass own = some m.cls) (w : (Jvm.Cond.constant own index v).before a0 Z = true) (hd : decode c.code pc = .ok (.ldc index, 2))
    (K : own_Fin p e below E (T.setTop (mkF m (pc + 2) Ls (.int v :: st)))) : own_Fin p e below E (T.setTop (mkF m pc Ls st)) :=
  own_via K fun t k => Jvm.Stand.ldcI X hx hown (mv hZ w) rfl hd k
theorem own_ldc2J (X : Stand p l e R s m args below meth c T locs cells slots) (hx : p.tables.exec = Jvm.exec) (hZ : Z.Warmed39 s.vm) {own : String} {index : Nat} {v : Int64} (hown : s.vm.findClass own = some m.cls) (w : (Jvm.Cond.constantLong own index v).before a0 Z = true) (hd : decode c.code pc = .ok (.ldc2_w index, 3))
    (K : own_Fin p e below E (T.setTop (mkF m (pc + 3) Ls (.long v :: st)))) : own_Fin p e below E (T.setTop (mkF m pc Ls st)) :=
  own_via K fun t k => Jvm.Stand.ldc2J X hx hown (mv hZ w) rfl hd k
theorem own_iadd (X : Stand p l e R s m args below meth c T locs cells slots) (hx : p.tables.exec = Jvm.exec) {x y : Int32} (hd : decode c.code pc = .ok (.iadd, 1))
    (K : own_Fin p e below E (T.setTop (mkF m (pc + 1) Ls (.int (x + y) :: st)))) : own_Fin p e below E (T.setTop (mkF m pc Ls (.int y :: .int x :: st))) :=
  own_via K fun t k => XS.iadd X.here hx rfl hd rfl k
theorem own_isub (X : Stand p l e R s m args below meth c T locs cells slots) (hx : p.tables.exec = Jvm.exec) {x y : Int32} (hd : decode c.code pc = .ok (.isub, 1))
    (K : own_Fin p e below E (T.setTop (mkF m (pc + 1) Ls (.int (x - y) :: st)))) : own_Fin p e below E (T.setTop (mkF m pc Ls (.int y :: .int x :: st))) :=
  own_via K fun t k => XS.isub X.here hx rfl hd rfl k
theorem own_imul (X : Stand p l e R s m args below meth c T locs cells slots) (hx : p.tables.exec = Jvm.exec) {x y : Int32} (hd : decode c.code pc = .ok (.imul, 1))
    (K : own_Fin p e below E (T.setTop (mkF m (pc + 1) Ls (.int (x * y) :: st)))) : own_Fin p e below E (T.setTop (mkF m pc Ls (.int y :: .int x :: st))) :=
  own_via K fun t k => XS.imul X.here hx rfl hd rfl k
theorem own_iand (X : Stand p l e R s m args below meth c T locs cells slots) (hx : p.tables.exec = Jvm.exec) {x y : Int32} (hd : decode c.code pc = .ok (.iand, 1))
    (K : own_Fin p e below E (T.setTop (mkF m (pc + 1) Ls (.int (x &&& y) :: st)))) : own_Fin p e below E (T.setTop (mkF m pc Ls (.int y :: .int x :: st))) :=
  own_via K fun t k => XS.iand X.here hx rfl hd rfl k
theorem own_ixor (X : Stand p l e R s m args below meth c T locs cells slots) (hx : p.tables.exec = Jvm.exec) {x y : Int32} (hd : decode c.code pc = .ok (.ixor, 1))
    (K : own_Fin p e below E (T.setTop (mkF m (pc + 1) Ls (.int (x ^^^ y) :: st)))) : own_Fin p e below E (T.setTop (mkF m pc Ls (.int y :: .int x :: st))) :=
  own_via K fun t k => Jvm.Free.XT.ixor X.here hx rfl hd rfl k
theorem own_ior (X : Stand p l e R s m args below meth c T locs cells slots) (hx : p.tables.exec = Jvm.exec) {x y : Int32} (hd : decode c.code pc = .ok (.ior, 1))
    (K : own_Fin p e below E (T.setTop (mkF m (pc + 1) Ls (.int (x ||| y) :: st)))) : own_Fin p e below E (T.setTop (mkF m pc Ls (.int y :: .int x :: st))) :=
  own_via K fun t k => Jvm.Free.XT.ior X.here hx rfl hd rfl k
theorem own_iushr (X : Stand p l e R s m args below meth c T locs cells slots) (hx : p.tables.exec = Jvm.exec) {x y : Int32} (hd : decode c.code pc = .ok (.iushr, 1))
    (K : own_Fin p e below E (T.setTop (mkF m (pc + 1) Ls (.int (Jvm.Free.XT.ushr x y) :: st)))) : own_Fin p e below E (T.setTop (mkF m pc Ls (.int y :: .int x :: st))) :=
  own_via K fun t k => Jvm.Free.XT.iushr X.here hx rfl hd rfl k
theorem own_irem (X : Stand p l e R s m args below meth c T locs cells slots) (hx : p.tables.exec = Jvm.exec) {x y : Int32} (hd : decode c.code pc = .ok (.irem, 1)) (hy : y ≠ 0)
    (K : own_Fin p e below E (T.setTop (mkF m (pc + 1) Ls (.int (x % y) :: st)))) : own_Fin p e below E (T.setTop (mkF m pc Ls (.int y :: .int x :: st))) :=
  own_via K fun t k => iremM X hx rfl hd rfl hy k
theorem own_ladd (X : Stand p l e R s m args below meth c T locs cells slots) (hx : p.tables.exec = Jvm.exec) {x y : Int64} (hd : decode c.code pc = .ok (.ladd, 1))
    (K : own_Fin p e below E (T.setTop (mkF m (pc + 1) Ls (.long (x + y) :: st)))) : own_Fin p e below E (T.setTop (mkF m pc Ls (.long y :: .long x :: st))) :=
  own_via K fun t k => Jvm.Free.XT.ladd X.here hx rfl hd rfl k
theorem own_lsub (X : Stand p l e R s m args below meth c T locs cells slots) (hx : p.tables.exec = Jvm.exec) {x y : Int64} (hd : decode c.code pc = .ok (.lsub, 1))
    (K : own_Fin p e below E (T.setTop (mkF m (pc + 1) Ls (.long (x - y) :: st)))) : own_Fin p e below E (T.setTop (mkF m pc Ls (.long y :: .long x :: st))) :=
  own_via K fun t k => Jvm.Free.XT.lsub X.here hx rfl hd rfl k
theorem own_lxor (X : Stand p l e R s m args below meth c T locs cells slots) (hx : p.tables.exec = Jvm.exec) {x y : Int64} (hd : decode c.code pc = .ok (.lxor, 1))
    (K : own_Fin p e below E (T.setTop (mkF m (pc + 1) Ls (.long (x ^^^ y) :: st)))) : own_Fin p e below E (T.setTop (mkF m pc Ls (.long y :: .long x :: st))) :=
  own_via K fun t k => Jvm.Free.XT.lxor X.here hx rfl hd rfl k
theorem own_lcmp (X : Stand p l e R s m args below meth c T locs cells slots) (hx : p.tables.exec = Jvm.exec) {x y : Int64} (hd : decode c.code pc = .ok (.lcmp, 1))
    (K : own_Fin p e below E (T.setTop (mkF m (pc + 1) Ls (.int (Jvm.Free.XT.cmpL x y) :: st)))) : own_Fin p e below E (T.setTop (mkF m pc Ls (.long y :: .long x :: st))) :=
  own_via K fun t k => Jvm.Free.XT.lcmp X.here hx rfl hd rfl k
theorem own_i2b (X : Stand p l e R s m args below meth c T locs cells slots) (hx : p.tables.exec = Jvm.exec) {x : Int32} (hd : decode c.code pc = .ok (.i2b, 1))
    (K : own_Fin p e below E (T.setTop (mkF m (pc + 1) Ls (.int (x.toInt8.toInt32) :: st)))) : own_Fin p e below E (T.setTop (mkF m pc Ls (.int x :: st))) :=
  own_via K fun t k => Jvm.Free.XT.i2b X.here hx rfl hd rfl k
theorem own_i2l (X : Stand p l e R s m args below meth c T locs cells slots) (hx : p.tables.exec = Jvm.exec) {x : Int32} (hd : decode c.code pc = .ok (.i2l, 1))
    (K : own_Fin p e below E (T.setTop (mkF m (pc + 1) Ls (.long (x.toInt64) :: st)))) : own_Fin p e below E (T.setTop (mkF m pc Ls (.int x :: st))) :=
  own_via K fun t k => Jvm.Free.XT.i2l X.here hx rfl hd rfl k
theorem own_l2i (X : Stand p l e R s m args below meth c T locs cells slots) (hx : p.tables.exec = Jvm.exec) {x : Int64} (hd : decode c.code pc = .ok (.l2i, 1))
    (K : own_Fin p e below E (T.setTop (mkF m (pc + 1) Ls (.int (x.toInt32) :: st)))) : own_Fin p e below E (T.setTop (mkF m pc Ls (.long x :: st))) :=
  own_via K fun t k => Jvm.Free.XT.l2i X.here hx rfl hd rfl k
theorem own_dup (X : Stand p l e R s m args below meth c T locs cells slots) (hx : p.tables.exec = Jvm.exec) {v : Value} (hd : decode c.code pc = .ok (.dup, 1)) (hc : v.category = 1)
    (K : own_Fin p e below E (T.setTop (mkF m (pc + 1) Ls (v :: v :: st)))) : own_Fin p e below E (T.setTop (mkF m pc Ls (v :: st))) :=
  own_via K fun t k => XS.dup X.here hx rfl hd rfl hc k
theorem own_pop (X : Stand p l e R s m args below meth c T locs cells slots) (hx : p.tables.exec = Jvm.exec) {v : Value} (hd : decode c.code pc = .ok (.pop, 1)) (hc : v.category = 1)
    (K : own_Fin p e below E (T.setTop (mkF m (pc + 1) Ls st))) : own_Fin p e below E (T.setTop (mkF m pc Ls (v :: st))) :=
  own_via K fun t k => Jvm.Free.XT.pop X.here hx rfl hd rfl hc k
theorem own_istoreN (X : Stand p l e R s m args below meth c T locs cells slots) (hx : p.tables.exec = Jvm.exec) {k : Fin 4} {x : Int32} {l' : Array Slot} (hd : decode c.code pc = .ok (.istore_n k, 1)) (hl : storeLocals Ls k.val (.int x) = some l')
    (K : own_Fin p e below E (T.setTop (mkF m (pc + 1) l' st))) : own_Fin p e below E (T.setTop (mkF m pc Ls (.int x :: st))) :=
  own_via K fun t k => XS.istoreN X.here hx rfl hd rfl hl k
theorem own_istore (X : Stand p l e R s m args below meth c T locs cells slots) (hx : p.tables.exec = Jvm.exec) {k : Nat} {x : Int32} {l' : Array Slot} (hd : decode c.code pc = .ok (.istore k, 2)) (hl : storeLocals Ls k (.int x) = some l')
    (K : own_Fin p e below E (T.setTop (mkF m (pc + 2) l' st))) : own_Fin p e below E (T.setTop (mkF m pc Ls (.int x :: st))) :=
  own_via K fun t k => XS.istore X.here hx rfl hd rfl hl k
theorem own_astoreN (X : Stand p l e R s m args below meth c T locs cells slots) (hx : p.tables.exec = Jvm.exec) {k : Fin 4} {x : Value} {l' : Array Slot} (hd : decode c.code pc = .ok (.astore_n k, 1)) (hv : x.isRef = true) (hl : storeLocals Ls k.val x = some l')
    (K : own_Fin p e below E (T.setTop (mkF m (pc + 1) l' st))) : own_Fin p e below E (T.setTop (mkF m pc Ls (x :: st))) :=
  own_via K fun t k => XS.astoreN X.here hx rfl hd rfl hv hl k
theorem own_astore (X : Stand p l e R s m args below meth c T locs cells slots) (hx : p.tables.exec = Jvm.exec) {k : Nat} {x : Value} {l' : Array Slot} (hd : decode c.code pc = .ok (.astore k, 2)) (hv : x.isRef = true) (hl : storeLocals Ls k x = some l')
    (K : own_Fin p e below E (T.setTop (mkF m (pc + 2) l' st))) : own_Fin p e below E (T.setTop (mkF m pc Ls (x :: st))) :=
  own_via K fun t k => XS.astore X.here hx rfl hd rfl hv hl k
theorem own_lstore (X : Stand p l e R s m args below meth c T locs cells slots) (hx : p.tables.exec = Jvm.exec) {k : Nat} {x : Int64} {l' : Array Slot} (hd : decode c.code pc = .ok (.lstore k, 2)) (hl : storeLocals Ls k (.long x) = some l')
    (K : own_Fin p e below E (T.setTop (mkF m (pc + 2) l' st))) : own_Fin p e below E (T.setTop (mkF m pc Ls (.long x :: st))) :=
  own_via K fun t k => Jvm.Free.XT.lstore X.here hx rfl hd rfl hl k
theorem own_iinc (X : Stand p l e R s m args below meth c T locs cells slots) (hx : p.tables.exec = Jvm.exec) {k : Nat} {cst : Int} {x : Int32} {l' : Array Slot} (v : Int32) (hd : decode c.code pc = .ok (.iinc k cst, 3)) (hv : Int32.ofInt cst = v) (hl : Ls[k]? = some (.val (.int x))) (hl' : storeLocals Ls k (.int (x + v)) = some l')
    (K : own_Fin p e below E (T.setTop (mkF m (pc + 3) l' st))) : own_Fin p e below E (T.setTop (mkF m pc Ls st)) :=
  own_via K fun t k => Jvm.Free.XT.iincV X.here hx rfl v hd hv hl hl' k
theorem own_goto (X : Stand p l e R s m args below meth c T locs cells slots) (hx : p.tables.exec = Jvm.exec) {o : Int} (pc' : Nat)  (hd : decode c.code pc = .ok (.goto o, 3)) (ho : 0 ≤ (pc : Int) + o) (hp : ((pc : Int) + o).toNat = pc')
    (K : own_Fin p e below E (T.setTop (mkF m pc' Ls st))) : own_Fin p e below E (T.setTop (mkF m pc Ls st)) :=
  own_via K fun t k => XS.goto X.here hx rfl rfl hd ho hp k
theorem own_ifYes (X : Stand p l e R s m args below meth c T locs cells slots) (hx : p.tables.exec = Jvm.exec) {cd : ClassFile.Cond} {x : Int32} {o : Int} (pc' : Nat)  (hd : decode c.code pc = .ok (.ifCond cd o, 3)) (ho : 0 ≤ (pc : Int) + o) (hp : ((pc : Int) + o).toNat = pc') (hc : ifCond.holds cd x = true)
    (K : own_Fin p e below E (T.setTop (mkF m pc' Ls st))) : own_Fin p e below E (T.setTop (mkF m pc Ls (.int x :: st))) :=
  own_via K fun t k => XS.ifYes X.here hx rfl rfl hd rfl hc ho hp k
theorem own_ifNo (X : Stand p l e R s m args below meth c T locs cells slots) (hx : p.tables.exec = Jvm.exec) {cd : ClassFile.Cond} {x : Int32} {o : Int} (hd : decode c.code pc = .ok (.ifCond cd o, 3)) (hc : ifCond.holds cd x = false)
    (K : own_Fin p e below E (T.setTop (mkF m (pc + 3) Ls st))) : own_Fin p e below E (T.setTop (mkF m pc Ls (.int x :: st))) :=
  own_via K fun t k => XS.ifNo X.here hx rfl hd rfl hc k
theorem own_icmpYes (X : Stand p l e R s m args below meth c T locs cells slots) (hx : p.tables.exec = Jvm.exec) {cd : ClassFile.Cond} {x y : Int32} {o : Int} (pc' : Nat)  (hd : decode c.code pc = .ok (.if_icmp cd o, 3)) (ho : 0 ≤ (pc : Int) + o) (hp : ((pc : Int) + o).toNat = pc') (hc : if_icmp.holds cd x y = true)
    (K : own_Fin p e below E (T.setTop (mkF m pc' Ls st))) : own_Fin p e below E (T.setTop (mkF m pc Ls (.int y :: .int x :: st))) :=
  own_via K fun t k => XS.icmpYes X.here hx rfl rfl hd rfl hc ho hp k
theorem own_icmpNo (X : Stand p l e R s m args below meth c T locs cells slots) (hx : p.tables.exec = Jvm.exec) {cd : ClassFile.Cond} {x y : Int32} {o : Int} (hd : decode c.code pc = .ok (.if_icmp cd o, 3)) (hc : if_icmp.holds cd x y = false)
    (K : own_Fin p e below E (T.setTop (mkF m (pc + 3) Ls st))) : own_Fin p e below E (T.setTop (mkF m pc Ls (.int y :: .int x :: st))) :=
  own_via K fun t k => XS.icmpNo X.here hx rfl hd rfl hc k
theorem own_acmpYes (X : Stand p l e R s m args below meth c T locs cells slots) (hx : p.tables.exec = Jvm.exec) {cd : ClassFile.ACond} {x y : Value} {o : Int} (pc' : Nat)  (hd : decode c.code pc = .ok (.if_acmp cd o, 3)) (ho : 0 ≤ (pc : Int) + o) (hp : ((pc : Int) + o).toNat = pc') (hx' : x.isRef = true) (hy' : y.isRef = true) (hc : Jvm.Free.XT.acmp cd x y = true)
    (K : own_Fin p e below E (T.setTop (mkF m pc' Ls st))) : own_Fin p e below E (T.setTop (mkF m pc Ls (y :: x :: st))) :=
  own_via K fun t k => Jvm.Free.XT.acmpYes X.here hx rfl rfl hd rfl hx' hy' hc ho hp k
theorem own_acmpNo (X : Stand p l e R s m args below meth c T locs cells slots) (hx : p.tables.exec = Jvm.exec) {cd : ClassFile.ACond} {x y : Value} {o : Int} (hd : decode c.code pc = .ok (.if_acmp cd o, 3)) (hx' : x.isRef = true) (hy' : y.isRef = true) (hc : Jvm.Free.XT.acmp cd x y = false)
    (K : own_Fin p e below E (T.setTop (mkF m (pc + 3) Ls st))) : own_Fin p e below E (T.setTop (mkF m pc Ls (y :: x :: st))) :=
  own_via K fun t k => Jvm.Free.XT.acmpNo X.here hx rfl hd rfl hx' hy' hc k
theorem own_ifnullYes (X : Stand p l e R s m args below meth c T locs cells slots) (hx : p.tables.exec = Jvm.exec) {o : Int} (pc' : Nat)  (hd : decode c.code pc = .ok (.ifnull o, 3)) (ho : 0 ≤ (pc : Int) + o) (hp : ((pc : Int) + o).toNat = pc')
    (K : own_Fin p e below E (T.setTop (mkF m pc' Ls st))) : own_Fin p e below E (T.setTop (mkF m pc Ls (.null :: st))) :=
  own_via K fun t k => XS.ifnullYes X.here hx rfl rfl hd rfl ho hp k
theorem own_ifnullNo (X : Stand p l e R s m args below meth c T locs cells slots) (hx : p.tables.exec = Jvm.exec) {o : Int} {b : Addr} (hd : decode c.code pc = .ok (.ifnull o, 3))
    (K : own_Fin p e below E (T.setTop (mkF m (pc + 3) Ls st))) : own_Fin p e below E (T.setTop (mkF m pc Ls (.ref b :: st))) :=
  own_via K fun t k => XS.ifnullNo X.here hx rfl hd rfl k
theorem own_ifnonnullYes (X : Stand p l e R s m args below meth c T locs cells slots) (hx : p.tables.exec = Jvm.exec) {o : Int} {b : Addr} (pc' : Nat)  (hd : decode c.code pc = .ok (.ifnonnull o, 3)) (ho : 0 ≤ (pc : Int) + o) (hp : ((pc : Int) + o).toNat = pc')
    (K : own_Fin p e below E (T.setTop (mkF m pc' Ls st))) : own_Fin p e below E (T.setTop (mkF m pc Ls (.ref b :: st))) :=
  own_via K fun t k => Jvm.Free.XT.ifnonnullYes X.here hx rfl rfl hd rfl ho hp k
theorem own_ifnonnullNo (X : Stand p l e R s m args below meth c T locs cells slots) (hx : p.tables.exec = Jvm.exec) {o : Int} (hd : decode c.code pc = .ok (.ifnonnull o, 3))
    (K : own_Fin p e below E (T.setTop (mkF m (pc + 3) Ls st))) : own_Fin p e below E (T.setTop (mkF m pc Ls (.null :: st))) :=
  own_via K fun t k => Jvm.Free.XT.ifnonnullNo X.here hx rfl hd rfl k
theorem own_getstatic (X : Stand p l e R s m args below meth c T locs cells slots) (hx : p.tables.exec = Jvm.exec) (hZ : Z.Warmed39 s.vm) {own R0 O n d host : String} {index : Nat} (hown : s.vm.findClass own = some m.cls) (w : (Jvm.Cond.fieldLink own index R0 n d).before a0 Z = true ∨ (Jvm.Cond.fieldLinkNest own index R0 n d host).before a0 Z = true) (via : Via Z R0 O n d) (eT : T.heap = h) {v : Value} (F : Sta Z h O n d v) (hd : decode c.code pc = .ok (.getstatic index, 3))
    (K : ∀ T', Stand p l e R s m args below meth c T' locs cells slots → T'.heap = h → own_Fin p e below E (T'.setTop (mkF m (pc + 3) Ls (v :: st)))) : own_Fin p e below E (T.setTop (mkF m pc Ls st)) := by
  obtain ⟨T', X', e', sp⟩ := getS2 X hx hZ hown w via eT F (g := mkF m pc Ls st) rfl hd
  exact own_via (K T' X' e') sp
theorem own_getfield (X : Stand p l e R s m args below meth c T locs cells slots) (hx : p.tables.exec = Jvm.exec) (hZ : Z.Warmed39 s.vm) {own R0 O n d host : String} {index : Nat} (hown : s.vm.findClass own = some m.cls) (w : (Jvm.Cond.fieldLink own index R0 n d).before a0 Z = true ∨ (Jvm.Cond.fieldLinkNest own index R0 n d host).before a0 Z = true) (via : Via Z R0 O n d) (eT : T.heap = h) {a : Addr} {v : Value} (F : Fld Z h a O n d v) (hd : decode c.code pc = .ok (.getfield index, 3))
    (K : ∀ T', Stand p l e R s m args below meth c T' locs cells slots → T'.heap = h → own_Fin p e below E (T'.setTop (mkF m (pc + 3) Ls (v :: st)))) : own_Fin p e below E (T.setTop (mkF m pc Ls (.ref a :: st))) := by
  obtain ⟨T', X', e', sp⟩ := getF X hx hZ hown w via eT F (g := mkF m pc Ls (.ref a :: st)) rfl rfl hd
  exact own_via (K T' X' e') sp
theorem own_putfield (X : Stand p l e R s m args below meth c T locs cells slots) (hx : p.tables.exec = Jvm.exec) (hZ : Z.Warmed39 s.vm) {own R0 O n d host : String} {index : Nat} (hown : s.vm.findClass own = some m.cls) (w : (Jvm.Cond.fieldLink own index R0 n d).before a0 Z = true ∨ (Jvm.Cond.fieldLinkNest own index R0 n d host).before a0 Z = true) (via : Via Z R0 O n d) (eT : T.heap = h) {C : String} {kk : Nat} {ty : FieldType} {a : Addr} {v old : Value} (F : Fld Z h a O n d old) (EX : Exa Z h a C) (L : (Jvm.Cond.lays C O n d).before a0 Z = true ∨ ((Jvm.Cond.laysFinal C O n d).before a0 Z = true ∧ own = O ∧ meth.name = "<init>")) (wi : (Jvm.Cond.instantiable C kk).before a0 Z = true)
    (hty : parseFieldDescriptor d = some ty) (hn : narrow ty v = v) (hf : fits ty v = true) (hd : decode c.code pc = .ok (.putfield index, 3))
    (K : ∀ T' h', Stand p l e R s m args below meth c T' (locs ++ [⟨a, Jvm.RoadKit.slotOf Z O n d⟩]) cells slots → T'.heap = h' → Wr h h' a (Jvm.RoadKit.slotOf Z O n d) v → own_Fin p e below E (T'.setTop (mkF m (pc + 3) Ls st))) : own_Fin p e below E (T.setTop (mkF m pc Ls (v :: .ref a :: st))) := by
  obtain ⟨T', h', X', e', W, sp⟩ := putF X hx hZ hown w via eT F EX L wi hty hn hf (g := mkF m pc Ls (v :: .ref a :: st)) rfl rfl hd
  exact own_via (K T' h' X' e' W) sp
theorem own_new (X : Stand p l e R s m args below meth c T locs cells slots) (hx : p.tables.exec = Jvm.exec) (hZ : Z.Warmed39 s.vm) {own C : String} {index n : Nat} (hown : s.vm.findClass own = some m.cls) (w : (Jvm.Cond.classLink own index C).before a0 Z = true) (wi : (Jvm.Cond.instantiable C n).before a0 Z = true) (wz : (Jvm.Cond.initialized C).before a0 Z = true) (eT : T.heap = h)
    (hd : decode c.code pc = .ok (.new index, 3)) (hc : cells + 1 ≤ R.cells) (hl : slots + n ≤ R.slots)
    (K : ∀ T' h' b, Stand p l e R s m args below meth c T' locs (cells + 1) (slots + n) → T'.heap = h' → b = h.size → Ext h h' → Exa Z h' b C → (∀ {O nm d : String} {ty : FieldType}, Laid Z a0 C O nm d → parseFieldDescriptor d = some ty → Fld Z h' b O nm d (defaultValue ty)) → own_Fin p e below E (T'.setTop (mkF m (pc + 3) Ls (.ref b :: st)))) : own_Fin p e below E (T.setTop (mkF m pc Ls st)) := by
  obtain ⟨T', h', X', e', EE, A, D, -, sp⟩ := newO X hx hZ hown w wi wz eT (g := mkF m pc Ls st) rfl hd hc hl
  exact own_via (K T' h' _ X' e' rfl EE A D) sp
theorem own_arraylength (X : Stand p l e R s m args below meth c T locs cells slots) (hx : p.tables.exec = Jvm.exec) (hZ : Z.Warmed39 s.vm) {a : Addr} {cl : Cell} {ty : FieldType} {n : Int32} (eT : T.heap = h) (A : Arr Z h a cl ty) (hn : cl.slots.size.toInt32 = n) (hd : decode c.code pc = .ok (.arraylength, 1))
    (K : own_Fin p e below E (T.setTop (mkF m (pc + 1) Ls (.int n :: st)))) : own_Fin p e below E (T.setTop (mkF m pc Ls (.ref a :: st))) := by
  subst hn
  exact own_via K fun t k => X.arraylength hx (by rw [eT]; exact A.1) (State.isArrayOf_alike hZ.alike A.2.1) (g := mkF m pc Ls (.ref a :: st)) rfl rfl hd t k
theorem own_aaload (X : Stand p l e R s m args below meth c T locs cells slots) (hx : p.tables.exec = Jvm.exec) (hZ : Z.Warmed39 s.vm) {a : Addr} {cl : Cell} {j : Int32} {v : Value} (eT : T.heap = h) {ty : FieldType} (A : Arr Z h a cl ty) (hty : ty.isReference = true) (hin : ¬ (j < 0 ∨ cl.slots.size ≤ j.toNatClampNeg)) (hv : cl.slots[j.toNatClampNeg]? = some v) (hd : decode c.code pc = .ok (.aaload, 1))
    (K : own_Fin p e below E (T.setTop (mkF m (pc + 1) Ls (v :: st)))) : own_Fin p e below E (T.setTop (mkF m pc Ls (.int j :: .ref a :: st))) :=
  own_via K fun t k => X.aaload hx (by rw [eT]; exact A.1) (State.isArrayOf_alike hZ.alike A.2.1) hty A.2.2 hin hv (g := mkF m pc Ls (.int j :: .ref a :: st)) rfl rfl hd t k
theorem own_baload (X : Stand p l e R s m args below meth c T locs cells slots) (hx : p.tables.exec = Jvm.exec) (hZ : Z.Warmed39 s.vm) {a : Addr} {cl : Cell} {j : Int32} {v : Value} (eT : T.heap = h) (A : Arr Z h a cl .byte)  (hin : ¬ (j < 0 ∨ cl.slots.size ≤ j.toNatClampNeg)) (hv : cl.slots[j.toNatClampNeg]? = some v) (hd : decode c.code pc = .ok (.baload, 1))
    (K : own_Fin p e below E (T.setTop (mkF m (pc + 1) Ls (v :: st)))) : own_Fin p e below E (T.setTop (mkF m pc Ls (.int j :: .ref a :: st))) :=
  own_via K fun t k => X.baloadBytes hx (by rw [eT]; exact A.1) (State.isArrayOf_alike hZ.alike A.2.1) A.2.2 hin hv (g := mkF m pc Ls (.int j :: .ref a :: st)) rfl rfl hd t k
theorem own_baloadZ (X : Stand p l e R s m args below meth c T locs cells slots) (hx : p.tables.exec = Jvm.exec) (hZ : Z.Warmed39 s.vm) {a : Addr} {cl : Cell} {j : Int32} {v : Value} (eT : T.heap = h) (A : Arr Z h a cl .boolean)  (hin : ¬ (j < 0 ∨ cl.slots.size ≤ j.toNatClampNeg)) (hv : cl.slots[j.toNatClampNeg]? = some v) (hd : decode c.code pc = .ok (.baload, 1))
    (K : own_Fin p e below E (T.setTop (mkF m (pc + 1) Ls (v :: st)))) : own_Fin p e below E (T.setTop (mkF m pc Ls (.int j :: .ref a :: st))) :=
  own_via K fun t k => X.baloadBooleans hx (by rw [eT]; exact A.1) (State.isArrayOf_alike hZ.alike A.2.1) A.2.2 hin hv (g := mkF m pc Ls (.int j :: .ref a :: st)) rfl rfl hd t k
theorem own_newarray (X : Stand p l e R s m args below meth c T locs cells slots) (hx : p.tables.exec = Jvm.exec) (hZ : Z.Warmed39 s.vm) {aty : ArrayType} (w : (Jvm.Cond.arrayClass (newarray.typeOf aty)).before a0 Z = true) (eT : T.heap = h) (hd : decode c.code pc = .ok (.newarray aty, 2)) {n : Int32} (hn : ¬ n < 0) (cap : Nat) (hcap : n.toNatClampNeg ≤ cap) (hb : cap * 8 ≤ 536870912) (hc : cells + 1 ≤ R.cells) (hl : slots + cap ≤ R.slots)
    (K : ∀ T' h' b cA, Stand p l e R s m args below meth c T' locs (cells + 1) (slots + cap) → T'.heap = h' → b = h.size → Ext h h' → Arr Z h' b (newA cA (newarray.typeOf aty) n) (newarray.typeOf aty) → own_Fin p e below E (T'.setTop (mkF m (pc + 2) Ls (.ref b :: st)))) : own_Fin p e below E (T.setTop (mkF m pc Ls (.int n :: st))) := by
  obtain ⟨T', h', cA, X', e', EE, A, sp⟩ := newP X hx hZ w eT (g := mkF m pc Ls (.int n :: st)) rfl hd rfl hn hcap hb hc hl
  exact own_via (K T' h' _ cA X' e' rfl EE A) sp
theorem own_bastore (X : Stand p l e R s m args below meth c T locs cells slots) (hx : p.tables.exec = Jvm.exec) (hZ : Z.Warmed39 s.vm) {a : Addr} {cl : Cell} {j x : Int32} (eT : T.heap = h) (A : Arr Z h a cl .byte) (hj : ¬ (j < 0 ∨ cl.slots.size ≤ j.toNatClampNeg)) (hd : decode c.code pc = .ok (.bastore, 1))
    (K : ∀ T' h', Stand p l e R s m args below meth c T' (locs ++ [⟨a, j.toNatClampNeg⟩]) cells slots → T'.heap = h' → Wr h h' a j.toNatClampNeg (.int (nar .byte x)) → own_Fin p e below E (T'.setTop (mkF m (pc + 1) Ls st))) : own_Fin p e below E (T.setTop (mkF m pc Ls (.int x :: .int j :: .ref a :: st))) := by
  obtain ⟨T', h', X', e', W, sp⟩ := stB X hx hZ eT A (x := x) hj (g := mkF m pc Ls (.int x :: .int j :: .ref a :: st)) rfl rfl hd
  exact own_via (K T' h' X' e' W) sp
theorem own_virt (X : Stand p l e R s m args below meth c T locs cells slots) (hx : p.tables.exec = Jvm.exec) (hZ : Z.Warmed39 s.vm) {own C : String} {index : Nat} {y z : MethodName} {bytes : ByteArray} {maxL : Nat} {ret : Option FieldType} {rm : Room} {W : Nat} {as' : Array Value} {Q' : Option Value → Heap → List Loc → Prop} {argsL rest : List Value} {a : Addr} (hown : s.vm.findClass own = some m.cls) (w1 : (Jvm.Cond.methodLink own index y).before a0 Z = true) (w2 : (Jvm.Cond.declares y).before a0 Z = true) (w3 : (Jvm.Cond.selects y.cls y y).before a0 Z = true) (w4 : (Jvm.Cond.selects C y z).before a0 Z = true) (w5 : (Jvm.Cond.instanceMethod z).before a0 Z = true)
    (w6 : (Jvm.Cond.code z bytes maxL ret).before a0 Z = true) (w7 : (Jvm.Cond.initialized z.cls).before a0 Z = true) (hy : y.cls ≠ "java/lang/invoke/MethodHandle" ∧ y.cls ≠ "java/lang/invoke/VarHandle") (eT : T.heap = h) (EX : Exa Z h a C) (hd : decode c.code pc = .ok (.invokevirtual index, 3)) (hsz : Ls.size = c.maxLocals) {ps : List FieldType} {rt : Option FieldType} (hpd : parseMethodDescriptor y.desc = some ⟨ps, rt⟩) (hlen : argsL.length = ps.length) (hW : (rest.map fun v => v.category).sum ≤ W)
    (hM : own_Met l Z z bytes maxL ret rm as' h Q') (hf : rm.frames + 1 ≤ R.frames) (hl : W + (maxL + 11) + rm.locals ≤ R.locals) (hcc : cells + rm.cells ≤ R.cells) (hss : slots + rm.slots ≤ R.slots) (hst : st = argsL.reverse ++ .ref a :: rest) (has : as' = (.ref a :: argsL).toArray)
    (K : ∀ v T' L', Stand p l e R s m args below meth c T' (locs ++ L') (cells + rm.cells) (slots + rm.slots) → Q' v T'.heap L' → own_Fin p e below E (T'.setTop (mkF m (pc + 3) Ls (v.toList ++ rest)))) : own_Fin p e below E (T.setTop (mkF m pc Ls st)) := by
  subst hst has
  obtain ⟨cq, kq, qa, -, qc⟩ := isOf hZ eT EX
  obtain ⟨v, _, ⟨T', L', k', n'⟩, -, X', ⟨L2, hQ, l1, y1, z1⟩, sp⟩ := X.virtualBack hx (y := y) (z := z) hown (mvT hZ w1) (mvT hZ w2) (notFace_of_selects (args := #[]) (mvT hZ w3)) (mvT hZ w4) (mvT hZ w5) hy (backOf (W := W) (hM []) hZ w6 w7 hf hl) qa qc (g := mkF m pc Ls (argsL.reverse ++ .ref a :: rest)) rfl hsz (Steps.refl _) (argsL := argsL) (rest := rest) (lenOf hpd hlen) rfl (by show 2 * 0 + _ ≤ _; omega) hd (fun _ _ => ⟨rfl, eT, hcc, hss⟩)
  dsimp only [Pt.U, Pt.locs, Pt.cells, Pt.slots] at X' l1 y1 z1 sp hQ
  subst l1 y1 z1
  exact own_via (K v T' L2 X' hQ) fun t k => sp.trans k
theorem own_stat (X : Stand p l e R s m args below meth c T locs cells slots) (hx : p.tables.exec = Jvm.exec) (hZ : Z.Warmed39 s.vm) {own : String} {index : Nat} {y : MethodName} {bytes : ByteArray} {maxL : Nat} {ret : Option FieldType} {rm : Room} {W : Nat} {as' : Array Value} {Q' : Option Value → Heap → List Loc → Prop} {argsL rest : List Value} (hown : s.vm.findClass own = some m.cls) (w1 : (Jvm.Cond.methodLink own index y).before a0 Z = true) (w2 : (Jvm.Cond.static y).before a0 Z = true)
    (w6 : (Jvm.Cond.code y bytes maxL ret).before a0 Z = true) (w7 : (Jvm.Cond.initialized y.cls).before a0 Z = true) (hy : y.cls ≠ "java/lang/invoke/MethodHandle" ∧ y.cls ≠ "java/lang/invoke/VarHandle") (eT : T.heap = h) (hd : decode c.code pc = .ok (.invokestatic index, 3)) (hsz : Ls.size = c.maxLocals) {ps : List FieldType} {rt : Option FieldType} (hpd : parseMethodDescriptor y.desc = some ⟨ps, rt⟩) (hlen : argsL.length = ps.length) (hW : (rest.map fun v => v.category).sum ≤ W)
    (hM : own_Met l Z y bytes maxL ret rm as' h Q') (hf : rm.frames + 1 ≤ R.frames) (hl : W + (maxL + 11) + rm.locals ≤ R.locals) (hcc : cells + rm.cells ≤ R.cells) (hss : slots + rm.slots ≤ R.slots) (hst : st = argsL.reverse ++ rest) (has : as' = argsL.toArray)
    (K : ∀ v T' L', Stand p l e R s m args below meth c T' (locs ++ L') (cells + rm.cells) (slots + rm.slots) → Q' v T'.heap L' → own_Fin p e below E (T'.setTop (mkF m (pc + 3) Ls (v.toList ++ rest)))) : own_Fin p e below E (T.setTop (mkF m pc Ls st)) := by
  subst hst has
  obtain ⟨v, _, ⟨T', L', k', n'⟩, -, X', ⟨L2, hQ, l1, y1, z1⟩, sp⟩ := Jvm.LawKit.callS X hx (y := y) hown (mvT hZ w1) (mvT hZ w2) (mvT hZ w7) (mvT hZ w6) hy (backOf (W := W) (hM []) hZ w6 w7 hf hl) (g := mkF m pc Ls (argsL.reverse ++ rest)) rfl hsz (argsL := argsL) (rest := rest) (lenOf hpd hlen) rfl (by show 2 * 0 + _ ≤ _; omega) hd (fun _ _ => ⟨rfl, eT, hcc, hss⟩)
  dsimp only [Pt.U, Pt.locs, Pt.cells, Pt.slots] at X' l1 y1 z1 sp hQ
  subst l1 y1 z1
  exact own_via (K v T' L2 X' hQ) sp
theorem own_spec (X : Stand p l e R s m args below meth c T locs cells slots) (hx : p.tables.exec = Jvm.exec) (hZ : Z.Warmed39 s.vm) {own : String} {index : Nat} {y : MethodName} {bytes : ByteArray} {maxL : Nat} {rm : Room} {W : Nat} {as' : Array Value} {Q' : Option Value → Heap → List Loc → Prop} {argsL rest : List Value} {a : Addr} (hy1 : y.name = "<init>") (hown : s.vm.findClass own = some m.cls) (w1 : (Jvm.Cond.methodLink own index y).before a0 Z = true) (w5 : (Jvm.Cond.instanceMethod y).before a0 Z = true)
    (w6 : (Jvm.Cond.code y bytes maxL none).before a0 Z = true) (w7 : (Jvm.Cond.initialized y.cls).before a0 Z = true) (hy : y.cls ≠ "java/lang/invoke/MethodHandle" ∧ y.cls ≠ "java/lang/invoke/VarHandle") (eT : T.heap = h) (hd : decode c.code pc = .ok (.invokespecial index, 3)) (hsz : Ls.size = c.maxLocals) {ps : List FieldType} {rt : Option FieldType} (hpd : parseMethodDescriptor y.desc = some ⟨ps, rt⟩) (hlen : argsL.length = ps.length) (hW : (rest.map fun v => v.category).sum ≤ W)
    (hM : own_Met l Z y bytes maxL none rm as' h Q') (hf : rm.frames + 1 ≤ R.frames) (hl : W + (maxL + 11) + rm.locals ≤ R.locals) (hcc : cells + rm.cells ≤ R.cells) (hss : slots + rm.slots ≤ R.slots) (hst : st = argsL.reverse ++ .ref a :: rest) (has : as' = (.ref a :: argsL).toArray)
    (K : ∀ v T' L', Stand p l e R s m args below meth c T' (locs ++ L') (cells + rm.cells) (slots + rm.slots) → Q' v T'.heap L' → own_Fin p e below E (T'.setTop (mkF m (pc + 3) Ls (v.toList ++ rest)))) : own_Fin p e below E (T.setTop (mkF m pc Ls st)) := by
  subst hst has
  obtain ⟨v, _, ⟨T', L', k', n'⟩, -, X', ⟨L2, hQ, l1, y1, z1⟩, sp⟩ := X.specialBack hx (y := y) hy1 hown (mvT hZ w1) (mvT hZ w5) (mvT hZ w6) hy (backOf (W := W) (hM []) hZ w6 w7 hf hl) (g := mkF m pc Ls (argsL.reverse ++ .ref a :: rest)) rfl hsz (Steps.refl _) (a := a) (argsL := argsL) (rest := rest) (lenOf hpd hlen) rfl (by show 2 * 0 + _ ≤ _; omega) hd (fun _ _ => ⟨rfl, eT, hcc, hss⟩)
  dsimp only [Pt.U, Pt.locs, Pt.cells, Pt.slots] at X' l1 y1 z1 sp hQ
  subst l1 y1 z1
  exact own_via (K v T' L2 X' hQ) fun t k => sp.trans k
theorem own_retN (X : Stand p l e R s m args below meth c T locs cells slots) (hx : p.tables.exec = Jvm.exec) {t : FieldType} {z : Int32} (hret : meth.sig.returnType = some t) (ht : t = .boolean ∨ t = .byte ∨ t = .char ∨ t = .short) (hd : decode c.code pc = .ok (.ireturn, 1)) (hlk : meth.locks = false) (hc : cells ≤ kc) (hs : slots ≤ ks) (hQ : Q (some (.int (nar t z))) T.heap locs) : own_Fin p e below (own_End s Q kc ks) (T.setTop (mkF m pc Ls (.int z :: st))) := by
  obtain ⟨fs, hr, hrun, hended, hW, hsame⟩ := X.leave (v := some (.int (nar t z))) (fun h => by rw [hret] at h; cases h) hlk
  exact ⟨_, _, retN X hx hret ht hd hr, hrun, hended, _, _, rfl, hQ, ⟨_, rfl⟩, hW, hsame.mono hc hs⟩
theorem own_retI (X : Stand p l e R s m args below meth c T locs cells slots) (hx : p.tables.exec = Jvm.exec) {z : Int32} (hret : meth.sig.returnType = some .int) (hd : decode c.code pc = .ok (.ireturn, 1)) (hlk : meth.locks = false) (hc : cells ≤ kc) (hs : slots ≤ ks) (hQ : Q (some (.int z)) T.heap locs) : own_Fin p e below (own_End s Q kc ks) (T.setTop (mkF m pc Ls (.int z :: st))) := by
  obtain ⟨fs, hr, hrun, hended, hW, hsame⟩ := X.leave (v := some (.int z)) (fun h => by rw [hret] at h; cases h) hlk
  exact ⟨_, _, retOut X hx hret rfl (Or.inl ⟨rfl, Or.inl rfl, z, rfl⟩) hd hr, hrun, hended, _, _, rfl, hQ, ⟨_, rfl⟩, hW, hsame.mono hc hs⟩
theorem own_retJ (X : Stand p l e R s m args below meth c T locs cells slots) (hx : p.tables.exec = Jvm.exec) {z : Int64} (hret : meth.sig.returnType = some .long) (hd : decode c.code pc = .ok (.lreturn, 1)) (hlk : meth.locks = false) (hc : cells ≤ kc) (hs : slots ≤ ks) (hQ : Q (some (.long z)) T.heap locs) : own_Fin p e below (own_End s Q kc ks) (T.setTop (mkF m pc Ls (.long z :: st))) := by
  obtain ⟨fs, hr, hrun, hended, hW, hsame⟩ := X.leave (v := some (.long z)) (fun h => by rw [hret] at h; cases h) hlk
  exact ⟨_, _, retOut X hx hret rfl (Or.inr (Or.inl ⟨rfl, rfl, z, rfl⟩)) hd hr, hrun, hended, _, _, rfl, hQ, ⟨_, rfl⟩, hW, hsame.mono hc hs⟩
theorem own_retA (X : Stand p l e R s m args below meth c T locs cells slots) (hx : p.tables.exec = Jvm.exec) {t : FieldType} {v : Value} (hret : meth.sig.returnType = some t) (ht : t.isReference = true) (hv : v.isRef = true) (hn : narrow t v = v) (hd : decode c.code pc = .ok (.areturn, 1)) (hlk : meth.locks = false) (hc : cells ≤ kc) (hs : slots ≤ ks) (hQ : Q (some v) T.heap locs) : own_Fin p e below (own_End s Q kc ks) (T.setTop (mkF m pc Ls (v :: st))) := by
  obtain ⟨fs, hr, hrun, hended, hW, hsame⟩ := X.leave (v := some v) (fun h => by rw [hret] at h; cases h) hlk
  exact ⟨_, _, retOut X hx hret hn (Or.inr (Or.inr (Or.inr (Or.inr ⟨rfl, ht, hv⟩)))) hd hr, hrun, hended, _, _, rfl, hQ, ⟨_, rfl⟩, hW, hsame.mono hc hs⟩
theorem own_retV (X : Stand p l e R s m args below meth c T locs cells slots) (hx : p.tables.exec = Jvm.exec) (hret : meth.sig.returnType = none) (hd : decode c.code pc = .ok (.return_, 1)) (hlk : meth.locks = false) (hc : cells ≤ kc) (hs : slots ≤ ks) (hQ : Q none T.heap locs) : own_Fin p e below (own_End s Q kc ks) (T.setTop (mkF m pc Ls [])) := by
  obtain ⟨fs, hr, hrun, hended, hW, hsame⟩ := X.leave (v := none) (fun _ => rfl) hlk
  exact ⟨_, _, X.returnOut hx hret hd hr, hrun, hended, _, _, rfl, hQ, ⟨_, rfl⟩, hW, hsame.mono hc hs⟩
theorem own_exa {t : Term} {C : String} (hx : (Jvm.Cond.exactly t C).value args s none s [] = some true) : ∃ a, t.eval args s none [] s = some (.ref a) ∧ Exa s s.heap a C := by
  obtain ⟨a, ev⟩ := exa_v hx
  exact ⟨a, ev, Exa.start ev hx⟩
theorem own_eqI {t : Term} {v : Int32} {idx : List Nat} (h : (Jvm.Cond.eq t (.int v)).value args s none s idx = some true) : t.eval args s none idx s = some (.int v) := by
  simp only [Cond.value, Term.eval] at h
  cases ht : t.eval args s none idx s with
  | none => simp [ht] at h
  | some x => cases x <;> simp [ht] at h ⊢; exact h
theorem own_eqR {t u : Term} {b : Addr} {idx : List Nat} (hu : u.eval args s none idx s = some (.ref b)) (h : (Jvm.Cond.eq t u).value args s none s idx = some true) : t.eval args s none idx s = some (.ref b) := by
  simp only [Cond.value, hu] at h
  cases ht : t.eval args s none idx s with
  | none => simp [ht] at h
  | some x => cases x <;> simp [ht] at h ⊢; exact h
theorem own_len2 {t : Term} {a : Addr} {cl : Cell} {ty : FieldType} {n : Int32} (ev : t.eval args s none [] s = some (.ref a)) (A : Arr s s.heap a cl ty) (h : (Term.length t).eval args s none [] s = some (.int n)) : cl.slots.size < 2 ^ 31 ∧ cl.slots.size.toInt32 = n := by
  have hA := A.fin (Vm.Alike.refl _)
  simp only [Term.eval, ev, hA, Option.bind_eq_bind, Option.bind_some] at h
  by_cases q : cl.slots.size < 2 ^ 31
  · rw [if_pos q] at h
    exact ⟨q, Value.int.inj (Option.some.inj h)⟩
  · rw [if_neg q] at h
    cases h
theorem own_len {t : Term} {a : Addr} {cl : Cell} {ty : FieldType} {n : Int32} (ev : t.eval args s none [] s = some (.ref a)) (A : Arr s s.heap a cl ty) (h : (Term.length t).eval args s none [] s = some (.int n)) : cl.slots.size.toInt32 = n := (own_len2 ev A h).2
theorem own_fld {t : Term} {O n d : String} {a : Addr} {v : Value} (ev : t.eval args s none [] s = some (.ref a)) (h : (Term.field t O n d).eval args s none [] s = some v) : Fld s s.heap a O n d v := Fld.start (by rw [← fld_at ev]; exact h)
end Own


theorem own_w0 {a0 : Array Value} {Z : State} (hw : ∀ d ∈ tables_1, d.before a0 Z = true) : (Jvm.Cond.constant "com/example/vestwright/vestwright/HighlyCompensatedIsHcePinLaw" (7 : Nat) (2147483647 : Int32)).before a0 Z = true := hw _ (List.mem_of_getElem? (i := 0) rfl)
theorem own_w1 {a0 : Array Value} {Z : State} (hw : ∀ d ∈ tables_1, d.before a0 Z = true) : (Jvm.Cond.fieldLink "com/example/vestwright/vestwright/HighlyCompensatedIsHcePinLaw" (8 : Nat) "com/example/vestwright/vestwright/HighlyCompensated$Reason" "OWNER" "Lcom/example/vestwright/vestwright/HighlyCompensated$Reason;").before a0 Z = true := hw _ (List.mem_of_getElem? (i := 1) rfl)
theorem own_w2 {a0 : Array Value} {Z : State} (hw : ∀ d ∈ tables_1, d.before a0 Z = true) : (Jvm.Cond.initialized "com/example/vestwright/vestwright/HighlyCompensated$Reason").before a0 Z = true := hw _ (List.mem_of_getElem? (i := 2) rfl)
theorem own_w3 {a0 : Array Value} {Z : State} (hw : ∀ d ∈ tables_1, d.before a0 Z = true) : (Jvm.Cond.laysStatic "com/example/vestwright/vestwright/HighlyCompensated$Reason" "OWNER" "Lcom/example/vestwright/vestwright/HighlyCompensated$Reason;").before a0 Z = true := hw _ (List.mem_of_getElem? (i := 3) rfl)
theorem own_w4 {a0 : Array Value} {Z : State} (hw : ∀ d ∈ tables_1, d.before a0 Z = true) : (Jvm.Cond.methodLink "com/example/vestwright/vestwright/HighlyCompensatedIsHcePinLaw" (20 : Nat) ({ cls := "com/example/vestwright/vestwright/HighlyCompensated$Reason", name := "isHce", desc := "()Z" } : Jvm.MethodName)).before a0 Z = true := hw _ (List.mem_of_getElem? (i := 4) rfl)
theorem own_w5 {a0 : Array Value} {Z : State} (hw : ∀ d ∈ tables_1, d.before a0 Z = true) : (Jvm.Cond.declares ({ cls := "com/example/vestwright/vestwright/HighlyCompensated$Reason", name := "isHce", desc := "()Z" } : Jvm.MethodName)).before a0 Z = true := hw _ (List.mem_of_getElem? (i := 5) rfl)
theorem own_w6 {a0 : Array Value} {Z : State} (hw : ∀ d ∈ tables_1, d.before a0 Z = true) : (Jvm.Cond.instanceMethod ({ cls := "com/example/vestwright/vestwright/HighlyCompensated$Reason", name := "isHce", desc := "()Z" } : Jvm.MethodName)).before a0 Z = true := hw _ (List.mem_of_getElem? (i := 6) rfl)
theorem own_w7 {a0 : Array Value} {Z : State} (hw : ∀ d ∈ tables_1, d.before a0 Z = true) : (Jvm.Cond.selects "com/example/vestwright/vestwright/HighlyCompensated$Reason" ({ cls := "com/example/vestwright/vestwright/HighlyCompensated$Reason", name := "isHce", desc := "()Z" } : Jvm.MethodName) ({ cls := "com/example/vestwright/vestwright/HighlyCompensated$Reason", name := "isHce", desc := "()Z" } : Jvm.MethodName)).before a0 Z = true := hw _ (List.mem_of_getElem? (i := 7) rfl)
theorem own_w8 {a0 : Array Value} {Z : State} (hw : ∀ d ∈ tables_1, d.before a0 Z = true) : (Jvm.Cond.code ({ cls := "com/example/vestwright/vestwright/HighlyCompensated$Reason", name := "isHce", desc := "()Z" } : Jvm.MethodName) prog_26_method_4_code (1 : Nat) (Option.some Jvm.ClassFile.FieldType.boolean)).before a0 Z = true := hw _ (List.mem_of_getElem? (i := 8) rfl)
theorem own_w9 {a0 : Array Value} {Z : State} (hw : ∀ d ∈ tables_1, d.before a0 Z = true) : (Jvm.Cond.fieldLink "com/example/vestwright/vestwright/HighlyCompensated$Reason" (10 : Nat) "com/example/vestwright/vestwright/HighlyCompensated$Reason" "NONE" "Lcom/example/vestwright/vestwright/HighlyCompensated$Reason;").before a0 Z = true := hw _ (List.mem_of_getElem? (i := 9) rfl)
theorem own_w10 {a0 : Array Value} {Z : State} (hw : ∀ d ∈ tables_1, d.before a0 Z = true) : (Jvm.Cond.laysStatic "com/example/vestwright/vestwright/HighlyCompensated$Reason" "NONE" "Lcom/example/vestwright/vestwright/HighlyCompensated$Reason;").before a0 Z = true := hw _ (List.mem_of_getElem? (i := 10) rfl)
theorem own_w11 {a0 : Array Value} {Z : State} (hw : ∀ d ∈ tables_1, d.before a0 Z = true) : (Jvm.Cond.methodLink "com/example/vestwright/vestwright/HighlyCompensatedIsHcePinLaw" (24 : Nat) ({ cls := "com/example/vestwright/vestwright/HighlyCompensated$Reason", name := "outputName", desc := "()Ljava/lang/String;" } : Jvm.MethodName)).before a0 Z = true := hw _ (List.mem_of_getElem? (i := 11) rfl)
theorem own_w12 {a0 : Array Value} {Z : State} (hw : ∀ d ∈ tables_1, d.before a0 Z = true) : (Jvm.Cond.declares ({ cls := "com/example/vestwright/vestwright/HighlyCompensated$Reason", name := "outputName", desc := "()Ljava/lang/String;" } : Jvm.MethodName)).before a0 Z = true := hw _ (List.mem_of_getElem? (i := 12) rfl)
theorem own_w13 {a0 : Array Value} {Z : State} (hw : ∀ d ∈ tables_1, d.before a0 Z = true) : (Jvm.Cond.instanceMethod ({ cls := "com/example/vestwright/vestwright/HighlyCompensated$Reason", name := "outputName", desc := "()Ljava/lang/String;" } : Jvm.MethodName)).before a0 Z = true := hw _ (List.mem_of_getElem? (i := 13) rfl)
theorem own_w14 {a0 : Array Value} {Z : State} (hw : ∀ d ∈ tables_1, d.before a0 Z = true) : (Jvm.Cond.selects "com/example/vestwright/vestwright/HighlyCompensated$Reason" ({ cls := "com/example/vestwright/vestwright/HighlyCompensated$Reason", name := "outputName", desc := "()Ljava/lang/String;" } : Jvm.MethodName) ({ cls := "com/example/vestwright/vestwright/HighlyCompensated$Reason", name := "outputName", desc := "()Ljava/lang/String;" } : Jvm.MethodName)).before a0 Z = true := hw _ (List.mem_of_getElem? (i := 14) rfl)
theorem own_w15 {a0 : Array Value} {Z : State} (hw : ∀ d ∈ tables_1, d.before a0 Z = true) : (Jvm.Cond.code ({ cls := "com/example/vestwright/vestwright/HighlyCompensated$Reason", name := "outputName", desc := "()Ljava/lang/String;" } : Jvm.MethodName) prog_26_method_5_code (1 : Nat) (Option.some (Jvm.ClassFile.FieldType.object "java/lang/String"))).before a0 Z = true := hw _ (List.mem_of_getElem? (i := 15) rfl)
theorem own_w16 {a0 : Array Value} {Z : State} (hw : ∀ d ∈ tables_1, d.before a0 Z = true) : (Jvm.Cond.fieldLink "com/example/vestwright/vestwright/HighlyCompensated$Reason" (32 : Nat) "com/example/vestwright/vestwright/HighlyCompensated$Reason" "outputName" "Ljava/lang/String;").before a0 Z = true := hw _ (List.mem_of_getElem? (i := 16) rfl)
theorem own_w17 {a0 : Array Value} {Z : State} (hw : ∀ d ∈ tables_1, d.before a0 Z = true) : (Jvm.Cond.laysFinal "com/example/vestwright/vestwright/HighlyCompensated$Reason" "com/example/vestwright/vestwright/HighlyCompensated$Reason" "outputName" "Ljava/lang/String;").before a0 Z = true := hw _ (List.mem_of_getElem? (i := 17) rfl)
theorem own_w18 {a0 : Array Value} {Z : State} (hw : ∀ d ∈ tables_1, d.before a0 Z = true) : (Jvm.Cond.methodLink "com/example/vestwright/vestwright/HighlyCompensatedIsHcePinLaw" (28 : Nat) ({ cls := "java/lang/String", name := "isEmpty", desc := "()Z" } : Jvm.MethodName)).before a0 Z = true := hw _ (List.mem_of_getElem? (i := 18) rfl)
theorem own_w19 {a0 : Array Value} {Z : State} (hw : ∀ d ∈ tables_1, d.before a0 Z = true) : (Jvm.Cond.declares ({ cls := "java/lang/String", name := "isEmpty", desc := "()Z" } : Jvm.MethodName)).before a0 Z = true := hw _ (List.mem_of_getElem? (i := 19) rfl)
theorem own_w20 {a0 : Array Value} {Z : State} (hw : ∀ d ∈ tables_1, d.before a0 Z = true) : (Jvm.Cond.instanceMethod ({ cls := "java/lang/String", name := "isEmpty", desc := "()Z" } : Jvm.MethodName)).before a0 Z = true := hw _ (List.mem_of_getElem? (i := 20) rfl)
theorem own_w21 {a0 : Array Value} {Z : State} (hw : ∀ d ∈ tables_1, d.before a0 Z = true) : (Jvm.Cond.selects "java/lang/String" ({ cls := "java/lang/String", name := "isEmpty", desc := "()Z" } : Jvm.MethodName) ({ cls := "java/lang/String", name := "isEmpty", desc := "()Z" } : Jvm.MethodName)).before a0 Z = true := hw _ (List.mem_of_getElem? (i := 21) rfl)
theorem own_w22 {a0 : Array Value} {Z : State} (hw : ∀ d ∈ tables_1, d.before a0 Z = true) : (Jvm.Cond.initialized "java/lang/String").before a0 Z = true := hw _ (List.mem_of_getElem? (i := 22) rfl)
theorem own_w23 {a0 : Array Value} {Z : State} (hw : ∀ d ∈ tables_1, d.before a0 Z = true) : (Jvm.Cond.code ({ cls := "java/lang/String", name := "isEmpty", desc := "()Z" } : Jvm.MethodName) jdk_42_method_55_code (1 : Nat) (Option.some Jvm.ClassFile.FieldType.boolean)).before a0 Z = true := hw _ (List.mem_of_getElem? (i := 23) rfl)
theorem own_w24 {a0 : Array Value} {Z : State} (hw : ∀ d ∈ tables_1, d.before a0 Z = true) : (Jvm.Cond.fieldLink "java/lang/String" (9 : Nat) "java/lang/String" "value" "[B").before a0 Z = true := hw _ (List.mem_of_getElem? (i := 24) rfl)
theorem own_w25 {a0 : Array Value} {Z : State} (hw : ∀ d ∈ tables_1, d.before a0 Z = true) : (Jvm.Cond.laysFinal "java/lang/String" "java/lang/String" "value" "[B").before a0 Z = true := hw _ (List.mem_of_getElem? (i := 25) rfl)
theorem own_w26 {a0 : Array Value} {Z : State} (hw : ∀ d ∈ tables_1, d.before a0 Z = true) : (Jvm.Cond.fieldLink "com/example/vestwright/vestwright/HighlyCompensatedIsHcePinLaw" (17 : Nat) "com/example/vestwright/vestwright/HighlyCompensated$Reason" "NONE" "Lcom/example/vestwright/vestwright/HighlyCompensated$Reason;").before a0 Z = true := hw _ (List.mem_of_getElem? (i := 26) rfl)
theorem own_w27 {a0 : Array Value} {Z : State} (hw : ∀ d ∈ tables_1, d.before a0 Z = true) : (Jvm.Cond.fieldLink "com/example/vestwright/vestwright/HighlyCompensatedIsHcePinLaw" (14 : Nat) "com/example/vestwright/vestwright/HighlyCompensated$Reason" "COMPENSATION" "Lcom/example/vestwright/vestwright/HighlyCompensated$Reason;").before a0 Z = true := hw _ (List.mem_of_getElem? (i := 27) rfl)
theorem own_w28 {a0 : Array Value} {Z : State} (hw : ∀ d ∈ tables_1, d.before a0 Z = true) : (Jvm.Cond.laysStatic "com/example/vestwright/vestwright/HighlyCompensated$Reason" "COMPENSATION" "Lcom/example/vestwright/vestwright/HighlyCompensated$Reason;").before a0 Z = true := hw _ (List.mem_of_getElem? (i := 28) rfl)
theorem own_k (x : Int32) : (x &&& (2147483647 : Int32)) % (3 : Int32) = 0 ∨ (x &&& (2147483647 : Int32)) % (3 : Int32) = 1 ∨ (x &&& (2147483647 : Int32)) % (3 : Int32) = 2 := by
  have h1 := (c_and x 2147483647 (by decide)).1
  have h2 := (c_irem (x &&& 2147483647) 3 3 (by decide)).1 h1
  have e0 : (0 : Int32).toInt = 0 := by decide
  have e1 : (1 : Int32).toInt = 1 := by decide
  have e2 : (2 : Int32).toInt = 2 := by decide
  simp only [← Int32.toInt_inj, h2, e0, e1, e2]
  omega
theorem own_hce_0 : decode prog_26_method_4_code 0 = .ok (.aload_n 0, 1) := by decide +kernel
theorem own_hce_1 : decode prog_26_method_4_code 1 = .ok (.getstatic 10, 3) := by decide +kernel
theorem own_hce_4 : decode prog_26_method_4_code 4 = .ok (.if_acmp .eq 7, 3) := by decide +kernel
theorem own_hce_7 : decode prog_26_method_4_code 7 = .ok (.iconst 1, 1) := by decide +kernel
theorem own_hce_8 : decode prog_26_method_4_code 8 = .ok (.goto 4, 3) := by decide +kernel
theorem own_hce_11 : decode prog_26_method_4_code 11 = .ok (.iconst 0, 1) := by decide +kernel
theorem own_hce_12 : decode prog_26_method_4_code 12 = .ok (.ireturn, 1) := by decide +kernel
theorem own_pn_com_example_vestwright_vestwright_HighlyCompensated_Reason : plainName "com/example/vestwright/vestwright/HighlyCompensated$Reason" = true := by first | (simp [plainName, overriddenIn]; done) | decide +kernel
set_option maxRecDepth 65536 in
set_option maxHeartbeats 40000000 in
theorem own_hce (l : Launch) (Z : State) (a0 : Array Value) (hw : ∀ d ∈ tables_1, d.before a0 Z = true) (a w : Addr) (h0 : Heap) (n0 : Nat) (S : Sta Z h0 "com/example/vestwright/vestwright/HighlyCompensated$Reason" "NONE" "Lcom/example/vestwright/vestwright/HighlyCompensated$Reason;" (.ref w)) :
    own_Met l Z (⟨"com/example/vestwright/vestwright/HighlyCompensated$Reason", "isHce", "()Z"⟩ : MethodName) prog_26_method_4_code 1 (some .boolean) ({ frames := 0, cells := 0, slots := 0, locals := 0 } : Room) #[(.ref a)] h0 (fun v h L => v = some (.int (if a = w then 0 else 1)) ∧ Fr n0 L ∧ h = h0) := by
  refine own_body (Ls := #[.val (.ref a)]) (plainFor_of_name own_pn_com_example_vestwright_vestwright_HighlyCompensated_Reason) (fun m => by first | (simp [entryFrame, mkF, argsToLocals, Value.category]; done) | rfl) ?_
  intro p e s m below meth c s₁ hx hZ hby hml hown hnm hret hlk X0 e0
  have N0 := Fr.nil n0
  refine own_aloadN X0 hx (hb hby own_hce_0) rfl rfl ?_
  refine own_getstatic X0 hx hZ (host := "") hown (Or.inl (own_w9 hw)) Via.refl e0 S (hb hby own_hce_1) fun T1 X1 e1 => ?_
  by_cases ha : a = w
  · skip
    refine own_acmpYes X1 hx 11 (hb hby own_hce_4) (by decide) (by decide) rfl rfl (Jvm.Free.XT.aa_eq_t (congrArg Value.ref ha)) ?_
    refine own_iconst X1 hx (0 : Int32) (hb hby own_hce_11) rfl ?_
    refine own_retN X1 hx (t := .boolean) hret (by simp) (hb hby own_hce_12) hlk (by decide) (by decide) ?_
    exact ⟨by rw [if_pos ha]; rfl, N0, e1⟩
  · skip
    refine own_acmpNo X1 hx (hb hby own_hce_4) rfl rfl (Jvm.Free.XT.aa_eq_f (fun q => ha (Value.ref.inj q))) ?_
    refine own_iconst X1 hx (1 : Int32) (hb hby own_hce_7) rfl ?_
    refine own_goto X1 hx 12 (hb hby own_hce_8) (by decide) (by decide) ?_
    refine own_retN X1 hx (t := .boolean) hret (by simp) (hb hby own_hce_12) hlk (by decide) (by decide) ?_
    exact ⟨by rw [if_neg ha]; rfl, N0, e1⟩
theorem own_on_0 : decode prog_26_method_5_code 0 = .ok (.aload_n 0, 1) := by decide +kernel
theorem own_on_1 : decode prog_26_method_5_code 1 = .ok (.getfield 32, 3) := by decide +kernel
theorem own_on_4 : decode prog_26_method_5_code 4 = .ok (.areturn, 1) := by decide +kernel
set_option maxRecDepth 65536 in
set_option maxHeartbeats 40000000 in
theorem own_name (l : Launch) (Z : State) (a0 : Array Value) (hw : ∀ d ∈ tables_1, d.before a0 Z = true) (a : Addr) (g : Addr) (h0 : Heap) (n0 : Nat) (F : Fld Z h0 a "com/example/vestwright/vestwright/HighlyCompensated$Reason" "outputName" "Ljava/lang/String;" (.ref g)) :
    own_Met l Z (⟨"com/example/vestwright/vestwright/HighlyCompensated$Reason", "outputName", "()Ljava/lang/String;"⟩ : MethodName) prog_26_method_5_code 1 (some (.object "java/lang/String")) ({ frames := 0, cells := 0, slots := 0, locals := 0 } : Room) #[(.ref a)] h0 (fun v h L => v = some (.ref g) ∧ Fr n0 L ∧ h = h0) := by
  refine own_body (Ls := #[.val (.ref a)]) (plainFor_of_name own_pn_com_example_vestwright_vestwright_HighlyCompensated_Reason) (fun m => by first | (simp [entryFrame, mkF, argsToLocals, Value.category]; done) | rfl) ?_
  intro p e s m below meth c s₁ hx hZ hby hml hown hnm hret hlk X0 e0
  have N0 := Fr.nil n0
  refine own_aloadN X0 hx (hb hby own_on_0) rfl rfl ?_
  refine own_getfield X0 hx hZ (host := "") hown (Or.inl (own_w16 hw)) Via.refl e0 F (hb hby own_on_1) fun T2 X2 e2 => ?_
  refine own_retA X2 hx hret rfl rfl rfl (hb hby own_on_4) hlk (by decide) (by decide) ?_
  exact ⟨rfl, N0, e2⟩
theorem own_emp_0 : decode jdk_42_method_55_code 0 = .ok (.aload_n 0, 1) := by decide +kernel
theorem own_emp_1 : decode jdk_42_method_55_code 1 = .ok (.getfield 9, 3) := by decide +kernel
theorem own_emp_4 : decode jdk_42_method_55_code 4 = .ok (.arraylength, 1) := by decide +kernel
theorem own_emp_5 : decode jdk_42_method_55_code 5 = .ok (.ifCond .ne 7, 3) := by decide +kernel
theorem own_emp_8 : decode jdk_42_method_55_code 8 = .ok (.iconst 1, 1) := by decide +kernel
theorem own_emp_9 : decode jdk_42_method_55_code 9 = .ok (.goto 4, 3) := by decide +kernel
theorem own_emp_12 : decode jdk_42_method_55_code 12 = .ok (.iconst 0, 1) := by decide +kernel
theorem own_emp_13 : decode jdk_42_method_55_code 13 = .ok (.ireturn, 1) := by decide +kernel
theorem own_pn_java_lang_String : plainName "java/lang/String" = true := by first | (simp [plainName, overriddenIn]; done) | decide +kernel
set_option maxRecDepth 65536 in
set_option maxHeartbeats 40000000 in
theorem own_empty5 (l : Launch) (Z : State) (a0 : Array Value) (hw : ∀ d ∈ tables_1, d.before a0 Z = true) (a b : Addr) (cl : Cell) (h0 : Heap) (n0 : Nat) (F : Fld Z h0 a "java/lang/String" "value" "[B" (.ref b)) (A : Arr Z h0 b cl .byte) (hl : cl.slots.size.toInt32 = (5 : Int32)) :
    own_Met l Z (⟨"java/lang/String", "isEmpty", "()Z"⟩ : MethodName) jdk_42_method_55_code 1 (some .boolean) ({ frames := 0, cells := 0, slots := 0, locals := 0 } : Room) #[(.ref a)] h0 (fun v h L => v = some (.int 0) ∧ Fr n0 L ∧ h = h0) := by
  refine own_body (Ls := #[.val (.ref a)]) (plainFor_of_name own_pn_java_lang_String) (fun m => by first | (simp [entryFrame, mkF, argsToLocals, Value.category]; done) | rfl) ?_
  intro p e s m below meth c s₁ hx hZ hby hml hown hnm hret hlk X0 e0
  have N0 := Fr.nil n0
  refine own_aloadN X0 hx (hb hby own_emp_0) rfl rfl ?_
  refine own_getfield X0 hx hZ (host := "") hown (Or.inl (own_w24 hw)) Via.refl e0 F (hb hby own_emp_1) fun T3 X3 e3 => ?_
  refine own_arraylength X3 hx hZ e3 A hl (hb hby own_emp_4) ?_
  refine own_ifYes X3 hx 12 (hb hby own_emp_5) (by decide) (by decide) (by decide) ?_
  refine own_iconst X3 hx (0 : Int32) (hb hby own_emp_12) rfl ?_
  refine own_retN X3 hx (t := .boolean) hret (by simp) (hb hby own_emp_13) hlk (by decide) (by decide) ?_
  exact ⟨rfl, N0, e3⟩
set_option maxRecDepth 65536 in
set_option maxHeartbeats 40000000 in
theorem own_empty12 (l : Launch) (Z : State) (a0 : Array Value) (hw : ∀ d ∈ tables_1, d.before a0 Z = true) (a b : Addr) (cl : Cell) (h0 : Heap) (n0 : Nat) (F : Fld Z h0 a "java/lang/String" "value" "[B" (.ref b)) (A : Arr Z h0 b cl .byte) (hl : cl.slots.size.toInt32 = (12 : Int32)) :
    own_Met l Z (⟨"java/lang/String", "isEmpty", "()Z"⟩ : MethodName) jdk_42_method_55_code 1 (some .boolean) ({ frames := 0, cells := 0, slots := 0, locals := 0 } : Room) #[(.ref a)] h0 (fun v h L => v = some (.int 0) ∧ Fr n0 L ∧ h = h0) := by
  refine own_body (Ls := #[.val (.ref a)]) (plainFor_of_name own_pn_java_lang_String) (fun m => by first | (simp [entryFrame, mkF, argsToLocals, Value.category]; done) | rfl) ?_
  intro p e s m below meth c s₁ hx hZ hby hml hown hnm hret hlk X0 e0
  have N0 := Fr.nil n0
  refine own_aloadN X0 hx (hb hby own_emp_0) rfl rfl ?_
  refine own_getfield X0 hx hZ (host := "") hown (Or.inl (own_w24 hw)) Via.refl e0 F (hb hby own_emp_1) fun T4 X4 e4 => ?_
  refine own_arraylength X4 hx hZ e4 A hl (hb hby own_emp_4) ?_
  refine own_ifYes X4 hx 12 (hb hby own_emp_5) (by decide) (by decide) (by decide) ?_
  refine own_iconst X4 hx (0 : Int32) (hb hby own_emp_12) rfl ?_
  refine own_retN X4 hx (t := .boolean) hret (by simp) (hb hby own_emp_13) hlk (by decide) (by decide) ?_
  exact ⟨rfl, N0, e4⟩
set_option maxRecDepth 65536 in
set_option maxHeartbeats 40000000 in
theorem own_empty0 (l : Launch) (Z : State) (a0 : Array Value) (hw : ∀ d ∈ tables_1, d.before a0 Z = true) (a b : Addr) (cl : Cell) (h0 : Heap) (n0 : Nat) (F : Fld Z h0 a "java/lang/String" "value" "[B" (.ref b)) (A : Arr Z h0 b cl .byte) (hl : cl.slots.size.toInt32 = (0 : Int32)) :
    own_Met l Z (⟨"java/lang/String", "isEmpty", "()Z"⟩ : MethodName) jdk_42_method_55_code 1 (some .boolean) ({ frames := 0, cells := 0, slots := 0, locals := 0 } : Room) #[(.ref a)] h0 (fun v h L => v = some (.int 1) ∧ Fr n0 L ∧ h = h0) := by
  refine own_body (Ls := #[.val (.ref a)]) (plainFor_of_name own_pn_java_lang_String) (fun m => by first | (simp [entryFrame, mkF, argsToLocals, Value.category]; done) | rfl) ?_
  intro p e s m below meth c s₁ hx hZ hby hml hown hnm hret hlk X0 e0
  have N0 := Fr.nil n0
  refine own_aloadN X0 hx (hb hby own_emp_0) rfl rfl ?_
  refine own_getfield X0 hx hZ (host := "") hown (Or.inl (own_w24 hw)) Via.refl e0 F (hb hby own_emp_1) fun T5 X5 e5 => ?_
  refine own_arraylength X5 hx hZ e5 A hl (hb hby own_emp_4) ?_
  refine own_ifNo X5 hx (hb hby own_emp_5) (by decide) ?_
  refine own_iconst X5 hx (1 : Int32) (hb hby own_emp_8) rfl ?_
  refine own_goto X5 hx 13 (hb hby own_emp_9) (by decide) (by decide) ?_
  refine own_retN X5 hx (t := .boolean) hret (by simp) (hb hby own_emp_13) hlk (by decide) (by decide) ?_
  exact ⟨rfl, N0, e5⟩
theorem own_pn_com_example_vestwright_vestwright_HighlyCompensatedIsHcePinLaw : plainName "com/example/vestwright/vestwright/HighlyCompensatedIsHcePinLaw" = true := by first | (simp [plainName, overriddenIn]; done) | decide +kernel
theorem own_pd__28_29Z : parseMethodDescriptor "()Z" = some ⟨[], some .boolean⟩ := by decide +kernel
theorem own_pd__28_29Ljava_2flang_2fString_3b : parseMethodDescriptor "()Ljava/lang/String;" = some ⟨[], some (.object "java/lang/String")⟩ := by decide +kernel
set_option maxRecDepth 65536 in
set_option maxHeartbeats 40000000 in
theorem own_law (l : Launch) (Z : State) (a0 : Array Value) (hw : ∀ d ∈ tables_1, d.before a0 Z = true) (x0 : Int32) (sOWNER tOWNER bOWNER : Addr) (cOWNER : Cell) (sCOMPENSATION tCOMPENSATION bCOMPENSATION : Addr) (cCOMPENSATION : Cell) (sNONE tNONE bNONE : Addr) (cNONE : Cell) (h0 : Heap) (n0 : Nat) (S_OWNER : Sta Z h0 "com/example/vestwright/vestwright/HighlyCompensated$Reason" "OWNER" "Lcom/example/vestwright/vestwright/HighlyCompensated$Reason;" (.ref sOWNER)) (E_OWNER : Exa Z h0 sOWNER "com/example/vestwright/vestwright/HighlyCompensated$Reason") (F_OWNER : Fld Z h0 sOWNER "com/example/vestwright/vestwright/HighlyCompensated$Reason" "outputName" "Ljava/lang/String;" (.ref tOWNER)) (H_OWNER : Exa Z h0 tOWNER "java/lang/String") (G_OWNER : Fld Z h0 tOWNER "java/lang/String" "value" "[B" (.ref bOWNER)) (A_OWNER : Arr Z h0 bOWNER cOWNER .byte) (l_OWNER : cOWNER.slots.size.toInt32 = (5 : Int32)) (S_COMPENSATION : Sta Z h0 "com/example/vestwright/vestwright/HighlyCompensated$Reason" "COMPENSATION" "Lcom/example/vestwright/vestwright/HighlyCompensated$Reason;" (.ref sCOMPENSATION)) (E_COMPENSATION : Exa Z h0 sCOMPENSATION "com/example/vestwright/vestwright/HighlyCompensated$Reason") (F_COMPENSATION : Fld Z h0 sCOMPENSATION "com/example/vestwright/vestwright/HighlyCompensated$Reason" "outputName" "Ljava/lang/String;" (.ref tCOMPENSATION)) (H_COMPENSATION : Exa Z h0 tCOMPENSATION "java/lang/String") (G_COMPENSATION : Fld Z h0 tCOMPENSATION "java/lang/String" "value" "[B" (.ref bCOMPENSATION)) (A_COMPENSATION : Arr Z h0 bCOMPENSATION cCOMPENSATION .byte) (l_COMPENSATION : cCOMPENSATION.slots.size.toInt32 = (12 : Int32)) (S_NONE : Sta Z h0 "com/example/vestwright/vestwright/HighlyCompensated$Reason" "NONE" "Lcom/example/vestwright/vestwright/HighlyCompensated$Reason;" (.ref sNONE)) (E_NONE : Exa Z h0 sNONE "com/example/vestwright/vestwright/HighlyCompensated$Reason") (F_NONE : Fld Z h0 sNONE "com/example/vestwright/vestwright/HighlyCompensated$Reason" "outputName" "Ljava/lang/String;" (.ref tNONE)) (H_NONE : Exa Z h0 tNONE "java/lang/String") (G_NONE : Fld Z h0 tNONE "java/lang/String" "value" "[B" (.ref bNONE)) (A_NONE : Arr Z h0 bNONE cNONE .byte) (l_NONE : cNONE.slots.size.toInt32 = (0 : Int32)) (D_OWNER_NONE : sOWNER ≠ sNONE) (D_COMPENSATION_NONE : sCOMPENSATION ≠ sNONE) :
    own_Met l Z x code maxLocals ret room_1 #[(.int x0)] h0 (fun v h L => v = some (.int 1) ∧ Fr n0 L) := by
  refine own_body (Ls := #[.val (.int x0), .unset, .unset, .unset, .unset, .unset]) (plainFor_of_name own_pn_com_example_vestwright_vestwright_HighlyCompensatedIsHcePinLaw) (fun m => by first | (simp [entryFrame, mkF, argsToLocals, Value.category, maxLocals]; done) | rfl) ?_
  intro p e s m below meth c s₁ hx hZ hby hml hown hnm hret hlk X0 e0
  have N0 := Fr.nil n0
  refine own_iloadN X0 hx (hb hby at_0) rfl ?_
  refine own_ldcI X0 hx hZ hown (own_w0 hw) (hb hby at_1) ?_
  refine own_iand X0 hx (hb hby at_3) ?_
  refine own_iconst X0 hx (3 : Int32) (hb hby at_4) rfl ?_
  refine own_irem X0 hx (hb hby at_5) (by decide) ?_
  refine own_istoreN X0 hx (l' := #[.val (.int x0), .val (.int ((x0 &&& (2147483647 : Int32)) % (3 : Int32))), .unset, .unset, .unset, .unset]) (hb hby at_6) rfl ?_
  have hk := own_k x0
  generalize (x0 &&& (2147483647 : Int32)) % (3 : Int32) = kk at hk ⊢
  rcases hk with rfl | rfl | rfl
  · skip
    refine own_iloadN X0 hx (hb hby at_7) rfl ?_
    refine own_ifNo X0 hx (hb hby at_8) (by decide) ?_
    refine own_getstatic X0 hx hZ (host := "") hown (Or.inl (own_w1 hw)) Via.refl e0 S_OWNER (hb hby at_11) fun T6 X6 e6 => ?_
    refine own_astoreN X6 hx (l' := #[.val (.int x0), .val (.int (0 : Int32)), .val (.ref sOWNER), .unset, .unset, .unset]) (hb hby at_14) rfl rfl ?_
    refine own_iconst X6 hx (1 : Int32) (hb hby at_15) rfl ?_
    refine own_istoreN X6 hx (l' := #[.val (.int x0), .val (.int (0 : Int32)), .val (.ref sOWNER), .val (.int (1 : Int32)), .unset, .unset]) (hb hby at_16) rfl ?_
    refine own_goto X6 hx 40 (hb hby at_17) (by decide) (by decide) ?_
    refine own_aloadN X6 hx (hb hby at_40) rfl rfl ?_
    refine own_virt X6 hx hZ hown (own_w4 hw) (own_w5 hw) (own_w7 hw) (own_w7 hw) (own_w6 hw) (own_w8 hw) (own_w2 hw) (by decide) e6 E_OWNER (hb hby at_41) (by rw [hml]; rfl) own_pd__28_29Z rfl (W := 0) (Nat.le_of_ble_eq_true rfl) (own_hce l Z a0 hw sOWNER sNONE h0 n0 S_NONE) (by decide) (by decide) (by decide) (by decide) (argsL := []) (rest := []) rfl rfl fun v7 T7 L7 X7 q7 => ?_
    obtain ⟨rfl, M7, e7⟩ := q7
    rw [if_neg D_OWNER_NONE]
    have N7 := Fr.app N0 M7
    show own_Fin p e below _ (T7.setTop (mkF m 44 #[.val (.int x0), .val (.int (0 : Int32)), .val (.ref sOWNER), .val (.int (1 : Int32)), .unset, .unset] [(.int (1 : Int32))]))
    refine own_istore X7 hx (l' := #[.val (.int x0), .val (.int (0 : Int32)), .val (.ref sOWNER), .val (.int (1 : Int32)), .val (.int (1 : Int32)), .unset]) (hb hby at_44) rfl ?_
    refine own_aloadN X7 hx (hb hby at_46) rfl rfl ?_
    refine own_virt X7 hx hZ hown (own_w11 hw) (own_w12 hw) (own_w14 hw) (own_w14 hw) (own_w13 hw) (own_w15 hw) (own_w2 hw) (by decide) e7 E_OWNER (hb hby at_47) (by rw [hml]; rfl) own_pd__28_29Ljava_2flang_2fString_3b rfl (W := 0) (Nat.le_of_ble_eq_true rfl) (own_name l Z a0 hw sOWNER tOWNER h0 n0 F_OWNER) (by decide) (by decide) (by decide) (by decide) (argsL := []) (rest := []) rfl rfl fun v8 T8 L8 X8 q8 => ?_
    obtain ⟨rfl, M8, e8⟩ := q8
    have N8 := Fr.app N7 M8
    show own_Fin p e below _ (T8.setTop (mkF m 50 #[.val (.int x0), .val (.int (0 : Int32)), .val (.ref sOWNER), .val (.int (1 : Int32)), .val (.int (1 : Int32)), .unset] [(.ref tOWNER)]))
    refine own_virt X8 hx hZ hown (own_w18 hw) (own_w19 hw) (own_w21 hw) (own_w21 hw) (own_w20 hw) (own_w23 hw) (own_w22 hw) (by decide) e8 H_OWNER (hb hby at_50) (by rw [hml]; rfl) own_pd__28_29Z rfl (W := 0) (Nat.le_of_ble_eq_true rfl) (own_empty5 l Z a0 hw tOWNER bOWNER cOWNER h0 n0 G_OWNER A_OWNER l_OWNER) (by decide) (by decide) (by decide) (by decide) (argsL := []) (rest := []) rfl rfl fun v9 T9 L9 X9 q9 => ?_
    obtain ⟨rfl, M9, e9⟩ := q9
    have N9 := Fr.app N8 M9
    show own_Fin p e below _ (T9.setTop (mkF m 53 #[.val (.int x0), .val (.int (0 : Int32)), .val (.ref sOWNER), .val (.int (1 : Int32)), .val (.int (1 : Int32)), .unset] [(.int (0 : Int32))]))
    refine own_ifNo X9 hx (hb hby at_53) (by decide) ?_
    refine own_iconst X9 hx (1 : Int32) (hb hby at_56) rfl ?_
    refine own_goto X9 hx 61 (hb hby at_57) (by decide) (by decide) ?_
    refine own_istore X9 hx (l' := #[.val (.int x0), .val (.int (0 : Int32)), .val (.ref sOWNER), .val (.int (1 : Int32)), .val (.int (1 : Int32)), .val (.int (1 : Int32))]) (hb hby at_61) rfl ?_
    refine own_iload X9 hx (hb hby at_63) rfl ?_
    refine own_iloadN X9 hx (hb hby at_65) rfl ?_
    refine own_icmpNo X9 hx (hb hby at_66) (by decide) ?_
    refine own_iload X9 hx (hb hby at_69) rfl ?_
    refine own_iload X9 hx (hb hby at_71) rfl ?_
    refine own_icmpNo X9 hx (hb hby at_73) (by decide) ?_
    refine own_iconst X9 hx (1 : Int32) (hb hby at_76) rfl ?_
    refine own_goto X9 hx 81 (hb hby at_77) (by decide) (by decide) ?_
    refine own_retN X9 hx (t := .boolean) hret (by simp) (hb hby at_81) hlk (by decide) (by decide) ?_
    exact ⟨rfl, N9⟩
  · skip
    refine own_iloadN X0 hx (hb hby at_7) rfl ?_
    refine own_ifYes X0 hx 20 (hb hby at_8) (by decide) (by decide) (by decide) ?_
    refine own_iloadN X0 hx (hb hby at_20) rfl ?_
    refine own_iconst X0 hx (1 : Int32) (hb hby at_21) rfl ?_
    refine own_icmpNo X0 hx (hb hby at_22) (by decide) ?_
    refine own_getstatic X0 hx hZ (host := "") hown (Or.inl (own_w27 hw)) Via.refl e0 S_COMPENSATION (hb hby at_25) fun T10 X10 e10 => ?_
    refine own_astoreN X10 hx (l' := #[.val (.int x0), .val (.int (1 : Int32)), .val (.ref sCOMPENSATION), .unset, .unset, .unset]) (hb hby at_28) rfl rfl ?_
    refine own_iconst X10 hx (1 : Int32) (hb hby at_29) rfl ?_
    refine own_istoreN X10 hx (l' := #[.val (.int x0), .val (.int (1 : Int32)), .val (.ref sCOMPENSATION), .val (.int (1 : Int32)), .unset, .unset]) (hb hby at_30) rfl ?_
    refine own_goto X10 hx 40 (hb hby at_31) (by decide) (by decide) ?_
    refine own_aloadN X10 hx (hb hby at_40) rfl rfl ?_
    refine own_virt X10 hx hZ hown (own_w4 hw) (own_w5 hw) (own_w7 hw) (own_w7 hw) (own_w6 hw) (own_w8 hw) (own_w2 hw) (by decide) e10 E_COMPENSATION (hb hby at_41) (by rw [hml]; rfl) own_pd__28_29Z rfl (W := 0) (Nat.le_of_ble_eq_true rfl) (own_hce l Z a0 hw sCOMPENSATION sNONE h0 n0 S_NONE) (by decide) (by decide) (by decide) (by decide) (argsL := []) (rest := []) rfl rfl fun v11 T11 L11 X11 q11 => ?_
    obtain ⟨rfl, M11, e11⟩ := q11
    rw [if_neg D_COMPENSATION_NONE]
    have N11 := Fr.app N0 M11
    show own_Fin p e below _ (T11.setTop (mkF m 44 #[.val (.int x0), .val (.int (1 : Int32)), .val (.ref sCOMPENSATION), .val (.int (1 : Int32)), .unset, .unset] [(.int (1 : Int32))]))
    refine own_istore X11 hx (l' := #[.val (.int x0), .val (.int (1 : Int32)), .val (.ref sCOMPENSATION), .val (.int (1 : Int32)), .val (.int (1 : Int32)), .unset]) (hb hby at_44) rfl ?_
    refine own_aloadN X11 hx (hb hby at_46) rfl rfl ?_
    refine own_virt X11 hx hZ hown (own_w11 hw) (own_w12 hw) (own_w14 hw) (own_w14 hw) (own_w13 hw) (own_w15 hw) (own_w2 hw) (by decide) e11 E_COMPENSATION (hb hby at_47) (by rw [hml]; rfl) own_pd__28_29Ljava_2flang_2fString_3b rfl (W := 0) (Nat.le_of_ble_eq_true rfl) (own_name l Z a0 hw sCOMPENSATION tCOMPENSATION h0 n0 F_COMPENSATION) (by decide) (by decide) (by decide) (by decide) (argsL := []) (rest := []) rfl rfl fun v12 T12 L12 X12 q12 => ?_
    obtain ⟨rfl, M12, e12⟩ := q12
    have N12 := Fr.app N11 M12
    show own_Fin p e below _ (T12.setTop (mkF m 50 #[.val (.int x0), .val (.int (1 : Int32)), .val (.ref sCOMPENSATION), .val (.int (1 : Int32)), .val (.int (1 : Int32)), .unset] [(.ref tCOMPENSATION)]))
    refine own_virt X12 hx hZ hown (own_w18 hw) (own_w19 hw) (own_w21 hw) (own_w21 hw) (own_w20 hw) (own_w23 hw) (own_w22 hw) (by decide) e12 H_COMPENSATION (hb hby at_50) (by rw [hml]; rfl) own_pd__28_29Z rfl (W := 0) (Nat.le_of_ble_eq_true rfl) (own_empty12 l Z a0 hw tCOMPENSATION bCOMPENSATION cCOMPENSATION h0 n0 G_COMPENSATION A_COMPENSATION l_COMPENSATION) (by decide) (by decide) (by decide) (by decide) (argsL := []) (rest := []) rfl rfl fun v13 T13 L13 X13 q13 => ?_
    obtain ⟨rfl, M13, e13⟩ := q13
    have N13 := Fr.app N12 M13
    show own_Fin p e below _ (T13.setTop (mkF m 53 #[.val (.int x0), .val (.int (1 : Int32)), .val (.ref sCOMPENSATION), .val (.int (1 : Int32)), .val (.int (1 : Int32)), .unset] [(.int (0 : Int32))]))
    refine own_ifNo X13 hx (hb hby at_53) (by decide) ?_
    refine own_iconst X13 hx (1 : Int32) (hb hby at_56) rfl ?_
    refine own_goto X13 hx 61 (hb hby at_57) (by decide) (by decide) ?_
    refine own_istore X13 hx (l' := #[.val (.int x0), .val (.int (1 : Int32)), .val (.ref sCOMPENSATION), .val (.int (1 : Int32)), .val (.int (1 : Int32)), .val (.int (1 : Int32))]) (hb hby at_61) rfl ?_
    refine own_iload X13 hx (hb hby at_63) rfl ?_
    refine own_iloadN X13 hx (hb hby at_65) rfl ?_
    refine own_icmpNo X13 hx (hb hby at_66) (by decide) ?_
    refine own_iload X13 hx (hb hby at_69) rfl ?_
    refine own_iload X13 hx (hb hby at_71) rfl ?_
    refine own_icmpNo X13 hx (hb hby at_73) (by decide) ?_
    refine own_iconst X13 hx (1 : Int32) (hb hby at_76) rfl ?_
    refine own_goto X13 hx 81 (hb hby at_77) (by decide) (by decide) ?_
    refine own_retN X13 hx (t := .boolean) hret (by simp) (hb hby at_81) hlk (by decide) (by decide) ?_
    exact ⟨rfl, N13⟩
  · skip
    refine own_iloadN X0 hx (hb hby at_7) rfl ?_
    refine own_ifYes X0 hx 20 (hb hby at_8) (by decide) (by decide) (by decide) ?_
    refine own_iloadN X0 hx (hb hby at_20) rfl ?_
    refine own_iconst X0 hx (1 : Int32) (hb hby at_21) rfl ?_
    refine own_icmpYes X0 hx 34 (hb hby at_22) (by decide) (by decide) (by decide) ?_
    refine own_getstatic X0 hx hZ (host := "") hown (Or.inl (own_w26 hw)) Via.refl e0 S_NONE (hb hby at_34) fun T14 X14 e14 => ?_
    refine own_astoreN X14 hx (l' := #[.val (.int x0), .val (.int (2 : Int32)), .val (.ref sNONE), .unset, .unset, .unset]) (hb hby at_37) rfl rfl ?_
    refine own_iconst X14 hx (0 : Int32) (hb hby at_38) rfl ?_
    refine own_istoreN X14 hx (l' := #[.val (.int x0), .val (.int (2 : Int32)), .val (.ref sNONE), .val (.int (0 : Int32)), .unset, .unset]) (hb hby at_39) rfl ?_
    refine own_aloadN X14 hx (hb hby at_40) rfl rfl ?_
    refine own_virt X14 hx hZ hown (own_w4 hw) (own_w5 hw) (own_w7 hw) (own_w7 hw) (own_w6 hw) (own_w8 hw) (own_w2 hw) (by decide) e14 E_NONE (hb hby at_41) (by rw [hml]; rfl) own_pd__28_29Z rfl (W := 0) (Nat.le_of_ble_eq_true rfl) (own_hce l Z a0 hw sNONE sNONE h0 n0 S_NONE) (by decide) (by decide) (by decide) (by decide) (argsL := []) (rest := []) rfl rfl fun v15 T15 L15 X15 q15 => ?_
    obtain ⟨rfl, M15, e15⟩ := q15
    rw [if_pos rfl]
    have N15 := Fr.app N0 M15
    show own_Fin p e below _ (T15.setTop (mkF m 44 #[.val (.int x0), .val (.int (2 : Int32)), .val (.ref sNONE), .val (.int (0 : Int32)), .unset, .unset] [(.int (0 : Int32))]))
    refine own_istore X15 hx (l' := #[.val (.int x0), .val (.int (2 : Int32)), .val (.ref sNONE), .val (.int (0 : Int32)), .val (.int (0 : Int32)), .unset]) (hb hby at_44) rfl ?_
    refine own_aloadN X15 hx (hb hby at_46) rfl rfl ?_
    refine own_virt X15 hx hZ hown (own_w11 hw) (own_w12 hw) (own_w14 hw) (own_w14 hw) (own_w13 hw) (own_w15 hw) (own_w2 hw) (by decide) e15 E_NONE (hb hby at_47) (by rw [hml]; rfl) own_pd__28_29Ljava_2flang_2fString_3b rfl (W := 0) (Nat.le_of_ble_eq_true rfl) (own_name l Z a0 hw sNONE tNONE h0 n0 F_NONE) (by decide) (by decide) (by decide) (by decide) (argsL := []) (rest := []) rfl rfl fun v16 T16 L16 X16 q16 => ?_
    obtain ⟨rfl, M16, e16⟩ := q16
    have N16 := Fr.app N15 M16
    show own_Fin p e below _ (T16.setTop (mkF m 50 #[.val (.int x0), .val (.int (2 : Int32)), .val (.ref sNONE), .val (.int (0 : Int32)), .val (.int (0 : Int32)), .unset] [(.ref tNONE)]))
    refine own_virt X16 hx hZ hown (own_w18 hw) (own_w19 hw) (own_w21 hw) (own_w21 hw) (own_w20 hw) (own_w23 hw) (own_w22 hw) (by decide) e16 H_NONE (hb hby at_50) (by rw [hml]; rfl) own_pd__28_29Z rfl (W := 0) (Nat.le_of_ble_eq_true rfl) (own_empty0 l Z a0 hw tNONE bNONE cNONE h0 n0 G_NONE A_NONE l_NONE) (by decide) (by decide) (by decide) (by decide) (argsL := []) (rest := []) rfl rfl fun v17 T17 L17 X17 q17 => ?_
    obtain ⟨rfl, M17, e17⟩ := q17
    have N17 := Fr.app N16 M17
    show own_Fin p e below _ (T17.setTop (mkF m 53 #[.val (.int x0), .val (.int (2 : Int32)), .val (.ref sNONE), .val (.int (0 : Int32)), .val (.int (0 : Int32)), .unset] [(.int (1 : Int32))]))
    refine own_ifYes X17 hx 60 (hb hby at_53) (by decide) (by decide) (by decide) ?_
    refine own_iconst X17 hx (0 : Int32) (hb hby at_60) rfl ?_
    refine own_istore X17 hx (l' := #[.val (.int x0), .val (.int (2 : Int32)), .val (.ref sNONE), .val (.int (0 : Int32)), .val (.int (0 : Int32)), .val (.int (0 : Int32))]) (hb hby at_61) rfl ?_
    refine own_iload X17 hx (hb hby at_63) rfl ?_
    refine own_iloadN X17 hx (hb hby at_65) rfl ?_
    refine own_icmpNo X17 hx (hb hby at_66) (by decide) ?_
    refine own_iload X17 hx (hb hby at_69) rfl ?_
    refine own_iload X17 hx (hb hby at_71) rfl ?_
    refine own_icmpNo X17 hx (hb hby at_73) (by decide) ?_
    refine own_iconst X17 hx (1 : Int32) (hb hby at_76) rfl ?_
    refine own_goto X17 hx 81 (hb hby at_77) (by decide) (by decide) ?_
    refine own_retN X17 hx (t := .boolean) hret (by simp) (hb hby at_81) hlk (by decide) (by decide) ?_
    exact ⟨rfl, N17⟩
set_option maxRecDepth 65536 in
set_option maxHeartbeats 40000000 in
theorem own_comes {Post : Tables → Env → Array Value → State → Outcome → State → Prop} (hpost : ∀ tb e args s v u, (limb_1_1.after args s (.returned v) u = true ∧ limb_1_2.after args s (.returned v) u = true) → FrameEnd s (.returned v) u (Jvm.fieldLocs frame_1_writes args s ++ Jvm.arrayLocs frame_1_arrays args s ++ Jvm.staticLocs frame_1_statics s) 0 0 → Post tb e args s (.returned v) u) :
    ArmFor flags0 classFile x code maxLocals ret World_1 tables_1 room_1 Calls_1 rest_1 Pre_1 Post := by
  intro l hfl _ _ p e ha hc hk s m args below hf hA hF happ hP
  obtain ⟨hcalls, hrest, hpre⟩ := hP
  obtain ⟨-, -, -, hnamed, -, -, -, hat⟩ := (Spec.applies_iff hf).mp happ
  obtain ⟨hg, hn⟩ := and_e (Cond.before_iff.mp (show (Jvm.Cond.and given_1 narrow_1).before args s = true from hpre))
  obtain ⟨hcount, hgs⟩ := and_e hg
  obtain ⟨w0, rfl⟩ : ∃ w0 : Value, args = #[w0] := by
    have hs : args.size = 1 := by simpa [Cond.value, given_1] using hcount
    obtain ⟨L⟩ := args
    match L, hs with
    | [w0], _ => exact ⟨w0, rfl⟩
  have hw := fun d (hd : d ∈ tables_1) => atoms_spec (ws := Jvm.Cond.code x code maxLocals ret :: tables_1) hat d (List.mem_cons_of_mem _ hd)
  have hfit : Fit s := fun {y c} hc i hi => by
    obtain ⟨ha, rfl⟩ := Array.getElem?_eq_some_iff.mp hc
    have q := List.all_eq_true.mp ((Array.all_eq_true_iff_forall_mem.mp hF) _ (Array.getElem_mem ha)) i (List.mem_range.mpr hi)
    simpa [Array.getElem?_eq_getElem hi] using q
  obtain ⟨i0, ei0⟩ := is_v hgs
  obtain rfl : w0 = (.int i0) := Option.some.inj ei0
  obtain ⟨n0, t0⟩ := and_e hn
  obtain ⟨n1, t1⟩ := and_e t0
  obtain ⟨n2, t2⟩ := and_e t1
  obtain ⟨n3, t3⟩ := and_e t2
  obtain ⟨n4, t4⟩ := and_e t3
  obtain ⟨n5, t5⟩ := and_e t4
  obtain ⟨n6, t6⟩ := and_e t5
  obtain ⟨n7, t7⟩ := and_e t6
  obtain ⟨n8, t8⟩ := and_e t7
  obtain ⟨n9, t9⟩ := and_e t8
  obtain ⟨n10, t10⟩ := and_e t9
  obtain ⟨n11, t11⟩ := and_e t10
  obtain ⟨n12, t12⟩ := and_e t11
  obtain ⟨n13, t13⟩ := and_e t12
  have n14 := t13
  obtain ⟨sOWNER, ev_OWNER, E_OWNER⟩ := own_exa n0
  have S_OWNER := Sta.start ev_OWNER (Or.inr ⟨(own_w2 hw), (own_w3 hw)⟩)
  obtain ⟨sNONE, ev_NONE, E_NONE⟩ := own_exa n1
  have S_NONE := Sta.start ev_NONE (Or.inr ⟨(own_w2 hw), (own_w10 hw)⟩)
  obtain ⟨sCOMPENSATION, ev_COMPENSATION, E_COMPENSATION⟩ := own_exa n10
  have S_COMPENSATION := Sta.start ev_COMPENSATION (Or.inr ⟨(own_w2 hw), (own_w28 hw)⟩)
  have F_ordinal_OWNER := own_fld ev_OWNER (own_eqI n2)
  have F_ordinal_NONE := own_fld ev_NONE (own_eqI n3)
  have F_ordinal_COMPENSATION := own_fld ev_COMPENSATION (own_eqI n11)
  obtain ⟨tOWNER, tv_OWNER, H_OWNER⟩ := own_exa n4
  have F_OWNER := own_fld ev_OWNER tv_OWNER
  obtain ⟨bOWNER, bv_OWNER⟩ := arr_v n5
  have G_OWNER := own_fld tv_OWNER bv_OWNER
  obtain ⟨cOWNER, A_OWNER⟩ := Arr.start bv_OWNER n5
  have l_OWNER := own_len bv_OWNER A_OWNER (own_eqI n6)
  obtain ⟨tCOMPENSATION, tv_COMPENSATION, H_COMPENSATION⟩ := own_exa n12
  have F_COMPENSATION := own_fld ev_COMPENSATION tv_COMPENSATION
  obtain ⟨bCOMPENSATION, bv_COMPENSATION⟩ := arr_v n13
  have G_COMPENSATION := own_fld tv_COMPENSATION bv_COMPENSATION
  obtain ⟨cCOMPENSATION, A_COMPENSATION⟩ := Arr.start bv_COMPENSATION n13
  have l_COMPENSATION := own_len bv_COMPENSATION A_COMPENSATION (own_eqI n14)
  obtain ⟨tNONE, tv_NONE, H_NONE⟩ := own_exa n7
  have F_NONE := own_fld ev_NONE tv_NONE
  obtain ⟨bNONE, bv_NONE⟩ := arr_v n8
  have G_NONE := own_fld tv_NONE bv_NONE
  obtain ⟨cNONE, A_NONE⟩ := Arr.start bv_NONE n8
  have l_NONE := own_len bv_NONE A_NONE (own_eqI n9)
  have D_OWNER_NONE := Fld.ne F_ordinal_OWNER F_ordinal_NONE (by decide)
  have D_COMPENSATION_NONE := Fld.ne F_ordinal_COMPENSATION F_ordinal_NONE (by decide)
  have M := own_law l s _ hw i0 sOWNER tOWNER bOWNER cOWNER sCOMPENSATION tCOMPENSATION bCOMPENSATION cCOMPENSATION sNONE tNONE bNONE cNONE s.heap s.heap.size S_OWNER E_OWNER F_OWNER H_OWNER G_OWNER A_OWNER l_OWNER S_COMPENSATION E_COMPENSATION F_COMPENSATION H_COMPENSATION G_COMPENSATION A_COMPENSATION l_COMPENSATION S_NONE E_NONE F_NONE H_NONE G_NONE A_NONE l_NONE D_OWNER_NONE D_COMPENSATION_NONE
  obtain ⟨n, o, h1, h2, h3, _, L, rfl, ⟨rfl, N⟩, hq⟩ := M tables_1 p e ha hc hk s m _ below hf ((Spec.applies_iff_loose hf).mp happ).1 ⟨rfl, State.Warmed39.refl s, rfl⟩ trivial
  exact ⟨n, _, h1, h2, h3, hpost _ _ _ _ _ _ ⟨Cond.after_iff.mpr rfl, Cond.after_iff.mpr (eq_i res_at (Term.int_eval (1)) rfl)⟩ ⟨hq.1, hq.2.1, (hq.2.2.sift fun y hy => Or.inr (N y hy)).mono (by decide) (by decide)⟩⟩
theorem main_1_1 : Claimed_1_1 := own_comes fun _ _ _ _ _ _ h hF => ⟨h.1, hF⟩
theorem main_1_2 : Claimed_1_2 := own_comes fun _ _ _ _ _ _ h hF => ⟨h.2, hF⟩
end Jvm.Pilot.@@N@@
namespace Jvm.Pilot.@@N@@
open Jvm Jvm.ClassFile Sem Op Lib Jvm.Free Jvm.Stand Jvm.Pilot.@@N@@.Jvm.D
/-! MADE BY PROGRAM (witnessworld.py) out of the Statement's table words and the real class files: 15 classes; the members and pool entries that the words name. The judged class is class 1, her method 1. -/
namespace start1
open Jvm.ClassFile
def u (s : String) : CpInfo := .utf8 (stringToUtf16 s)
/-- a pool by its gaps: so many unusable entries, then the entry; so many at the end -/
def gap : Nat → List CpInfo → List CpInfo
  | 0, r => r
  | n + 1, r => .unusable :: gap n r
def poolList (es : List (Nat × CpInfo)) (last : Nat) : List CpInfo := es.foldr (fun e r => gap e.1 (e.2 :: r)) (gap last [])
def pool (es : List (Nat × CpInfo)) (last : Nat) : Array CpInfo := ⟨poolList es last⟩
def fileOf (pool : Array CpInfo) (this : Nat) (attrs : Array Attribute := #[]) (ms : Array MethodInfo := #[]) (fl : Nat := 33) (sup : Nat := 0) (ifs : Array Nat := #[]) (fds : Array FieldInfo := #[]) : ClassFile where
  minorVersion := 0
  majorVersion := 65
  constantPool := pool
  accessFlags := fl
  thisClass := this
  superClass := sup
  interfaces := ifs
  fields := fds
  methods := ms
  attributes := attrs
def plain (name : String) (sup : Option ClassId) : Class where
  name := name
  kind := .ordinary
  loader := none
  accessFlags := 33
  super := sup
  interfaces := #[]
  cf := none
  fields := #[]
  methods := #[]
  instanceTypes := #[]
  staticTypes := #[]
  resolved := #[]
  callSites := []
  init := .initialized
  statics := none
  mirror := none

def pool0 : Array CpInfo := pool [(5, u "<init>"), (0, u "()V"), (1, .class_ 10), (1, u "java/lang/Object")] 113

def k0m0 : Method := { name := "<init>", desc := "()V", sig := { parameters := [], returnType := none }, accessFlags := 1, code := none }
/-- java/lang/Object -/
def k0 : Class := { plain "java/lang/Object" none with
  accessFlags := 33
  interfaces := #[]
  cf := some (fileOf pool0 8 #[] #[{ accessFlags := 1, nameIndex := 5, descriptorIndex := 6, attributes := #[] }] 33 0 #[] #[])
  fields := #[]
  methods := #[k0m0]
  instanceTypes := #[]
  staticTypes := #[]
  resolved := Array.replicate 124 none
  statics := none }

def pool1 : Array CpInfo := pool [(2, .class_ 4), (1, u "java/lang/Object"), (0, u "<init>"), (0, u "()V"), (0, .integer 2147483647), (0, .fieldref 9 10), (0, .class_ 11), (0, .nameAndType 12 13), (0, u "com/example/vestwright/vestwright/HighlyCompensated$Reason"), (0, u "OWNER"), (0, u "Lcom/example/vestwright/vestwright/HighlyCompensated$Reason;"), (0, .fieldref 9 15), (0, .nameAndType 16 13), (0, u "COMPENSATION"), (0, .fieldref 9 18), (0, .nameAndType 19 13), (0, u "NONE"), (0, .methodref 9 21), (0, .nameAndType 22 23), (0, u "isHce"), (0, u "()Z"), (0, .methodref 9 25), (0, .nameAndType 26 27), (0, u "outputName"), (0, u "()Ljava/lang/String;"), (0, .methodref 29 30), (0, .class_ 31), (0, .nameAndType 32 23), (0, u "java/lang/String"), (0, u "isEmpty"), (0, .class_ 34), (0, u "com/example/vestwright/vestwright/HighlyCompensatedIsHcePinLaw"), (2, u "law"), (0, u "(I)Z")] 7

def k1m0 : Method := { name := "<init>", desc := "()V", sig := { parameters := [], returnType := none }, accessFlags := 2, code := none }
def k1c1 : Code := { maxStack := 2, maxLocals := 6, code := code, exceptionTable := #[], attributes := #[] }
def k1m1 : Method := { name := "law", desc := "(I)Z", sig := { parameters := [.int], returnType := some .boolean }, accessFlags := 9, code := some k1c1 }
/-- com/example/vestwright/vestwright/HighlyCompensatedIsHcePinLaw -/
def k1 : Class := { plain "com/example/vestwright/vestwright/HighlyCompensatedIsHcePinLaw" (some 0) with
  accessFlags := 49
  interfaces := #[]
  cf := some (fileOf pool1 33 #[] #[{ accessFlags := 2, nameIndex := 5, descriptorIndex := 6, attributes := #[] }, { accessFlags := 9, nameIndex := 37, descriptorIndex := 38, attributes := #[] }] 49 2 #[] #[])
  fields := #[]
  methods := #[k1m0, k1m1]
  instanceTypes := #[]
  staticTypes := #[]
  resolved := Array.replicate 46 none
  statics := none }

def pool2 : Array CpInfo := pool [(1, .class_ 2), (0, u "java/lang/constant/Constable"), (0, .class_ 4), (0, u "java/lang/Object")] 6

/-- java/lang/constant/Constable -/
def k2 : Class := { plain "java/lang/constant/Constable" (some 0) with
  accessFlags := 1537
  interfaces := #[]
  cf := some (fileOf pool2 1 #[] #[] 1537 3 #[] #[])
  fields := #[]
  methods := #[]
  instanceTypes := #[]
  staticTypes := #[]
  resolved := Array.replicate 11 none
  statics := none }

def pool3 : Array CpInfo := pool [(1, .class_ 2), (0, u "java/lang/Comparable"), (0, .class_ 4), (0, u "java/lang/Object")] 7

/-- java/lang/Comparable -/
def k3 : Class := { plain "java/lang/Comparable" (some 0) with
  accessFlags := 1537
  interfaces := #[]
  cf := some (fileOf pool3 1 #[] #[] 1537 3 #[] #[])
  fields := #[]
  methods := #[]
  instanceTypes := #[]
  staticTypes := #[]
  resolved := Array.replicate 12 none
  statics := none }

def pool4 : Array CpInfo := pool [(1, .class_ 2), (0, u "java/io/Serializable"), (0, .class_ 4), (0, u "java/lang/Object")] 2

/-- java/io/Serializable -/
def k4 : Class := { plain "java/io/Serializable" (some 0) with
  accessFlags := 1537
  interfaces := #[]
  cf := some (fileOf pool4 1 #[] #[] 1537 3 #[] #[])
  fields := #[]
  methods := #[]
  instanceTypes := #[]
  staticTypes := #[]
  resolved := Array.replicate 7 none
  statics := none }

def pool5 : Array CpInfo := pool [(2, .class_ 4), (1, u "java/lang/Enum"), (0, u "name"), (0, u "Ljava/lang/String;"), (2, u "ordinal"), (0, u "I"), (1, .class_ 14), (1, u "java/lang/Object"), (4, u "hash"), (86, .class_ 108), (1, u "java/lang/Enum$EnumDesc"), (2, .class_ 112), (0, u "java/lang/constant/Constable"), (0, .class_ 114), (0, u "java/lang/Comparable"), (0, .class_ 116), (0, u "java/io/Serializable")] 87

/-- java/lang/Enum -/
def k5 : Class := { plain "java/lang/Enum" (some 0) with
  accessFlags := 1057
  interfaces := #[2, 3, 4]
  cf := some (fileOf pool5 2 #[.nestMembers #[106]] #[] 1057 12 #[111, 113, 115] #[{ accessFlags := 18, nameIndex := 5, descriptorIndex := 6, attributes := #[] }, { accessFlags := 18, nameIndex := 9, descriptorIndex := 10, attributes := #[] }, { accessFlags := 2, nameIndex := 19, descriptorIndex := 10, attributes := #[] }])
  fields := #[{ name := "name", type := (.object "java/lang/String"), accessFlags := 18, slot := 0, constantValue := 0 }, { name := "ordinal", type := .int, accessFlags := 18, slot := 1, constantValue := 0 }, { name := "hash", type := .int, accessFlags := 2, slot := 2, constantValue := 0 }]
  methods := #[]
  instanceTypes := #[(.object "java/lang/String"), .int, .int]
  staticTypes := #[]
  resolved := Array.replicate 204 none
  statics := none }

def pool6 : Array CpInfo := pool [(1, .class_ 2), (0, u "com/example/vestwright/vestwright/HighlyCompensated$Reason"), (2, u "OWNER"), (0, u "Lcom/example/vestwright/vestwright/HighlyCompensated$Reason;"), (2, u "COMPENSATION"), (0, .fieldref 1 11), (0, .nameAndType 12 6), (0, u "NONE"), (2, u "$VALUES"), (0, u "[Lcom/example/vestwright/vestwright/HighlyCompensated$Reason;"), (6, .class_ 25), (1, u "java/lang/Enum"), (6, .fieldref 1 33), (0, .nameAndType 34 35), (0, u "outputName"), (0, u "Ljava/lang/String;"), (23, u "isHce"), (0, u "()Z"), (1, u "()Ljava/lang/String;"), (6, .class_ 70), (0, u "com/example/vestwright/vestwright/HighlyCompensated")] 2

def k6c0 : Code := { maxStack := 2, maxLocals := 1, code := prog_26_method_4_code, exceptionTable := #[], attributes := #[] }
def k6m0 : Method := { name := "isHce", desc := "()Z", sig := { parameters := [], returnType := some .boolean }, accessFlags := 1, code := some k6c0 }
def k6c1 : Code := { maxStack := 1, maxLocals := 1, code := prog_26_method_5_code, exceptionTable := #[], attributes := #[] }
def k6m1 : Method := { name := "outputName", desc := "()Ljava/lang/String;", sig := { parameters := [], returnType := some (.object "java/lang/String") }, accessFlags := 1, code := some k6c1 }
/-- com/example/vestwright/vestwright/HighlyCompensated$Reason -/
def k6 : Class := { plain "com/example/vestwright/vestwright/HighlyCompensated$Reason" (some 5) with
  accessFlags := 16433
  interfaces := #[]
  cf := some (fileOf pool6 1 #[.nestHost 69] #[{ accessFlags := 1, nameIndex := 59, descriptorIndex := 60, attributes := #[] }, { accessFlags := 1, nameIndex := 34, descriptorIndex := 62, attributes := #[] }] 16433 23 #[] #[{ accessFlags := 16409, nameIndex := 5, descriptorIndex := 6, attributes := #[] }, { accessFlags := 16409, nameIndex := 9, descriptorIndex := 6, attributes := #[] }, { accessFlags := 16409, nameIndex := 12, descriptorIndex := 6, attributes := #[] }, { accessFlags := 18, nameIndex := 34, descriptorIndex := 35, attributes := #[] }, { accessFlags := 4122, nameIndex := 15, descriptorIndex := 16, attributes := #[] }])
  fields := #[{ name := "OWNER", type := (.object "com/example/vestwright/vestwright/HighlyCompensated$Reason"), accessFlags := 16409, slot := 0, constantValue := 0 }, { name := "COMPENSATION", type := (.object "com/example/vestwright/vestwright/HighlyCompensated$Reason"), accessFlags := 16409, slot := 1, constantValue := 0 }, { name := "NONE", type := (.object "com/example/vestwright/vestwright/HighlyCompensated$Reason"), accessFlags := 16409, slot := 2, constantValue := 0 }, { name := "outputName", type := (.object "java/lang/String"), accessFlags := 18, slot := 3, constantValue := 0 }, { name := "$VALUES", type := (.array (.object "com/example/vestwright/vestwright/HighlyCompensated$Reason")), accessFlags := 4122, slot := 3, constantValue := 0 }]
  methods := #[k6m0, k6m1]
  instanceTypes := #[(.object "java/lang/String"), .int, .int, (.object "java/lang/String")]
  staticTypes := #[(.object "com/example/vestwright/vestwright/HighlyCompensated$Reason"), (.object "com/example/vestwright/vestwright/HighlyCompensated$Reason"), (.object "com/example/vestwright/vestwright/HighlyCompensated$Reason"), (.array (.object "com/example/vestwright/vestwright/HighlyCompensated$Reason"))]
  resolved := Array.replicate 73 none
  statics := some 0 }

def pool7 : Array CpInfo := pool [(2, .class_ 4), (1, u "java/lang/CharSequence"), (42, .class_ 48), (0, u "java/lang/CharSequence$1CodePointIterator"), (10, .class_ 60), (0, u "java/lang/CharSequence$1CharIterator"), (5, .class_ 67), (0, u "java/lang/Object")] 63

/-- java/lang/CharSequence -/
def k7 : Class := { plain "java/lang/CharSequence" (some 0) with
  accessFlags := 1537
  interfaces := #[]
  cf := some (fileOf pool7 2 #[.nestMembers #[47, 59]] #[] 1537 66 #[] #[])
  fields := #[]
  methods := #[]
  instanceTypes := #[]
  staticTypes := #[]
  resolved := Array.replicate 131 none
  statics := none }

def pool8 : Array CpInfo := pool [(1, .class_ 2), (0, u "java/lang/constant/ConstantDesc"), (0, .class_ 4), (0, u "java/lang/Object")] 32

/-- java/lang/constant/ConstantDesc -/
def k8 : Class := { plain "java/lang/constant/ConstantDesc" (some 0) with
  accessFlags := 1537
  interfaces := #[]
  cf := some (fileOf pool8 1 #[] #[] 1537 3 #[] #[])
  fields := #[]
  methods := #[]
  instanceTypes := #[]
  staticTypes := #[]
  resolved := Array.replicate 37 none
  statics := none }

def pool9 : Array CpInfo := pool [(2, .class_ 4), (1, u "java/lang/Object"), (0, u "<init>"), (0, u "()V"), (2, .fieldref 10 11), (0, .class_ 12), (0, .nameAndType 13 14), (0, u "java/lang/String"), (0, u "value"), (0, u "[B"), (2, u "coder"), (0, u "B"), (2, u "hash"), (0, u "I"), (2, u "hashIsZero"), (0, u "Z"), (13, u "COMPACT_STRINGS"), (101, u "()Z"), (432, .class_ 576), (0, u "java/lang/CharSequence"), (22, u "CASE_INSENSITIVE_ORDER"), (0, u "Ljava/util/Comparator;"), (91, u "isEmpty"), (408, u "serialPersistentFields"), (0, u "[Ljava/io/ObjectStreamField;"), (0, .class_ 1104), (0, u "java/lang/String$CaseInsensitiveComparator"), (1, .class_ 1107), (0, u "java/io/Serializable"), (0, .class_ 1109), (0, u "java/lang/Comparable"), (0, .class_ 1111), (0, u "java/lang/constant/Constable"), (0, .class_ 1113), (0, u "java/lang/constant/ConstantDesc"), (2, u "serialVersionUID"), (0, u "J"), (3, u "REPL"), (0, u "C"), (2, u "LATIN1"), (1, u "UTF16")] 323

def k9m0 : Method := { name := "<init>", desc := "()V", sig := { parameters := [], returnType := none }, accessFlags := 1, code := none }
def k9c1 : Code := { maxStack := 1, maxLocals := 1, code := jdk_42_method_55_code, exceptionTable := #[], attributes := #[] }
def k9m1 : Method := { name := "isEmpty", desc := "()Z", sig := { parameters := [], returnType := some .boolean }, accessFlags := 1, code := some k9c1 }
/-- java/lang/String -/
def k9 : Class := { plain "java/lang/String" (some 0) with
  accessFlags := 49
  interfaces := #[4, 3, 7, 2, 8]
  cf := some (fileOf pool9 10 #[.nestMembers #[1103]] #[{ accessFlags := 1, nameIndex := 5, descriptorIndex := 6, attributes := #[] }, { accessFlags := 1, nameIndex := 692, descriptorIndex := 142, attributes := #[] }] 49 2 #[1106, 1108, 575, 1110, 1112] #[{ accessFlags := 18, nameIndex := 13, descriptorIndex := 14, attributes := #[] }, { accessFlags := 18, nameIndex := 17, descriptorIndex := 18, attributes := #[] }, { accessFlags := 2, nameIndex := 21, descriptorIndex := 22, attributes := #[] }, { accessFlags := 2, nameIndex := 25, descriptorIndex := 26, attributes := #[] }, { accessFlags := 26, nameIndex := 1116, descriptorIndex := 1117, attributes := #[] }, { accessFlags := 24, nameIndex := 40, descriptorIndex := 26, attributes := #[] }, { accessFlags := 26, nameIndex := 1101, descriptorIndex := 1102, attributes := #[] }, { accessFlags := 26, nameIndex := 1121, descriptorIndex := 1122, attributes := #[] }, { accessFlags := 25, nameIndex := 599, descriptorIndex := 600, attributes := #[] }, { accessFlags := 24, nameIndex := 1125, descriptorIndex := 18, attributes := #[] }, { accessFlags := 24, nameIndex := 1127, descriptorIndex := 18, attributes := #[] }])
  fields := #[{ name := "value", type := (.array .byte), accessFlags := 18, slot := 0, constantValue := 0 }, { name := "coder", type := .byte, accessFlags := 18, slot := 1, constantValue := 0 }, { name := "hash", type := .int, accessFlags := 2, slot := 2, constantValue := 0 }, { name := "hashIsZero", type := .boolean, accessFlags := 2, slot := 3, constantValue := 0 }, { name := "serialVersionUID", type := .long, accessFlags := 26, slot := 0, constantValue := 0 }, { name := "COMPACT_STRINGS", type := .boolean, accessFlags := 24, slot := 1, constantValue := 0 }, { name := "serialPersistentFields", type := (.array (.object "java/io/ObjectStreamField")), accessFlags := 26, slot := 2, constantValue := 0 }, { name := "REPL", type := .char, accessFlags := 26, slot := 3, constantValue := 0 }, { name := "CASE_INSENSITIVE_ORDER", type := (.object "java/util/Comparator"), accessFlags := 25, slot := 4, constantValue := 0 }, { name := "LATIN1", type := .byte, accessFlags := 24, slot := 5, constantValue := 0 }, { name := "UTF16", type := .byte, accessFlags := 24, slot := 6, constantValue := 0 }]
  methods := #[k9m0, k9m1]
  instanceTypes := #[(.array .byte), .byte, .int, .boolean]
  staticTypes := #[.long, .boolean, (.array (.object "java/io/ObjectStreamField")), .char, (.object "java/util/Comparator"), .byte, .byte]
  resolved := Array.replicate 1451 none
  statics := none }

def pool10 : Array CpInfo := pool [(1, u "java/lang/Cloneable"), (0, .class_ 1), (0, u "java/lang/Object"), (0, .class_ 3)] 3

/-- java/lang/Cloneable -/
def k10 : Class := { plain "java/lang/Cloneable" (some 0) with
  accessFlags := 1537
  interfaces := #[]
  cf := some (fileOf pool10 2 #[] #[] 1537 4 #[] #[])
  fields := #[]
  methods := #[]
  instanceTypes := #[]
  staticTypes := #[]
  resolved := Array.replicate 8 none
  statics := none }

/-- the primitive byte -/
def k11 : Class := { plain "byte" none with kind := .primitive 'B', accessFlags := 0x411 }
/-- [B -/
def k12 : Class := { plain "[B" (some 0) with kind := .array 11 .byte, interfaces := #[10, 4], accessFlags := 1041 }

/-- the primitive int -/
def k13 : Class := { plain "int" none with kind := .primitive 'I', accessFlags := 0x411 }
/-- [I -/
def k14 : Class := { plain "[I" (some 0) with kind := .array 13 .int, interfaces := #[10, 4], accessFlags := 1041 }

def heap : Heap := #[{ cls := 6, slots := #[.ref 3, .ref 6, .ref 9, .null], vm := .statics 6 },
  { cls := 12, slots := #[.int 65, .int 65, .int 65, .int 65, .int 65], vm := .none },
  { cls := 9, slots := #[.ref 1, .int 0, .int 0, .int 0], vm := .none },
  { cls := 6, slots := #[.null, .int 0, .int 0, .ref 2], vm := .none },
  { cls := 12, slots := #[.int 65, .int 65, .int 65, .int 65, .int 65, .int 65, .int 65, .int 65, .int 65, .int 65, .int 65, .int 65], vm := .none },
  { cls := 9, slots := #[.ref 4, .int 0, .int 0, .int 0], vm := .none },
  { cls := 6, slots := #[.null, .int 1, .int 0, .ref 5], vm := .none },
  { cls := 12, slots := #[], vm := .none },
  { cls := 9, slots := #[.ref 7, .int 0, .int 0, .int 0], vm := .none },
  { cls := 6, slots := #[.null, .int 2, .int 0, .ref 8], vm := .none }]
def classes : Array Class := #[k0, k1, k2, k3, k4, k5, k6, k7, k8, k9, k10, k11, k12, k13, k14]
def interned : List (Array UInt16 × Addr) := []
def slotsUsed : Nat := 45
def theMethod : MethodId := ⟨1, 1⟩
def args0 : Array Value := #[.int 5]
def aboutOver (below : List Frame) : State where
  vm := { classes := classes, interned := interned.toArray }
  heap := heap
  slotsUsed := slotsUsed
  threads := #[{ frames := .invoking theMethod args0 :: below }]
def below0 : List Frame := [.native { method := ⟨0, 0⟩, args := #[] }]
def about1 : State := aboutOver below0
def p0 : Program := .bare "" "" ""
def e0 : Env := launch0.env 0 0 0
theorem w_frames : about1.frames = Frame.invoking theMethod args0 :: below0 := rfl
set_option maxRecDepth 65536 in
theorem w_args : argsFit about1.vm theMethod args0 = true := by decide +kernel
set_option maxRecDepth 65536 in
theorem w_heap : heapFits about1 = true := by decide +kernel
set_option maxRecDepth 65536 in
theorem w_runnable : about1.curStatus? = some .runnable := by decide +kernel
set_option maxRecDepth 65536 in
theorem w_alone : about1.alone = true := by decide +kernel
set_option maxRecDepth 65536 in
theorem w_named : about1.methodNamed? x = some theMethod := by decide +kernel
set_option maxRecDepth 65536 in
theorem w_hears : about1.hears theMethod below0 = true := by decide +kernel
set_option maxRecDepth 65536 in
theorem w_ripe : about1.ripe theMethod args0 below0 = true := by decide +kernel
theorem w_running : about1.status = .running := rfl
set_option maxRecDepth 65536 in
theorem w_room : about1.hasRoom e0.platform room_1 = true :=
  launch0.hasRoom_least _ room_1 (by decide +kernel) (by decide +kernel) (by decide +kernel) (by decide +kernel) (by decide +kernel) (by decide +kernel)
theorem allAtoms_all (ts : List Jvm.Cond) (a : Array Jvm.Value) (st : Jvm.State) : (allAtoms ts).before a st = ts.all (fun c => c.before a st) := by
  induction ts with
  | nil => rfl
  | cons c t ih =>
    show (Jvm.Cond.and c (allAtoms t)).before a st = _
    rw [Jvm.Cond.before_and, ih, List.all_cons]
def words1 : List Jvm.Cond := Jvm.Cond.code x code maxLocals ret :: tables_1
/-- a 'code' word, met by the world's own term for the bytes: nothing is compared byte by byte -/
theorem code_word {y : MethodName} {bytes : ByteArray} {mx : Nat} {rt : Option FieldType} {a : Array Value} {s : State} {m : MethodId} {meth : Method} {c : Code} (h1 : s.methodNamed? y = some m) (h2 : s.vm.method? m = some meth) (h3 : meth.code = some c) (h4 : c.code = bytes)
    (h5 : (c.maxLocals == mx && c.exceptionTable.isEmpty && decide (c.maxStack ≤ mostOperands) && decide (meth.sig.returnType = rt) && !meth.locks && decide (parseMethodDescriptor y.desc = some meth.sig)) = true) : (Jvm.Cond.code y bytes mx rt).before a s = true := by
  simp only [Bool.and_eq_true, beq_iff_eq, Bool.not_eq_true', decide_eq_true_eq] at h5
  obtain ⟨⟨⟨⟨⟨g1, g2⟩, g3⟩, g4⟩, g5⟩, g6⟩ := h5
  simp [Cond.before, Cond.holds, Cond.value, h1, h2, h3, h4, g1, g2, g3, g4, g5, g6]
def isCode : Jvm.Cond → Bool
  | .code _ _ _ _ => true
  | _ => false
theorem all_split {L : List Jvm.Cond} {P : Jvm.Cond → Bool} (h1 : L.all (fun c => isCode c || P c) = true) (h2 : ∀ c ∈ L.filter isCode, P c = true) : L.all P = true := by
  refine List.all_eq_true.mpr fun c hc => ?_
  have h := List.all_eq_true.mp h1 c hc
  rcases Bool.eq_false_or_eq_true (isCode c) with hi | hi
  · exact h2 c (List.mem_filter.mpr ⟨hc, hi⟩)
  · simpa [hi] using h
set_option maxRecDepth 65536 in
theorem w_c0 : (Jvm.Cond.code x code maxLocals ret).before args0 about1 = true := code_word (m := ⟨1, 1⟩) (meth := k1m1) (c := k1c1) (by decide +kernel) rfl rfl rfl (by decide +kernel)
set_option maxRecDepth 65536 in
theorem w_c1 : (Jvm.Cond.code ({ cls := "com/example/vestwright/vestwright/HighlyCompensated$Reason", name := "isHce", desc := "()Z" } : Jvm.MethodName) prog_26_method_4_code (1 : Nat) (Option.some Jvm.ClassFile.FieldType.boolean)).before args0 about1 = true := code_word (m := ⟨6, 0⟩) (meth := k6m0) (c := k6c0) (by decide +kernel) rfl rfl rfl (by decide +kernel)
set_option maxRecDepth 65536 in
theorem w_c2 : (Jvm.Cond.code ({ cls := "com/example/vestwright/vestwright/HighlyCompensated$Reason", name := "outputName", desc := "()Ljava/lang/String;" } : Jvm.MethodName) prog_26_method_5_code (1 : Nat) (Option.some (Jvm.ClassFile.FieldType.object "java/lang/String"))).before args0 about1 = true := code_word (m := ⟨6, 1⟩) (meth := k6m1) (c := k6c1) (by decide +kernel) rfl rfl rfl (by decide +kernel)
set_option maxRecDepth 65536 in
theorem w_c3 : (Jvm.Cond.code ({ cls := "java/lang/String", name := "isEmpty", desc := "()Z" } : Jvm.MethodName) jdk_42_method_55_code (1 : Nat) (Option.some Jvm.ClassFile.FieldType.boolean)).before args0 about1 = true := code_word (m := ⟨9, 1⟩) (meth := k9m1) (c := k9c1) (by decide +kernel) rfl rfl rfl (by decide +kernel)
def codes1 : List Jvm.Cond := [Jvm.Cond.code x code maxLocals ret, Jvm.Cond.code ({ cls := "com/example/vestwright/vestwright/HighlyCompensated$Reason", name := "isHce", desc := "()Z" } : Jvm.MethodName) prog_26_method_4_code (1 : Nat) (Option.some Jvm.ClassFile.FieldType.boolean), Jvm.Cond.code ({ cls := "com/example/vestwright/vestwright/HighlyCompensated$Reason", name := "outputName", desc := "()Ljava/lang/String;" } : Jvm.MethodName) prog_26_method_5_code (1 : Nat) (Option.some (Jvm.ClassFile.FieldType.object "java/lang/String")), Jvm.Cond.code ({ cls := "java/lang/String", name := "isEmpty", desc := "()Z" } : Jvm.MethodName) jdk_42_method_55_code (1 : Nat) (Option.some Jvm.ClassFile.FieldType.boolean)]
set_option maxRecDepth 65536 in
theorem codes_eq : words1.filter isCode = codes1 := rfl
theorem w_codes : ∀ c ∈ words1.filter isCode, c.before args0 about1 = true := by
  rw [codes_eq]
  intro c hc
  simp only [codes1, List.mem_cons, List.not_mem_nil, or_false] at hc
  rcases hc with rfl | rfl | rfl | rfl
  · exact w_c0
  · exact w_c1
  · exact w_c2
  · exact w_c3
set_option maxRecDepth 65536 in
theorem w_t1 : (words1.take 24).all (fun c => isCode c || c.before args0 about1) = true := by decide +kernel
set_option maxRecDepth 65536 in
theorem w_t2 : (words1.drop 24).all (fun c => isCode c || c.before args0 about1) = true := by decide +kernel
theorem w_tables : (allAtoms (Jvm.Cond.code x code maxLocals ret :: tables_1)).before args0 about1 = true := by
  rw [allAtoms_all]
  show words1.all (fun c => c.before args0 about1) = true
  refine all_split ?_ w_codes
  rw [← List.take_append_drop 24 words1, List.all_append, w_t1, w_t2]
  rfl
set_option maxRecDepth 65536 in
theorem w_case : (Jvm.Cond.and given_1 narrow_1).before args0 about1 = true := by decide +kernel
theorem w_applies : (headSpec (Jvm.Cond.code x code maxLocals ret :: tables_1) room_1).applies x e0.platform about1 = true :=
  (Spec.applies_iff w_frames).mpr ⟨w_running, w_runnable, w_alone, w_named, w_hears, w_ripe, w_room, w_tables⟩
theorem atStart : AtStart classFile x code maxLocals ret World_1 tables_1 room_1 Calls_1 rest_1 Pre_1 launch0 p0 e0 about1 theMethod args0 below0 :=
  ⟨lists_1, trivial, launch0.admits_env _ _ _, launch0.least_env, fairChoices_fair.cas, fairChoices_fair.clock, w_frames, w_args, w_heap, w_applies, trivial, trivial, w_case⟩
end start1
theorem witness_1 : WitnessClaimed_1 := ⟨start1.p0, start1.e0, start1.about1, start1.theMethod, start1.args0, start1.below0, start1.atStart⟩
end Jvm.Pilot.@@N@@
