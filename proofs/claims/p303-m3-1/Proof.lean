import JvmDerived
import JvmDerived.Pilot.@@N@@Statement
import JvmDerived.Pilot.@@N@@Code
set_option linter.unusedVariables false
set_option linter.unusedSimpArgs false
namespace Jvm.Pilot.@@N@@
open Jvm Jvm.ClassFile Sem Op Lib Jvm.Free Jvm.Stand Jvm.LawKit Jvm.RoadKit Bundle Jvm.Pilot.@@N@@.Jvm.D
def own_Fin (p : Program) (e : Env) (below : List Frame) (E : Outcome → State → Prop) (σ : State) : Prop :=
  ∃ s₂ o, Steps p.tables e below σ s₂ ∧ s₂.status = .running ∧ Ended s₂ below o ∧ E o s₂
def own_End (s : State) (Q : Option Value → Heap → List Loc → Prop) (kc ks : Nat) (o : Outcome) (t : State) : Prop :=
  ∃ v L, o = .returned v ∧ Q v t.heap L ∧ FrameEnd s o t L kc ks
def own_Met (l : Launch) (Z : State) (y : MethodName) (bytes : ByteArray) (maxL : Nat) (ret : Option FieldType) (rm : Room) (as' : Array Value) (h : Heap) (Q : Option Value → Heap → List Loc → Prop) : Prop :=
  ∀ ws : List Jvm.Cond, MetFree l y (head1 (Jvm.Cond.code y bytes maxL ret :: ws) rm) (fun a U => a = as' ∧ Z.Warmed39 U.vm ∧ U.heap = h) (fun _ _ _ _ _ => True) (fun _ U o U' => ∃ v L, o = .returned v ∧ Q v U'.heap L ∧ FrameEnd U o U' L rm.cells rm.slots)
section Own
variable {p : Program} {l : Launch} {e : Env} {R : Room} {s : State} {m : MethodId} {args : Array Value} {below : List Frame} {meth : Method} {c : Code} {T : State} {locs : List Loc} {cells slots : Nat} {E : Outcome → State → Prop} {Q : Option Value → Heap → List Loc → Prop} {kc ks : Nat} {Z : State} {a0 : Array Value} {h : Heap} {pc : Nat} {Ls : Array Slot} {st : List Value}
theorem own_via {σ σ' : State} (h : own_Fin p e below E σ') (k : ∀ t, Steps p.tables e below σ' t → Steps p.tables e below σ t) : own_Fin p e below E σ := by
  obtain ⟨s₂, o, h1, r⟩ := h
  exact ⟨s₂, o, k _ h1, r⟩
theorem own_mono {σ : State} {Q' : Option Value → Heap → List Loc → Prop} (k : ∀ v h L, Q v h L → Q' v h L) (h : own_Fin p e below (own_End s Q kc ks) σ) : own_Fin p e below (own_End s Q' kc ks) σ := by
  obtain ⟨s₂, o, h1, h2, h3, v, L, h4, h5, r⟩ := h
  exact ⟨s₂, o, h1, h2, h3, v, L, h4, k _ _ _ h5, r⟩
theorem own_body {y : MethodName} {bytes : ByteArray} {maxL : Nat} {ret : Option FieldType} {rm : Room} {as' : Array Value} (hp : plainFor y = true) (hef : ∀ m, entryFrame m as' maxL = mkF m 0 Ls [])
    (K : ∀ (p : Program) (e : Env) (s : State) (m : MethodId) (below : List Frame) (meth : Method) (c : Code) (s₁ : State), p.tables.exec = Jvm.exec → Z.Warmed39 s.vm → c.code = bytes → c.maxLocals = maxL → s.vm.findClass y.cls = some m.cls → meth.name = y.name → meth.sig.returnType = ret → meth.locks = false →
      Stand p l e rm s m as' below meth c s₁ [] 0 0 → s₁.heap = h → own_Fin p e below (own_End s Q rm.cells rm.slots) (s₁.setTop (mkF m 0 Ls []))) : own_Met l Z y bytes maxL ret rm as' h Q := by
  intro ws
  refine MetFree.of_bodySF hp hisR ?_
  intro p e s m args below meth c s₁ Bd hml0 hP hK
  obtain ⟨rfl, hZ, hh⟩ := hP
  obtain ⟨s₂, o, h1, r⟩ := K p e s m below meth c s₁ Bd.exec hZ Bd.bytes hml0 (findClass_of_methodNamed Bd.named) (name_of_methodNamed Bd.named Bd.method).1 Bd.returns Bd.notSynchronized (Stand.of_body Bd) (by rw [← hh, Bd.state]; rfl)
  exact ⟨s₂, o, castTop (hef m) h1, r⟩
theorem own_aloadN (X : Stand p l e R s m args below meth c T locs cells slots) (hx : p.tables.exec = Jvm.exec) {k : Fin 4} {v : Value} (hd : decode c.code pc = .ok (.aload_n k, 1)) (hl : Ls[k.val]? = some (.val v)) (hv : v.isRef = true)
    (K : own_Fin p e below E (T.setTop (mkF m (pc + 1) Ls (v :: st)))) : own_Fin p e below E (T.setTop (mkF m pc Ls st)) :=
  own_via K fun t k => XS.aloadN X.here hx rfl hd hl hv k
theorem own_aload (X : Stand p l e R s m args below meth c T locs cells slots) (hx : p.tables.exec = Jvm.exec) {k : Nat} {v : Value} (hd : decode c.code pc = .ok (.aload k, 2)) (hl : Ls[k]? = some (.val v)) (hv : v.isRef = true)
    (K : own_Fin p e below E (T.setTop (mkF m (pc + 2) Ls (v :: st)))) : own_Fin p e below E (T.setTop (mkF m pc Ls st)) :=
  own_via K fun t k => XS.aload X.here hx rfl hd hl hv k
theorem own_iloadN (X : Stand p l e R s m args below meth c T locs cells slots) (hx : p.tables.exec = Jvm.exec) {k : Fin 4} {v : Int32} (hd : decode c.code pc = .ok (.iload_n k, 1)) (hl : Ls[k.val]? = some (.val (.int v)))
    (K : own_Fin p e below E (T.setTop (mkF m (pc + 1) Ls (.int v :: st)))) : own_Fin p e below E (T.setTop (mkF m pc Ls st)) :=
  own_via K fun t k => XS.iloadN X.here hx rfl hd hl k
theorem own_iload (X : Stand p l e R s m args below meth c T locs cells slots) (hx : p.tables.exec = Jvm.exec) {k : Nat} {v : Int32} (hd : decode c.code pc = .ok (.iload k, 2)) (hl : Ls[k]? = some (.val (.int v)))
    (K : own_Fin p e below E (T.setTop (mkF m (pc + 2) Ls (.int v :: st)))) : own_Fin p e below E (T.setTop (mkF m pc Ls st)) :=
  own_via K fun t k => XS.iload X.here hx rfl hd hl k
theorem own_lloadN (X : Stand p l e R s m args below meth c T locs cells slots) (hx : p.tables.exec = Jvm.exec) {k : Fin 4} {v : Int64} (hd : decode c.code pc = .ok (.lload_n k, 1)) (hl : Ls[k.val]? = some (.val (.long v)))
    (K : own_Fin p e below E (T.setTop (mkF m (pc + 1) Ls (.long v :: st)))) : own_Fin p e below E (T.setTop (mkF m pc Ls st)) :=
  own_via K fun t k => Jvm.Free.XT.lloadN X.here hx rfl hd hl k
theorem own_lload (X : Stand p l e R s m args below meth c T locs cells slots) (hx : p.tables.exec = Jvm.exec) {k : Nat} {v : Int64} (hd : decode c.code pc = .ok (.lload k, 2)) (hl : Ls[k]? = some (.val (.long v)))
    (K : own_Fin p e below E (T.setTop (mkF m (pc + 2) Ls (.long v :: st)))) : own_Fin p e below E (T.setTop (mkF m pc Ls st)) :=
  own_via K fun t k => Jvm.Free.XT.lload X.here hx rfl hd hl k
theorem own_iconst (X : Stand p l e R s m args below meth c T locs cells slots) (hx : p.tables.exec = Jvm.exec) {i : Int} (v : Int32) (hd : decode c.code pc = .ok (.iconst i, 1)) (hv : Int32.ofInt i = v)
    (K : own_Fin p e below E (T.setTop (mkF m (pc + 1) Ls (.int v :: st)))) : own_Fin p e below E (T.setTop (mkF m pc Ls st)) :=
  own_via K fun t k => Jvm.Free.XT.iconstV X.here hx rfl v hd hv k
theorem own_bipush (X : Stand p l e R s m args below meth c T locs cells slots) (hx : p.tables.exec = Jvm.exec) {i : Int} (v : Int32) (hd : decode c.code pc = .ok (.bipush i, 2)) (hv : (Int8.ofInt i).toInt32 = v)
    (K : own_Fin p e below E (T.setTop (mkF m (pc + 2) Ls (.int v :: st)))) : own_Fin p e below E (T.setTop (mkF m pc Ls st)) :=
  own_via K fun t k => Jvm.Free.XT.bipushV X.here hx rfl v hd hv k
theorem own_sipush (X : Stand p l e R s m args below meth c T locs cells slots) (hx : p.tables.exec = Jvm.exec) {i : Int} (v : Int32) (hd : decode c.code pc = .ok (.sipush i, 3)) (hv : (Int16.ofInt i).toInt32 = v)
    (K : own_Fin p e below E (T.setTop (mkF m (pc + 3) Ls (.int v :: st)))) : own_Fin p e below E (T.setTop (mkF m pc Ls st)) :=
  own_via K fun t k => Jvm.Free.XT.sipushV X.here hx rfl v hd hv k
theorem own_lconst (X : Stand p l e R s m args below meth c T locs cells slots) (hx : p.tables.exec = Jvm.exec) {i : Fin 2} (v : Int64) (hd : decode c.code pc = .ok (.lconst i, 1)) (hv : Int64.ofNat i = v)
    (K : own_Fin p e below E (T.setTop (mkF m (pc + 1) Ls (.long v :: st)))) : own_Fin p e below E (T.setTop (mkF m pc Ls st)) :=
  own_via K fun t k => Jvm.Free.XT.lconstV X.here hx rfl v hd hv k
theorem own_aconst_null (X : Stand p l e R s m args below meth c T locs cells slots) (hx : p.tables.exec = Jvm.exec) (hd : decode c.code pc = .ok (.aconst_null, 1))
    (K : own_Fin p e below E (T.setTop (mkF m (pc + 1) Ls (.null :: st)))) : own_Fin p e below E (T.setTop (mkF m pc Ls st)) :=
  own_via K fun t k => XS.aconstNull X.here hx rfl hd k
theorem own_ldcI (X : Stand p l e R s m args below meth c T locs cells slots) (hx : p.tables.exec = Jvm.exec) (hZ : Z.Warmed39 s.vm) {own : String} {index : Nat} {v : Int32} (hown : s.vm.findClass own = some m.cls) (w : (Jvm.Cond.constant own index v).before a0 Z = true) (hd : decode c.code pc = .ok (.ldc index, 2))
    (K : own_Fin p e below E (T.setTop (mkF m (pc + 2) Ls (.int v :: st)))) : own_Fin p e below E (T.setTop (mkF m pc Ls st)) :=
  own_via K fun t k => Jvm.Stand.ldcI X hx hown (mv hZ w) rfl hd k
theorem own_ldc2J (X : Stand p l e R s m args below meth c T locs cells slots) (hx : p.tables.exec = Jvm.exec) (hZ : Z.Warmed39 s.vm) {own : String} {index : Nat} {v : Int64} (hown : s.vm.findClass own = some m.cls) (w : (Jvm.Cond.constantLong own index v).before a0 Z = true) (hd : decode c.code pc = .ok (.ldc2_w index, 3))
    (K : own_Fin p e below E (T.setTop (mkF m (pc + 3) Ls (.long v :: st)))) : own_Fin p e below E (T.setTop (mkF m pc Ls st)) :=
  own_via K fun t k => Jvm.Stand.ldc2J X hx hown (mv hZ w) rfl hd k
theorem own_iadd (X : Stand p l e R s m args below meth c T locs cells slots) (hx : p.tables.exec = Jvm.exec) {x y : Int32} (hd : decode c.code pc = .ok (.iadd, 1))
    (K : own_Fin p e below E (T.setTop (mkF m (pc + 1) Ls (.int (x + y) :: st)))) : own_Fin p e below E (T.setTop (mkF m pc Ls (.int y :: .int x :: st))) :=
  own_via K fun t k => XS.iadd X.here hx rfl hd rfl k
theorem own_isub (X : Stand p l e R s m args below meth c T locs cells slots) (hx : p.tables.exec = Jvm.exec) {x y : Int32} (hd : decode c.code pc = .ok (.isub, 1))
    (K : own_Fin p e below E (T.setTop (mkF m (pc + 1) Ls (.int (x - y) :: st)))) : own_Fin p e below E (T.setTop (mkF m pc Ls (.int y :: .int x :: st))) :=
  own_via K fun t k => XS.isub X.here hx rfl hd rfl k
theorem own_imul (X : Stand p l e R s m args below meth c T locs cells slots) (hx : p.tables.exec = Jvm.exec) {x y : Int32} (hd : decode c.code pc = .ok (.imul, 1))
    (K : own_Fin p e below E (T.setTop (mkF m (pc + 1) Ls (.int (x * y) :: st)))) : own_Fin p e below E (T.setTop (mkF m pc Ls (.int y :: .int x :: st))) :=
  own_via K fun t k => XS.imul X.here hx rfl hd rfl k
theorem own_iand (X : Stand p l e R s m args below meth c T locs cells slots) (hx : p.tables.exec = Jvm.exec) {x y : Int32} (hd : decode c.code pc = .ok (.iand, 1))
    (K : own_Fin p e below E (T.setTop (mkF m (pc + 1) Ls (.int (x &&& y) :: st)))) : own_Fin p e below E (T.setTop (mkF m pc Ls (.int y :: .int x :: st))) :=
  own_via K fun t k => XS.iand X.here hx rfl hd rfl k
theorem own_ixor (X : Stand p l e R s m args below meth c T locs cells slots) (hx : p.tables.exec = Jvm.exec) {x y : Int32} (hd : decode c.code pc = .ok (.ixor, 1))
    (K : own_Fin p e below E (T.setTop (mkF m (pc + 1) Ls (.int (x ^^^ y) :: st)))) : own_Fin p e below E (T.setTop (mkF m pc Ls (.int y :: .int x :: st))) :=
  own_via K fun t k => Jvm.Free.XT.ixor X.here hx rfl hd rfl k
theorem own_ior (X : Stand p l e R s m args below meth c T locs cells slots) (hx : p.tables.exec = Jvm.exec) {x y : Int32} (hd : decode c.code pc = .ok (.ior, 1))
    (K : own_Fin p e below E (T.setTop (mkF m (pc + 1) Ls (.int (x ||| y) :: st)))) : own_Fin p e below E (T.setTop (mkF m pc Ls (.int y :: .int x :: st))) :=
  own_via K fun t k => Jvm.Free.XT.ior X.here hx rfl hd rfl k
theorem own_iushr (X : Stand p l e R s m args below meth c T locs cells slots) (hx : p.tables.exec = Jvm.exec) {x y : Int32} (hd : decode c.code pc = .ok (.iushr, 1))
    (K : own_Fin p e below E (T.setTop (mkF m (pc + 1) Ls (.int (Jvm.Free.XT.ushr x y) :: st)))) : own_Fin p e below E (T.setTop (mkF m pc Ls (.int y :: .int x :: st))) :=
  own_via K fun t k => Jvm.Free.XT.iushr X.here hx rfl hd rfl k
theorem own_irem (X : Stand p l e R s m args below meth c T locs cells slots) (hx : p.tables.exec = Jvm.exec) {x y : Int32} (hd : decode c.code pc = .ok (.irem, 1)) (hy : y ≠ 0)
    (K : own_Fin p e below E (T.setTop (mkF m (pc + 1) Ls (.int (x % y) :: st)))) : own_Fin p e below E (T.setTop (mkF m pc Ls (.int y :: .int x :: st))) :=
  own_via K fun t k => iremM X hx rfl hd rfl hy k
theorem own_ladd (X : Stand p l e R s m args below meth c T locs cells slots) (hx : p.tables.exec = Jvm.exec) {x y : Int64} (hd : decode c.code pc = .ok (.ladd, 1))
    (K : own_Fin p e below E (T.setTop (mkF m (pc + 1) Ls (.long (x + y) :: st)))) : own_Fin p e below E (T.setTop (mkF m pc Ls (.long y :: .long x :: st))) :=
  own_via K fun t k => Jvm.Free.XT.ladd X.here hx rfl hd rfl k
theorem own_lsub (X : Stand p l e R s m args below meth c T locs cells slots) (hx : p.tables.exec = Jvm.exec) {x y : Int64} (hd : decode c.code pc = .ok (.lsub, 1))
    (K : own_Fin p e below E (T.setTop (mkF m (pc + 1) Ls (.long (x - y) :: st)))) : own_Fin p e below E (T.setTop (mkF m pc Ls (.long y :: .long x :: st))) :=
  own_via K fun t k => Jvm.Free.XT.lsub X.here hx rfl hd rfl k
theorem own_lxor (X : Stand p l e R s m args below meth c T locs cells slots) (hx : p.tables.exec = Jvm.exec) {x y : Int64} (hd : decode c.code pc = .ok (.lxor, 1))
    (K : own_Fin p e below E (T.setTop (mkF m (pc + 1) Ls (.long (x ^^^ y) :: st)))) : own_Fin p e below E (T.setTop (mkF m pc Ls (.long y :: .long x :: st))) :=
  own_via K fun t k => Jvm.Free.XT.lxor X.here hx rfl hd rfl k
theorem own_lcmp (X : Stand p l e R s m args below meth c T locs cells slots) (hx : p.tables.exec = Jvm.exec) {x y : Int64} (hd : decode c.code pc = .ok (.lcmp, 1))
    (K : own_Fin p e below E (T.setTop (mkF m (pc + 1) Ls (.int (Jvm.Free.XT.cmpL x y) :: st)))) : own_Fin p e below E (T.setTop (mkF m pc Ls (.long y :: .long x :: st))) :=
  own_via K fun t k => Jvm.Free.XT.lcmp X.here hx rfl hd rfl k
theorem own_i2b (X : Stand p l e R s m args below meth c T locs cells slots) (hx : p.tables.exec = Jvm.exec) {x : Int32} (hd : decode c.code pc = .ok (.i2b, 1))
    (K : own_Fin p e below E (T.setTop (mkF m (pc + 1) Ls (.int (x.toInt8.toInt32) :: st)))) : own_Fin p e below E (T.setTop (mkF m pc Ls (.int x :: st))) :=
  own_via K fun t k => Jvm.Free.XT.i2b X.here hx rfl hd rfl k
theorem own_i2l (X : Stand p l e R s m args below meth c T locs cells slots) (hx : p.tables.exec = Jvm.exec) {x : Int32} (hd : decode c.code pc = .ok (.i2l, 1))
    (K : own_Fin p e below E (T.setTop (mkF m (pc + 1) Ls (.long (x.toInt64) :: st)))) : own_Fin p e below E (T.setTop (mkF m pc Ls (.int x :: st))) :=
  own_via K fun t k => Jvm.Free.XT.i2l X.here hx rfl hd rfl k
theorem own_l2i (X : Stand p l e R s m args below meth c T locs cells slots) (hx : p.tables.exec = Jvm.exec) {x : Int64} (hd : decode c.code pc = .ok (.l2i, 1))
    (K : own_Fin p e below E (T.setTop (mkF m (pc + 1) Ls (.int (x.toInt32) :: st)))) : own_Fin p e below E (T.setTop (mkF m pc Ls (.long x :: st))) :=
  own_via K fun t k => Jvm.Free.XT.l2i X.here hx rfl hd rfl k
theorem own_dup (X : Stand p l e R s m args below meth c T locs cells slots) (hx : p.tables.exec = Jvm.exec) {v : Value} (hd : decode c.code pc = .ok (.dup, 1)) (hc : v.category = 1)
    (K : own_Fin p e below E (T.setTop (mkF m (pc + 1) Ls (v :: v :: st)))) : own_Fin p e below E (T.setTop (mkF m pc Ls (v :: st))) :=
  own_via K fun t k => XS.dup X.here hx rfl hd rfl hc k
theorem own_pop (X : Stand p l e R s m args below meth c T locs cells slots) (hx : p.tables.exec = Jvm.exec) {v : Value} (hd : decode c.code pc = .ok (.pop, 1)) (hc : v.category = 1)
    (K : own_Fin p e below E (T.setTop (mkF m (pc + 1) Ls st))) : own_Fin p e below E (T.setTop (mkF m pc Ls (v :: st))) :=
  own_via K fun t k => Jvm.Free.XT.pop X.here hx rfl hd rfl hc k
theorem own_istoreN (X : Stand p l e R s m args below meth c T locs cells slots) (hx : p.tables.exec = Jvm.exec) {k : Fin 4} {x : Int32} {l' : Array Slot} (hd : decode c.code pc = .ok (.istore_n k, 1)) (hl : storeLocals Ls k.val (.int x) = some l')
    (K : own_Fin p e below E (T.setTop (mkF m (pc + 1) l' st))) : own_Fin p e below E (T.setTop (mkF m pc Ls (.int x :: st))) :=
  own_via K fun t k => XS.istoreN X.here hx rfl hd rfl hl k
theorem own_istore (X : Stand p l e R s m args below meth c T locs cells slots) (hx : p.tables.exec = Jvm.exec) {k : Nat} {x : Int32} {l' : Array Slot} (hd : decode c.code pc = .ok (.istore k, 2)) (hl : storeLocals Ls k (.int x) = some l')
    (K : own_Fin p e below E (T.setTop (mkF m (pc + 2) l' st))) : own_Fin p e below E (T.setTop (mkF m pc Ls (.int x :: st))) :=
  own_via K fun t k => XS.istore X.here hx rfl hd rfl hl k
theorem own_astoreN (X : Stand p l e R s m args below meth c T locs cells slots) (hx : p.tables.exec = Jvm.exec) {k : Fin 4} {x : Value} {l' : Array Slot} (hd : decode c.code pc = .ok (.astore_n k, 1)) (hv : x.isRef = true) (hl : storeLocals Ls k.val x = some l')
    (K : own_Fin p e below E (T.setTop (mkF m (pc + 1) l' st))) : own_Fin p e below E (T.setTop (mkF m pc Ls (x :: st))) :=
  own_via K fun t k => XS.astoreN X.here hx rfl hd rfl hv hl k
theorem own_astore (X : Stand p l e R s m args below meth c T locs cells slots) (hx : p.tables.exec = Jvm.exec) {k : Nat} {x : Value} {l' : Array Slot} (hd : decode c.code pc = .ok (.astore k, 2)) (hv : x.isRef = true) (hl : storeLocals Ls k x = some l')
    (K : own_Fin p e below E (T.setTop (mkF m (pc + 2) l' st))) : own_Fin p e below E (T.setTop (mkF m pc Ls (x :: st))) :=
  own_via K fun t k => XS.astore X.here hx rfl hd rfl hv hl k
theorem own_lstore (X : Stand p l e R s m args below meth c T locs cells slots) (hx : p.tables.exec = Jvm.exec) {k : Nat} {x : Int64} {l' : Array Slot} (hd : decode c.code pc = .ok (.lstore k, 2)) (hl : storeLocals Ls k (.long x) = some l')
    (K : own_Fin p e below E (T.setTop (mkF m (pc + 2) l' st))) : own_Fin p e below E (T.setTop (mkF m pc Ls (.long x :: st))) :=
  own_via K fun t k => Jvm.Free.XT.lstore X.here hx rfl hd rfl hl k
theorem own_iinc (X : Stand p l e R s m args below meth c T locs cells slots) (hx : p.tables.exec = Jvm.exec) {k : Nat} {cst : Int} {x : Int32} {l' : Array Slot} (v : Int32) (hd : decode c.code pc = .ok (.iinc k cst, 3)) (hv : Int32.ofInt cst = v) (hl : Ls[k]? = some (.val (.int x))) (hl' : storeLocals Ls k (.int (x + v)) = some l')
    (K : own_Fin p e below E (T.setTop (mkF m (pc + 3) l' st))) : own_Fin p e below E (T.setTop (mkF m pc Ls st)) :=
  own_via K fun t k => Jvm.Free.XT.iincV X.here hx rfl v hd hv hl hl' k
theorem own_goto (X : Stand p l e R s m args below meth c T locs cells slots) (hx : p.tables.exec = Jvm.exec) {o : Int} (pc' : Nat)  (hd : decode c.code pc = .ok (.goto o, 3)) (ho : 0 ≤ (pc : Int) + o) (hp : ((pc : Int) + o).toNat = pc')
    (K : own_Fin p e below E (T.setTop (mkF m pc' Ls st))) : own_Fin p e below E (T.setTop (mkF m pc Ls st)) :=
  own_via K fun t k => XS.goto X.here hx rfl rfl hd ho hp k
theorem own_ifYes (X : Stand p l e R s m args below meth c T locs cells slots) (hx : p.tables.exec = Jvm.exec) {cd : ClassFile.Cond} {x : Int32} {o : Int} (pc' : Nat)  (hd : decode c.code pc = .ok (.ifCond cd o, 3)) (ho : 0 ≤ (pc : Int) + o) (hp : ((pc : Int) + o).toNat = pc') (hc : ifCond.holds cd x = true)
    (K : own_Fin p e below E (T.setTop (mkF m pc' Ls st))) : own_Fin p e below E (T.setTop (mkF m pc Ls (.int x :: st))) :=
  own_via K fun t k => XS.ifYes X.here hx rfl rfl hd rfl hc ho hp k
theorem own_ifNo (X : Stand p l e R s m args below meth c T locs cells slots) (hx : p.tables.exec = Jvm.exec) {cd : ClassFile.Cond} {x : Int32} {o : Int} (hd : decode c.code pc = .ok (.ifCond cd o, 3)) (hc : ifCond.holds cd x = false)
    (K : own_Fin p e below E (T.setTop (mkF m (pc + 3) Ls st))) : own_Fin p e below E (T.setTop (mkF m pc Ls (.int x :: st))) :=
  own_via K fun t k => XS.ifNo X.here hx rfl hd rfl hc k
theorem own_icmpYes (X : Stand p l e R s m args below meth c T locs cells slots) (hx : p.tables.exec = Jvm.exec) {cd : ClassFile.Cond} {x y : Int32} {o : Int} (pc' : Nat)  (hd : decode c.code pc = .ok (.if_icmp cd o, 3)) (ho : 0 ≤ (pc : Int) + o) (hp : ((pc : Int) + o).toNat = pc') (hc : if_icmp.holds cd x y = true)
    (K : own_Fin p e below E (T.setTop (mkF m pc' Ls st))) : own_Fin p e below E (T.setTop (mkF m pc Ls (.int y :: .int x :: st))) :=
  own_via K fun t k => XS.icmpYes X.here hx rfl rfl hd rfl hc ho hp k
theorem own_icmpNo (X : Stand p l e R s m args below meth c T locs cells slots) (hx : p.tables.exec = Jvm.exec) {cd : ClassFile.Cond} {x y : Int32} {o : Int} (hd : decode c.code pc = .ok (.if_icmp cd o, 3)) (hc : if_icmp.holds cd x y = false)
    (K : own_Fin p e below E (T.setTop (mkF m (pc + 3) Ls st))) : own_Fin p e below E (T.setTop (mkF m pc Ls (.int y :: .int x :: st))) :=
  own_via K fun t k => XS.icmpNo X.here hx rfl hd rfl hc k
theorem own_acmpYes (X : Stand p l e R s m args below meth c T locs cells slots) (hx : p.tables.exec = Jvm.exec) {cd : ClassFile.ACond} {x y : Value} {o : Int} (pc' : Nat)  (hd : decode c.code pc = .ok (.if_acmp cd o, 3)) (ho : 0 ≤ (pc : Int) + o) (hp : ((pc : Int) + o).toNat = pc') (hx' : x.isRef = true) (hy' : y.isRef = true) (hc : Jvm.Free.XT.acmp cd x y = true)
    (K : own_Fin p e below E (T.setTop (mkF m pc' Ls st))) : own_Fin p e below E (T.setTop (mkF m pc Ls (y :: x :: st))) :=
  own_via K fun t k => Jvm.Free.XT.acmpYes X.here hx rfl rfl hd rfl hx' hy' hc ho hp k
theorem own_acmpNo (X : Stand p l e R s m args below meth c T locs cells slots) (hx : p.tables.exec = Jvm.exec) {cd : ClassFile.ACond} {x y : Value} {o : Int} (hd : decode c.code pc = .ok (.if_acmp cd o, 3)) (hx' : x.isRef = true) (hy' : y.isRef = true) (hc : Jvm.Free.XT.acmp cd x y = false)
    (K : own_Fin p e below E (T.setTop (mkF m (pc + 3) Ls st))) : own_Fin p e below E (T.setTop (mkF m pc Ls (y :: x :: st))) :=
  own_via K fun t k => Jvm.Free.XT.acmpNo X.here hx rfl hd rfl hx' hy' hc k
theorem own_ifnullYes (X : Stand p l e R s m args below meth c T locs cells slots) (hx : p.tables.exec = Jvm.exec) {o : Int} (pc' : Nat)  (hd : decode c.code pc = .ok (.ifnull o, 3)) (ho : 0 ≤ (pc : Int) + o) (hp : ((pc : Int) + o).toNat = pc')
    (K : own_Fin p e below E (T.setTop (mkF m pc' Ls st))) : own_Fin p e below E (T.setTop (mkF m pc Ls (.null :: st))) :=
  own_via K fun t k => XS.ifnullYes X.here hx rfl rfl hd rfl ho hp k
theorem own_ifnullNo (X : Stand p l e R s m args below meth c T locs cells slots) (hx : p.tables.exec = Jvm.exec) {o : Int} {b : Addr} (hd : decode c.code pc = .ok (.ifnull o, 3))
    (K : own_Fin p e below E (T.setTop (mkF m (pc + 3) Ls st))) : own_Fin p e below E (T.setTop (mkF m pc Ls (.ref b :: st))) :=
  own_via K fun t k => XS.ifnullNo X.here hx rfl hd rfl k
theorem own_ifnonnullYes (X : Stand p l e R s m args below meth c T locs cells slots) (hx : p.tables.exec = Jvm.exec) {o : Int} {b : Addr} (pc' : Nat)  (hd : decode c.code pc = .ok (.ifnonnull o, 3)) (ho : 0 ≤ (pc : Int) + o) (hp : ((pc : Int) + o).toNat = pc')
    (K : own_Fin p e below E (T.setTop (mkF m pc' Ls st))) : own_Fin p e below E (T.setTop (mkF m pc Ls (.ref b :: st))) :=
  own_via K fun t k => Jvm.Free.XT.ifnonnullYes X.here hx rfl rfl hd rfl ho hp k
theorem own_ifnonnullNo (X : Stand p l e R s m args below meth c T locs cells slots) (hx : p.tables.exec = Jvm.exec) {o : Int} (hd : decode c.code pc = .ok (.ifnonnull o, 3))
    (K : own_Fin p e below E (T.setTop (mkF m (pc + 3) Ls st))) : own_Fin p e below E (T.setTop (mkF m pc Ls (.null :: st))) :=
  own_via K fun t k => Jvm.Free.XT.ifnonnullNo X.here hx rfl hd rfl k
theorem own_getstatic (X : Stand p l e R s m args below meth c T locs cells slots) (hx : p.tables.exec = Jvm.exec) (hZ : Z.Warmed39 s.vm) {own R0 O n d host : String} {index : Nat} (hown : s.vm.findClass own = some m.cls) (w : (Jvm.Cond.fieldLink own index R0 n d).before a0 Z = true ∨ (Jvm.Cond.fieldLinkNest own index R0 n d host).before a0 Z = true) (via : Via Z R0 O n d) (eT : T.heap = h) {v : Value} (F : Sta Z h O n d v) (hd : decode c.code pc = .ok (.getstatic index, 3))
    (K : ∀ T', Stand p l e R s m args below meth c T' locs cells slots → T'.heap = h → own_Fin p e below E (T'.setTop (mkF m (pc + 3) Ls (v :: st)))) : own_Fin p e below E (T.setTop (mkF m pc Ls st)) := by
  obtain ⟨T', X', e', sp⟩ := getS2 X hx hZ hown w via eT F (g := mkF m pc Ls st) rfl hd
  exact own_via (K T' X' e') sp
theorem own_getfield (X : Stand p l e R s m args below meth c T locs cells slots) (hx : p.tables.exec = Jvm.exec) (hZ : Z.Warmed39 s.vm) {own R0 O n d host : String} {index : Nat} (hown : s.vm.findClass own = some m.cls) (w : (Jvm.Cond.fieldLink own index R0 n d).before a0 Z = true ∨ (Jvm.Cond.fieldLinkNest own index R0 n d host).before a0 Z = true) (via : Via Z R0 O n d) (eT : T.heap = h) {a : Addr} {v : Value} (F : Fld Z h a O n d v) (hd : decode c.code pc = .ok (.getfield index, 3))
    (K : ∀ T', Stand p l e R s m args below meth c T' locs cells slots → T'.heap = h → own_Fin p e below E (T'.setTop (mkF m (pc + 3) Ls (v :: st)))) : own_Fin p e below E (T.setTop (mkF m pc Ls (.ref a :: st))) := by
  obtain ⟨T', X', e', sp⟩ := getF X hx hZ hown w via eT F (g := mkF m pc Ls (.ref a :: st)) rfl rfl hd
  exact own_via (K T' X' e') sp
theorem own_putfield (X : Stand p l e R s m args below meth c T locs cells slots) (hx : p.tables.exec = Jvm.exec) (hZ : Z.Warmed39 s.vm) {own R0 O n d host : String} {index : Nat} (hown : s.vm.findClass own = some m.cls) (w : (Jvm.Cond.fieldLink own index R0 n d).before a0 Z = true ∨ (Jvm.Cond.fieldLinkNest own index R0 n d host).before a0 Z = true) (via : Via Z R0 O n d) (eT : T.heap = h) {C : String} {kk : Nat} {ty : FieldType} {a : Addr} {v old : Value} (F : Fld Z h a O n d old) (EX : Exa Z h a C) (L : (Jvm.Cond.lays C O n d).before a0 Z = true ∨ ((Jvm.Cond.laysFinal C O n d).before a0 Z = true ∧ own = O ∧ meth.name = "<init>")) (wi : (Jvm.Cond.instantiable C kk).before a0 Z = true)
    (hty : parseFieldDescriptor d = some ty) (hn : narrow ty v = v) (hf : fits ty v = true) (hd : decode c.code pc = .ok (.putfield index, 3))
    (K : ∀ T' h', Stand p l e R s m args below meth c T' (locs ++ [⟨a, Jvm.RoadKit.slotOf Z O n d⟩]) cells slots → T'.heap = h' → Wr h h' a (Jvm.RoadKit.slotOf Z O n d) v → own_Fin p e below E (T'.setTop (mkF m (pc + 3) Ls st))) : own_Fin p e below E (T.setTop (mkF m pc Ls (v :: .ref a :: st))) := by
  obtain ⟨T', h', X', e', W, sp⟩ := putF X hx hZ hown w via eT F EX L wi hty hn hf (g := mkF m pc Ls (v :: .ref a :: st)) rfl rfl hd
  exact own_via (K T' h' X' e' W) sp
theorem own_new (X : Stand p l e R s m args below meth c T locs cells slots) (hx : p.tables.exec = Jvm.exec) (hZ : Z.Warmed39 s.vm) {own C : String} {index n : Nat} (hown : s.vm.findClass own = some m.cls) (w : (Jvm.Cond.classLink own index C).before a0 Z = true) (wi : (Jvm.Cond.instantiable C n).before a0 Z = true) (wz : (Jvm.Cond.initialized C).before a0 Z = true) (eT : T.heap = h)
    (hd : decode c.code pc = .ok (.new index, 3)) (hc : cells + 1 ≤ R.cells) (hl : slots + n ≤ R.slots)
    (K : ∀ T' h' b, Stand p l e R s m args below meth c T' locs (cells + 1) (slots + n) → T'.heap = h' → b = h.size → Ext h h' → Exa Z h' b C → (∀ {O nm d : String} {ty : FieldType}, Laid Z a0 C O nm d → parseFieldDescriptor d = some ty → Fld Z h' b O nm d (defaultValue ty)) → own_Fin p e below E (T'.setTop (mkF m (pc + 3) Ls (.ref b :: st)))) : own_Fin p e below E (T.setTop (mkF m pc Ls st)) := by
  obtain ⟨T', h', X', e', EE, A, D, -, sp⟩ := newO X hx hZ hown w wi wz eT (g := mkF m pc Ls st) rfl hd hc hl
  exact own_via (K T' h' _ X' e' rfl EE A D) sp
theorem own_arraylength (X : Stand p l e R s m args below meth c T locs cells slots) (hx : p.tables.exec = Jvm.exec) (hZ : Z.Warmed39 s.vm) {a : Addr} {cl : Cell} {ty : FieldType} {n : Int32} (eT : T.heap = h) (A : Arr Z h a cl ty) (hn : cl.slots.size.toInt32 = n) (hd : decode c.code pc = .ok (.arraylength, 1))
    (K : own_Fin p e below E (T.setTop (mkF m (pc + 1) Ls (.int n :: st)))) : own_Fin p e below E (T.setTop (mkF m pc Ls (.ref a :: st))) := by
  subst hn
  exact own_via K fun t k => X.arraylength hx (by rw [eT]; exact A.1) (State.isArrayOf_alike hZ.alike A.2.1) (g := mkF m pc Ls (.ref a :: st)) rfl rfl hd t k
theorem own_aaload (X : Stand p l e R s m args below meth c T locs cells slots) (hx : p.tables.exec = Jvm.exec) (hZ : Z.Warmed39 s.vm) {a : Addr} {cl : Cell} {j : Int32} {v : Value} (eT : T.heap = h) {ty : FieldType} (A : Arr Z h a cl ty) (hty : ty.isReference = true) (hin : ¬ (j < 0 ∨ cl.slots.size ≤ j.toNatClampNeg)) (hv : cl.slots[j.toNatClampNeg]? = some v) (hd : decode c.code pc = .ok (.aaload, 1))
    (K : own_Fin p e below E (T.setTop (mkF m (pc + 1) Ls (v :: st)))) : own_Fin p e below E (T.setTop (mkF m pc Ls (.int j :: .ref a :: st))) :=
  own_via K fun t k => X.aaload hx (by rw [eT]; exact A.1) (State.isArrayOf_alike hZ.alike A.2.1) hty A.2.2 hin hv (g := mkF m pc Ls (.int j :: .ref a :: st)) rfl rfl hd t k
theorem own_baload (X : Stand p l e R s m args below meth c T locs cells slots) (hx : p.tables.exec = Jvm.exec) (hZ : Z.Warmed39 s.vm) {a : Addr} {cl : Cell} {j : Int32} {v : Value} (eT : T.heap = h) (A : Arr Z h a cl .byte)  (hin : ¬ (j < 0 ∨ cl.slots.size ≤ j.toNatClampNeg)) (hv : cl.slots[j.toNatClampNeg]? = some v) (hd : decode c.code pc = .ok (.baload, 1))
    (K : own_Fin p e below E (T.setTop (mkF m (pc + 1) Ls (v :: st)))) : own_Fin p e below E (T.setTop (mkF m pc Ls (.int j :: .ref a :: st))) :=
  own_via K fun t k => X.baloadBytes hx (by rw [eT]; exact A.1) (State.isArrayOf_alike hZ.alike A.2.1) A.2.2 hin hv (g := mkF m pc Ls (.int j :: .ref a :: st)) rfl rfl hd t k
theorem own_baloadZ (X : Stand p l e R s m args below meth c T locs cells slots) (hx : p.tables.exec = Jvm.exec) (hZ : Z.Warmed39 s.vm) {a : Addr} {cl : Cell} {j : Int32} {v : Value} (eT : T.heap = h) (A : Arr Z h a cl .boolean)  (hin : ¬ (j < 0 ∨ cl.slots.size ≤ j.toNatClampNeg)) (hv : cl.slots[j.toNatClampNeg]? = some v) (hd : decode c.code pc = .ok (.baload, 1))
    (K : own_Fin p e below E (T.setTop (mkF m (pc + 1) Ls (v :: st)))) : own_Fin p e below E (T.setTop (mkF m pc Ls (.int j :: .ref a :: st))) :=
  own_via K fun t k => X.baloadBooleans hx (by rw [eT]; exact A.1) (State.isArrayOf_alike hZ.alike A.2.1) A.2.2 hin hv (g := mkF m pc Ls (.int j :: .ref a :: st)) rfl rfl hd t k
theorem own_newarray (X : Stand p l e R s m args below meth c T locs cells slots) (hx : p.tables.exec = Jvm.exec) (hZ : Z.Warmed39 s.vm) {aty : ArrayType} (w : (Jvm.Cond.arrayClass (newarray.typeOf aty)).before a0 Z = true) (eT : T.heap = h) (hd : decode c.code pc = .ok (.newarray aty, 2)) {n : Int32} (hn : ¬ n < 0) (cap : Nat) (hcap : n.toNatClampNeg ≤ cap) (hb : cap * 8 ≤ 536870912) (hc : cells + 1 ≤ R.cells) (hl : slots + cap ≤ R.slots)
    (K : ∀ T' h' b cA, Stand p l e R s m args below meth c T' locs (cells + 1) (slots + cap) → T'.heap = h' → b = h.size → Ext h h' → Arr Z h' b (newA cA (newarray.typeOf aty) n) (newarray.typeOf aty) → own_Fin p e below E (T'.setTop (mkF m (pc + 2) Ls (.ref b :: st)))) : own_Fin p e below E (T.setTop (mkF m pc Ls (.int n :: st))) := by
  obtain ⟨T', h', cA, X', e', EE, A, sp⟩ := newP X hx hZ w eT (g := mkF m pc Ls (.int n :: st)) rfl hd rfl hn hcap hb hc hl
  exact own_via (K T' h' _ cA X' e' rfl EE A) sp
theorem own_bastore (X : Stand p l e R s m args below meth c T locs cells slots) (hx : p.tables.exec = Jvm.exec) (hZ : Z.Warmed39 s.vm) {a : Addr} {cl : Cell} {j x : Int32} (eT : T.heap = h) (A : Arr Z h a cl .byte) (hj : ¬ (j < 0 ∨ cl.slots.size ≤ j.toNatClampNeg)) (hd : decode c.code pc = .ok (.bastore, 1))
    (K : ∀ T' h', Stand p l e R s m args below meth c T' (locs ++ [⟨a, j.toNatClampNeg⟩]) cells slots → T'.heap = h' → Wr h h' a j.toNatClampNeg (.int (nar .byte x)) → own_Fin p e below E (T'.setTop (mkF m (pc + 1) Ls st))) : own_Fin p e below E (T.setTop (mkF m pc Ls (.int x :: .int j :: .ref a :: st))) := by
  obtain ⟨T', h', X', e', W, sp⟩ := stB X hx hZ eT A (x := x) hj (g := mkF m pc Ls (.int x :: .int j :: .ref a :: st)) rfl rfl hd
  exact own_via (K T' h' X' e' W) sp
theorem own_virt (X : Stand p l e R s m args below meth c T locs cells slots) (hx : p.tables.exec = Jvm.exec) (hZ : Z.Warmed39 s.vm) {own C : String} {index : Nat} {y z : MethodName} {bytes : ByteArray} {maxL : Nat} {ret : Option FieldType} {rm : Room} {W : Nat} {as' : Array Value} {Q' : Option Value → Heap → List Loc → Prop} {argsL rest : List Value} {a : Addr} (hown : s.vm.findClass own = some m.cls) (w1 : (Jvm.Cond.methodLink own index y).before a0 Z = true) (w2 : (Jvm.Cond.declares y).before a0 Z = true) (w3 : (Jvm.Cond.selects y.cls y y).before a0 Z = true) (w4 : (Jvm.Cond.selects C y z).before a0 Z = true) (w5 : (Jvm.Cond.instanceMethod z).before a0 Z = true)
    (w6 : (Jvm.Cond.code z bytes maxL ret).before a0 Z = true) (w7 : (Jvm.Cond.initialized z.cls).before a0 Z = true) (hy : y.cls ≠ "java/lang/invoke/MethodHandle" ∧ y.cls ≠ "java/lang/invoke/VarHandle") (eT : T.heap = h) (EX : Exa Z h a C) (hd : decode c.code pc = .ok (.invokevirtual index, 3)) (hsz : Ls.size = c.maxLocals) {ps : List FieldType} {rt : Option FieldType} (hpd : parseMethodDescriptor y.desc = some ⟨ps, rt⟩) (hlen : argsL.length = ps.length) (hW : (rest.map fun v => v.category).sum ≤ W)
    (hM : own_Met l Z z bytes maxL ret rm as' h Q') (hf : rm.frames + 1 ≤ R.frames) (hl : W + (maxL + 11) + rm.locals ≤ R.locals) (hcc : cells + rm.cells ≤ R.cells) (hss : slots + rm.slots ≤ R.slots) (hst : st = argsL.reverse ++ .ref a :: rest) (has : as' = (.ref a :: argsL).toArray)
    (K : ∀ v T' L', Stand p l e R s m args below meth c T' (locs ++ L') (cells + rm.cells) (slots + rm.slots) → Q' v T'.heap L' → own_Fin p e below E (T'.setTop (mkF m (pc + 3) Ls (v.toList ++ rest)))) : own_Fin p e below E (T.setTop (mkF m pc Ls st)) := by
  subst hst has
  obtain ⟨cq, kq, qa, -, qc⟩ := isOf hZ eT EX
  obtain ⟨v, _, ⟨T', L', k', n'⟩, -, X', ⟨L2, hQ, l1, y1, z1⟩, sp⟩ := X.virtualBack hx (y := y) (z := z) hown (mvT hZ w1) (mvT hZ w2) (notFace_of_selects (args := #[]) (mvT hZ w3)) (mvT hZ w4) (mvT hZ w5) hy (backOf (W := W) (hM []) hZ w6 w7 hf hl) qa qc (g := mkF m pc Ls (argsL.reverse ++ .ref a :: rest)) rfl hsz (Steps.refl _) (argsL := argsL) (rest := rest) (lenOf hpd hlen) rfl (by show 2 * 0 + _ ≤ _; omega) hd (fun _ _ => ⟨rfl, eT, hcc, hss⟩)
  dsimp only [Pt.U, Pt.locs, Pt.cells, Pt.slots] at X' l1 y1 z1 sp hQ
  subst l1 y1 z1
  exact own_via (K v T' L2 X' hQ) fun t k => sp.trans k
theorem own_stat (X : Stand p l e R s m args below meth c T locs cells slots) (hx : p.tables.exec = Jvm.exec) (hZ : Z.Warmed39 s.vm) {own : String} {index : Nat} {y : MethodName} {bytes : ByteArray} {maxL : Nat} {ret : Option FieldType} {rm : Room} {W : Nat} {as' : Array Value} {Q' : Option Value → Heap → List Loc → Prop} {argsL rest : List Value} (hown : s.vm.findClass own = some m.cls) (w1 : (Jvm.Cond.methodLink own index y).before a0 Z = true) (w2 : (Jvm.Cond.static y).before a0 Z = true)
    (w6 : (Jvm.Cond.code y bytes maxL ret).before a0 Z = true) (w7 : (Jvm.Cond.initialized y.cls).before a0 Z = true) (hy : y.cls ≠ "java/lang/invoke/MethodHandle" ∧ y.cls ≠ "java/lang/invoke/VarHandle") (eT : T.heap = h) (hd : decode c.code pc = .ok (.invokestatic index, 3)) (hsz : Ls.size = c.maxLocals) {ps : List FieldType} {rt : Option FieldType} (hpd : parseMethodDescriptor y.desc = some ⟨ps, rt⟩) (hlen : argsL.length = ps.length) (hW : (rest.map fun v => v.category).sum ≤ W)
    (hM : own_Met l Z y bytes maxL ret rm as' h Q') (hf : rm.frames + 1 ≤ R.frames) (hl : W + (maxL + 11) + rm.locals ≤ R.locals) (hcc : cells + rm.cells ≤ R.cells) (hss : slots + rm.slots ≤ R.slots) (hst : st = argsL.reverse ++ rest) (has : as' = argsL.toArray)
    (K : ∀ v T' L', Stand p l e R s m args below meth c T' (locs ++ L') (cells + rm.cells) (slots + rm.slots) → Q' v T'.heap L' → own_Fin p e below E (T'.setTop (mkF m (pc + 3) Ls (v.toList ++ rest)))) : own_Fin p e below E (T.setTop (mkF m pc Ls st)) := by
  subst hst has
  obtain ⟨v, _, ⟨T', L', k', n'⟩, -, X', ⟨L2, hQ, l1, y1, z1⟩, sp⟩ := Jvm.LawKit.callS X hx (y := y) hown (mvT hZ w1) (mvT hZ w2) (mvT hZ w7) (mvT hZ w6) hy (backOf (W := W) (hM []) hZ w6 w7 hf hl) (g := mkF m pc Ls (argsL.reverse ++ rest)) rfl hsz (argsL := argsL) (rest := rest) (lenOf hpd hlen) rfl (by show 2 * 0 + _ ≤ _; omega) hd (fun _ _ => ⟨rfl, eT, hcc, hss⟩)
  dsimp only [Pt.U, Pt.locs, Pt.cells, Pt.slots] at X' l1 y1 z1 sp hQ
  subst l1 y1 z1
  exact own_via (K v T' L2 X' hQ) sp
theorem own_spec (X : Stand p l e R s m args below meth c T locs cells slots) (hx : p.tables.exec = Jvm.exec) (hZ : Z.Warmed39 s.vm) {own : String} {index : Nat} {y : MethodName} {bytes : ByteArray} {maxL : Nat} {rm : Room} {W : Nat} {as' : Array Value} {Q' : Option Value → Heap → List Loc → Prop} {argsL rest : List Value} {a : Addr} (hy1 : y.name = "<init>") (hown : s.vm.findClass own = some m.cls) (w1 : (Jvm.Cond.methodLink own index y).before a0 Z = true) (w5 : (Jvm.Cond.instanceMethod y).before a0 Z = true)
    (w6 : (Jvm.Cond.code y bytes maxL none).before a0 Z = true) (w7 : (Jvm.Cond.initialized y.cls).before a0 Z = true) (hy : y.cls ≠ "java/lang/invoke/MethodHandle" ∧ y.cls ≠ "java/lang/invoke/VarHandle") (eT : T.heap = h) (hd : decode c.code pc = .ok (.invokespecial index, 3)) (hsz : Ls.size = c.maxLocals) {ps : List FieldType} {rt : Option FieldType} (hpd : parseMethodDescriptor y.desc = some ⟨ps, rt⟩) (hlen : argsL.length = ps.length) (hW : (rest.map fun v => v.category).sum ≤ W)
    (hM : own_Met l Z y bytes maxL none rm as' h Q') (hf : rm.frames + 1 ≤ R.frames) (hl : W + (maxL + 11) + rm.locals ≤ R.locals) (hcc : cells + rm.cells ≤ R.cells) (hss : slots + rm.slots ≤ R.slots) (hst : st = argsL.reverse ++ .ref a :: rest) (has : as' = (.ref a :: argsL).toArray)
    (K : ∀ v T' L', Stand p l e R s m args below meth c T' (locs ++ L') (cells + rm.cells) (slots + rm.slots) → Q' v T'.heap L' → own_Fin p e below E (T'.setTop (mkF m (pc + 3) Ls (v.toList ++ rest)))) : own_Fin p e below E (T.setTop (mkF m pc Ls st)) := by
  subst hst has
  obtain ⟨v, _, ⟨T', L', k', n'⟩, -, X', ⟨L2, hQ, l1, y1, z1⟩, sp⟩ := X.specialBack hx (y := y) hy1 hown (mvT hZ w1) (mvT hZ w5) (mvT hZ w6) hy (backOf (W := W) (hM []) hZ w6 w7 hf hl) (g := mkF m pc Ls (argsL.reverse ++ .ref a :: rest)) rfl hsz (Steps.refl _) (a := a) (argsL := argsL) (rest := rest) (lenOf hpd hlen) rfl (by show 2 * 0 + _ ≤ _; omega) hd (fun _ _ => ⟨rfl, eT, hcc, hss⟩)
  dsimp only [Pt.U, Pt.locs, Pt.cells, Pt.slots] at X' l1 y1 z1 sp hQ
  subst l1 y1 z1
  exact own_via (K v T' L2 X' hQ) fun t k => sp.trans k
theorem own_retN (X : Stand p l e R s m args below meth c T locs cells slots) (hx : p.tables.exec = Jvm.exec) {t : FieldType} {z : Int32} (hret : meth.sig.returnType = some t) (ht : t = .boolean ∨ t = .byte ∨ t = .char ∨ t = .short) (hd : decode c.code pc = .ok (.ireturn, 1)) (hlk : meth.locks = false) (hc : cells ≤ kc) (hs : slots ≤ ks) (hQ : Q (some (.int (nar t z))) T.heap locs) : own_Fin p e below (own_End s Q kc ks) (T.setTop (mkF m pc Ls (.int z :: st))) := by
  obtain ⟨fs, hr, hrun, hended, hW, hsame⟩ := X.leave (v := some (.int (nar t z))) (fun h => by rw [hret] at h; cases h) hlk
  exact ⟨_, _, retN X hx hret ht hd hr, hrun, hended, _, _, rfl, hQ, ⟨_, rfl⟩, hW, hsame.mono hc hs⟩
theorem own_retI (X : Stand p l e R s m args below meth c T locs cells slots) (hx : p.tables.exec = Jvm.exec) {z : Int32} (hret : meth.sig.returnType = some .int) (hd : decode c.code pc = .ok (.ireturn, 1)) (hlk : meth.locks = false) (hc : cells ≤ kc) (hs : slots ≤ ks) (hQ : Q (some (.int z)) T.heap locs) : own_Fin p e below (own_End s Q kc ks) (T.setTop (mkF m pc Ls (.int z :: st))) := by
  obtain ⟨fs, hr, hrun, hended, hW, hsame⟩ := X.leave (v := some (.int z)) (fun h => by rw [hret] at h; cases h) hlk
  exact ⟨_, _, retOut X hx hret rfl (Or.inl ⟨rfl, Or.inl rfl, z, rfl⟩) hd hr, hrun, hended, _, _, rfl, hQ, ⟨_, rfl⟩, hW, hsame.mono hc hs⟩
theorem own_retJ (X : Stand p l e R s m args below meth c T locs cells slots) (hx : p.tables.exec = Jvm.exec) {z : Int64} (hret : meth.sig.returnType = some .long) (hd : decode c.code pc = .ok (.lreturn, 1)) (hlk : meth.locks = false) (hc : cells ≤ kc) (hs : slots ≤ ks) (hQ : Q (some (.long z)) T.heap locs) : own_Fin p e below (own_End s Q kc ks) (T.setTop (mkF m pc Ls (.long z :: st))) := by
  obtain ⟨fs, hr, hrun, hended, hW, hsame⟩ := X.leave (v := some (.long z)) (fun h => by rw [hret] at h; cases h) hlk
  exact ⟨_, _, retOut X hx hret rfl (Or.inr (Or.inl ⟨rfl, rfl, z, rfl⟩)) hd hr, hrun, hended, _, _, rfl, hQ, ⟨_, rfl⟩, hW, hsame.mono hc hs⟩
theorem own_retA (X : Stand p l e R s m args below meth c T locs cells slots) (hx : p.tables.exec = Jvm.exec) {t : FieldType} {v : Value} (hret : meth.sig.returnType = some t) (ht : t.isReference = true) (hv : v.isRef = true) (hn : narrow t v = v) (hd : decode c.code pc = .ok (.areturn, 1)) (hlk : meth.locks = false) (hc : cells ≤ kc) (hs : slots ≤ ks) (hQ : Q (some v) T.heap locs) : own_Fin p e below (own_End s Q kc ks) (T.setTop (mkF m pc Ls (v :: st))) := by
  obtain ⟨fs, hr, hrun, hended, hW, hsame⟩ := X.leave (v := some v) (fun h => by rw [hret] at h; cases h) hlk
  exact ⟨_, _, retOut X hx hret hn (Or.inr (Or.inr (Or.inr (Or.inr ⟨rfl, ht, hv⟩)))) hd hr, hrun, hended, _, _, rfl, hQ, ⟨_, rfl⟩, hW, hsame.mono hc hs⟩
theorem own_retV (X : Stand p l e R s m args below meth c T locs cells slots) (hx : p.tables.exec = Jvm.exec) (hret : meth.sig.returnType = none) (hd : decode c.code pc = .ok (.return_, 1)) (hlk : meth.locks = false) (hc : cells ≤ kc) (hs : slots ≤ ks) (hQ : Q none T.heap locs) : own_Fin p e below (own_End s Q kc ks) (T.setTop (mkF m pc Ls [])) := by
  obtain ⟨fs, hr, hrun, hended, hW, hsame⟩ := X.leave (v := none) (fun _ => rfl) hlk
  exact ⟨_, _, X.returnOut hx hret hd hr, hrun, hended, _, _, rfl, hQ, ⟨_, rfl⟩, hW, hsame.mono hc hs⟩
theorem own_exa {t : Term} {C : String} (hx : (Jvm.Cond.exactly t C).value args s none s [] = some true) : ∃ a, t.eval args s none [] s = some (.ref a) ∧ Exa s s.heap a C := by
  obtain ⟨a, ev⟩ := exa_v hx
  exact ⟨a, ev, Exa.start ev hx⟩
theorem own_eqI {t : Term} {v : Int32} {idx : List Nat} (h : (Jvm.Cond.eq t (.int v)).value args s none s idx = some true) : t.eval args s none idx s = some (.int v) := by
  simp only [Cond.value, Term.eval] at h
  cases ht : t.eval args s none idx s with
  | none => simp [ht] at h
  | some x => cases x <;> simp [ht] at h ⊢; exact h
theorem own_eqR {t u : Term} {b : Addr} {idx : List Nat} (hu : u.eval args s none idx s = some (.ref b)) (h : (Jvm.Cond.eq t u).value args s none s idx = some true) : t.eval args s none idx s = some (.ref b) := by
  simp only [Cond.value, hu] at h
  cases ht : t.eval args s none idx s with
  | none => simp [ht] at h
  | some x => cases x <;> simp [ht] at h ⊢; exact h
theorem own_len2 {t : Term} {a : Addr} {cl : Cell} {ty : FieldType} {n : Int32} (ev : t.eval args s none [] s = some (.ref a)) (A : Arr s s.heap a cl ty) (h : (Term.length t).eval args s none [] s = some (.int n)) : cl.slots.size < 2 ^ 31 ∧ cl.slots.size.toInt32 = n := by
  have hA := A.fin (Vm.Alike.refl _)
  simp only [Term.eval, ev, hA, Option.bind_eq_bind, Option.bind_some] at h
  by_cases q : cl.slots.size < 2 ^ 31
  · rw [if_pos q] at h
    exact ⟨q, Value.int.inj (Option.some.inj h)⟩
  · rw [if_neg q] at h
    cases h
theorem own_len {t : Term} {a : Addr} {cl : Cell} {ty : FieldType} {n : Int32} (ev : t.eval args s none [] s = some (.ref a)) (A : Arr s s.heap a cl ty) (h : (Term.length t).eval args s none [] s = some (.int n)) : cl.slots.size.toInt32 = n := (own_len2 ev A h).2
theorem own_fld {t : Term} {O n d : String} {a : Addr} {v : Value} (ev : t.eval args s none [] s = some (.ref a)) (h : (Term.field t O n d).eval args s none [] s = some v) : Fld s s.heap a O n d v := Fld.start (by rw [← fld_at ev]; exact h)
end Own


theorem own_w0 {a0 : Array Value} {Z : State} (hw : ∀ d ∈ tables_1, d.before a0 Z = true) : (Jvm.Cond.methodLink "com/example/rollfwd/rollfwd/JobStateIsUnfinishedPinLaw" (34 : Nat) ({ cls := "com/example/rollfwd/rollfwd/JobStateIsUnfinishedPinLaw", name := "pick", desc := "(I)Lcom/example/rollfwd/rollfwd/JobState;" } : Jvm.MethodName)).before a0 Z = true := hw _ (List.mem_of_getElem? (i := 0) rfl)
theorem own_w1 {a0 : Array Value} {Z : State} (hw : ∀ d ∈ tables_1, d.before a0 Z = true) : (Jvm.Cond.static ({ cls := "com/example/rollfwd/rollfwd/JobStateIsUnfinishedPinLaw", name := "pick", desc := "(I)Lcom/example/rollfwd/rollfwd/JobState;" } : Jvm.MethodName)).before a0 Z = true := hw _ (List.mem_of_getElem? (i := 1) rfl)
theorem own_w2 {a0 : Array Value} {Z : State} (hw : ∀ d ∈ tables_1, d.before a0 Z = true) : (Jvm.Cond.initialized "com/example/rollfwd/rollfwd/JobStateIsUnfinishedPinLaw").before a0 Z = true := hw _ (List.mem_of_getElem? (i := 2) rfl)
theorem own_w3 {a0 : Array Value} {Z : State} (hw : ∀ d ∈ tables_1, d.before a0 Z = true) : (Jvm.Cond.code ({ cls := "com/example/rollfwd/rollfwd/JobStateIsUnfinishedPinLaw", name := "pick", desc := "(I)Lcom/example/rollfwd/rollfwd/JobState;" } : Jvm.MethodName) method_2_code (1 : Nat) (Option.some (Jvm.ClassFile.FieldType.object "com/example/rollfwd/rollfwd/JobState"))).before a0 Z = true := hw _ (List.mem_of_getElem? (i := 3) rfl)
theorem own_w4 {a0 : Array Value} {Z : State} (hw : ∀ d ∈ tables_1, d.before a0 Z = true) : (Jvm.Cond.fieldLink "com/example/rollfwd/rollfwd/JobStateIsUnfinishedPinLaw" (7 : Nat) "com/example/rollfwd/rollfwd/JobState" "QUEUED" "Lcom/example/rollfwd/rollfwd/JobState;").before a0 Z = true := hw _ (List.mem_of_getElem? (i := 4) rfl)
theorem own_w5 {a0 : Array Value} {Z : State} (hw : ∀ d ∈ tables_1, d.before a0 Z = true) : (Jvm.Cond.initialized "com/example/rollfwd/rollfwd/JobState").before a0 Z = true := hw _ (List.mem_of_getElem? (i := 5) rfl)
theorem own_w6 {a0 : Array Value} {Z : State} (hw : ∀ d ∈ tables_1, d.before a0 Z = true) : (Jvm.Cond.laysStatic "com/example/rollfwd/rollfwd/JobState" "QUEUED" "Lcom/example/rollfwd/rollfwd/JobState;").before a0 Z = true := hw _ (List.mem_of_getElem? (i := 6) rfl)
theorem own_w7 {a0 : Array Value} {Z : State} (hw : ∀ d ∈ tables_1, d.before a0 Z = true) : (Jvm.Cond.methodLink "com/example/rollfwd/rollfwd/JobStateIsUnfinishedPinLaw" (40 : Nat) ({ cls := "com/example/rollfwd/rollfwd/JobState", name := "isUnfinished", desc := "()Z" } : Jvm.MethodName)).before a0 Z = true := hw _ (List.mem_of_getElem? (i := 7) rfl)
theorem own_w8 {a0 : Array Value} {Z : State} (hw : ∀ d ∈ tables_1, d.before a0 Z = true) : (Jvm.Cond.declares ({ cls := "com/example/rollfwd/rollfwd/JobState", name := "isUnfinished", desc := "()Z" } : Jvm.MethodName)).before a0 Z = true := hw _ (List.mem_of_getElem? (i := 8) rfl)
theorem own_w9 {a0 : Array Value} {Z : State} (hw : ∀ d ∈ tables_1, d.before a0 Z = true) : (Jvm.Cond.instanceMethod ({ cls := "com/example/rollfwd/rollfwd/JobState", name := "isUnfinished", desc := "()Z" } : Jvm.MethodName)).before a0 Z = true := hw _ (List.mem_of_getElem? (i := 9) rfl)
theorem own_w10 {a0 : Array Value} {Z : State} (hw : ∀ d ∈ tables_1, d.before a0 Z = true) : (Jvm.Cond.selects "com/example/rollfwd/rollfwd/JobState" ({ cls := "com/example/rollfwd/rollfwd/JobState", name := "isUnfinished", desc := "()Z" } : Jvm.MethodName) ({ cls := "com/example/rollfwd/rollfwd/JobState", name := "isUnfinished", desc := "()Z" } : Jvm.MethodName)).before a0 Z = true := hw _ (List.mem_of_getElem? (i := 10) rfl)
theorem own_w11 {a0 : Array Value} {Z : State} (hw : ∀ d ∈ tables_1, d.before a0 Z = true) : (Jvm.Cond.code ({ cls := "com/example/rollfwd/rollfwd/JobState", name := "isUnfinished", desc := "()Z" } : Jvm.MethodName) prog_4_method_6_code (1 : Nat) (Option.some Jvm.ClassFile.FieldType.boolean)).before a0 Z = true := hw _ (List.mem_of_getElem? (i := 11) rfl)
theorem own_w12 {a0 : Array Value} {Z : State} (hw : ∀ d ∈ tables_1, d.before a0 Z = true) : (Jvm.Cond.fieldLink "com/example/rollfwd/rollfwd/JobState" (47 : Nat) "com/example/rollfwd/rollfwd/JobState" "stage" "Lcom/example/rollfwd/rollfwd/JobState$Stage;").before a0 Z = true := hw _ (List.mem_of_getElem? (i := 12) rfl)
theorem own_w13 {a0 : Array Value} {Z : State} (hw : ∀ d ∈ tables_1, d.before a0 Z = true) : (Jvm.Cond.laysFinal "com/example/rollfwd/rollfwd/JobState" "com/example/rollfwd/rollfwd/JobState" "stage" "Lcom/example/rollfwd/rollfwd/JobState$Stage;").before a0 Z = true := hw _ (List.mem_of_getElem? (i := 13) rfl)
theorem own_w14 {a0 : Array Value} {Z : State} (hw : ∀ d ∈ tables_1, d.before a0 Z = true) : (Jvm.Cond.initialized "com/example/rollfwd/rollfwd/JobState$Stage").before a0 Z = true := hw _ (List.mem_of_getElem? (i := 14) rfl)
theorem own_w15 {a0 : Array Value} {Z : State} (hw : ∀ d ∈ tables_1, d.before a0 Z = true) : (Jvm.Cond.laysStatic "com/example/rollfwd/rollfwd/JobState$Stage" "UNFINISHED" "Lcom/example/rollfwd/rollfwd/JobState$Stage;").before a0 Z = true := hw _ (List.mem_of_getElem? (i := 15) rfl)
theorem own_w16 {a0 : Array Value} {Z : State} (hw : ∀ d ∈ tables_1, d.before a0 Z = true) : (Jvm.Cond.fieldLink "com/example/rollfwd/rollfwd/JobState" (59 : Nat) "com/example/rollfwd/rollfwd/JobState$Stage" "UNFINISHED" "Lcom/example/rollfwd/rollfwd/JobState$Stage;").before a0 Z = true := hw _ (List.mem_of_getElem? (i := 16) rfl)
theorem own_w17 {a0 : Array Value} {Z : State} (hw : ∀ d ∈ tables_1, d.before a0 Z = true) : (Jvm.Cond.methodLink "com/example/rollfwd/rollfwd/JobStateIsUnfinishedPinLaw" (44 : Nat) ({ cls := "com/example/rollfwd/rollfwd/JobState", name := "waitsForPerson", desc := "()Z" } : Jvm.MethodName)).before a0 Z = true := hw _ (List.mem_of_getElem? (i := 17) rfl)
theorem own_w18 {a0 : Array Value} {Z : State} (hw : ∀ d ∈ tables_1, d.before a0 Z = true) : (Jvm.Cond.declares ({ cls := "com/example/rollfwd/rollfwd/JobState", name := "waitsForPerson", desc := "()Z" } : Jvm.MethodName)).before a0 Z = true := hw _ (List.mem_of_getElem? (i := 18) rfl)
theorem own_w19 {a0 : Array Value} {Z : State} (hw : ∀ d ∈ tables_1, d.before a0 Z = true) : (Jvm.Cond.instanceMethod ({ cls := "com/example/rollfwd/rollfwd/JobState", name := "waitsForPerson", desc := "()Z" } : Jvm.MethodName)).before a0 Z = true := hw _ (List.mem_of_getElem? (i := 19) rfl)
theorem own_w20 {a0 : Array Value} {Z : State} (hw : ∀ d ∈ tables_1, d.before a0 Z = true) : (Jvm.Cond.selects "com/example/rollfwd/rollfwd/JobState" ({ cls := "com/example/rollfwd/rollfwd/JobState", name := "waitsForPerson", desc := "()Z" } : Jvm.MethodName) ({ cls := "com/example/rollfwd/rollfwd/JobState", name := "waitsForPerson", desc := "()Z" } : Jvm.MethodName)).before a0 Z = true := hw _ (List.mem_of_getElem? (i := 20) rfl)
theorem own_w21 {a0 : Array Value} {Z : State} (hw : ∀ d ∈ tables_1, d.before a0 Z = true) : (Jvm.Cond.code ({ cls := "com/example/rollfwd/rollfwd/JobState", name := "waitsForPerson", desc := "()Z" } : Jvm.MethodName) prog_4_method_5_code (1 : Nat) (Option.some Jvm.ClassFile.FieldType.boolean)).before a0 Z = true := hw _ (List.mem_of_getElem? (i := 21) rfl)
theorem own_w22 {a0 : Array Value} {Z : State} (hw : ∀ d ∈ tables_1, d.before a0 Z = true) : (Jvm.Cond.fieldLink "com/example/rollfwd/rollfwd/JobState" (56 : Nat) "com/example/rollfwd/rollfwd/JobState$Stage" "WAITING" "Lcom/example/rollfwd/rollfwd/JobState$Stage;").before a0 Z = true := hw _ (List.mem_of_getElem? (i := 22) rfl)
theorem own_w23 {a0 : Array Value} {Z : State} (hw : ∀ d ∈ tables_1, d.before a0 Z = true) : (Jvm.Cond.laysStatic "com/example/rollfwd/rollfwd/JobState$Stage" "WAITING" "Lcom/example/rollfwd/rollfwd/JobState$Stage;").before a0 Z = true := hw _ (List.mem_of_getElem? (i := 23) rfl)
theorem own_w24 {a0 : Array Value} {Z : State} (hw : ∀ d ∈ tables_1, d.before a0 Z = true) : (Jvm.Cond.methodLink "com/example/rollfwd/rollfwd/JobStateIsUnfinishedPinLaw" (47 : Nat) ({ cls := "com/example/rollfwd/rollfwd/JobState", name := "isFinal", desc := "()Z" } : Jvm.MethodName)).before a0 Z = true := hw _ (List.mem_of_getElem? (i := 24) rfl)
theorem own_w25 {a0 : Array Value} {Z : State} (hw : ∀ d ∈ tables_1, d.before a0 Z = true) : (Jvm.Cond.declares ({ cls := "com/example/rollfwd/rollfwd/JobState", name := "isFinal", desc := "()Z" } : Jvm.MethodName)).before a0 Z = true := hw _ (List.mem_of_getElem? (i := 25) rfl)
theorem own_w26 {a0 : Array Value} {Z : State} (hw : ∀ d ∈ tables_1, d.before a0 Z = true) : (Jvm.Cond.instanceMethod ({ cls := "com/example/rollfwd/rollfwd/JobState", name := "isFinal", desc := "()Z" } : Jvm.MethodName)).before a0 Z = true := hw _ (List.mem_of_getElem? (i := 26) rfl)
theorem own_w27 {a0 : Array Value} {Z : State} (hw : ∀ d ∈ tables_1, d.before a0 Z = true) : (Jvm.Cond.selects "com/example/rollfwd/rollfwd/JobState" ({ cls := "com/example/rollfwd/rollfwd/JobState", name := "isFinal", desc := "()Z" } : Jvm.MethodName) ({ cls := "com/example/rollfwd/rollfwd/JobState", name := "isFinal", desc := "()Z" } : Jvm.MethodName)).before a0 Z = true := hw _ (List.mem_of_getElem? (i := 27) rfl)
theorem own_w28 {a0 : Array Value} {Z : State} (hw : ∀ d ∈ tables_1, d.before a0 Z = true) : (Jvm.Cond.code ({ cls := "com/example/rollfwd/rollfwd/JobState", name := "isFinal", desc := "()Z" } : Jvm.MethodName) prog_4_method_4_code (1 : Nat) (Option.some Jvm.ClassFile.FieldType.boolean)).before a0 Z = true := hw _ (List.mem_of_getElem? (i := 28) rfl)
theorem own_w29 {a0 : Array Value} {Z : State} (hw : ∀ d ∈ tables_1, d.before a0 Z = true) : (Jvm.Cond.fieldLink "com/example/rollfwd/rollfwd/JobState" (51 : Nat) "com/example/rollfwd/rollfwd/JobState$Stage" "FINAL" "Lcom/example/rollfwd/rollfwd/JobState$Stage;").before a0 Z = true := hw _ (List.mem_of_getElem? (i := 29) rfl)
theorem own_w30 {a0 : Array Value} {Z : State} (hw : ∀ d ∈ tables_1, d.before a0 Z = true) : (Jvm.Cond.laysStatic "com/example/rollfwd/rollfwd/JobState$Stage" "FINAL" "Lcom/example/rollfwd/rollfwd/JobState$Stage;").before a0 Z = true := hw _ (List.mem_of_getElem? (i := 30) rfl)
theorem own_w31 {a0 : Array Value} {Z : State} (hw : ∀ d ∈ tables_1, d.before a0 Z = true) : (Jvm.Cond.fieldLink "com/example/rollfwd/rollfwd/JobStateIsUnfinishedPinLaw" (19 : Nat) "com/example/rollfwd/rollfwd/JobState" "ROLLBACK_RUNNING" "Lcom/example/rollfwd/rollfwd/JobState;").before a0 Z = true := hw _ (List.mem_of_getElem? (i := 31) rfl)
theorem own_w32 {a0 : Array Value} {Z : State} (hw : ∀ d ∈ tables_1, d.before a0 Z = true) : (Jvm.Cond.laysStatic "com/example/rollfwd/rollfwd/JobState" "ROLLBACK_RUNNING" "Lcom/example/rollfwd/rollfwd/JobState;").before a0 Z = true := hw _ (List.mem_of_getElem? (i := 32) rfl)
theorem own_w33 {a0 : Array Value} {Z : State} (hw : ∀ d ∈ tables_1, d.before a0 Z = true) : (Jvm.Cond.fieldLink "com/example/rollfwd/rollfwd/JobStateIsUnfinishedPinLaw" (28 : Nat) "com/example/rollfwd/rollfwd/JobState" "ROLLBACK_COMPLETED" "Lcom/example/rollfwd/rollfwd/JobState;").before a0 Z = true := hw _ (List.mem_of_getElem? (i := 33) rfl)
theorem own_w34 {a0 : Array Value} {Z : State} (hw : ∀ d ∈ tables_1, d.before a0 Z = true) : (Jvm.Cond.laysStatic "com/example/rollfwd/rollfwd/JobState" "ROLLBACK_COMPLETED" "Lcom/example/rollfwd/rollfwd/JobState;").before a0 Z = true := hw _ (List.mem_of_getElem? (i := 34) rfl)
theorem own_w35 {a0 : Array Value} {Z : State} (hw : ∀ d ∈ tables_1, d.before a0 Z = true) : (Jvm.Cond.fieldLink "com/example/rollfwd/rollfwd/JobStateIsUnfinishedPinLaw" (31 : Nat) "com/example/rollfwd/rollfwd/JobState" "CANCELLED" "Lcom/example/rollfwd/rollfwd/JobState;").before a0 Z = true := hw _ (List.mem_of_getElem? (i := 35) rfl)
theorem own_w36 {a0 : Array Value} {Z : State} (hw : ∀ d ∈ tables_1, d.before a0 Z = true) : (Jvm.Cond.laysStatic "com/example/rollfwd/rollfwd/JobState" "CANCELLED" "Lcom/example/rollfwd/rollfwd/JobState;").before a0 Z = true := hw _ (List.mem_of_getElem? (i := 36) rfl)
theorem own_w37 {a0 : Array Value} {Z : State} (hw : ∀ d ∈ tables_1, d.before a0 Z = true) : (Jvm.Cond.fieldLink "com/example/rollfwd/rollfwd/JobStateIsUnfinishedPinLaw" (16 : Nat) "com/example/rollfwd/rollfwd/JobState" "PAUSED" "Lcom/example/rollfwd/rollfwd/JobState;").before a0 Z = true := hw _ (List.mem_of_getElem? (i := 37) rfl)
theorem own_w38 {a0 : Array Value} {Z : State} (hw : ∀ d ∈ tables_1, d.before a0 Z = true) : (Jvm.Cond.laysStatic "com/example/rollfwd/rollfwd/JobState" "PAUSED" "Lcom/example/rollfwd/rollfwd/JobState;").before a0 Z = true := hw _ (List.mem_of_getElem? (i := 38) rfl)
theorem own_w39 {a0 : Array Value} {Z : State} (hw : ∀ d ∈ tables_1, d.before a0 Z = true) : (Jvm.Cond.fieldLink "com/example/rollfwd/rollfwd/JobStateIsUnfinishedPinLaw" (13 : Nat) "com/example/rollfwd/rollfwd/JobState" "RUNNING" "Lcom/example/rollfwd/rollfwd/JobState;").before a0 Z = true := hw _ (List.mem_of_getElem? (i := 39) rfl)
theorem own_w40 {a0 : Array Value} {Z : State} (hw : ∀ d ∈ tables_1, d.before a0 Z = true) : (Jvm.Cond.laysStatic "com/example/rollfwd/rollfwd/JobState" "RUNNING" "Lcom/example/rollfwd/rollfwd/JobState;").before a0 Z = true := hw _ (List.mem_of_getElem? (i := 40) rfl)
theorem own_w41 {a0 : Array Value} {Z : State} (hw : ∀ d ∈ tables_1, d.before a0 Z = true) : (Jvm.Cond.fieldLink "com/example/rollfwd/rollfwd/JobStateIsUnfinishedPinLaw" (22 : Nat) "com/example/rollfwd/rollfwd/JobState" "ROLLBACK_PAUSED" "Lcom/example/rollfwd/rollfwd/JobState;").before a0 Z = true := hw _ (List.mem_of_getElem? (i := 41) rfl)
theorem own_w42 {a0 : Array Value} {Z : State} (hw : ∀ d ∈ tables_1, d.before a0 Z = true) : (Jvm.Cond.laysStatic "com/example/rollfwd/rollfwd/JobState" "ROLLBACK_PAUSED" "Lcom/example/rollfwd/rollfwd/JobState;").before a0 Z = true := hw _ (List.mem_of_getElem? (i := 42) rfl)
theorem own_w43 {a0 : Array Value} {Z : State} (hw : ∀ d ∈ tables_1, d.before a0 Z = true) : (Jvm.Cond.fieldLink "com/example/rollfwd/rollfwd/JobStateIsUnfinishedPinLaw" (25 : Nat) "com/example/rollfwd/rollfwd/JobState" "COMPLETED" "Lcom/example/rollfwd/rollfwd/JobState;").before a0 Z = true := hw _ (List.mem_of_getElem? (i := 43) rfl)
theorem own_w44 {a0 : Array Value} {Z : State} (hw : ∀ d ∈ tables_1, d.before a0 Z = true) : (Jvm.Cond.laysStatic "com/example/rollfwd/rollfwd/JobState" "COMPLETED" "Lcom/example/rollfwd/rollfwd/JobState;").before a0 Z = true := hw _ (List.mem_of_getElem? (i := 44) rfl)
theorem own_k (x : Int32) : x &&& (7 : Int32) = 0 ∨ x &&& (7 : Int32) = 1 ∨ x &&& (7 : Int32) = 2 ∨ x &&& (7 : Int32) = 3 ∨ x &&& (7 : Int32) = 4 ∨ x &&& (7 : Int32) = 5 ∨ x &&& (7 : Int32) = 6 ∨ x &&& (7 : Int32) = 7 := by
  have h2 := c_mask x 7 3 (by decide) (by decide)
  have e0 : (0 : Int32).toInt = 0 := by decide
  have e1 : (1 : Int32).toInt = 1 := by decide
  have e2 : (2 : Int32).toInt = 2 := by decide
  have e3 : (3 : Int32).toInt = 3 := by decide
  have e4 : (4 : Int32).toInt = 4 := by decide
  have e5 : (5 : Int32).toInt = 5 := by decide
  have e6 : (6 : Int32).toInt = 6 := by decide
  have e7 : (7 : Int32).toInt = 7 := by decide
  simp only [← Int32.toInt_inj, h2, e0, e1, e2, e3, e4, e5, e6, e7]
  omega
theorem own_isFinal_0 : decode prog_4_method_4_code 0 = .ok (.aload_n 0, 1) := by decide +kernel
theorem own_isFinal_1 : decode prog_4_method_4_code 1 = .ok (.getfield 47, 3) := by decide +kernel
theorem own_isFinal_4 : decode prog_4_method_4_code 4 = .ok (.getstatic 51, 3) := by decide +kernel
theorem own_isFinal_7 : decode prog_4_method_4_code 7 = .ok (.if_acmp .ne 7, 3) := by decide +kernel
theorem own_isFinal_10 : decode prog_4_method_4_code 10 = .ok (.iconst 1, 1) := by decide +kernel
theorem own_isFinal_11 : decode prog_4_method_4_code 11 = .ok (.goto 4, 3) := by decide +kernel
theorem own_isFinal_14 : decode prog_4_method_4_code 14 = .ok (.iconst 0, 1) := by decide +kernel
theorem own_isFinal_15 : decode prog_4_method_4_code 15 = .ok (.ireturn, 1) := by decide +kernel
theorem own_pn_com_example_rollfwd_rollfwd_JobState : plainName "com/example/rollfwd/rollfwd/JobState" = true := by first | (simp [plainName, overriddenIn]; done) | decide +kernel
set_option maxRecDepth 65536 in
set_option maxHeartbeats 40000000 in
theorem own_isFinal (l : Launch) (Z : State) (a0 : Array Value) (hw : ∀ d ∈ tables_1, d.before a0 Z = true) (a w g : Addr) (h0 : Heap) (n0 : Nat) (S : Sta Z h0 "com/example/rollfwd/rollfwd/JobState$Stage" "FINAL" "Lcom/example/rollfwd/rollfwd/JobState$Stage;" (.ref w)) (F : Fld Z h0 a "com/example/rollfwd/rollfwd/JobState" "stage" "Lcom/example/rollfwd/rollfwd/JobState$Stage;" (.ref g)) :
    own_Met l Z (⟨"com/example/rollfwd/rollfwd/JobState", "isFinal", "()Z"⟩ : MethodName) prog_4_method_4_code 1 (some .boolean) ({ frames := 0, cells := 0, slots := 0, locals := 0 } : Room) #[(.ref a)] h0 (fun v h L => v = some (.int (if g = w then 1 else 0)) ∧ Fr n0 L ∧ h = h0) := by
  refine own_body (Ls := #[.val (.ref a)]) (plainFor_of_name own_pn_com_example_rollfwd_rollfwd_JobState) (fun m => by first | (simp [entryFrame, mkF, argsToLocals, Value.category]; done) | rfl) ?_
  intro p e s m below meth c s₁ hx hZ hby hml hown hnm hret hlk X0 e0
  have N0 := Fr.nil n0
  refine own_aloadN X0 hx (hb hby own_isFinal_0) rfl rfl ?_
  refine own_getfield X0 hx hZ (host := "") hown (Or.inl (own_w12 hw)) Via.refl e0 F (hb hby own_isFinal_1) fun T1 X1 e1 => ?_
  refine own_getstatic X1 hx hZ (host := "") hown (Or.inl (own_w29 hw)) Via.refl e1 S (hb hby own_isFinal_4) fun T2 X2 e2 => ?_
  by_cases ha : g = w
  · skip
    refine own_acmpNo X2 hx (hb hby own_isFinal_7) rfl rfl (Jvm.Free.XT.aa_ne_f (congrArg Value.ref ha)) ?_
    refine own_iconst X2 hx (1 : Int32) (hb hby own_isFinal_10) rfl ?_
    refine own_goto X2 hx 15 (hb hby own_isFinal_11) (by decide) (by decide) ?_
    refine own_retN X2 hx (t := .boolean) hret (by simp) (hb hby own_isFinal_15) hlk (by decide) (by decide) ?_
    exact ⟨by rw [if_pos ha]; rfl, N0, e2⟩
  · skip
    refine own_acmpYes X2 hx 14 (hb hby own_isFinal_7) (by decide) (by decide) rfl rfl (Jvm.Free.XT.aa_ne_t (fun q => ha (Value.ref.inj q))) ?_
    refine own_iconst X2 hx (0 : Int32) (hb hby own_isFinal_14) rfl ?_
    refine own_retN X2 hx (t := .boolean) hret (by simp) (hb hby own_isFinal_15) hlk (by decide) (by decide) ?_
    exact ⟨by rw [if_neg ha]; rfl, N0, e2⟩
theorem own_waitsForPerson_0 : decode prog_4_method_5_code 0 = .ok (.aload_n 0, 1) := by decide +kernel
theorem own_waitsForPerson_1 : decode prog_4_method_5_code 1 = .ok (.getfield 47, 3) := by decide +kernel
theorem own_waitsForPerson_4 : decode prog_4_method_5_code 4 = .ok (.getstatic 56, 3) := by decide +kernel
theorem own_waitsForPerson_7 : decode prog_4_method_5_code 7 = .ok (.if_acmp .ne 7, 3) := by decide +kernel
theorem own_waitsForPerson_10 : decode prog_4_method_5_code 10 = .ok (.iconst 1, 1) := by decide +kernel
theorem own_waitsForPerson_11 : decode prog_4_method_5_code 11 = .ok (.goto 4, 3) := by decide +kernel
theorem own_waitsForPerson_14 : decode prog_4_method_5_code 14 = .ok (.iconst 0, 1) := by decide +kernel
theorem own_waitsForPerson_15 : decode prog_4_method_5_code 15 = .ok (.ireturn, 1) := by decide +kernel
set_option maxRecDepth 65536 in
set_option maxHeartbeats 40000000 in
theorem own_waitsForPerson (l : Launch) (Z : State) (a0 : Array Value) (hw : ∀ d ∈ tables_1, d.before a0 Z = true) (a w g : Addr) (h0 : Heap) (n0 : Nat) (S : Sta Z h0 "com/example/rollfwd/rollfwd/JobState$Stage" "WAITING" "Lcom/example/rollfwd/rollfwd/JobState$Stage;" (.ref w)) (F : Fld Z h0 a "com/example/rollfwd/rollfwd/JobState" "stage" "Lcom/example/rollfwd/rollfwd/JobState$Stage;" (.ref g)) :
    own_Met l Z (⟨"com/example/rollfwd/rollfwd/JobState", "waitsForPerson", "()Z"⟩ : MethodName) prog_4_method_5_code 1 (some .boolean) ({ frames := 0, cells := 0, slots := 0, locals := 0 } : Room) #[(.ref a)] h0 (fun v h L => v = some (.int (if g = w then 1 else 0)) ∧ Fr n0 L ∧ h = h0) := by
  refine own_body (Ls := #[.val (.ref a)]) (plainFor_of_name own_pn_com_example_rollfwd_rollfwd_JobState) (fun m => by first | (simp [entryFrame, mkF, argsToLocals, Value.category]; done) | rfl) ?_
  intro p e s m below meth c s₁ hx hZ hby hml hown hnm hret hlk X0 e0
  have N0 := Fr.nil n0
  refine own_aloadN X0 hx (hb hby own_waitsForPerson_0) rfl rfl ?_
  refine own_getfield X0 hx hZ (host := "") hown (Or.inl (own_w12 hw)) Via.refl e0 F (hb hby own_waitsForPerson_1) fun T3 X3 e3 => ?_
  refine own_getstatic X3 hx hZ (host := "") hown (Or.inl (own_w22 hw)) Via.refl e3 S (hb hby own_waitsForPerson_4) fun T4 X4 e4 => ?_
  by_cases ha : g = w
  · skip
    refine own_acmpNo X4 hx (hb hby own_waitsForPerson_7) rfl rfl (Jvm.Free.XT.aa_ne_f (congrArg Value.ref ha)) ?_
    refine own_iconst X4 hx (1 : Int32) (hb hby own_waitsForPerson_10) rfl ?_
    refine own_goto X4 hx 15 (hb hby own_waitsForPerson_11) (by decide) (by decide) ?_
    refine own_retN X4 hx (t := .boolean) hret (by simp) (hb hby own_waitsForPerson_15) hlk (by decide) (by decide) ?_
    exact ⟨by rw [if_pos ha]; rfl, N0, e4⟩
  · skip
    refine own_acmpYes X4 hx 14 (hb hby own_waitsForPerson_7) (by decide) (by decide) rfl rfl (Jvm.Free.XT.aa_ne_t (fun q => ha (Value.ref.inj q))) ?_
    refine own_iconst X4 hx (0 : Int32) (hb hby own_waitsForPerson_14) rfl ?_
    refine own_retN X4 hx (t := .boolean) hret (by simp) (hb hby own_waitsForPerson_15) hlk (by decide) (by decide) ?_
    exact ⟨by rw [if_neg ha]; rfl, N0, e4⟩
theorem own_isUnfinished_0 : decode prog_4_method_6_code 0 = .ok (.aload_n 0, 1) := by decide +kernel
theorem own_isUnfinished_1 : decode prog_4_method_6_code 1 = .ok (.getfield 47, 3) := by decide +kernel
theorem own_isUnfinished_4 : decode prog_4_method_6_code 4 = .ok (.getstatic 59, 3) := by decide +kernel
theorem own_isUnfinished_7 : decode prog_4_method_6_code 7 = .ok (.if_acmp .ne 7, 3) := by decide +kernel
theorem own_isUnfinished_10 : decode prog_4_method_6_code 10 = .ok (.iconst 1, 1) := by decide +kernel
theorem own_isUnfinished_11 : decode prog_4_method_6_code 11 = .ok (.goto 4, 3) := by decide +kernel
theorem own_isUnfinished_14 : decode prog_4_method_6_code 14 = .ok (.iconst 0, 1) := by decide +kernel
theorem own_isUnfinished_15 : decode prog_4_method_6_code 15 = .ok (.ireturn, 1) := by decide +kernel
set_option maxRecDepth 65536 in
set_option maxHeartbeats 40000000 in
theorem own_isUnfinished (l : Launch) (Z : State) (a0 : Array Value) (hw : ∀ d ∈ tables_1, d.before a0 Z = true) (a w g : Addr) (h0 : Heap) (n0 : Nat) (S : Sta Z h0 "com/example/rollfwd/rollfwd/JobState$Stage" "UNFINISHED" "Lcom/example/rollfwd/rollfwd/JobState$Stage;" (.ref w)) (F : Fld Z h0 a "com/example/rollfwd/rollfwd/JobState" "stage" "Lcom/example/rollfwd/rollfwd/JobState$Stage;" (.ref g)) :
    own_Met l Z (⟨"com/example/rollfwd/rollfwd/JobState", "isUnfinished", "()Z"⟩ : MethodName) prog_4_method_6_code 1 (some .boolean) ({ frames := 0, cells := 0, slots := 0, locals := 0 } : Room) #[(.ref a)] h0 (fun v h L => v = some (.int (if g = w then 1 else 0)) ∧ Fr n0 L ∧ h = h0) := by
  refine own_body (Ls := #[.val (.ref a)]) (plainFor_of_name own_pn_com_example_rollfwd_rollfwd_JobState) (fun m => by first | (simp [entryFrame, mkF, argsToLocals, Value.category]; done) | rfl) ?_
  intro p e s m below meth c s₁ hx hZ hby hml hown hnm hret hlk X0 e0
  have N0 := Fr.nil n0
  refine own_aloadN X0 hx (hb hby own_isUnfinished_0) rfl rfl ?_
  refine own_getfield X0 hx hZ (host := "") hown (Or.inl (own_w12 hw)) Via.refl e0 F (hb hby own_isUnfinished_1) fun T5 X5 e5 => ?_
  refine own_getstatic X5 hx hZ (host := "") hown (Or.inl (own_w16 hw)) Via.refl e5 S (hb hby own_isUnfinished_4) fun T6 X6 e6 => ?_
  by_cases ha : g = w
  · skip
    refine own_acmpNo X6 hx (hb hby own_isUnfinished_7) rfl rfl (Jvm.Free.XT.aa_ne_f (congrArg Value.ref ha)) ?_
    refine own_iconst X6 hx (1 : Int32) (hb hby own_isUnfinished_10) rfl ?_
    refine own_goto X6 hx 15 (hb hby own_isUnfinished_11) (by decide) (by decide) ?_
    refine own_retN X6 hx (t := .boolean) hret (by simp) (hb hby own_isUnfinished_15) hlk (by decide) (by decide) ?_
    exact ⟨by rw [if_pos ha]; rfl, N0, e6⟩
  · skip
    refine own_acmpYes X6 hx 14 (hb hby own_isUnfinished_7) (by decide) (by decide) rfl rfl (Jvm.Free.XT.aa_ne_t (fun q => ha (Value.ref.inj q))) ?_
    refine own_iconst X6 hx (0 : Int32) (hb hby own_isUnfinished_14) rfl ?_
    refine own_retN X6 hx (t := .boolean) hret (by simp) (hb hby own_isUnfinished_15) hlk (by decide) (by decide) ?_
    exact ⟨by rw [if_neg ha]; rfl, N0, e6⟩
theorem own_pick_0 : decode method_2_code 0 = .ok (.iload_n 0, 1) := by decide +kernel
theorem own_pick_1 : decode method_2_code 1 = .ok (.ifCond .ne 7, 3) := by decide +kernel
theorem own_pick_4 : decode method_2_code 4 = .ok (.getstatic 7, 3) := by decide +kernel
theorem own_pick_7 : decode method_2_code 7 = .ok (.areturn, 1) := by decide +kernel
theorem own_pick_8 : decode method_2_code 8 = .ok (.iload_n 0, 1) := by decide +kernel
theorem own_pick_9 : decode method_2_code 9 = .ok (.iconst 1, 1) := by decide +kernel
theorem own_pick_10 : decode method_2_code 10 = .ok (.if_icmp .ne 7, 3) := by decide +kernel
theorem own_pick_13 : decode method_2_code 13 = .ok (.getstatic 13, 3) := by decide +kernel
theorem own_pick_16 : decode method_2_code 16 = .ok (.areturn, 1) := by decide +kernel
theorem own_pick_17 : decode method_2_code 17 = .ok (.iload_n 0, 1) := by decide +kernel
theorem own_pick_18 : decode method_2_code 18 = .ok (.iconst 2, 1) := by decide +kernel
theorem own_pick_19 : decode method_2_code 19 = .ok (.if_icmp .ne 7, 3) := by decide +kernel
theorem own_pick_22 : decode method_2_code 22 = .ok (.getstatic 16, 3) := by decide +kernel
theorem own_pick_25 : decode method_2_code 25 = .ok (.areturn, 1) := by decide +kernel
theorem own_pick_26 : decode method_2_code 26 = .ok (.iload_n 0, 1) := by decide +kernel
theorem own_pick_27 : decode method_2_code 27 = .ok (.iconst 3, 1) := by decide +kernel
theorem own_pick_28 : decode method_2_code 28 = .ok (.if_icmp .ne 7, 3) := by decide +kernel
theorem own_pick_31 : decode method_2_code 31 = .ok (.getstatic 19, 3) := by decide +kernel
theorem own_pick_34 : decode method_2_code 34 = .ok (.areturn, 1) := by decide +kernel
theorem own_pick_35 : decode method_2_code 35 = .ok (.iload_n 0, 1) := by decide +kernel
theorem own_pick_36 : decode method_2_code 36 = .ok (.iconst 4, 1) := by decide +kernel
theorem own_pick_37 : decode method_2_code 37 = .ok (.if_icmp .ne 7, 3) := by decide +kernel
theorem own_pick_40 : decode method_2_code 40 = .ok (.getstatic 22, 3) := by decide +kernel
theorem own_pick_43 : decode method_2_code 43 = .ok (.areturn, 1) := by decide +kernel
theorem own_pick_44 : decode method_2_code 44 = .ok (.iload_n 0, 1) := by decide +kernel
theorem own_pick_45 : decode method_2_code 45 = .ok (.iconst 5, 1) := by decide +kernel
theorem own_pick_46 : decode method_2_code 46 = .ok (.if_icmp .ne 7, 3) := by decide +kernel
theorem own_pick_49 : decode method_2_code 49 = .ok (.getstatic 25, 3) := by decide +kernel
theorem own_pick_52 : decode method_2_code 52 = .ok (.areturn, 1) := by decide +kernel
theorem own_pick_53 : decode method_2_code 53 = .ok (.iload_n 0, 1) := by decide +kernel
theorem own_pick_54 : decode method_2_code 54 = .ok (.bipush 6, 2) := by decide +kernel
theorem own_pick_56 : decode method_2_code 56 = .ok (.if_icmp .ne 7, 3) := by decide +kernel
theorem own_pick_59 : decode method_2_code 59 = .ok (.getstatic 28, 3) := by decide +kernel
theorem own_pick_62 : decode method_2_code 62 = .ok (.areturn, 1) := by decide +kernel
theorem own_pick_63 : decode method_2_code 63 = .ok (.getstatic 31, 3) := by decide +kernel
theorem own_pick_66 : decode method_2_code 66 = .ok (.areturn, 1) := by decide +kernel
theorem own_pn_com_example_rollfwd_rollfwd_JobStateIsUnfinishedPinLaw : plainName "com/example/rollfwd/rollfwd/JobStateIsUnfinishedPinLaw" = true := by first | (simp [plainName, overriddenIn]; done) | decide +kernel
theorem own_pd__28I_29Lcom_2fexample_2frollfwd_2frollfwd_2fJobState_3b : parseMethodDescriptor "(I)Lcom/example/rollfwd/rollfwd/JobState;" = some ⟨[.int], some (.object "com/example/rollfwd/rollfwd/JobState")⟩ := by decide +kernel
theorem own_pd__28_29Z : parseMethodDescriptor "()Z" = some ⟨[], some .boolean⟩ := by decide +kernel
set_option maxRecDepth 65536 in
set_option maxHeartbeats 40000000 in
theorem own_pick0 (l : Launch) (Z : State) (a0 : Array Value) (hw : ∀ d ∈ tables_1, d.before a0 Z = true) (w : Addr) (h0 : Heap) (n0 : Nat) (S : Sta Z h0 "com/example/rollfwd/rollfwd/JobState" "QUEUED" "Lcom/example/rollfwd/rollfwd/JobState;" (.ref w)) :
    own_Met l Z (⟨"com/example/rollfwd/rollfwd/JobStateIsUnfinishedPinLaw", "pick", "(I)Lcom/example/rollfwd/rollfwd/JobState;"⟩ : MethodName) method_2_code 1 (some (.object "com/example/rollfwd/rollfwd/JobState")) ({ frames := 0, cells := 0, slots := 0, locals := 0 } : Room) #[(.int (0 : Int32))] h0 (fun v h L => v = some (.ref w) ∧ Fr n0 L ∧ h = h0) := by
  refine own_body (Ls := #[.val (.int (0 : Int32))]) (plainFor_of_name own_pn_com_example_rollfwd_rollfwd_JobStateIsUnfinishedPinLaw) (fun m => by first | (simp [entryFrame, mkF, argsToLocals, Value.category]; done) | rfl) ?_
  intro p e s m below meth c s₁ hx hZ hby hml hown hnm hret hlk X0 e0
  have N0 := Fr.nil n0
  refine own_iloadN X0 hx (hb hby own_pick_0) rfl ?_
  refine own_ifNo X0 hx (hb hby own_pick_1) (by decide) ?_
  refine own_getstatic X0 hx hZ (host := "") hown (Or.inl (own_w4 hw)) Via.refl e0 S (hb hby own_pick_4) fun T7 X7 e7 => ?_
  refine own_retA X7 hx hret rfl rfl rfl (hb hby own_pick_7) hlk (by decide) (by decide) ?_
  exact ⟨rfl, N0, e7⟩
set_option maxRecDepth 65536 in
set_option maxHeartbeats 40000000 in
theorem own_pick1 (l : Launch) (Z : State) (a0 : Array Value) (hw : ∀ d ∈ tables_1, d.before a0 Z = true) (w : Addr) (h0 : Heap) (n0 : Nat) (S : Sta Z h0 "com/example/rollfwd/rollfwd/JobState" "RUNNING" "Lcom/example/rollfwd/rollfwd/JobState;" (.ref w)) :
    own_Met l Z (⟨"com/example/rollfwd/rollfwd/JobStateIsUnfinishedPinLaw", "pick", "(I)Lcom/example/rollfwd/rollfwd/JobState;"⟩ : MethodName) method_2_code 1 (some (.object "com/example/rollfwd/rollfwd/JobState")) ({ frames := 0, cells := 0, slots := 0, locals := 0 } : Room) #[(.int (1 : Int32))] h0 (fun v h L => v = some (.ref w) ∧ Fr n0 L ∧ h = h0) := by
  refine own_body (Ls := #[.val (.int (1 : Int32))]) (plainFor_of_name own_pn_com_example_rollfwd_rollfwd_JobStateIsUnfinishedPinLaw) (fun m => by first | (simp [entryFrame, mkF, argsToLocals, Value.category]; done) | rfl) ?_
  intro p e s m below meth c s₁ hx hZ hby hml hown hnm hret hlk X0 e0
  have N0 := Fr.nil n0
  refine own_iloadN X0 hx (hb hby own_pick_0) rfl ?_
  refine own_ifYes X0 hx 8 (hb hby own_pick_1) (by decide) (by decide) (by decide) ?_
  refine own_iloadN X0 hx (hb hby own_pick_8) rfl ?_
  refine own_iconst X0 hx (1 : Int32) (hb hby own_pick_9) rfl ?_
  refine own_icmpNo X0 hx (hb hby own_pick_10) (by decide) ?_
  refine own_getstatic X0 hx hZ (host := "") hown (Or.inl (own_w39 hw)) Via.refl e0 S (hb hby own_pick_13) fun T8 X8 e8 => ?_
  refine own_retA X8 hx hret rfl rfl rfl (hb hby own_pick_16) hlk (by decide) (by decide) ?_
  exact ⟨rfl, N0, e8⟩
set_option maxRecDepth 65536 in
set_option maxHeartbeats 40000000 in
theorem own_pick2 (l : Launch) (Z : State) (a0 : Array Value) (hw : ∀ d ∈ tables_1, d.before a0 Z = true) (w : Addr) (h0 : Heap) (n0 : Nat) (S : Sta Z h0 "com/example/rollfwd/rollfwd/JobState" "PAUSED" "Lcom/example/rollfwd/rollfwd/JobState;" (.ref w)) :
    own_Met l Z (⟨"com/example/rollfwd/rollfwd/JobStateIsUnfinishedPinLaw", "pick", "(I)Lcom/example/rollfwd/rollfwd/JobState;"⟩ : MethodName) method_2_code 1 (some (.object "com/example/rollfwd/rollfwd/JobState")) ({ frames := 0, cells := 0, slots := 0, locals := 0 } : Room) #[(.int (2 : Int32))] h0 (fun v h L => v = some (.ref w) ∧ Fr n0 L ∧ h = h0) := by
  refine own_body (Ls := #[.val (.int (2 : Int32))]) (plainFor_of_name own_pn_com_example_rollfwd_rollfwd_JobStateIsUnfinishedPinLaw) (fun m => by first | (simp [entryFrame, mkF, argsToLocals, Value.category]; done) | rfl) ?_
  intro p e s m below meth c s₁ hx hZ hby hml hown hnm hret hlk X0 e0
  have N0 := Fr.nil n0
  refine own_iloadN X0 hx (hb hby own_pick_0) rfl ?_
  refine own_ifYes X0 hx 8 (hb hby own_pick_1) (by decide) (by decide) (by decide) ?_
  refine own_iloadN X0 hx (hb hby own_pick_8) rfl ?_
  refine own_iconst X0 hx (1 : Int32) (hb hby own_pick_9) rfl ?_
  refine own_icmpYes X0 hx 17 (hb hby own_pick_10) (by decide) (by decide) (by decide) ?_
  refine own_iloadN X0 hx (hb hby own_pick_17) rfl ?_
  refine own_iconst X0 hx (2 : Int32) (hb hby own_pick_18) rfl ?_
  refine own_icmpNo X0 hx (hb hby own_pick_19) (by decide) ?_
  refine own_getstatic X0 hx hZ (host := "") hown (Or.inl (own_w37 hw)) Via.refl e0 S (hb hby own_pick_22) fun T9 X9 e9 => ?_
  refine own_retA X9 hx hret rfl rfl rfl (hb hby own_pick_25) hlk (by decide) (by decide) ?_
  exact ⟨rfl, N0, e9⟩
set_option maxRecDepth 65536 in
set_option maxHeartbeats 40000000 in
theorem own_pick3 (l : Launch) (Z : State) (a0 : Array Value) (hw : ∀ d ∈ tables_1, d.before a0 Z = true) (w : Addr) (h0 : Heap) (n0 : Nat) (S : Sta Z h0 "com/example/rollfwd/rollfwd/JobState" "ROLLBACK_RUNNING" "Lcom/example/rollfwd/rollfwd/JobState;" (.ref w)) :
    own_Met l Z (⟨"com/example/rollfwd/rollfwd/JobStateIsUnfinishedPinLaw", "pick", "(I)Lcom/example/rollfwd/rollfwd/JobState;"⟩ : MethodName) method_2_code 1 (some (.object "com/example/rollfwd/rollfwd/JobState")) ({ frames := 0, cells := 0, slots := 0, locals := 0 } : Room) #[(.int (3 : Int32))] h0 (fun v h L => v = some (.ref w) ∧ Fr n0 L ∧ h = h0) := by
  refine own_body (Ls := #[.val (.int (3 : Int32))]) (plainFor_of_name own_pn_com_example_rollfwd_rollfwd_JobStateIsUnfinishedPinLaw) (fun m => by first | (simp [entryFrame, mkF, argsToLocals, Value.category]; done) | rfl) ?_
  intro p e s m below meth c s₁ hx hZ hby hml hown hnm hret hlk X0 e0
  have N0 := Fr.nil n0
  refine own_iloadN X0 hx (hb hby own_pick_0) rfl ?_
  refine own_ifYes X0 hx 8 (hb hby own_pick_1) (by decide) (by decide) (by decide) ?_
  refine own_iloadN X0 hx (hb hby own_pick_8) rfl ?_
  refine own_iconst X0 hx (1 : Int32) (hb hby own_pick_9) rfl ?_
  refine own_icmpYes X0 hx 17 (hb hby own_pick_10) (by decide) (by decide) (by decide) ?_
  refine own_iloadN X0 hx (hb hby own_pick_17) rfl ?_
  refine own_iconst X0 hx (2 : Int32) (hb hby own_pick_18) rfl ?_
  refine own_icmpYes X0 hx 26 (hb hby own_pick_19) (by decide) (by decide) (by decide) ?_
  refine own_iloadN X0 hx (hb hby own_pick_26) rfl ?_
  refine own_iconst X0 hx (3 : Int32) (hb hby own_pick_27) rfl ?_
  refine own_icmpNo X0 hx (hb hby own_pick_28) (by decide) ?_
  refine own_getstatic X0 hx hZ (host := "") hown (Or.inl (own_w31 hw)) Via.refl e0 S (hb hby own_pick_31) fun T10 X10 e10 => ?_
  refine own_retA X10 hx hret rfl rfl rfl (hb hby own_pick_34) hlk (by decide) (by decide) ?_
  exact ⟨rfl, N0, e10⟩
set_option maxRecDepth 65536 in
set_option maxHeartbeats 40000000 in
theorem own_pick4 (l : Launch) (Z : State) (a0 : Array Value) (hw : ∀ d ∈ tables_1, d.before a0 Z = true) (w : Addr) (h0 : Heap) (n0 : Nat) (S : Sta Z h0 "com/example/rollfwd/rollfwd/JobState" "ROLLBACK_PAUSED" "Lcom/example/rollfwd/rollfwd/JobState;" (.ref w)) :
    own_Met l Z (⟨"com/example/rollfwd/rollfwd/JobStateIsUnfinishedPinLaw", "pick", "(I)Lcom/example/rollfwd/rollfwd/JobState;"⟩ : MethodName) method_2_code 1 (some (.object "com/example/rollfwd/rollfwd/JobState")) ({ frames := 0, cells := 0, slots := 0, locals := 0 } : Room) #[(.int (4 : Int32))] h0 (fun v h L => v = some (.ref w) ∧ Fr n0 L ∧ h = h0) := by
  refine own_body (Ls := #[.val (.int (4 : Int32))]) (plainFor_of_name own_pn_com_example_rollfwd_rollfwd_JobStateIsUnfinishedPinLaw) (fun m => by first | (simp [entryFrame, mkF, argsToLocals, Value.category]; done) | rfl) ?_
  intro p e s m below meth c s₁ hx hZ hby hml hown hnm hret hlk X0 e0
  have N0 := Fr.nil n0
  refine own_iloadN X0 hx (hb hby own_pick_0) rfl ?_
  refine own_ifYes X0 hx 8 (hb hby own_pick_1) (by decide) (by decide) (by decide) ?_
  refine own_iloadN X0 hx (hb hby own_pick_8) rfl ?_
  refine own_iconst X0 hx (1 : Int32) (hb hby own_pick_9) rfl ?_
  refine own_icmpYes X0 hx 17 (hb hby own_pick_10) (by decide) (by decide) (by decide) ?_
  refine own_iloadN X0 hx (hb hby own_pick_17) rfl ?_
  refine own_iconst X0 hx (2 : Int32) (hb hby own_pick_18) rfl ?_
  refine own_icmpYes X0 hx 26 (hb hby own_pick_19) (by decide) (by decide) (by decide) ?_
  refine own_iloadN X0 hx (hb hby own_pick_26) rfl ?_
  refine own_iconst X0 hx (3 : Int32) (hb hby own_pick_27) rfl ?_
  refine own_icmpYes X0 hx 35 (hb hby own_pick_28) (by decide) (by decide) (by decide) ?_
  refine own_iloadN X0 hx (hb hby own_pick_35) rfl ?_
  refine own_iconst X0 hx (4 : Int32) (hb hby own_pick_36) rfl ?_
  refine own_icmpNo X0 hx (hb hby own_pick_37) (by decide) ?_
  refine own_getstatic X0 hx hZ (host := "") hown (Or.inl (own_w41 hw)) Via.refl e0 S (hb hby own_pick_40) fun T11 X11 e11 => ?_
  refine own_retA X11 hx hret rfl rfl rfl (hb hby own_pick_43) hlk (by decide) (by decide) ?_
  exact ⟨rfl, N0, e11⟩
set_option maxRecDepth 65536 in
set_option maxHeartbeats 40000000 in
theorem own_pick5 (l : Launch) (Z : State) (a0 : Array Value) (hw : ∀ d ∈ tables_1, d.before a0 Z = true) (w : Addr) (h0 : Heap) (n0 : Nat) (S : Sta Z h0 "com/example/rollfwd/rollfwd/JobState" "COMPLETED" "Lcom/example/rollfwd/rollfwd/JobState;" (.ref w)) :
    own_Met l Z (⟨"com/example/rollfwd/rollfwd/JobStateIsUnfinishedPinLaw", "pick", "(I)Lcom/example/rollfwd/rollfwd/JobState;"⟩ : MethodName) method_2_code 1 (some (.object "com/example/rollfwd/rollfwd/JobState")) ({ frames := 0, cells := 0, slots := 0, locals := 0 } : Room) #[(.int (5 : Int32))] h0 (fun v h L => v = some (.ref w) ∧ Fr n0 L ∧ h = h0) := by
  refine own_body (Ls := #[.val (.int (5 : Int32))]) (plainFor_of_name own_pn_com_example_rollfwd_rollfwd_JobStateIsUnfinishedPinLaw) (fun m => by first | (simp [entryFrame, mkF, argsToLocals, Value.category]; done) | rfl) ?_
  intro p e s m below meth c s₁ hx hZ hby hml hown hnm hret hlk X0 e0
  have N0 := Fr.nil n0
  refine own_iloadN X0 hx (hb hby own_pick_0) rfl ?_
  refine own_ifYes X0 hx 8 (hb hby own_pick_1) (by decide) (by decide) (by decide) ?_
  refine own_iloadN X0 hx (hb hby own_pick_8) rfl ?_
  refine own_iconst X0 hx (1 : Int32) (hb hby own_pick_9) rfl ?_
  refine own_icmpYes X0 hx 17 (hb hby own_pick_10) (by decide) (by decide) (by decide) ?_
  refine own_iloadN X0 hx (hb hby own_pick_17) rfl ?_
  refine own_iconst X0 hx (2 : Int32) (hb hby own_pick_18) rfl ?_
  refine own_icmpYes X0 hx 26 (hb hby own_pick_19) (by decide) (by decide) (by decide) ?_
  refine own_iloadN X0 hx (hb hby own_pick_26) rfl ?_
  refine own_iconst X0 hx (3 : Int32) (hb hby own_pick_27) rfl ?_
  refine own_icmpYes X0 hx 35 (hb hby own_pick_28) (by decide) (by decide) (by decide) ?_
  refine own_iloadN X0 hx (hb hby own_pick_35) rfl ?_
  refine own_iconst X0 hx (4 : Int32) (hb hby own_pick_36) rfl ?_
  refine own_icmpYes X0 hx 44 (hb hby own_pick_37) (by decide) (by decide) (by decide) ?_
  refine own_iloadN X0 hx (hb hby own_pick_44) rfl ?_
  refine own_iconst X0 hx (5 : Int32) (hb hby own_pick_45) rfl ?_
  refine own_icmpNo X0 hx (hb hby own_pick_46) (by decide) ?_
  refine own_getstatic X0 hx hZ (host := "") hown (Or.inl (own_w43 hw)) Via.refl e0 S (hb hby own_pick_49) fun T12 X12 e12 => ?_
  refine own_retA X12 hx hret rfl rfl rfl (hb hby own_pick_52) hlk (by decide) (by decide) ?_
  exact ⟨rfl, N0, e12⟩
set_option maxRecDepth 65536 in
set_option maxHeartbeats 40000000 in
theorem own_pick6 (l : Launch) (Z : State) (a0 : Array Value) (hw : ∀ d ∈ tables_1, d.before a0 Z = true) (w : Addr) (h0 : Heap) (n0 : Nat) (S : Sta Z h0 "com/example/rollfwd/rollfwd/JobState" "ROLLBACK_COMPLETED" "Lcom/example/rollfwd/rollfwd/JobState;" (.ref w)) :
    own_Met l Z (⟨"com/example/rollfwd/rollfwd/JobStateIsUnfinishedPinLaw", "pick", "(I)Lcom/example/rollfwd/rollfwd/JobState;"⟩ : MethodName) method_2_code 1 (some (.object "com/example/rollfwd/rollfwd/JobState")) ({ frames := 0, cells := 0, slots := 0, locals := 0 } : Room) #[(.int (6 : Int32))] h0 (fun v h L => v = some (.ref w) ∧ Fr n0 L ∧ h = h0) := by
  refine own_body (Ls := #[.val (.int (6 : Int32))]) (plainFor_of_name own_pn_com_example_rollfwd_rollfwd_JobStateIsUnfinishedPinLaw) (fun m => by first | (simp [entryFrame, mkF, argsToLocals, Value.category]; done) | rfl) ?_
  intro p e s m below meth c s₁ hx hZ hby hml hown hnm hret hlk X0 e0
  have N0 := Fr.nil n0
  refine own_iloadN X0 hx (hb hby own_pick_0) rfl ?_
  refine own_ifYes X0 hx 8 (hb hby own_pick_1) (by decide) (by decide) (by decide) ?_
  refine own_iloadN X0 hx (hb hby own_pick_8) rfl ?_
  refine own_iconst X0 hx (1 : Int32) (hb hby own_pick_9) rfl ?_
  refine own_icmpYes X0 hx 17 (hb hby own_pick_10) (by decide) (by decide) (by decide) ?_
  refine own_iloadN X0 hx (hb hby own_pick_17) rfl ?_
  refine own_iconst X0 hx (2 : Int32) (hb hby own_pick_18) rfl ?_
  refine own_icmpYes X0 hx 26 (hb hby own_pick_19) (by decide) (by decide) (by decide) ?_
  refine own_iloadN X0 hx (hb hby own_pick_26) rfl ?_
  refine own_iconst X0 hx (3 : Int32) (hb hby own_pick_27) rfl ?_
  refine own_icmpYes X0 hx 35 (hb hby own_pick_28) (by decide) (by decide) (by decide) ?_
  refine own_iloadN X0 hx (hb hby own_pick_35) rfl ?_
  refine own_iconst X0 hx (4 : Int32) (hb hby own_pick_36) rfl ?_
  refine own_icmpYes X0 hx 44 (hb hby own_pick_37) (by decide) (by decide) (by decide) ?_
  refine own_iloadN X0 hx (hb hby own_pick_44) rfl ?_
  refine own_iconst X0 hx (5 : Int32) (hb hby own_pick_45) rfl ?_
  refine own_icmpYes X0 hx 53 (hb hby own_pick_46) (by decide) (by decide) (by decide) ?_
  refine own_iloadN X0 hx (hb hby own_pick_53) rfl ?_
  refine own_bipush X0 hx (6 : Int32) (hb hby own_pick_54) rfl ?_
  refine own_icmpNo X0 hx (hb hby own_pick_56) (by decide) ?_
  refine own_getstatic X0 hx hZ (host := "") hown (Or.inl (own_w33 hw)) Via.refl e0 S (hb hby own_pick_59) fun T13 X13 e13 => ?_
  refine own_retA X13 hx hret rfl rfl rfl (hb hby own_pick_62) hlk (by decide) (by decide) ?_
  exact ⟨rfl, N0, e13⟩
set_option maxRecDepth 65536 in
set_option maxHeartbeats 40000000 in
theorem own_pick7 (l : Launch) (Z : State) (a0 : Array Value) (hw : ∀ d ∈ tables_1, d.before a0 Z = true) (w : Addr) (h0 : Heap) (n0 : Nat) (S : Sta Z h0 "com/example/rollfwd/rollfwd/JobState" "CANCELLED" "Lcom/example/rollfwd/rollfwd/JobState;" (.ref w)) :
    own_Met l Z (⟨"com/example/rollfwd/rollfwd/JobStateIsUnfinishedPinLaw", "pick", "(I)Lcom/example/rollfwd/rollfwd/JobState;"⟩ : MethodName) method_2_code 1 (some (.object "com/example/rollfwd/rollfwd/JobState")) ({ frames := 0, cells := 0, slots := 0, locals := 0 } : Room) #[(.int (7 : Int32))] h0 (fun v h L => v = some (.ref w) ∧ Fr n0 L ∧ h = h0) := by
  refine own_body (Ls := #[.val (.int (7 : Int32))]) (plainFor_of_name own_pn_com_example_rollfwd_rollfwd_JobStateIsUnfinishedPinLaw) (fun m => by first | (simp [entryFrame, mkF, argsToLocals, Value.category]; done) | rfl) ?_
  intro p e s m below meth c s₁ hx hZ hby hml hown hnm hret hlk X0 e0
  have N0 := Fr.nil n0
  refine own_iloadN X0 hx (hb hby own_pick_0) rfl ?_
  refine own_ifYes X0 hx 8 (hb hby own_pick_1) (by decide) (by decide) (by decide) ?_
  refine own_iloadN X0 hx (hb hby own_pick_8) rfl ?_
  refine own_iconst X0 hx (1 : Int32) (hb hby own_pick_9) rfl ?_
  refine own_icmpYes X0 hx 17 (hb hby own_pick_10) (by decide) (by decide) (by decide) ?_
  refine own_iloadN X0 hx (hb hby own_pick_17) rfl ?_
  refine own_iconst X0 hx (2 : Int32) (hb hby own_pick_18) rfl ?_
  refine own_icmpYes X0 hx 26 (hb hby own_pick_19) (by decide) (by decide) (by decide) ?_
  refine own_iloadN X0 hx (hb hby own_pick_26) rfl ?_
  refine own_iconst X0 hx (3 : Int32) (hb hby own_pick_27) rfl ?_
  refine own_icmpYes X0 hx 35 (hb hby own_pick_28) (by decide) (by decide) (by decide) ?_
  refine own_iloadN X0 hx (hb hby own_pick_35) rfl ?_
  refine own_iconst X0 hx (4 : Int32) (hb hby own_pick_36) rfl ?_
  refine own_icmpYes X0 hx 44 (hb hby own_pick_37) (by decide) (by decide) (by decide) ?_
  refine own_iloadN X0 hx (hb hby own_pick_44) rfl ?_
  refine own_iconst X0 hx (5 : Int32) (hb hby own_pick_45) rfl ?_
  refine own_icmpYes X0 hx 53 (hb hby own_pick_46) (by decide) (by decide) (by decide) ?_
  refine own_iloadN X0 hx (hb hby own_pick_53) rfl ?_
  refine own_bipush X0 hx (6 : Int32) (hb hby own_pick_54) rfl ?_
  refine own_icmpYes X0 hx 63 (hb hby own_pick_56) (by decide) (by decide) (by decide) ?_
  refine own_getstatic X0 hx hZ (host := "") hown (Or.inl (own_w35 hw)) Via.refl e0 S (hb hby own_pick_63) fun T14 X14 e14 => ?_
  refine own_retA X14 hx hret rfl rfl rfl (hb hby own_pick_66) hlk (by decide) (by decide) ?_
  exact ⟨rfl, N0, e14⟩
set_option maxRecDepth 65536 in
set_option maxHeartbeats 40000000 in
theorem own_law (l : Launch) (Z : State) (a0 : Array Value) (hw : ∀ d ∈ tables_1, d.before a0 Z = true) (x0 : Int32) (sQUEUED : Addr) (sRUNNING : Addr) (sPAUSED : Addr) (sROLLBACK_RUNNING : Addr) (sROLLBACK_PAUSED : Addr) (sCOMPLETED : Addr) (sROLLBACK_COMPLETED : Addr) (sCANCELLED : Addr) (gUNFINISHED : Addr) (gWAITING : Addr) (gFINAL : Addr) (h0 : Heap) (n0 : Nat) (S_QUEUED : Sta Z h0 "com/example/rollfwd/rollfwd/JobState" "QUEUED" "Lcom/example/rollfwd/rollfwd/JobState;" (.ref sQUEUED)) (E_QUEUED : Exa Z h0 sQUEUED "com/example/rollfwd/rollfwd/JobState") (F_QUEUED : Fld Z h0 sQUEUED "com/example/rollfwd/rollfwd/JobState" "stage" "Lcom/example/rollfwd/rollfwd/JobState$Stage;" (.ref gUNFINISHED)) (S_RUNNING : Sta Z h0 "com/example/rollfwd/rollfwd/JobState" "RUNNING" "Lcom/example/rollfwd/rollfwd/JobState;" (.ref sRUNNING)) (E_RUNNING : Exa Z h0 sRUNNING "com/example/rollfwd/rollfwd/JobState") (F_RUNNING : Fld Z h0 sRUNNING "com/example/rollfwd/rollfwd/JobState" "stage" "Lcom/example/rollfwd/rollfwd/JobState$Stage;" (.ref gUNFINISHED)) (S_PAUSED : Sta Z h0 "com/example/rollfwd/rollfwd/JobState" "PAUSED" "Lcom/example/rollfwd/rollfwd/JobState;" (.ref sPAUSED)) (E_PAUSED : Exa Z h0 sPAUSED "com/example/rollfwd/rollfwd/JobState") (F_PAUSED : Fld Z h0 sPAUSED "com/example/rollfwd/rollfwd/JobState" "stage" "Lcom/example/rollfwd/rollfwd/JobState$Stage;" (.ref gWAITING)) (S_ROLLBACK_RUNNING : Sta Z h0 "com/example/rollfwd/rollfwd/JobState" "ROLLBACK_RUNNING" "Lcom/example/rollfwd/rollfwd/JobState;" (.ref sROLLBACK_RUNNING)) (E_ROLLBACK_RUNNING : Exa Z h0 sROLLBACK_RUNNING "com/example/rollfwd/rollfwd/JobState") (F_ROLLBACK_RUNNING : Fld Z h0 sROLLBACK_RUNNING "com/example/rollfwd/rollfwd/JobState" "stage" "Lcom/example/rollfwd/rollfwd/JobState$Stage;" (.ref gUNFINISHED)) (S_ROLLBACK_PAUSED : Sta Z h0 "com/example/rollfwd/rollfwd/JobState" "ROLLBACK_PAUSED" "Lcom/example/rollfwd/rollfwd/JobState;" (.ref sROLLBACK_PAUSED)) (E_ROLLBACK_PAUSED : Exa Z h0 sROLLBACK_PAUSED "com/example/rollfwd/rollfwd/JobState") (F_ROLLBACK_PAUSED : Fld Z h0 sROLLBACK_PAUSED "com/example/rollfwd/rollfwd/JobState" "stage" "Lcom/example/rollfwd/rollfwd/JobState$Stage;" (.ref gWAITING)) (S_COMPLETED : Sta Z h0 "com/example/rollfwd/rollfwd/JobState" "COMPLETED" "Lcom/example/rollfwd/rollfwd/JobState;" (.ref sCOMPLETED)) (E_COMPLETED : Exa Z h0 sCOMPLETED "com/example/rollfwd/rollfwd/JobState") (F_COMPLETED : Fld Z h0 sCOMPLETED "com/example/rollfwd/rollfwd/JobState" "stage" "Lcom/example/rollfwd/rollfwd/JobState$Stage;" (.ref gFINAL)) (S_ROLLBACK_COMPLETED : Sta Z h0 "com/example/rollfwd/rollfwd/JobState" "ROLLBACK_COMPLETED" "Lcom/example/rollfwd/rollfwd/JobState;" (.ref sROLLBACK_COMPLETED)) (E_ROLLBACK_COMPLETED : Exa Z h0 sROLLBACK_COMPLETED "com/example/rollfwd/rollfwd/JobState") (F_ROLLBACK_COMPLETED : Fld Z h0 sROLLBACK_COMPLETED "com/example/rollfwd/rollfwd/JobState" "stage" "Lcom/example/rollfwd/rollfwd/JobState$Stage;" (.ref gFINAL)) (S_CANCELLED : Sta Z h0 "com/example/rollfwd/rollfwd/JobState" "CANCELLED" "Lcom/example/rollfwd/rollfwd/JobState;" (.ref sCANCELLED)) (E_CANCELLED : Exa Z h0 sCANCELLED "com/example/rollfwd/rollfwd/JobState") (F_CANCELLED : Fld Z h0 sCANCELLED "com/example/rollfwd/rollfwd/JobState" "stage" "Lcom/example/rollfwd/rollfwd/JobState$Stage;" (.ref gFINAL)) (S_UNFINISHED : Sta Z h0 "com/example/rollfwd/rollfwd/JobState$Stage" "UNFINISHED" "Lcom/example/rollfwd/rollfwd/JobState$Stage;" (.ref gUNFINISHED)) (S_WAITING : Sta Z h0 "com/example/rollfwd/rollfwd/JobState$Stage" "WAITING" "Lcom/example/rollfwd/rollfwd/JobState$Stage;" (.ref gWAITING)) (S_FINAL : Sta Z h0 "com/example/rollfwd/rollfwd/JobState$Stage" "FINAL" "Lcom/example/rollfwd/rollfwd/JobState$Stage;" (.ref gFINAL)) (D_UNFINISHED_WAITING : gUNFINISHED ≠ gWAITING) (D_UNFINISHED_FINAL : gUNFINISHED ≠ gFINAL) (D_WAITING_UNFINISHED : gWAITING ≠ gUNFINISHED) (D_WAITING_FINAL : gWAITING ≠ gFINAL) (D_FINAL_UNFINISHED : gFINAL ≠ gUNFINISHED) (D_FINAL_WAITING : gFINAL ≠ gWAITING) :
    own_Met l Z x code maxLocals ret room_1 #[(.int x0)] h0 (fun v h L => v = some (.int 1) ∧ Fr n0 L) := by
  refine own_body (Ls := #[.val (.int x0), .unset, .unset, .unset, .unset, .unset]) (plainFor_of_name own_pn_com_example_rollfwd_rollfwd_JobStateIsUnfinishedPinLaw) (fun m => by first | (simp [entryFrame, mkF, argsToLocals, Value.category, maxLocals]; done) | rfl) ?_
  intro p e s m below meth c s₁ hx hZ hby hml hown hnm hret hlk X0 e0
  have N0 := Fr.nil n0
  refine own_iloadN X0 hx (hb hby at_0) rfl ?_
  refine own_bipush X0 hx (7 : Int32) (hb hby at_1) rfl ?_
  refine own_iand X0 hx (hb hby at_3) ?_
  refine own_istoreN X0 hx (l' := #[.val (.int x0), .val (.int (x0 &&& (7 : Int32))), .unset, .unset, .unset, .unset]) (hb hby at_4) rfl ?_
  have hk := own_k x0
  generalize x0 &&& (7 : Int32) = kk at hk ⊢
  rcases hk with rfl | rfl | rfl | rfl | rfl | rfl | rfl | rfl
  · skip
    refine own_iloadN X0 hx (hb hby at_5) rfl ?_
    refine own_stat X0 hx hZ hown (own_w0 hw) (own_w1 hw) (own_w3 hw) (own_w2 hw) (by decide) e0 (hb hby at_6) (by rw [hml]; rfl) own_pd__28I_29Lcom_2fexample_2frollfwd_2frollfwd_2fJobState_3b rfl (W := 0) (Nat.le_of_ble_eq_true rfl) (own_pick0 l Z a0 hw sQUEUED h0 n0 S_QUEUED) (by decide) (by decide) (by decide) (by decide) (argsL := [(.int (0 : Int32))]) (rest := []) rfl rfl fun v15 T15 L15 X15 q15 => ?_
    obtain ⟨rfl, M15, e15⟩ := q15
    have N15 := Fr.app N0 M15
    show own_Fin p e below _ (T15.setTop (mkF m 9 #[.val (.int x0), .val (.int (0 : Int32)), .unset, .unset, .unset, .unset] [(.ref sQUEUED)]))
    refine own_astoreN X15 hx (l' := #[.val (.int x0), .val (.int (0 : Int32)), .val (.ref sQUEUED), .unset, .unset, .unset]) (hb hby at_9) rfl rfl ?_
    refine own_iloadN X15 hx (hb hby at_10) rfl ?_
    refine own_ifYes X15 hx 24 (hb hby at_11) (by decide) (by decide) (by decide) ?_
    refine own_iconst X15 hx (1 : Int32) (hb hby at_24) rfl ?_
    refine own_goto X15 hx 29 (hb hby at_25) (by decide) (by decide) ?_
    refine own_istoreN X15 hx (l' := #[.val (.int x0), .val (.int (0 : Int32)), .val (.ref sQUEUED), .val (.int (1 : Int32)), .unset, .unset]) (hb hby at_29) rfl ?_
    refine own_aloadN X15 hx (hb hby at_30) rfl rfl ?_
    refine own_virt X15 hx hZ hown (own_w7 hw) (own_w8 hw) (own_w10 hw) (own_w10 hw) (own_w9 hw) (own_w11 hw) (own_w5 hw) (by decide) e15 E_QUEUED (hb hby at_31) (by rw [hml]; rfl) own_pd__28_29Z rfl (W := 0) (Nat.le_of_ble_eq_true rfl) (own_isUnfinished l Z a0 hw sQUEUED gUNFINISHED gUNFINISHED h0 n0 S_UNFINISHED F_QUEUED) (by decide) (by decide) (by decide) (by decide) (argsL := []) (rest := []) rfl rfl fun v16 T16 L16 X16 q16 => ?_
    obtain ⟨rfl, M16, e16⟩ := q16
    rw [if_pos rfl]
    have N16 := Fr.app N15 M16
    show own_Fin p e below _ (T16.setTop (mkF m 34 #[.val (.int x0), .val (.int (0 : Int32)), .val (.ref sQUEUED), .val (.int (1 : Int32)), .unset, .unset] [(.int (1 : Int32))]))
    refine own_istore X16 hx (l' := #[.val (.int x0), .val (.int (0 : Int32)), .val (.ref sQUEUED), .val (.int (1 : Int32)), .val (.int (1 : Int32)), .unset]) (hb hby at_34) rfl ?_
    refine own_iload X16 hx (hb hby at_36) rfl ?_
    refine own_ifNo X16 hx (hb hby at_38) (by decide) ?_
    refine own_iconst X16 hx (1 : Int32) (hb hby at_41) rfl ?_
    refine own_goto X16 hx 46 (hb hby at_42) (by decide) (by decide) ?_
    refine own_aloadN X16 hx (hb hby at_46) rfl rfl ?_
    refine own_virt X16 hx hZ hown (own_w17 hw) (own_w18 hw) (own_w20 hw) (own_w20 hw) (own_w19 hw) (own_w21 hw) (own_w5 hw) (by decide) e16 E_QUEUED (hb hby at_47) (by rw [hml]; rfl) own_pd__28_29Z rfl (W := 1) (Nat.le_of_ble_eq_true rfl) (own_waitsForPerson l Z a0 hw sQUEUED gWAITING gUNFINISHED h0 n0 S_WAITING F_QUEUED) (by decide) (by decide) (by decide) (by decide) (argsL := []) (rest := [(.int (1 : Int32))]) rfl rfl fun v17 T17 L17 X17 q17 => ?_
    obtain ⟨rfl, M17, e17⟩ := q17
    rw [if_neg D_UNFINISHED_WAITING]
    have N17 := Fr.app N16 M17
    show own_Fin p e below _ (T17.setTop (mkF m 50 #[.val (.int x0), .val (.int (0 : Int32)), .val (.ref sQUEUED), .val (.int (1 : Int32)), .val (.int (1 : Int32)), .unset] [(.int (0 : Int32)), (.int (1 : Int32))]))
    refine own_ifYes X17 hx 57 (hb hby at_50) (by decide) (by decide) (by decide) ?_
    refine own_iconst X17 hx (0 : Int32) (hb hby at_57) rfl ?_
    refine own_iadd X17 hx (hb hby at_58) ?_
    refine own_aloadN X17 hx (hb hby at_59) rfl rfl ?_
    refine own_virt X17 hx hZ hown (own_w24 hw) (own_w25 hw) (own_w27 hw) (own_w27 hw) (own_w26 hw) (own_w28 hw) (own_w5 hw) (by decide) e17 E_QUEUED (hb hby at_60) (by rw [hml]; rfl) own_pd__28_29Z rfl (W := 1) (Nat.le_of_ble_eq_true rfl) (own_isFinal l Z a0 hw sQUEUED gFINAL gUNFINISHED h0 n0 S_FINAL F_QUEUED) (by decide) (by decide) (by decide) (by decide) (argsL := []) (rest := [(.int (1 : Int32))]) rfl rfl fun v18 T18 L18 X18 q18 => ?_
    obtain ⟨rfl, M18, e18⟩ := q18
    rw [if_neg D_UNFINISHED_FINAL]
    have N18 := Fr.app N17 M18
    show own_Fin p e below _ (T18.setTop (mkF m 63 #[.val (.int x0), .val (.int (0 : Int32)), .val (.ref sQUEUED), .val (.int (1 : Int32)), .val (.int (1 : Int32)), .unset] [(.int (0 : Int32)), (.int (1 : Int32))]))
    refine own_ifYes X18 hx 70 (hb hby at_63) (by decide) (by decide) (by decide) ?_
    refine own_iconst X18 hx (0 : Int32) (hb hby at_70) rfl ?_
    refine own_iadd X18 hx (hb hby at_71) ?_
    refine own_istore X18 hx (l' := #[.val (.int x0), .val (.int (0 : Int32)), .val (.ref sQUEUED), .val (.int (1 : Int32)), .val (.int (1 : Int32)), .val (.int (1 : Int32))]) (hb hby at_72) rfl ?_
    refine own_iload X18 hx (hb hby at_74) rfl ?_
    refine own_iloadN X18 hx (hb hby at_76) rfl ?_
    refine own_icmpNo X18 hx (hb hby at_77) (by decide) ?_
    refine own_iload X18 hx (hb hby at_80) rfl ?_
    refine own_iconst X18 hx (1 : Int32) (hb hby at_82) rfl ?_
    refine own_icmpNo X18 hx (hb hby at_83) (by decide) ?_
    refine own_iconst X18 hx (1 : Int32) (hb hby at_86) rfl ?_
    refine own_goto X18 hx 91 (hb hby at_87) (by decide) (by decide) ?_
    refine own_retN X18 hx (t := .boolean) hret (by simp) (hb hby at_91) hlk (by decide) (by decide) ?_
    exact ⟨rfl, N18⟩
  · skip
    refine own_iloadN X0 hx (hb hby at_5) rfl ?_
    refine own_stat X0 hx hZ hown (own_w0 hw) (own_w1 hw) (own_w3 hw) (own_w2 hw) (by decide) e0 (hb hby at_6) (by rw [hml]; rfl) own_pd__28I_29Lcom_2fexample_2frollfwd_2frollfwd_2fJobState_3b rfl (W := 0) (Nat.le_of_ble_eq_true rfl) (own_pick1 l Z a0 hw sRUNNING h0 n0 S_RUNNING) (by decide) (by decide) (by decide) (by decide) (argsL := [(.int (1 : Int32))]) (rest := []) rfl rfl fun v19 T19 L19 X19 q19 => ?_
    obtain ⟨rfl, M19, e19⟩ := q19
    have N19 := Fr.app N0 M19
    show own_Fin p e below _ (T19.setTop (mkF m 9 #[.val (.int x0), .val (.int (1 : Int32)), .unset, .unset, .unset, .unset] [(.ref sRUNNING)]))
    refine own_astoreN X19 hx (l' := #[.val (.int x0), .val (.int (1 : Int32)), .val (.ref sRUNNING), .unset, .unset, .unset]) (hb hby at_9) rfl rfl ?_
    refine own_iloadN X19 hx (hb hby at_10) rfl ?_
    refine own_ifNo X19 hx (hb hby at_11) (by decide) ?_
    refine own_iloadN X19 hx (hb hby at_14) rfl ?_
    refine own_iconst X19 hx (1 : Int32) (hb hby at_15) rfl ?_
    refine own_icmpYes X19 hx 24 (hb hby at_16) (by decide) (by decide) (by decide) ?_
    refine own_iconst X19 hx (1 : Int32) (hb hby at_24) rfl ?_
    refine own_goto X19 hx 29 (hb hby at_25) (by decide) (by decide) ?_
    refine own_istoreN X19 hx (l' := #[.val (.int x0), .val (.int (1 : Int32)), .val (.ref sRUNNING), .val (.int (1 : Int32)), .unset, .unset]) (hb hby at_29) rfl ?_
    refine own_aloadN X19 hx (hb hby at_30) rfl rfl ?_
    refine own_virt X19 hx hZ hown (own_w7 hw) (own_w8 hw) (own_w10 hw) (own_w10 hw) (own_w9 hw) (own_w11 hw) (own_w5 hw) (by decide) e19 E_RUNNING (hb hby at_31) (by rw [hml]; rfl) own_pd__28_29Z rfl (W := 0) (Nat.le_of_ble_eq_true rfl) (own_isUnfinished l Z a0 hw sRUNNING gUNFINISHED gUNFINISHED h0 n0 S_UNFINISHED F_RUNNING) (by decide) (by decide) (by decide) (by decide) (argsL := []) (rest := []) rfl rfl fun v20 T20 L20 X20 q20 => ?_
    obtain ⟨rfl, M20, e20⟩ := q20
    rw [if_pos rfl]
    have N20 := Fr.app N19 M20
    show own_Fin p e below _ (T20.setTop (mkF m 34 #[.val (.int x0), .val (.int (1 : Int32)), .val (.ref sRUNNING), .val (.int (1 : Int32)), .unset, .unset] [(.int (1 : Int32))]))
    refine own_istore X20 hx (l' := #[.val (.int x0), .val (.int (1 : Int32)), .val (.ref sRUNNING), .val (.int (1 : Int32)), .val (.int (1 : Int32)), .unset]) (hb hby at_34) rfl ?_
    refine own_iload X20 hx (hb hby at_36) rfl ?_
    refine own_ifNo X20 hx (hb hby at_38) (by decide) ?_
    refine own_iconst X20 hx (1 : Int32) (hb hby at_41) rfl ?_
    refine own_goto X20 hx 46 (hb hby at_42) (by decide) (by decide) ?_
    refine own_aloadN X20 hx (hb hby at_46) rfl rfl ?_
    refine own_virt X20 hx hZ hown (own_w17 hw) (own_w18 hw) (own_w20 hw) (own_w20 hw) (own_w19 hw) (own_w21 hw) (own_w5 hw) (by decide) e20 E_RUNNING (hb hby at_47) (by rw [hml]; rfl) own_pd__28_29Z rfl (W := 1) (Nat.le_of_ble_eq_true rfl) (own_waitsForPerson l Z a0 hw sRUNNING gWAITING gUNFINISHED h0 n0 S_WAITING F_RUNNING) (by decide) (by decide) (by decide) (by decide) (argsL := []) (rest := [(.int (1 : Int32))]) rfl rfl fun v21 T21 L21 X21 q21 => ?_
    obtain ⟨rfl, M21, e21⟩ := q21
    rw [if_neg D_UNFINISHED_WAITING]
    have N21 := Fr.app N20 M21
    show own_Fin p e below _ (T21.setTop (mkF m 50 #[.val (.int x0), .val (.int (1 : Int32)), .val (.ref sRUNNING), .val (.int (1 : Int32)), .val (.int (1 : Int32)), .unset] [(.int (0 : Int32)), (.int (1 : Int32))]))
    refine own_ifYes X21 hx 57 (hb hby at_50) (by decide) (by decide) (by decide) ?_
    refine own_iconst X21 hx (0 : Int32) (hb hby at_57) rfl ?_
    refine own_iadd X21 hx (hb hby at_58) ?_
    refine own_aloadN X21 hx (hb hby at_59) rfl rfl ?_
    refine own_virt X21 hx hZ hown (own_w24 hw) (own_w25 hw) (own_w27 hw) (own_w27 hw) (own_w26 hw) (own_w28 hw) (own_w5 hw) (by decide) e21 E_RUNNING (hb hby at_60) (by rw [hml]; rfl) own_pd__28_29Z rfl (W := 1) (Nat.le_of_ble_eq_true rfl) (own_isFinal l Z a0 hw sRUNNING gFINAL gUNFINISHED h0 n0 S_FINAL F_RUNNING) (by decide) (by decide) (by decide) (by decide) (argsL := []) (rest := [(.int (1 : Int32))]) rfl rfl fun v22 T22 L22 X22 q22 => ?_
    obtain ⟨rfl, M22, e22⟩ := q22
    rw [if_neg D_UNFINISHED_FINAL]
    have N22 := Fr.app N21 M22
    show own_Fin p e below _ (T22.setTop (mkF m 63 #[.val (.int x0), .val (.int (1 : Int32)), .val (.ref sRUNNING), .val (.int (1 : Int32)), .val (.int (1 : Int32)), .unset] [(.int (0 : Int32)), (.int (1 : Int32))]))
    refine own_ifYes X22 hx 70 (hb hby at_63) (by decide) (by decide) (by decide) ?_
    refine own_iconst X22 hx (0 : Int32) (hb hby at_70) rfl ?_
    refine own_iadd X22 hx (hb hby at_71) ?_
    refine own_istore X22 hx (l' := #[.val (.int x0), .val (.int (1 : Int32)), .val (.ref sRUNNING), .val (.int (1 : Int32)), .val (.int (1 : Int32)), .val (.int (1 : Int32))]) (hb hby at_72) rfl ?_
    refine own_iload X22 hx (hb hby at_74) rfl ?_
    refine own_iloadN X22 hx (hb hby at_76) rfl ?_
    refine own_icmpNo X22 hx (hb hby at_77) (by decide) ?_
    refine own_iload X22 hx (hb hby at_80) rfl ?_
    refine own_iconst X22 hx (1 : Int32) (hb hby at_82) rfl ?_
    refine own_icmpNo X22 hx (hb hby at_83) (by decide) ?_
    refine own_iconst X22 hx (1 : Int32) (hb hby at_86) rfl ?_
    refine own_goto X22 hx 91 (hb hby at_87) (by decide) (by decide) ?_
    refine own_retN X22 hx (t := .boolean) hret (by simp) (hb hby at_91) hlk (by decide) (by decide) ?_
    exact ⟨rfl, N22⟩
  · skip
    refine own_iloadN X0 hx (hb hby at_5) rfl ?_
    refine own_stat X0 hx hZ hown (own_w0 hw) (own_w1 hw) (own_w3 hw) (own_w2 hw) (by decide) e0 (hb hby at_6) (by rw [hml]; rfl) own_pd__28I_29Lcom_2fexample_2frollfwd_2frollfwd_2fJobState_3b rfl (W := 0) (Nat.le_of_ble_eq_true rfl) (own_pick2 l Z a0 hw sPAUSED h0 n0 S_PAUSED) (by decide) (by decide) (by decide) (by decide) (argsL := [(.int (2 : Int32))]) (rest := []) rfl rfl fun v23 T23 L23 X23 q23 => ?_
    obtain ⟨rfl, M23, e23⟩ := q23
    have N23 := Fr.app N0 M23
    show own_Fin p e below _ (T23.setTop (mkF m 9 #[.val (.int x0), .val (.int (2 : Int32)), .unset, .unset, .unset, .unset] [(.ref sPAUSED)]))
    refine own_astoreN X23 hx (l' := #[.val (.int x0), .val (.int (2 : Int32)), .val (.ref sPAUSED), .unset, .unset, .unset]) (hb hby at_9) rfl rfl ?_
    refine own_iloadN X23 hx (hb hby at_10) rfl ?_
    refine own_ifNo X23 hx (hb hby at_11) (by decide) ?_
    refine own_iloadN X23 hx (hb hby at_14) rfl ?_
    refine own_iconst X23 hx (1 : Int32) (hb hby at_15) rfl ?_
    refine own_icmpNo X23 hx (hb hby at_16) (by decide) ?_
    refine own_iloadN X23 hx (hb hby at_19) rfl ?_
    refine own_iconst X23 hx (3 : Int32) (hb hby at_20) rfl ?_
    refine own_icmpYes X23 hx 28 (hb hby at_21) (by decide) (by decide) (by decide) ?_
    refine own_iconst X23 hx (0 : Int32) (hb hby at_28) rfl ?_
    refine own_istoreN X23 hx (l' := #[.val (.int x0), .val (.int (2 : Int32)), .val (.ref sPAUSED), .val (.int (0 : Int32)), .unset, .unset]) (hb hby at_29) rfl ?_
    refine own_aloadN X23 hx (hb hby at_30) rfl rfl ?_
    refine own_virt X23 hx hZ hown (own_w7 hw) (own_w8 hw) (own_w10 hw) (own_w10 hw) (own_w9 hw) (own_w11 hw) (own_w5 hw) (by decide) e23 E_PAUSED (hb hby at_31) (by rw [hml]; rfl) own_pd__28_29Z rfl (W := 0) (Nat.le_of_ble_eq_true rfl) (own_isUnfinished l Z a0 hw sPAUSED gUNFINISHED gWAITING h0 n0 S_UNFINISHED F_PAUSED) (by decide) (by decide) (by decide) (by decide) (argsL := []) (rest := []) rfl rfl fun v24 T24 L24 X24 q24 => ?_
    obtain ⟨rfl, M24, e24⟩ := q24
    rw [if_neg D_WAITING_UNFINISHED]
    have N24 := Fr.app N23 M24
    show own_Fin p e below _ (T24.setTop (mkF m 34 #[.val (.int x0), .val (.int (2 : Int32)), .val (.ref sPAUSED), .val (.int (0 : Int32)), .unset, .unset] [(.int (0 : Int32))]))
    refine own_istore X24 hx (l' := #[.val (.int x0), .val (.int (2 : Int32)), .val (.ref sPAUSED), .val (.int (0 : Int32)), .val (.int (0 : Int32)), .unset]) (hb hby at_34) rfl ?_
    refine own_iload X24 hx (hb hby at_36) rfl ?_
    refine own_ifYes X24 hx 45 (hb hby at_38) (by decide) (by decide) (by decide) ?_
    refine own_iconst X24 hx (0 : Int32) (hb hby at_45) rfl ?_
    refine own_aloadN X24 hx (hb hby at_46) rfl rfl ?_
    refine own_virt X24 hx hZ hown (own_w17 hw) (own_w18 hw) (own_w20 hw) (own_w20 hw) (own_w19 hw) (own_w21 hw) (own_w5 hw) (by decide) e24 E_PAUSED (hb hby at_47) (by rw [hml]; rfl) own_pd__28_29Z rfl (W := 1) (Nat.le_of_ble_eq_true rfl) (own_waitsForPerson l Z a0 hw sPAUSED gWAITING gWAITING h0 n0 S_WAITING F_PAUSED) (by decide) (by decide) (by decide) (by decide) (argsL := []) (rest := [(.int (0 : Int32))]) rfl rfl fun v25 T25 L25 X25 q25 => ?_
    obtain ⟨rfl, M25, e25⟩ := q25
    rw [if_pos rfl]
    have N25 := Fr.app N24 M25
    show own_Fin p e below _ (T25.setTop (mkF m 50 #[.val (.int x0), .val (.int (2 : Int32)), .val (.ref sPAUSED), .val (.int (0 : Int32)), .val (.int (0 : Int32)), .unset] [(.int (1 : Int32)), (.int (0 : Int32))]))
    refine own_ifNo X25 hx (hb hby at_50) (by decide) ?_
    refine own_iconst X25 hx (1 : Int32) (hb hby at_53) rfl ?_
    refine own_goto X25 hx 58 (hb hby at_54) (by decide) (by decide) ?_
    refine own_iadd X25 hx (hb hby at_58) ?_
    refine own_aloadN X25 hx (hb hby at_59) rfl rfl ?_
    refine own_virt X25 hx hZ hown (own_w24 hw) (own_w25 hw) (own_w27 hw) (own_w27 hw) (own_w26 hw) (own_w28 hw) (own_w5 hw) (by decide) e25 E_PAUSED (hb hby at_60) (by rw [hml]; rfl) own_pd__28_29Z rfl (W := 1) (Nat.le_of_ble_eq_true rfl) (own_isFinal l Z a0 hw sPAUSED gFINAL gWAITING h0 n0 S_FINAL F_PAUSED) (by decide) (by decide) (by decide) (by decide) (argsL := []) (rest := [(.int (1 : Int32))]) rfl rfl fun v26 T26 L26 X26 q26 => ?_
    obtain ⟨rfl, M26, e26⟩ := q26
    rw [if_neg D_WAITING_FINAL]
    have N26 := Fr.app N25 M26
    show own_Fin p e below _ (T26.setTop (mkF m 63 #[.val (.int x0), .val (.int (2 : Int32)), .val (.ref sPAUSED), .val (.int (0 : Int32)), .val (.int (0 : Int32)), .unset] [(.int (0 : Int32)), (.int (1 : Int32))]))
    refine own_ifYes X26 hx 70 (hb hby at_63) (by decide) (by decide) (by decide) ?_
    refine own_iconst X26 hx (0 : Int32) (hb hby at_70) rfl ?_
    refine own_iadd X26 hx (hb hby at_71) ?_
    refine own_istore X26 hx (l' := #[.val (.int x0), .val (.int (2 : Int32)), .val (.ref sPAUSED), .val (.int (0 : Int32)), .val (.int (0 : Int32)), .val (.int (1 : Int32))]) (hb hby at_72) rfl ?_
    refine own_iload X26 hx (hb hby at_74) rfl ?_
    refine own_iloadN X26 hx (hb hby at_76) rfl ?_
    refine own_icmpNo X26 hx (hb hby at_77) (by decide) ?_
    refine own_iload X26 hx (hb hby at_80) rfl ?_
    refine own_iconst X26 hx (1 : Int32) (hb hby at_82) rfl ?_
    refine own_icmpNo X26 hx (hb hby at_83) (by decide) ?_
    refine own_iconst X26 hx (1 : Int32) (hb hby at_86) rfl ?_
    refine own_goto X26 hx 91 (hb hby at_87) (by decide) (by decide) ?_
    refine own_retN X26 hx (t := .boolean) hret (by simp) (hb hby at_91) hlk (by decide) (by decide) ?_
    exact ⟨rfl, N26⟩
  · skip
    refine own_iloadN X0 hx (hb hby at_5) rfl ?_
    refine own_stat X0 hx hZ hown (own_w0 hw) (own_w1 hw) (own_w3 hw) (own_w2 hw) (by decide) e0 (hb hby at_6) (by rw [hml]; rfl) own_pd__28I_29Lcom_2fexample_2frollfwd_2frollfwd_2fJobState_3b rfl (W := 0) (Nat.le_of_ble_eq_true rfl) (own_pick3 l Z a0 hw sROLLBACK_RUNNING h0 n0 S_ROLLBACK_RUNNING) (by decide) (by decide) (by decide) (by decide) (argsL := [(.int (3 : Int32))]) (rest := []) rfl rfl fun v27 T27 L27 X27 q27 => ?_
    obtain ⟨rfl, M27, e27⟩ := q27
    have N27 := Fr.app N0 M27
    show own_Fin p e below _ (T27.setTop (mkF m 9 #[.val (.int x0), .val (.int (3 : Int32)), .unset, .unset, .unset, .unset] [(.ref sROLLBACK_RUNNING)]))
    refine own_astoreN X27 hx (l' := #[.val (.int x0), .val (.int (3 : Int32)), .val (.ref sROLLBACK_RUNNING), .unset, .unset, .unset]) (hb hby at_9) rfl rfl ?_
    refine own_iloadN X27 hx (hb hby at_10) rfl ?_
    refine own_ifNo X27 hx (hb hby at_11) (by decide) ?_
    refine own_iloadN X27 hx (hb hby at_14) rfl ?_
    refine own_iconst X27 hx (1 : Int32) (hb hby at_15) rfl ?_
    refine own_icmpNo X27 hx (hb hby at_16) (by decide) ?_
    refine own_iloadN X27 hx (hb hby at_19) rfl ?_
    refine own_iconst X27 hx (3 : Int32) (hb hby at_20) rfl ?_
    refine own_icmpNo X27 hx (hb hby at_21) (by decide) ?_
    refine own_iconst X27 hx (1 : Int32) (hb hby at_24) rfl ?_
    refine own_goto X27 hx 29 (hb hby at_25) (by decide) (by decide) ?_
    refine own_istoreN X27 hx (l' := #[.val (.int x0), .val (.int (3 : Int32)), .val (.ref sROLLBACK_RUNNING), .val (.int (1 : Int32)), .unset, .unset]) (hb hby at_29) rfl ?_
    refine own_aloadN X27 hx (hb hby at_30) rfl rfl ?_
    refine own_virt X27 hx hZ hown (own_w7 hw) (own_w8 hw) (own_w10 hw) (own_w10 hw) (own_w9 hw) (own_w11 hw) (own_w5 hw) (by decide) e27 E_ROLLBACK_RUNNING (hb hby at_31) (by rw [hml]; rfl) own_pd__28_29Z rfl (W := 0) (Nat.le_of_ble_eq_true rfl) (own_isUnfinished l Z a0 hw sROLLBACK_RUNNING gUNFINISHED gUNFINISHED h0 n0 S_UNFINISHED F_ROLLBACK_RUNNING) (by decide) (by decide) (by decide) (by decide) (argsL := []) (rest := []) rfl rfl fun v28 T28 L28 X28 q28 => ?_
    obtain ⟨rfl, M28, e28⟩ := q28
    rw [if_pos rfl]
    have N28 := Fr.app N27 M28
    show own_Fin p e below _ (T28.setTop (mkF m 34 #[.val (.int x0), .val (.int (3 : Int32)), .val (.ref sROLLBACK_RUNNING), .val (.int (1 : Int32)), .unset, .unset] [(.int (1 : Int32))]))
    refine own_istore X28 hx (l' := #[.val (.int x0), .val (.int (3 : Int32)), .val (.ref sROLLBACK_RUNNING), .val (.int (1 : Int32)), .val (.int (1 : Int32)), .unset]) (hb hby at_34) rfl ?_
    refine own_iload X28 hx (hb hby at_36) rfl ?_
    refine own_ifNo X28 hx (hb hby at_38) (by decide) ?_
    refine own_iconst X28 hx (1 : Int32) (hb hby at_41) rfl ?_
    refine own_goto X28 hx 46 (hb hby at_42) (by decide) (by decide) ?_
    refine own_aloadN X28 hx (hb hby at_46) rfl rfl ?_
    refine own_virt X28 hx hZ hown (own_w17 hw) (own_w18 hw) (own_w20 hw) (own_w20 hw) (own_w19 hw) (own_w21 hw) (own_w5 hw) (by decide) e28 E_ROLLBACK_RUNNING (hb hby at_47) (by rw [hml]; rfl) own_pd__28_29Z rfl (W := 1) (Nat.le_of_ble_eq_true rfl) (own_waitsForPerson l Z a0 hw sROLLBACK_RUNNING gWAITING gUNFINISHED h0 n0 S_WAITING F_ROLLBACK_RUNNING) (by decide) (by decide) (by decide) (by decide) (argsL := []) (rest := [(.int (1 : Int32))]) rfl rfl fun v29 T29 L29 X29 q29 => ?_
    obtain ⟨rfl, M29, e29⟩ := q29
    rw [if_neg D_UNFINISHED_WAITING]
    have N29 := Fr.app N28 M29
    show own_Fin p e below _ (T29.setTop (mkF m 50 #[.val (.int x0), .val (.int (3 : Int32)), .val (.ref sROLLBACK_RUNNING), .val (.int (1 : Int32)), .val (.int (1 : Int32)), .unset] [(.int (0 : Int32)), (.int (1 : Int32))]))
    refine own_ifYes X29 hx 57 (hb hby at_50) (by decide) (by decide) (by decide) ?_
    refine own_iconst X29 hx (0 : Int32) (hb hby at_57) rfl ?_
    refine own_iadd X29 hx (hb hby at_58) ?_
    refine own_aloadN X29 hx (hb hby at_59) rfl rfl ?_
    refine own_virt X29 hx hZ hown (own_w24 hw) (own_w25 hw) (own_w27 hw) (own_w27 hw) (own_w26 hw) (own_w28 hw) (own_w5 hw) (by decide) e29 E_ROLLBACK_RUNNING (hb hby at_60) (by rw [hml]; rfl) own_pd__28_29Z rfl (W := 1) (Nat.le_of_ble_eq_true rfl) (own_isFinal l Z a0 hw sROLLBACK_RUNNING gFINAL gUNFINISHED h0 n0 S_FINAL F_ROLLBACK_RUNNING) (by decide) (by decide) (by decide) (by decide) (argsL := []) (rest := [(.int (1 : Int32))]) rfl rfl fun v30 T30 L30 X30 q30 => ?_
    obtain ⟨rfl, M30, e30⟩ := q30
    rw [if_neg D_UNFINISHED_FINAL]
    have N30 := Fr.app N29 M30
    show own_Fin p e below _ (T30.setTop (mkF m 63 #[.val (.int x0), .val (.int (3 : Int32)), .val (.ref sROLLBACK_RUNNING), .val (.int (1 : Int32)), .val (.int (1 : Int32)), .unset] [(.int (0 : Int32)), (.int (1 : Int32))]))
    refine own_ifYes X30 hx 70 (hb hby at_63) (by decide) (by decide) (by decide) ?_
    refine own_iconst X30 hx (0 : Int32) (hb hby at_70) rfl ?_
    refine own_iadd X30 hx (hb hby at_71) ?_
    refine own_istore X30 hx (l' := #[.val (.int x0), .val (.int (3 : Int32)), .val (.ref sROLLBACK_RUNNING), .val (.int (1 : Int32)), .val (.int (1 : Int32)), .val (.int (1 : Int32))]) (hb hby at_72) rfl ?_
    refine own_iload X30 hx (hb hby at_74) rfl ?_
    refine own_iloadN X30 hx (hb hby at_76) rfl ?_
    refine own_icmpNo X30 hx (hb hby at_77) (by decide) ?_
    refine own_iload X30 hx (hb hby at_80) rfl ?_
    refine own_iconst X30 hx (1 : Int32) (hb hby at_82) rfl ?_
    refine own_icmpNo X30 hx (hb hby at_83) (by decide) ?_
    refine own_iconst X30 hx (1 : Int32) (hb hby at_86) rfl ?_
    refine own_goto X30 hx 91 (hb hby at_87) (by decide) (by decide) ?_
    refine own_retN X30 hx (t := .boolean) hret (by simp) (hb hby at_91) hlk (by decide) (by decide) ?_
    exact ⟨rfl, N30⟩
  · skip
    refine own_iloadN X0 hx (hb hby at_5) rfl ?_
    refine own_stat X0 hx hZ hown (own_w0 hw) (own_w1 hw) (own_w3 hw) (own_w2 hw) (by decide) e0 (hb hby at_6) (by rw [hml]; rfl) own_pd__28I_29Lcom_2fexample_2frollfwd_2frollfwd_2fJobState_3b rfl (W := 0) (Nat.le_of_ble_eq_true rfl) (own_pick4 l Z a0 hw sROLLBACK_PAUSED h0 n0 S_ROLLBACK_PAUSED) (by decide) (by decide) (by decide) (by decide) (argsL := [(.int (4 : Int32))]) (rest := []) rfl rfl fun v31 T31 L31 X31 q31 => ?_
    obtain ⟨rfl, M31, e31⟩ := q31
    have N31 := Fr.app N0 M31
    show own_Fin p e below _ (T31.setTop (mkF m 9 #[.val (.int x0), .val (.int (4 : Int32)), .unset, .unset, .unset, .unset] [(.ref sROLLBACK_PAUSED)]))
    refine own_astoreN X31 hx (l' := #[.val (.int x0), .val (.int (4 : Int32)), .val (.ref sROLLBACK_PAUSED), .unset, .unset, .unset]) (hb hby at_9) rfl rfl ?_
    refine own_iloadN X31 hx (hb hby at_10) rfl ?_
    refine own_ifNo X31 hx (hb hby at_11) (by decide) ?_
    refine own_iloadN X31 hx (hb hby at_14) rfl ?_
    refine own_iconst X31 hx (1 : Int32) (hb hby at_15) rfl ?_
    refine own_icmpNo X31 hx (hb hby at_16) (by decide) ?_
    refine own_iloadN X31 hx (hb hby at_19) rfl ?_
    refine own_iconst X31 hx (3 : Int32) (hb hby at_20) rfl ?_
    refine own_icmpYes X31 hx 28 (hb hby at_21) (by decide) (by decide) (by decide) ?_
    refine own_iconst X31 hx (0 : Int32) (hb hby at_28) rfl ?_
    refine own_istoreN X31 hx (l' := #[.val (.int x0), .val (.int (4 : Int32)), .val (.ref sROLLBACK_PAUSED), .val (.int (0 : Int32)), .unset, .unset]) (hb hby at_29) rfl ?_
    refine own_aloadN X31 hx (hb hby at_30) rfl rfl ?_
    refine own_virt X31 hx hZ hown (own_w7 hw) (own_w8 hw) (own_w10 hw) (own_w10 hw) (own_w9 hw) (own_w11 hw) (own_w5 hw) (by decide) e31 E_ROLLBACK_PAUSED (hb hby at_31) (by rw [hml]; rfl) own_pd__28_29Z rfl (W := 0) (Nat.le_of_ble_eq_true rfl) (own_isUnfinished l Z a0 hw sROLLBACK_PAUSED gUNFINISHED gWAITING h0 n0 S_UNFINISHED F_ROLLBACK_PAUSED) (by decide) (by decide) (by decide) (by decide) (argsL := []) (rest := []) rfl rfl fun v32 T32 L32 X32 q32 => ?_
    obtain ⟨rfl, M32, e32⟩ := q32
    rw [if_neg D_WAITING_UNFINISHED]
    have N32 := Fr.app N31 M32
    show own_Fin p e below _ (T32.setTop (mkF m 34 #[.val (.int x0), .val (.int (4 : Int32)), .val (.ref sROLLBACK_PAUSED), .val (.int (0 : Int32)), .unset, .unset] [(.int (0 : Int32))]))
    refine own_istore X32 hx (l' := #[.val (.int x0), .val (.int (4 : Int32)), .val (.ref sROLLBACK_PAUSED), .val (.int (0 : Int32)), .val (.int (0 : Int32)), .unset]) (hb hby at_34) rfl ?_
    refine own_iload X32 hx (hb hby at_36) rfl ?_
    refine own_ifYes X32 hx 45 (hb hby at_38) (by decide) (by decide) (by decide) ?_
    refine own_iconst X32 hx (0 : Int32) (hb hby at_45) rfl ?_
    refine own_aloadN X32 hx (hb hby at_46) rfl rfl ?_
    refine own_virt X32 hx hZ hown (own_w17 hw) (own_w18 hw) (own_w20 hw) (own_w20 hw) (own_w19 hw) (own_w21 hw) (own_w5 hw) (by decide) e32 E_ROLLBACK_PAUSED (hb hby at_47) (by rw [hml]; rfl) own_pd__28_29Z rfl (W := 1) (Nat.le_of_ble_eq_true rfl) (own_waitsForPerson l Z a0 hw sROLLBACK_PAUSED gWAITING gWAITING h0 n0 S_WAITING F_ROLLBACK_PAUSED) (by decide) (by decide) (by decide) (by decide) (argsL := []) (rest := [(.int (0 : Int32))]) rfl rfl fun v33 T33 L33 X33 q33 => ?_
    obtain ⟨rfl, M33, e33⟩ := q33
    rw [if_pos rfl]
    have N33 := Fr.app N32 M33
    show own_Fin p e below _ (T33.setTop (mkF m 50 #[.val (.int x0), .val (.int (4 : Int32)), .val (.ref sROLLBACK_PAUSED), .val (.int (0 : Int32)), .val (.int (0 : Int32)), .unset] [(.int (1 : Int32)), (.int (0 : Int32))]))
    refine own_ifNo X33 hx (hb hby at_50) (by decide) ?_
    refine own_iconst X33 hx (1 : Int32) (hb hby at_53) rfl ?_
    refine own_goto X33 hx 58 (hb hby at_54) (by decide) (by decide) ?_
    refine own_iadd X33 hx (hb hby at_58) ?_
    refine own_aloadN X33 hx (hb hby at_59) rfl rfl ?_
    refine own_virt X33 hx hZ hown (own_w24 hw) (own_w25 hw) (own_w27 hw) (own_w27 hw) (own_w26 hw) (own_w28 hw) (own_w5 hw) (by decide) e33 E_ROLLBACK_PAUSED (hb hby at_60) (by rw [hml]; rfl) own_pd__28_29Z rfl (W := 1) (Nat.le_of_ble_eq_true rfl) (own_isFinal l Z a0 hw sROLLBACK_PAUSED gFINAL gWAITING h0 n0 S_FINAL F_ROLLBACK_PAUSED) (by decide) (by decide) (by decide) (by decide) (argsL := []) (rest := [(.int (1 : Int32))]) rfl rfl fun v34 T34 L34 X34 q34 => ?_
    obtain ⟨rfl, M34, e34⟩ := q34
    rw [if_neg D_WAITING_FINAL]
    have N34 := Fr.app N33 M34
    show own_Fin p e below _ (T34.setTop (mkF m 63 #[.val (.int x0), .val (.int (4 : Int32)), .val (.ref sROLLBACK_PAUSED), .val (.int (0 : Int32)), .val (.int (0 : Int32)), .unset] [(.int (0 : Int32)), (.int (1 : Int32))]))
    refine own_ifYes X34 hx 70 (hb hby at_63) (by decide) (by decide) (by decide) ?_
    refine own_iconst X34 hx (0 : Int32) (hb hby at_70) rfl ?_
    refine own_iadd X34 hx (hb hby at_71) ?_
    refine own_istore X34 hx (l' := #[.val (.int x0), .val (.int (4 : Int32)), .val (.ref sROLLBACK_PAUSED), .val (.int (0 : Int32)), .val (.int (0 : Int32)), .val (.int (1 : Int32))]) (hb hby at_72) rfl ?_
    refine own_iload X34 hx (hb hby at_74) rfl ?_
    refine own_iloadN X34 hx (hb hby at_76) rfl ?_
    refine own_icmpNo X34 hx (hb hby at_77) (by decide) ?_
    refine own_iload X34 hx (hb hby at_80) rfl ?_
    refine own_iconst X34 hx (1 : Int32) (hb hby at_82) rfl ?_
    refine own_icmpNo X34 hx (hb hby at_83) (by decide) ?_
    refine own_iconst X34 hx (1 : Int32) (hb hby at_86) rfl ?_
    refine own_goto X34 hx 91 (hb hby at_87) (by decide) (by decide) ?_
    refine own_retN X34 hx (t := .boolean) hret (by simp) (hb hby at_91) hlk (by decide) (by decide) ?_
    exact ⟨rfl, N34⟩
  · skip
    refine own_iloadN X0 hx (hb hby at_5) rfl ?_
    refine own_stat X0 hx hZ hown (own_w0 hw) (own_w1 hw) (own_w3 hw) (own_w2 hw) (by decide) e0 (hb hby at_6) (by rw [hml]; rfl) own_pd__28I_29Lcom_2fexample_2frollfwd_2frollfwd_2fJobState_3b rfl (W := 0) (Nat.le_of_ble_eq_true rfl) (own_pick5 l Z a0 hw sCOMPLETED h0 n0 S_COMPLETED) (by decide) (by decide) (by decide) (by decide) (argsL := [(.int (5 : Int32))]) (rest := []) rfl rfl fun v35 T35 L35 X35 q35 => ?_
    obtain ⟨rfl, M35, e35⟩ := q35
    have N35 := Fr.app N0 M35
    show own_Fin p e below _ (T35.setTop (mkF m 9 #[.val (.int x0), .val (.int (5 : Int32)), .unset, .unset, .unset, .unset] [(.ref sCOMPLETED)]))
    refine own_astoreN X35 hx (l' := #[.val (.int x0), .val (.int (5 : Int32)), .val (.ref sCOMPLETED), .unset, .unset, .unset]) (hb hby at_9) rfl rfl ?_
    refine own_iloadN X35 hx (hb hby at_10) rfl ?_
    refine own_ifNo X35 hx (hb hby at_11) (by decide) ?_
    refine own_iloadN X35 hx (hb hby at_14) rfl ?_
    refine own_iconst X35 hx (1 : Int32) (hb hby at_15) rfl ?_
    refine own_icmpNo X35 hx (hb hby at_16) (by decide) ?_
    refine own_iloadN X35 hx (hb hby at_19) rfl ?_
    refine own_iconst X35 hx (3 : Int32) (hb hby at_20) rfl ?_
    refine own_icmpYes X35 hx 28 (hb hby at_21) (by decide) (by decide) (by decide) ?_
    refine own_iconst X35 hx (0 : Int32) (hb hby at_28) rfl ?_
    refine own_istoreN X35 hx (l' := #[.val (.int x0), .val (.int (5 : Int32)), .val (.ref sCOMPLETED), .val (.int (0 : Int32)), .unset, .unset]) (hb hby at_29) rfl ?_
    refine own_aloadN X35 hx (hb hby at_30) rfl rfl ?_
    refine own_virt X35 hx hZ hown (own_w7 hw) (own_w8 hw) (own_w10 hw) (own_w10 hw) (own_w9 hw) (own_w11 hw) (own_w5 hw) (by decide) e35 E_COMPLETED (hb hby at_31) (by rw [hml]; rfl) own_pd__28_29Z rfl (W := 0) (Nat.le_of_ble_eq_true rfl) (own_isUnfinished l Z a0 hw sCOMPLETED gUNFINISHED gFINAL h0 n0 S_UNFINISHED F_COMPLETED) (by decide) (by decide) (by decide) (by decide) (argsL := []) (rest := []) rfl rfl fun v36 T36 L36 X36 q36 => ?_
    obtain ⟨rfl, M36, e36⟩ := q36
    rw [if_neg D_FINAL_UNFINISHED]
    have N36 := Fr.app N35 M36
    show own_Fin p e below _ (T36.setTop (mkF m 34 #[.val (.int x0), .val (.int (5 : Int32)), .val (.ref sCOMPLETED), .val (.int (0 : Int32)), .unset, .unset] [(.int (0 : Int32))]))
    refine own_istore X36 hx (l' := #[.val (.int x0), .val (.int (5 : Int32)), .val (.ref sCOMPLETED), .val (.int (0 : Int32)), .val (.int (0 : Int32)), .unset]) (hb hby at_34) rfl ?_
    refine own_iload X36 hx (hb hby at_36) rfl ?_
    refine own_ifYes X36 hx 45 (hb hby at_38) (by decide) (by decide) (by decide) ?_
    refine own_iconst X36 hx (0 : Int32) (hb hby at_45) rfl ?_
    refine own_aloadN X36 hx (hb hby at_46) rfl rfl ?_
    refine own_virt X36 hx hZ hown (own_w17 hw) (own_w18 hw) (own_w20 hw) (own_w20 hw) (own_w19 hw) (own_w21 hw) (own_w5 hw) (by decide) e36 E_COMPLETED (hb hby at_47) (by rw [hml]; rfl) own_pd__28_29Z rfl (W := 1) (Nat.le_of_ble_eq_true rfl) (own_waitsForPerson l Z a0 hw sCOMPLETED gWAITING gFINAL h0 n0 S_WAITING F_COMPLETED) (by decide) (by decide) (by decide) (by decide) (argsL := []) (rest := [(.int (0 : Int32))]) rfl rfl fun v37 T37 L37 X37 q37 => ?_
    obtain ⟨rfl, M37, e37⟩ := q37
    rw [if_neg D_FINAL_WAITING]
    have N37 := Fr.app N36 M37
    show own_Fin p e below _ (T37.setTop (mkF m 50 #[.val (.int x0), .val (.int (5 : Int32)), .val (.ref sCOMPLETED), .val (.int (0 : Int32)), .val (.int (0 : Int32)), .unset] [(.int (0 : Int32)), (.int (0 : Int32))]))
    refine own_ifYes X37 hx 57 (hb hby at_50) (by decide) (by decide) (by decide) ?_
    refine own_iconst X37 hx (0 : Int32) (hb hby at_57) rfl ?_
    refine own_iadd X37 hx (hb hby at_58) ?_
    refine own_aloadN X37 hx (hb hby at_59) rfl rfl ?_
    refine own_virt X37 hx hZ hown (own_w24 hw) (own_w25 hw) (own_w27 hw) (own_w27 hw) (own_w26 hw) (own_w28 hw) (own_w5 hw) (by decide) e37 E_COMPLETED (hb hby at_60) (by rw [hml]; rfl) own_pd__28_29Z rfl (W := 1) (Nat.le_of_ble_eq_true rfl) (own_isFinal l Z a0 hw sCOMPLETED gFINAL gFINAL h0 n0 S_FINAL F_COMPLETED) (by decide) (by decide) (by decide) (by decide) (argsL := []) (rest := [(.int (0 : Int32))]) rfl rfl fun v38 T38 L38 X38 q38 => ?_
    obtain ⟨rfl, M38, e38⟩ := q38
    rw [if_pos rfl]
    have N38 := Fr.app N37 M38
    show own_Fin p e below _ (T38.setTop (mkF m 63 #[.val (.int x0), .val (.int (5 : Int32)), .val (.ref sCOMPLETED), .val (.int (0 : Int32)), .val (.int (0 : Int32)), .unset] [(.int (1 : Int32)), (.int (0 : Int32))]))
    refine own_ifNo X38 hx (hb hby at_63) (by decide) ?_
    refine own_iconst X38 hx (1 : Int32) (hb hby at_66) rfl ?_
    refine own_goto X38 hx 71 (hb hby at_67) (by decide) (by decide) ?_
    refine own_iadd X38 hx (hb hby at_71) ?_
    refine own_istore X38 hx (l' := #[.val (.int x0), .val (.int (5 : Int32)), .val (.ref sCOMPLETED), .val (.int (0 : Int32)), .val (.int (0 : Int32)), .val (.int (1 : Int32))]) (hb hby at_72) rfl ?_
    refine own_iload X38 hx (hb hby at_74) rfl ?_
    refine own_iloadN X38 hx (hb hby at_76) rfl ?_
    refine own_icmpNo X38 hx (hb hby at_77) (by decide) ?_
    refine own_iload X38 hx (hb hby at_80) rfl ?_
    refine own_iconst X38 hx (1 : Int32) (hb hby at_82) rfl ?_
    refine own_icmpNo X38 hx (hb hby at_83) (by decide) ?_
    refine own_iconst X38 hx (1 : Int32) (hb hby at_86) rfl ?_
    refine own_goto X38 hx 91 (hb hby at_87) (by decide) (by decide) ?_
    refine own_retN X38 hx (t := .boolean) hret (by simp) (hb hby at_91) hlk (by decide) (by decide) ?_
    exact ⟨rfl, N38⟩
  · skip
    refine own_iloadN X0 hx (hb hby at_5) rfl ?_
    refine own_stat X0 hx hZ hown (own_w0 hw) (own_w1 hw) (own_w3 hw) (own_w2 hw) (by decide) e0 (hb hby at_6) (by rw [hml]; rfl) own_pd__28I_29Lcom_2fexample_2frollfwd_2frollfwd_2fJobState_3b rfl (W := 0) (Nat.le_of_ble_eq_true rfl) (own_pick6 l Z a0 hw sROLLBACK_COMPLETED h0 n0 S_ROLLBACK_COMPLETED) (by decide) (by decide) (by decide) (by decide) (argsL := [(.int (6 : Int32))]) (rest := []) rfl rfl fun v39 T39 L39 X39 q39 => ?_
    obtain ⟨rfl, M39, e39⟩ := q39
    have N39 := Fr.app N0 M39
    show own_Fin p e below _ (T39.setTop (mkF m 9 #[.val (.int x0), .val (.int (6 : Int32)), .unset, .unset, .unset, .unset] [(.ref sROLLBACK_COMPLETED)]))
    refine own_astoreN X39 hx (l' := #[.val (.int x0), .val (.int (6 : Int32)), .val (.ref sROLLBACK_COMPLETED), .unset, .unset, .unset]) (hb hby at_9) rfl rfl ?_
    refine own_iloadN X39 hx (hb hby at_10) rfl ?_
    refine own_ifNo X39 hx (hb hby at_11) (by decide) ?_
    refine own_iloadN X39 hx (hb hby at_14) rfl ?_
    refine own_iconst X39 hx (1 : Int32) (hb hby at_15) rfl ?_
    refine own_icmpNo X39 hx (hb hby at_16) (by decide) ?_
    refine own_iloadN X39 hx (hb hby at_19) rfl ?_
    refine own_iconst X39 hx (3 : Int32) (hb hby at_20) rfl ?_
    refine own_icmpYes X39 hx 28 (hb hby at_21) (by decide) (by decide) (by decide) ?_
    refine own_iconst X39 hx (0 : Int32) (hb hby at_28) rfl ?_
    refine own_istoreN X39 hx (l' := #[.val (.int x0), .val (.int (6 : Int32)), .val (.ref sROLLBACK_COMPLETED), .val (.int (0 : Int32)), .unset, .unset]) (hb hby at_29) rfl ?_
    refine own_aloadN X39 hx (hb hby at_30) rfl rfl ?_
    refine own_virt X39 hx hZ hown (own_w7 hw) (own_w8 hw) (own_w10 hw) (own_w10 hw) (own_w9 hw) (own_w11 hw) (own_w5 hw) (by decide) e39 E_ROLLBACK_COMPLETED (hb hby at_31) (by rw [hml]; rfl) own_pd__28_29Z rfl (W := 0) (Nat.le_of_ble_eq_true rfl) (own_isUnfinished l Z a0 hw sROLLBACK_COMPLETED gUNFINISHED gFINAL h0 n0 S_UNFINISHED F_ROLLBACK_COMPLETED) (by decide) (by decide) (by decide) (by decide) (argsL := []) (rest := []) rfl rfl fun v40 T40 L40 X40 q40 => ?_
    obtain ⟨rfl, M40, e40⟩ := q40
    rw [if_neg D_FINAL_UNFINISHED]
    have N40 := Fr.app N39 M40
    show own_Fin p e below _ (T40.setTop (mkF m 34 #[.val (.int x0), .val (.int (6 : Int32)), .val (.ref sROLLBACK_COMPLETED), .val (.int (0 : Int32)), .unset, .unset] [(.int (0 : Int32))]))
    refine own_istore X40 hx (l' := #[.val (.int x0), .val (.int (6 : Int32)), .val (.ref sROLLBACK_COMPLETED), .val (.int (0 : Int32)), .val (.int (0 : Int32)), .unset]) (hb hby at_34) rfl ?_
    refine own_iload X40 hx (hb hby at_36) rfl ?_
    refine own_ifYes X40 hx 45 (hb hby at_38) (by decide) (by decide) (by decide) ?_
    refine own_iconst X40 hx (0 : Int32) (hb hby at_45) rfl ?_
    refine own_aloadN X40 hx (hb hby at_46) rfl rfl ?_
    refine own_virt X40 hx hZ hown (own_w17 hw) (own_w18 hw) (own_w20 hw) (own_w20 hw) (own_w19 hw) (own_w21 hw) (own_w5 hw) (by decide) e40 E_ROLLBACK_COMPLETED (hb hby at_47) (by rw [hml]; rfl) own_pd__28_29Z rfl (W := 1) (Nat.le_of_ble_eq_true rfl) (own_waitsForPerson l Z a0 hw sROLLBACK_COMPLETED gWAITING gFINAL h0 n0 S_WAITING F_ROLLBACK_COMPLETED) (by decide) (by decide) (by decide) (by decide) (argsL := []) (rest := [(.int (0 : Int32))]) rfl rfl fun v41 T41 L41 X41 q41 => ?_
    obtain ⟨rfl, M41, e41⟩ := q41
    rw [if_neg D_FINAL_WAITING]
    have N41 := Fr.app N40 M41
    show own_Fin p e below _ (T41.setTop (mkF m 50 #[.val (.int x0), .val (.int (6 : Int32)), .val (.ref sROLLBACK_COMPLETED), .val (.int (0 : Int32)), .val (.int (0 : Int32)), .unset] [(.int (0 : Int32)), (.int (0 : Int32))]))
    refine own_ifYes X41 hx 57 (hb hby at_50) (by decide) (by decide) (by decide) ?_
    refine own_iconst X41 hx (0 : Int32) (hb hby at_57) rfl ?_
    refine own_iadd X41 hx (hb hby at_58) ?_
    refine own_aloadN X41 hx (hb hby at_59) rfl rfl ?_
    refine own_virt X41 hx hZ hown (own_w24 hw) (own_w25 hw) (own_w27 hw) (own_w27 hw) (own_w26 hw) (own_w28 hw) (own_w5 hw) (by decide) e41 E_ROLLBACK_COMPLETED (hb hby at_60) (by rw [hml]; rfl) own_pd__28_29Z rfl (W := 1) (Nat.le_of_ble_eq_true rfl) (own_isFinal l Z a0 hw sROLLBACK_COMPLETED gFINAL gFINAL h0 n0 S_FINAL F_ROLLBACK_COMPLETED) (by decide) (by decide) (by decide) (by decide) (argsL := []) (rest := [(.int (0 : Int32))]) rfl rfl fun v42 T42 L42 X42 q42 => ?_
    obtain ⟨rfl, M42, e42⟩ := q42
    rw [if_pos rfl]
    have N42 := Fr.app N41 M42
    show own_Fin p e below _ (T42.setTop (mkF m 63 #[.val (.int x0), .val (.int (6 : Int32)), .val (.ref sROLLBACK_COMPLETED), .val (.int (0 : Int32)), .val (.int (0 : Int32)), .unset] [(.int (1 : Int32)), (.int (0 : Int32))]))
    refine own_ifNo X42 hx (hb hby at_63) (by decide) ?_
    refine own_iconst X42 hx (1 : Int32) (hb hby at_66) rfl ?_
    refine own_goto X42 hx 71 (hb hby at_67) (by decide) (by decide) ?_
    refine own_iadd X42 hx (hb hby at_71) ?_
    refine own_istore X42 hx (l' := #[.val (.int x0), .val (.int (6 : Int32)), .val (.ref sROLLBACK_COMPLETED), .val (.int (0 : Int32)), .val (.int (0 : Int32)), .val (.int (1 : Int32))]) (hb hby at_72) rfl ?_
    refine own_iload X42 hx (hb hby at_74) rfl ?_
    refine own_iloadN X42 hx (hb hby at_76) rfl ?_
    refine own_icmpNo X42 hx (hb hby at_77) (by decide) ?_
    refine own_iload X42 hx (hb hby at_80) rfl ?_
    refine own_iconst X42 hx (1 : Int32) (hb hby at_82) rfl ?_
    refine own_icmpNo X42 hx (hb hby at_83) (by decide) ?_
    refine own_iconst X42 hx (1 : Int32) (hb hby at_86) rfl ?_
    refine own_goto X42 hx 91 (hb hby at_87) (by decide) (by decide) ?_
    refine own_retN X42 hx (t := .boolean) hret (by simp) (hb hby at_91) hlk (by decide) (by decide) ?_
    exact ⟨rfl, N42⟩
  · skip
    refine own_iloadN X0 hx (hb hby at_5) rfl ?_
    refine own_stat X0 hx hZ hown (own_w0 hw) (own_w1 hw) (own_w3 hw) (own_w2 hw) (by decide) e0 (hb hby at_6) (by rw [hml]; rfl) own_pd__28I_29Lcom_2fexample_2frollfwd_2frollfwd_2fJobState_3b rfl (W := 0) (Nat.le_of_ble_eq_true rfl) (own_pick7 l Z a0 hw sCANCELLED h0 n0 S_CANCELLED) (by decide) (by decide) (by decide) (by decide) (argsL := [(.int (7 : Int32))]) (rest := []) rfl rfl fun v43 T43 L43 X43 q43 => ?_
    obtain ⟨rfl, M43, e43⟩ := q43
    have N43 := Fr.app N0 M43
    show own_Fin p e below _ (T43.setTop (mkF m 9 #[.val (.int x0), .val (.int (7 : Int32)), .unset, .unset, .unset, .unset] [(.ref sCANCELLED)]))
    refine own_astoreN X43 hx (l' := #[.val (.int x0), .val (.int (7 : Int32)), .val (.ref sCANCELLED), .unset, .unset, .unset]) (hb hby at_9) rfl rfl ?_
    refine own_iloadN X43 hx (hb hby at_10) rfl ?_
    refine own_ifNo X43 hx (hb hby at_11) (by decide) ?_
    refine own_iloadN X43 hx (hb hby at_14) rfl ?_
    refine own_iconst X43 hx (1 : Int32) (hb hby at_15) rfl ?_
    refine own_icmpNo X43 hx (hb hby at_16) (by decide) ?_
    refine own_iloadN X43 hx (hb hby at_19) rfl ?_
    refine own_iconst X43 hx (3 : Int32) (hb hby at_20) rfl ?_
    refine own_icmpYes X43 hx 28 (hb hby at_21) (by decide) (by decide) (by decide) ?_
    refine own_iconst X43 hx (0 : Int32) (hb hby at_28) rfl ?_
    refine own_istoreN X43 hx (l' := #[.val (.int x0), .val (.int (7 : Int32)), .val (.ref sCANCELLED), .val (.int (0 : Int32)), .unset, .unset]) (hb hby at_29) rfl ?_
    refine own_aloadN X43 hx (hb hby at_30) rfl rfl ?_
    refine own_virt X43 hx hZ hown (own_w7 hw) (own_w8 hw) (own_w10 hw) (own_w10 hw) (own_w9 hw) (own_w11 hw) (own_w5 hw) (by decide) e43 E_CANCELLED (hb hby at_31) (by rw [hml]; rfl) own_pd__28_29Z rfl (W := 0) (Nat.le_of_ble_eq_true rfl) (own_isUnfinished l Z a0 hw sCANCELLED gUNFINISHED gFINAL h0 n0 S_UNFINISHED F_CANCELLED) (by decide) (by decide) (by decide) (by decide) (argsL := []) (rest := []) rfl rfl fun v44 T44 L44 X44 q44 => ?_
    obtain ⟨rfl, M44, e44⟩ := q44
    rw [if_neg D_FINAL_UNFINISHED]
    have N44 := Fr.app N43 M44
    show own_Fin p e below _ (T44.setTop (mkF m 34 #[.val (.int x0), .val (.int (7 : Int32)), .val (.ref sCANCELLED), .val (.int (0 : Int32)), .unset, .unset] [(.int (0 : Int32))]))
    refine own_istore X44 hx (l' := #[.val (.int x0), .val (.int (7 : Int32)), .val (.ref sCANCELLED), .val (.int (0 : Int32)), .val (.int (0 : Int32)), .unset]) (hb hby at_34) rfl ?_
    refine own_iload X44 hx (hb hby at_36) rfl ?_
    refine own_ifYes X44 hx 45 (hb hby at_38) (by decide) (by decide) (by decide) ?_
    refine own_iconst X44 hx (0 : Int32) (hb hby at_45) rfl ?_
    refine own_aloadN X44 hx (hb hby at_46) rfl rfl ?_
    refine own_virt X44 hx hZ hown (own_w17 hw) (own_w18 hw) (own_w20 hw) (own_w20 hw) (own_w19 hw) (own_w21 hw) (own_w5 hw) (by decide) e44 E_CANCELLED (hb hby at_47) (by rw [hml]; rfl) own_pd__28_29Z rfl (W := 1) (Nat.le_of_ble_eq_true rfl) (own_waitsForPerson l Z a0 hw sCANCELLED gWAITING gFINAL h0 n0 S_WAITING F_CANCELLED) (by decide) (by decide) (by decide) (by decide) (argsL := []) (rest := [(.int (0 : Int32))]) rfl rfl fun v45 T45 L45 X45 q45 => ?_
    obtain ⟨rfl, M45, e45⟩ := q45
    rw [if_neg D_FINAL_WAITING]
    have N45 := Fr.app N44 M45
    show own_Fin p e below _ (T45.setTop (mkF m 50 #[.val (.int x0), .val (.int (7 : Int32)), .val (.ref sCANCELLED), .val (.int (0 : Int32)), .val (.int (0 : Int32)), .unset] [(.int (0 : Int32)), (.int (0 : Int32))]))
    refine own_ifYes X45 hx 57 (hb hby at_50) (by decide) (by decide) (by decide) ?_
    refine own_iconst X45 hx (0 : Int32) (hb hby at_57) rfl ?_
    refine own_iadd X45 hx (hb hby at_58) ?_
    refine own_aloadN X45 hx (hb hby at_59) rfl rfl ?_
    refine own_virt X45 hx hZ hown (own_w24 hw) (own_w25 hw) (own_w27 hw) (own_w27 hw) (own_w26 hw) (own_w28 hw) (own_w5 hw) (by decide) e45 E_CANCELLED (hb hby at_60) (by rw [hml]; rfl) own_pd__28_29Z rfl (W := 1) (Nat.le_of_ble_eq_true rfl) (own_isFinal l Z a0 hw sCANCELLED gFINAL gFINAL h0 n0 S_FINAL F_CANCELLED) (by decide) (by decide) (by decide) (by decide) (argsL := []) (rest := [(.int (0 : Int32))]) rfl rfl fun v46 T46 L46 X46 q46 => ?_
    obtain ⟨rfl, M46, e46⟩ := q46
    rw [if_pos rfl]
    have N46 := Fr.app N45 M46
    show own_Fin p e below _ (T46.setTop (mkF m 63 #[.val (.int x0), .val (.int (7 : Int32)), .val (.ref sCANCELLED), .val (.int (0 : Int32)), .val (.int (0 : Int32)), .unset] [(.int (1 : Int32)), (.int (0 : Int32))]))
    refine own_ifNo X46 hx (hb hby at_63) (by decide) ?_
    refine own_iconst X46 hx (1 : Int32) (hb hby at_66) rfl ?_
    refine own_goto X46 hx 71 (hb hby at_67) (by decide) (by decide) ?_
    refine own_iadd X46 hx (hb hby at_71) ?_
    refine own_istore X46 hx (l' := #[.val (.int x0), .val (.int (7 : Int32)), .val (.ref sCANCELLED), .val (.int (0 : Int32)), .val (.int (0 : Int32)), .val (.int (1 : Int32))]) (hb hby at_72) rfl ?_
    refine own_iload X46 hx (hb hby at_74) rfl ?_
    refine own_iloadN X46 hx (hb hby at_76) rfl ?_
    refine own_icmpNo X46 hx (hb hby at_77) (by decide) ?_
    refine own_iload X46 hx (hb hby at_80) rfl ?_
    refine own_iconst X46 hx (1 : Int32) (hb hby at_82) rfl ?_
    refine own_icmpNo X46 hx (hb hby at_83) (by decide) ?_
    refine own_iconst X46 hx (1 : Int32) (hb hby at_86) rfl ?_
    refine own_goto X46 hx 91 (hb hby at_87) (by decide) (by decide) ?_
    refine own_retN X46 hx (t := .boolean) hret (by simp) (hb hby at_91) hlk (by decide) (by decide) ?_
    exact ⟨rfl, N46⟩
set_option maxRecDepth 65536 in
set_option maxHeartbeats 40000000 in
theorem own_comes {Post : Tables → Env → Array Value → State → Outcome → State → Prop} (hpost : ∀ tb e args s v u, (limb_1_1.after args s (.returned v) u = true ∧ limb_1_2.after args s (.returned v) u = true) → FrameEnd s (.returned v) u (Jvm.fieldLocs frame_1_writes args s ++ Jvm.arrayLocs frame_1_arrays args s ++ Jvm.staticLocs frame_1_statics s) 0 0 → Post tb e args s (.returned v) u) :
    ArmFor flags0 classFile x code maxLocals ret World_1 tables_1 room_1 Calls_1 rest_1 Pre_1 Post := by
  intro l hfl _ _ p e ha hc hk s m args below hf hA hF happ hP
  obtain ⟨hcalls, hrest, hpre⟩ := hP
  obtain ⟨-, -, -, hnamed, -, -, -, hat⟩ := (Spec.applies_iff hf).mp happ
  obtain ⟨hg, hn⟩ := and_e (Cond.before_iff.mp (show (Jvm.Cond.and given_1 narrow_1).before args s = true from hpre))
  obtain ⟨hcount, hgs⟩ := and_e hg
  obtain ⟨w0, rfl⟩ : ∃ w0 : Value, args = #[w0] := by
    have hs : args.size = 1 := by simpa [Cond.value, given_1] using hcount
    obtain ⟨L⟩ := args
    match L, hs with
    | [w0], _ => exact ⟨w0, rfl⟩
  have hw := fun d (hd : d ∈ tables_1) => atoms_spec (ws := Jvm.Cond.code x code maxLocals ret :: tables_1) hat d (List.mem_cons_of_mem _ hd)
  have hfit : Fit s := fun {y c} hc i hi => by
    obtain ⟨ha, rfl⟩ := Array.getElem?_eq_some_iff.mp hc
    have q := List.all_eq_true.mp ((Array.all_eq_true_iff_forall_mem.mp hF) _ (Array.getElem_mem ha)) i (List.mem_range.mpr hi)
    simpa [Array.getElem?_eq_getElem hi] using q
  obtain ⟨i0, ei0⟩ := is_v hgs
  obtain rfl : w0 = (.int i0) := Option.some.inj ei0
  obtain ⟨n0, t0⟩ := and_e hn
  obtain ⟨n1, t1⟩ := and_e t0
  obtain ⟨n2, t2⟩ := and_e t1
  obtain ⟨n3, t3⟩ := and_e t2
  obtain ⟨n4, t4⟩ := and_e t3
  obtain ⟨n5, t5⟩ := and_e t4
  obtain ⟨n6, t6⟩ := and_e t5
  obtain ⟨n7, t7⟩ := and_e t6
  obtain ⟨n8, t8⟩ := and_e t7
  obtain ⟨n9, t9⟩ := and_e t8
  obtain ⟨n10, t10⟩ := and_e t9
  obtain ⟨n11, t11⟩ := and_e t10
  obtain ⟨n12, t12⟩ := and_e t11
  obtain ⟨n13, t13⟩ := and_e t12
  obtain ⟨n14, t14⟩ := and_e t13
  obtain ⟨n15, t15⟩ := and_e t14
  obtain ⟨n16, t16⟩ := and_e t15
  obtain ⟨n17, t17⟩ := and_e t16
  obtain ⟨n18, t18⟩ := and_e t17
  obtain ⟨n19, t19⟩ := and_e t18
  obtain ⟨n20, t20⟩ := and_e t19
  have n21 := t20
  obtain ⟨sQUEUED, ev_QUEUED, E_QUEUED⟩ := own_exa n0
  have S_QUEUED := Sta.start ev_QUEUED (Or.inr ⟨(own_w5 hw), (own_w6 hw)⟩)
  obtain ⟨gUNFINISHED, ev_UNFINISHED, E_UNFINISHED⟩ := own_exa n1
  have S_UNFINISHED := Sta.start ev_UNFINISHED (Or.inr ⟨(own_w14 hw), (own_w15 hw)⟩)
  obtain ⟨gWAITING, ev_WAITING, E_WAITING⟩ := own_exa n3
  have S_WAITING := Sta.start ev_WAITING (Or.inr ⟨(own_w14 hw), (own_w23 hw)⟩)
  obtain ⟨gFINAL, ev_FINAL, E_FINAL⟩ := own_exa n6
  have S_FINAL := Sta.start ev_FINAL (Or.inr ⟨(own_w14 hw), (own_w30 hw)⟩)
  obtain ⟨sROLLBACK_RUNNING, ev_ROLLBACK_RUNNING, E_ROLLBACK_RUNNING⟩ := own_exa n8
  have S_ROLLBACK_RUNNING := Sta.start ev_ROLLBACK_RUNNING (Or.inr ⟨(own_w5 hw), (own_w32 hw)⟩)
  obtain ⟨sROLLBACK_COMPLETED, ev_ROLLBACK_COMPLETED, E_ROLLBACK_COMPLETED⟩ := own_exa n10
  have S_ROLLBACK_COMPLETED := Sta.start ev_ROLLBACK_COMPLETED (Or.inr ⟨(own_w5 hw), (own_w34 hw)⟩)
  obtain ⟨sCANCELLED, ev_CANCELLED, E_CANCELLED⟩ := own_exa n12
  have S_CANCELLED := Sta.start ev_CANCELLED (Or.inr ⟨(own_w5 hw), (own_w36 hw)⟩)
  obtain ⟨sPAUSED, ev_PAUSED, E_PAUSED⟩ := own_exa n14
  have S_PAUSED := Sta.start ev_PAUSED (Or.inr ⟨(own_w5 hw), (own_w38 hw)⟩)
  obtain ⟨sRUNNING, ev_RUNNING, E_RUNNING⟩ := own_exa n16
  have S_RUNNING := Sta.start ev_RUNNING (Or.inr ⟨(own_w5 hw), (own_w40 hw)⟩)
  obtain ⟨sROLLBACK_PAUSED, ev_ROLLBACK_PAUSED, E_ROLLBACK_PAUSED⟩ := own_exa n18
  have S_ROLLBACK_PAUSED := Sta.start ev_ROLLBACK_PAUSED (Or.inr ⟨(own_w5 hw), (own_w42 hw)⟩)
  obtain ⟨sCOMPLETED, ev_COMPLETED, E_COMPLETED⟩ := own_exa n20
  have S_COMPLETED := Sta.start ev_COMPLETED (Or.inr ⟨(own_w5 hw), (own_w44 hw)⟩)
  have F_stage_QUEUED := own_fld ev_QUEUED (own_eqR ev_UNFINISHED n2)
  have F_ordinal_UNFINISHED := own_fld ev_UNFINISHED (own_eqI n4)
  have F_ordinal_WAITING := own_fld ev_WAITING (own_eqI n5)
  have F_ordinal_FINAL := own_fld ev_FINAL (own_eqI n7)
  have F_stage_ROLLBACK_RUNNING := own_fld ev_ROLLBACK_RUNNING (own_eqR ev_UNFINISHED n9)
  have F_stage_ROLLBACK_COMPLETED := own_fld ev_ROLLBACK_COMPLETED (own_eqR ev_FINAL n11)
  have F_stage_CANCELLED := own_fld ev_CANCELLED (own_eqR ev_FINAL n13)
  have F_stage_PAUSED := own_fld ev_PAUSED (own_eqR ev_WAITING n15)
  have F_stage_RUNNING := own_fld ev_RUNNING (own_eqR ev_UNFINISHED n17)
  have F_stage_ROLLBACK_PAUSED := own_fld ev_ROLLBACK_PAUSED (own_eqR ev_WAITING n19)
  have F_stage_COMPLETED := own_fld ev_COMPLETED (own_eqR ev_FINAL n21)
  have D_UNFINISHED_WAITING := Fld.ne F_ordinal_UNFINISHED F_ordinal_WAITING (by decide)
  have D_UNFINISHED_FINAL := Fld.ne F_ordinal_UNFINISHED F_ordinal_FINAL (by decide)
  have D_WAITING_UNFINISHED := Fld.ne F_ordinal_WAITING F_ordinal_UNFINISHED (by decide)
  have D_WAITING_FINAL := Fld.ne F_ordinal_WAITING F_ordinal_FINAL (by decide)
  have D_FINAL_UNFINISHED := Fld.ne F_ordinal_FINAL F_ordinal_UNFINISHED (by decide)
  have D_FINAL_WAITING := Fld.ne F_ordinal_FINAL F_ordinal_WAITING (by decide)
  have M := own_law l s _ hw i0 sQUEUED sRUNNING sPAUSED sROLLBACK_RUNNING sROLLBACK_PAUSED sCOMPLETED sROLLBACK_COMPLETED sCANCELLED gUNFINISHED gWAITING gFINAL s.heap s.heap.size S_QUEUED E_QUEUED F_stage_QUEUED S_RUNNING E_RUNNING F_stage_RUNNING S_PAUSED E_PAUSED F_stage_PAUSED S_ROLLBACK_RUNNING E_ROLLBACK_RUNNING F_stage_ROLLBACK_RUNNING S_ROLLBACK_PAUSED E_ROLLBACK_PAUSED F_stage_ROLLBACK_PAUSED S_COMPLETED E_COMPLETED F_stage_COMPLETED S_ROLLBACK_COMPLETED E_ROLLBACK_COMPLETED F_stage_ROLLBACK_COMPLETED S_CANCELLED E_CANCELLED F_stage_CANCELLED S_UNFINISHED S_WAITING S_FINAL D_UNFINISHED_WAITING D_UNFINISHED_FINAL D_WAITING_UNFINISHED D_WAITING_FINAL D_FINAL_UNFINISHED D_FINAL_WAITING
  obtain ⟨n, o, h1, h2, h3, _, L, rfl, ⟨rfl, N⟩, hq⟩ := M tables_1 p e ha hc hk s m _ below hf ((Spec.applies_iff_loose hf).mp happ).1 ⟨rfl, State.Warmed39.refl s, rfl⟩ trivial
  exact ⟨n, _, h1, h2, h3, hpost _ _ _ _ _ _ ⟨Cond.after_iff.mpr rfl, Cond.after_iff.mpr (eq_i res_at (Term.int_eval (1)) rfl)⟩ ⟨hq.1, hq.2.1, (hq.2.2.sift fun y hy => Or.inr (N y hy)).mono (by decide) (by decide)⟩⟩
theorem main_1_1 : Claimed_1_1 := own_comes fun _ _ _ _ _ _ h hF => ⟨h.1, hF⟩
theorem main_1_2 : Claimed_1_2 := own_comes fun _ _ _ _ _ _ h hF => ⟨h.2, hF⟩
end Jvm.Pilot.@@N@@
namespace Jvm.Pilot.@@N@@
open Jvm Jvm.ClassFile Sem Op Lib Jvm.Free Jvm.Stand Jvm.Pilot.@@N@@.Jvm.D
/-! MADE BY PROGRAM (witnessworld.py) out of the Statement's table words and the real class files: 13 classes; the members and pool entries that the words name. The judged class is class 1, her method 2. -/
namespace start1
open Jvm.ClassFile
def u (s : String) : CpInfo := .utf8 (stringToUtf16 s)
/-- a pool by its gaps: so many unusable entries, then the entry; so many at the end -/
def gap : Nat → List CpInfo → List CpInfo
  | 0, r => r
  | n + 1, r => .unusable :: gap n r
def poolList (es : List (Nat × CpInfo)) (last : Nat) : List CpInfo := es.foldr (fun e r => gap e.1 (e.2 :: r)) (gap last [])
def pool (es : List (Nat × CpInfo)) (last : Nat) : Array CpInfo := ⟨poolList es last⟩
def fileOf (pool : Array CpInfo) (this : Nat) (attrs : Array Attribute := #[]) (ms : Array MethodInfo := #[]) (fl : Nat := 33) (sup : Nat := 0) (ifs : Array Nat := #[]) (fds : Array FieldInfo := #[]) : ClassFile where
  minorVersion := 0
  majorVersion := 65
  constantPool := pool
  accessFlags := fl
  thisClass := this
  superClass := sup
  interfaces := ifs
  fields := fds
  methods := ms
  attributes := attrs
def plain (name : String) (sup : Option ClassId) : Class where
  name := name
  kind := .ordinary
  loader := none
  accessFlags := 33
  super := sup
  interfaces := #[]
  cf := none
  fields := #[]
  methods := #[]
  instanceTypes := #[]
  staticTypes := #[]
  resolved := #[]
  callSites := []
  init := .initialized
  statics := none
  mirror := none

def pool0 : Array CpInfo := pool [(5, u "<init>"), (0, u "()V"), (1, .class_ 10), (1, u "java/lang/Object")] 113

def k0m0 : Method := { name := "<init>", desc := "()V", sig := { parameters := [], returnType := none }, accessFlags := 1, code := none }
/-- java/lang/Object -/
def k0 : Class := { plain "java/lang/Object" none with
  accessFlags := 33
  interfaces := #[]
  cf := some (fileOf pool0 8 #[] #[{ accessFlags := 1, nameIndex := 5, descriptorIndex := 6, attributes := #[] }] 33 0 #[] #[])
  fields := #[]
  methods := #[k0m0]
  instanceTypes := #[]
  staticTypes := #[]
  resolved := Array.replicate 124 none
  statics := none }

def pool1 : Array CpInfo := pool [(2, .class_ 4), (1, u "java/lang/Object"), (0, u "<init>"), (0, u "()V"), (0, .fieldref 8 9), (0, .class_ 10), (0, .nameAndType 11 12), (0, u "com/example/rollfwd/rollfwd/JobState"), (0, u "QUEUED"), (0, u "Lcom/example/rollfwd/rollfwd/JobState;"), (0, .fieldref 8 14), (0, .nameAndType 15 12), (0, u "RUNNING"), (0, .fieldref 8 17), (0, .nameAndType 18 12), (0, u "PAUSED"), (0, .fieldref 8 20), (0, .nameAndType 21 12), (0, u "ROLLBACK_RUNNING"), (0, .fieldref 8 23), (0, .nameAndType 24 12), (0, u "ROLLBACK_PAUSED"), (0, .fieldref 8 26), (0, .nameAndType 27 12), (0, u "COMPLETED"), (0, .fieldref 8 29), (0, .nameAndType 30 12), (0, u "ROLLBACK_COMPLETED"), (0, .fieldref 8 32), (0, .nameAndType 33 12), (0, u "CANCELLED"), (0, .methodref 35 36), (0, .class_ 37), (0, .nameAndType 38 39), (0, u "com/example/rollfwd/rollfwd/JobStateIsUnfinishedPinLaw"), (0, u "pick"), (0, u "(I)Lcom/example/rollfwd/rollfwd/JobState;"), (0, .methodref 8 41), (0, .nameAndType 42 43), (0, u "isUnfinished"), (0, u "()Z"), (0, .methodref 8 45), (0, .nameAndType 46 43), (0, u "waitsForPerson"), (0, .methodref 8 48), (0, .nameAndType 49 43), (0, u "isFinal"), (3, u "law"), (0, u "(I)Z")] 2

def k1m0 : Method := { name := "<init>", desc := "()V", sig := { parameters := [], returnType := none }, accessFlags := 2, code := none }
def k1c1 : Code := { maxStack := 2, maxLocals := 1, code := method_2_code, exceptionTable := #[], attributes := #[] }
def k1m1 : Method := { name := "pick", desc := "(I)Lcom/example/rollfwd/rollfwd/JobState;", sig := { parameters := [.int], returnType := some (.object "com/example/rollfwd/rollfwd/JobState") }, accessFlags := 10, code := some k1c1 }
def k1c2 : Code := { maxStack := 2, maxLocals := 6, code := code, exceptionTable := #[], attributes := #[] }
def k1m2 : Method := { name := "law", desc := "(I)Z", sig := { parameters := [.int], returnType := some .boolean }, accessFlags := 9, code := some k1c2 }
/-- com/example/rollfwd/rollfwd/JobStateIsUnfinishedPinLaw -/
def k1 : Class := { plain "com/example/rollfwd/rollfwd/JobStateIsUnfinishedPinLaw" (some 0) with
  accessFlags := 49
  interfaces := #[]
  cf := some (fileOf pool1 35 #[] #[{ accessFlags := 2, nameIndex := 5, descriptorIndex := 6, attributes := #[] }, { accessFlags := 10, nameIndex := 38, descriptorIndex := 39, attributes := #[] }, { accessFlags := 9, nameIndex := 53, descriptorIndex := 54, attributes := #[] }] 49 2 #[] #[])
  fields := #[]
  methods := #[k1m0, k1m1, k1m2]
  instanceTypes := #[]
  staticTypes := #[]
  resolved := Array.replicate 57 none
  statics := none }

def pool2 : Array CpInfo := pool [(1, .class_ 2), (0, u "java/lang/constant/Constable"), (0, .class_ 4), (0, u "java/lang/Object")] 6

/-- java/lang/constant/Constable -/
def k2 : Class := { plain "java/lang/constant/Constable" (some 0) with
  accessFlags := 1537
  interfaces := #[]
  cf := some (fileOf pool2 1 #[] #[] 1537 3 #[] #[])
  fields := #[]
  methods := #[]
  instanceTypes := #[]
  staticTypes := #[]
  resolved := Array.replicate 11 none
  statics := none }

def pool3 : Array CpInfo := pool [(1, .class_ 2), (0, u "java/lang/Comparable"), (0, .class_ 4), (0, u "java/lang/Object")] 7

/-- java/lang/Comparable -/
def k3 : Class := { plain "java/lang/Comparable" (some 0) with
  accessFlags := 1537
  interfaces := #[]
  cf := some (fileOf pool3 1 #[] #[] 1537 3 #[] #[])
  fields := #[]
  methods := #[]
  instanceTypes := #[]
  staticTypes := #[]
  resolved := Array.replicate 12 none
  statics := none }

def pool4 : Array CpInfo := pool [(1, .class_ 2), (0, u "java/io/Serializable"), (0, .class_ 4), (0, u "java/lang/Object")] 2

/-- java/io/Serializable -/
def k4 : Class := { plain "java/io/Serializable" (some 0) with
  accessFlags := 1537
  interfaces := #[]
  cf := some (fileOf pool4 1 #[] #[] 1537 3 #[] #[])
  fields := #[]
  methods := #[]
  instanceTypes := #[]
  staticTypes := #[]
  resolved := Array.replicate 7 none
  statics := none }

def pool5 : Array CpInfo := pool [(2, .class_ 4), (1, u "java/lang/Enum"), (0, u "name"), (0, u "Ljava/lang/String;"), (2, u "ordinal"), (0, u "I"), (1, .class_ 14), (1, u "java/lang/Object"), (4, u "hash"), (86, .class_ 108), (1, u "java/lang/Enum$EnumDesc"), (2, .class_ 112), (0, u "java/lang/constant/Constable"), (0, .class_ 114), (0, u "java/lang/Comparable"), (0, .class_ 116), (0, u "java/io/Serializable")] 87

/-- java/lang/Enum -/
def k5 : Class := { plain "java/lang/Enum" (some 0) with
  accessFlags := 1057
  interfaces := #[2, 3, 4]
  cf := some (fileOf pool5 2 #[.nestMembers #[106]] #[] 1057 12 #[111, 113, 115] #[{ accessFlags := 18, nameIndex := 5, descriptorIndex := 6, attributes := #[] }, { accessFlags := 18, nameIndex := 9, descriptorIndex := 10, attributes := #[] }, { accessFlags := 2, nameIndex := 19, descriptorIndex := 10, attributes := #[] }])
  fields := #[{ name := "name", type := (.object "java/lang/String"), accessFlags := 18, slot := 0, constantValue := 0 }, { name := "ordinal", type := .int, accessFlags := 18, slot := 1, constantValue := 0 }, { name := "hash", type := .int, accessFlags := 2, slot := 2, constantValue := 0 }]
  methods := #[]
  instanceTypes := #[(.object "java/lang/String"), .int, .int]
  staticTypes := #[]
  resolved := Array.replicate 204 none
  statics := none }

def pool6 : Array CpInfo := pool [(1, .class_ 2), (0, u "com/example/rollfwd/rollfwd/JobState"), (2, u "QUEUED"), (0, u "Lcom/example/rollfwd/rollfwd/JobState;"), (2, u "RUNNING"), (2, u "PAUSED"), (2, u "ROLLBACK_RUNNING"), (2, u "ROLLBACK_PAUSED"), (2, u "COMPLETED"), (2, u "ROLLBACK_COMPLETED"), (2, u "CANCELLED"), (2, u "$VALUES"), (0, u "[Lcom/example/rollfwd/rollfwd/JobState;"), (6, .class_ 40), (1, u "java/lang/Enum"), (6, .fieldref 1 48), (0, .nameAndType 49 50), (0, u "stage"), (0, u "Lcom/example/rollfwd/rollfwd/JobState$Stage;"), (0, .fieldref 52 53), (0, .class_ 54), (0, .nameAndType 55 50), (0, u "com/example/rollfwd/rollfwd/JobState$Stage"), (0, u "FINAL"), (0, .fieldref 52 57), (0, .nameAndType 58 50), (0, u "WAITING"), (0, .fieldref 52 60), (0, .nameAndType 61 50), (0, u "UNFINISHED"), (22, u "isFinal"), (0, u "()Z"), (1, u "waitsForPerson"), (0, u "isUnfinished")] 8

def k6c0 : Code := { maxStack := 2, maxLocals := 1, code := prog_4_method_4_code, exceptionTable := #[], attributes := #[] }
def k6m0 : Method := { name := "isFinal", desc := "()Z", sig := { parameters := [], returnType := some .boolean }, accessFlags := 1, code := some k6c0 }
def k6c1 : Code := { maxStack := 2, maxLocals := 1, code := prog_4_method_5_code, exceptionTable := #[], attributes := #[] }
def k6m1 : Method := { name := "waitsForPerson", desc := "()Z", sig := { parameters := [], returnType := some .boolean }, accessFlags := 1, code := some k6c1 }
def k6c2 : Code := { maxStack := 2, maxLocals := 1, code := prog_4_method_6_code, exceptionTable := #[], attributes := #[] }
def k6m2 : Method := { name := "isUnfinished", desc := "()Z", sig := { parameters := [], returnType := some .boolean }, accessFlags := 1, code := some k6c2 }
/-- com/example/rollfwd/rollfwd/JobState -/
def k6 : Class := { plain "com/example/rollfwd/rollfwd/JobState" (some 5) with
  accessFlags := 16433
  interfaces := #[]
  cf := some (fileOf pool6 1 #[.nestMembers #[52]] #[{ accessFlags := 1, nameIndex := 84, descriptorIndex := 85, attributes := #[] }, { accessFlags := 1, nameIndex := 87, descriptorIndex := 85, attributes := #[] }, { accessFlags := 1, nameIndex := 88, descriptorIndex := 85, attributes := #[] }] 16433 38 #[] #[{ accessFlags := 16409, nameIndex := 5, descriptorIndex := 6, attributes := #[] }, { accessFlags := 16409, nameIndex := 9, descriptorIndex := 6, attributes := #[] }, { accessFlags := 16409, nameIndex := 12, descriptorIndex := 6, attributes := #[] }, { accessFlags := 16409, nameIndex := 15, descriptorIndex := 6, attributes := #[] }, { accessFlags := 16409, nameIndex := 18, descriptorIndex := 6, attributes := #[] }, { accessFlags := 16409, nameIndex := 21, descriptorIndex := 6, attributes := #[] }, { accessFlags := 16409, nameIndex := 24, descriptorIndex := 6, attributes := #[] }, { accessFlags := 16409, nameIndex := 27, descriptorIndex := 6, attributes := #[] }, { accessFlags := 18, nameIndex := 49, descriptorIndex := 50, attributes := #[] }, { accessFlags := 4122, nameIndex := 30, descriptorIndex := 31, attributes := #[] }])
  fields := #[{ name := "QUEUED", type := (.object "com/example/rollfwd/rollfwd/JobState"), accessFlags := 16409, slot := 0, constantValue := 0 }, { name := "RUNNING", type := (.object "com/example/rollfwd/rollfwd/JobState"), accessFlags := 16409, slot := 1, constantValue := 0 }, { name := "PAUSED", type := (.object "com/example/rollfwd/rollfwd/JobState"), accessFlags := 16409, slot := 2, constantValue := 0 }, { name := "ROLLBACK_RUNNING", type := (.object "com/example/rollfwd/rollfwd/JobState"), accessFlags := 16409, slot := 3, constantValue := 0 }, { name := "ROLLBACK_PAUSED", type := (.object "com/example/rollfwd/rollfwd/JobState"), accessFlags := 16409, slot := 4, constantValue := 0 }, { name := "COMPLETED", type := (.object "com/example/rollfwd/rollfwd/JobState"), accessFlags := 16409, slot := 5, constantValue := 0 }, { name := "ROLLBACK_COMPLETED", type := (.object "com/example/rollfwd/rollfwd/JobState"), accessFlags := 16409, slot := 6, constantValue := 0 }, { name := "CANCELLED", type := (.object "com/example/rollfwd/rollfwd/JobState"), accessFlags := 16409, slot := 7, constantValue := 0 }, { name := "stage", type := (.object "com/example/rollfwd/rollfwd/JobState$Stage"), accessFlags := 18, slot := 3, constantValue := 0 }, { name := "$VALUES", type := (.array (.object "com/example/rollfwd/rollfwd/JobState")), accessFlags := 4122, slot := 8, constantValue := 0 }]
  methods := #[k6m0, k6m1, k6m2]
  instanceTypes := #[(.object "java/lang/String"), .int, .int, (.object "com/example/rollfwd/rollfwd/JobState$Stage")]
  staticTypes := #[(.object "com/example/rollfwd/rollfwd/JobState"), (.object "com/example/rollfwd/rollfwd/JobState"), (.object "com/example/rollfwd/rollfwd/JobState"), (.object "com/example/rollfwd/rollfwd/JobState"), (.object "com/example/rollfwd/rollfwd/JobState"), (.object "com/example/rollfwd/rollfwd/JobState"), (.object "com/example/rollfwd/rollfwd/JobState"), (.object "com/example/rollfwd/rollfwd/JobState"), (.array (.object "com/example/rollfwd/rollfwd/JobState"))]
  resolved := Array.replicate 97 none
  statics := some 0 }

def pool7 : Array CpInfo := pool [(1, .class_ 2), (0, u "com/example/rollfwd/rollfwd/JobState$Stage"), (2, u "UNFINISHED"), (0, u "Lcom/example/rollfwd/rollfwd/JobState$Stage;"), (2, u "WAITING"), (2, u "FINAL"), (2, u "$VALUES"), (0, u "[Lcom/example/rollfwd/rollfwd/JobState$Stage;"), (6, .class_ 25), (1, u "java/lang/Enum"), (26, .class_ 53), (0, u "com/example/rollfwd/rollfwd/JobState")] 2

/-- com/example/rollfwd/rollfwd/JobState$Stage -/
def k7 : Class := { plain "com/example/rollfwd/rollfwd/JobState$Stage" (some 5) with
  accessFlags := 16432
  interfaces := #[]
  cf := some (fileOf pool7 1 #[.nestHost 52] #[] 16432 23 #[] #[{ accessFlags := 16409, nameIndex := 5, descriptorIndex := 6, attributes := #[] }, { accessFlags := 16409, nameIndex := 9, descriptorIndex := 6, attributes := #[] }, { accessFlags := 16409, nameIndex := 12, descriptorIndex := 6, attributes := #[] }, { accessFlags := 4122, nameIndex := 15, descriptorIndex := 16, attributes := #[] }])
  fields := #[{ name := "UNFINISHED", type := (.object "com/example/rollfwd/rollfwd/JobState$Stage"), accessFlags := 16409, slot := 0, constantValue := 0 }, { name := "WAITING", type := (.object "com/example/rollfwd/rollfwd/JobState$Stage"), accessFlags := 16409, slot := 1, constantValue := 0 }, { name := "FINAL", type := (.object "com/example/rollfwd/rollfwd/JobState$Stage"), accessFlags := 16409, slot := 2, constantValue := 0 }, { name := "$VALUES", type := (.array (.object "com/example/rollfwd/rollfwd/JobState$Stage")), accessFlags := 4122, slot := 3, constantValue := 0 }]
  methods := #[]
  instanceTypes := #[(.object "java/lang/String"), .int, .int]
  staticTypes := #[(.object "com/example/rollfwd/rollfwd/JobState$Stage"), (.object "com/example/rollfwd/rollfwd/JobState$Stage"), (.object "com/example/rollfwd/rollfwd/JobState$Stage"), (.array (.object "com/example/rollfwd/rollfwd/JobState$Stage"))]
  resolved := Array.replicate 56 none
  statics := some 1 }

def pool8 : Array CpInfo := pool [(1, u "java/lang/Cloneable"), (0, .class_ 1), (0, u "java/lang/Object"), (0, .class_ 3)] 3

/-- java/lang/Cloneable -/
def k8 : Class := { plain "java/lang/Cloneable" (some 0) with
  accessFlags := 1537
  interfaces := #[]
  cf := some (fileOf pool8 2 #[] #[] 1537 4 #[] #[])
  fields := #[]
  methods := #[]
  instanceTypes := #[]
  staticTypes := #[]
  resolved := Array.replicate 8 none
  statics := none }

/-- the primitive byte -/
def k9 : Class := { plain "byte" none with kind := .primitive 'B', accessFlags := 0x411 }
/-- [B -/
def k10 : Class := { plain "[B" (some 0) with kind := .array 9 .byte, interfaces := #[8, 4], accessFlags := 1041 }

/-- the primitive int -/
def k11 : Class := { plain "int" none with kind := .primitive 'I', accessFlags := 0x411 }
/-- [I -/
def k12 : Class := { plain "[I" (some 0) with kind := .array 11 .int, interfaces := #[8, 4], accessFlags := 1041 }

def heap : Heap := #[{ cls := 6, slots := #[.ref 5, .ref 6, .ref 7, .ref 8, .ref 9, .ref 10, .ref 11, .ref 12, .null], vm := .statics 6 },
  { cls := 7, slots := #[.ref 2, .ref 3, .ref 4, .null], vm := .statics 7 },
  { cls := 7, slots := #[.null, .int 0, .int 0], vm := .none },
  { cls := 7, slots := #[.null, .int 1, .int 0], vm := .none },
  { cls := 7, slots := #[.null, .int 2, .int 0], vm := .none },
  { cls := 6, slots := #[.null, .int 0, .int 0, .ref 2], vm := .none },
  { cls := 6, slots := #[.null, .int 1, .int 0, .ref 2], vm := .none },
  { cls := 6, slots := #[.null, .int 2, .int 0, .ref 3], vm := .none },
  { cls := 6, slots := #[.null, .int 3, .int 0, .ref 2], vm := .none },
  { cls := 6, slots := #[.null, .int 4, .int 0, .ref 3], vm := .none },
  { cls := 6, slots := #[.null, .int 5, .int 0, .ref 4], vm := .none },
  { cls := 6, slots := #[.null, .int 6, .int 0, .ref 4], vm := .none },
  { cls := 6, slots := #[.null, .int 7, .int 0, .ref 4], vm := .none }]
def classes : Array Class := #[k0, k1, k2, k3, k4, k5, k6, k7, k8, k9, k10, k11, k12]
def interned : List (Array UInt16 × Addr) := []
def slotsUsed : Nat := 54
def theMethod : MethodId := ⟨1, 2⟩
def args0 : Array Value := #[.int 5]
def aboutOver (below : List Frame) : State where
  vm := { classes := classes, interned := interned.toArray }
  heap := heap
  slotsUsed := slotsUsed
  threads := #[{ frames := .invoking theMethod args0 :: below }]
def below0 : List Frame := [.native { method := ⟨0, 0⟩, args := #[] }]
def about1 : State := aboutOver below0
def p0 : Program := .bare "" "" ""
def e0 : Env := launch0.env 0 0 0
theorem w_frames : about1.frames = Frame.invoking theMethod args0 :: below0 := rfl
set_option maxRecDepth 65536 in
theorem w_args : argsFit about1.vm theMethod args0 = true := by decide +kernel
set_option maxRecDepth 65536 in
theorem w_heap : heapFits about1 = true := by decide +kernel
set_option maxRecDepth 65536 in
theorem w_runnable : about1.curStatus? = some .runnable := by decide +kernel
set_option maxRecDepth 65536 in
theorem w_alone : about1.alone = true := by decide +kernel
set_option maxRecDepth 65536 in
theorem w_named : about1.methodNamed? x = some theMethod := by decide +kernel
set_option maxRecDepth 65536 in
theorem w_hears : about1.hears theMethod below0 = true := by decide +kernel
set_option maxRecDepth 65536 in
theorem w_ripe : about1.ripe theMethod args0 below0 = true := by decide +kernel
theorem w_running : about1.status = .running := rfl
set_option maxRecDepth 65536 in
theorem w_room : about1.hasRoom e0.platform room_1 = true :=
  launch0.hasRoom_least _ room_1 (by decide +kernel) (by decide +kernel) (by decide +kernel) (by decide +kernel) (by decide +kernel) (by decide +kernel)
theorem allAtoms_all (ts : List Jvm.Cond) (a : Array Jvm.Value) (st : Jvm.State) : (allAtoms ts).before a st = ts.all (fun c => c.before a st) := by
  induction ts with
  | nil => rfl
  | cons c t ih =>
    show (Jvm.Cond.and c (allAtoms t)).before a st = _
    rw [Jvm.Cond.before_and, ih, List.all_cons]
def words1 : List Jvm.Cond := Jvm.Cond.code x code maxLocals ret :: tables_1
/-- a 'code' word, met by the world's own term for the bytes: nothing is compared byte by byte -/
theorem code_word {y : MethodName} {bytes : ByteArray} {mx : Nat} {rt : Option FieldType} {a : Array Value} {s : State} {m : MethodId} {meth : Method} {c : Code} (h1 : s.methodNamed? y = some m) (h2 : s.vm.method? m = some meth) (h3 : meth.code = some c) (h4 : c.code = bytes)
    (h5 : (c.maxLocals == mx && c.exceptionTable.isEmpty && decide (c.maxStack ≤ mostOperands) && decide (meth.sig.returnType = rt) && !meth.locks && decide (parseMethodDescriptor y.desc = some meth.sig)) = true) : (Jvm.Cond.code y bytes mx rt).before a s = true := by
  simp only [Bool.and_eq_true, beq_iff_eq, Bool.not_eq_true', decide_eq_true_eq] at h5
  obtain ⟨⟨⟨⟨⟨g1, g2⟩, g3⟩, g4⟩, g5⟩, g6⟩ := h5
  simp [Cond.before, Cond.holds, Cond.value, h1, h2, h3, h4, g1, g2, g3, g4, g5, g6]
def isCode : Jvm.Cond → Bool
  | .code _ _ _ _ => true
  | _ => false
theorem all_split {L : List Jvm.Cond} {P : Jvm.Cond → Bool} (h1 : L.all (fun c => isCode c || P c) = true) (h2 : ∀ c ∈ L.filter isCode, P c = true) : L.all P = true := by
  refine List.all_eq_true.mpr fun c hc => ?_
  have h := List.all_eq_true.mp h1 c hc
  rcases Bool.eq_false_or_eq_true (isCode c) with hi | hi
  · exact h2 c (List.mem_filter.mpr ⟨hc, hi⟩)
  · simpa [hi] using h
set_option maxRecDepth 65536 in
theorem w_c0 : (Jvm.Cond.code x code maxLocals ret).before args0 about1 = true := code_word (m := ⟨1, 2⟩) (meth := k1m2) (c := k1c2) (by decide +kernel) rfl rfl rfl (by decide +kernel)
set_option maxRecDepth 65536 in
theorem w_c1 : (Jvm.Cond.code ({ cls := "com/example/rollfwd/rollfwd/JobStateIsUnfinishedPinLaw", name := "pick", desc := "(I)Lcom/example/rollfwd/rollfwd/JobState;" } : Jvm.MethodName) method_2_code (1 : Nat) (Option.some (Jvm.ClassFile.FieldType.object "com/example/rollfwd/rollfwd/JobState"))).before args0 about1 = true := code_word (m := ⟨1, 1⟩) (meth := k1m1) (c := k1c1) (by decide +kernel) rfl rfl rfl (by decide +kernel)
set_option maxRecDepth 65536 in
theorem w_c2 : (Jvm.Cond.code ({ cls := "com/example/rollfwd/rollfwd/JobState", name := "isUnfinished", desc := "()Z" } : Jvm.MethodName) prog_4_method_6_code (1 : Nat) (Option.some Jvm.ClassFile.FieldType.boolean)).before args0 about1 = true := code_word (m := ⟨6, 2⟩) (meth := k6m2) (c := k6c2) (by decide +kernel) rfl rfl rfl (by decide +kernel)
set_option maxRecDepth 65536 in
theorem w_c3 : (Jvm.Cond.code ({ cls := "com/example/rollfwd/rollfwd/JobState", name := "waitsForPerson", desc := "()Z" } : Jvm.MethodName) prog_4_method_5_code (1 : Nat) (Option.some Jvm.ClassFile.FieldType.boolean)).before args0 about1 = true := code_word (m := ⟨6, 1⟩) (meth := k6m1) (c := k6c1) (by decide +kernel) rfl rfl rfl (by decide +kernel)
set_option maxRecDepth 65536 in
theorem w_c4 : (Jvm.Cond.code ({ cls := "com/example/rollfwd/rollfwd/JobState", name := "isFinal", desc := "()Z" } : Jvm.MethodName) prog_4_method_4_code (1 : Nat) (Option.some Jvm.ClassFile.FieldType.boolean)).before args0 about1 = true := code_word (m := ⟨6, 0⟩) (meth := k6m0) (c := k6c0) (by decide +kernel) rfl rfl rfl (by decide +kernel)
def codes1 : List Jvm.Cond := [Jvm.Cond.code x code maxLocals ret, Jvm.Cond.code ({ cls := "com/example/rollfwd/rollfwd/JobStateIsUnfinishedPinLaw", name := "pick", desc := "(I)Lcom/example/rollfwd/rollfwd/JobState;" } : Jvm.MethodName) method_2_code (1 : Nat) (Option.some (Jvm.ClassFile.FieldType.object "com/example/rollfwd/rollfwd/JobState")), Jvm.Cond.code ({ cls := "com/example/rollfwd/rollfwd/JobState", name := "isUnfinished", desc := "()Z" } : Jvm.MethodName) prog_4_method_6_code (1 : Nat) (Option.some Jvm.ClassFile.FieldType.boolean), Jvm.Cond.code ({ cls := "com/example/rollfwd/rollfwd/JobState", name := "waitsForPerson", desc := "()Z" } : Jvm.MethodName) prog_4_method_5_code (1 : Nat) (Option.some Jvm.ClassFile.FieldType.boolean), Jvm.Cond.code ({ cls := "com/example/rollfwd/rollfwd/JobState", name := "isFinal", desc := "()Z" } : Jvm.MethodName) prog_4_method_4_code (1 : Nat) (Option.some Jvm.ClassFile.FieldType.boolean)]
set_option maxRecDepth 65536 in
theorem codes_eq : words1.filter isCode = codes1 := rfl
theorem w_codes : ∀ c ∈ words1.filter isCode, c.before args0 about1 = true := by
  rw [codes_eq]
  intro c hc
  simp only [codes1, List.mem_cons, List.not_mem_nil, or_false] at hc
  rcases hc with rfl | rfl | rfl | rfl | rfl
  · exact w_c0
  · exact w_c1
  · exact w_c2
  · exact w_c3
  · exact w_c4
set_option maxRecDepth 65536 in
theorem w_t1 : (words1.take 24).all (fun c => isCode c || c.before args0 about1) = true := by decide +kernel
set_option maxRecDepth 65536 in
theorem w_t2 : (words1.drop 24).all (fun c => isCode c || c.before args0 about1) = true := by decide +kernel
theorem w_tables : (allAtoms (Jvm.Cond.code x code maxLocals ret :: tables_1)).before args0 about1 = true := by
  rw [allAtoms_all]
  show words1.all (fun c => c.before args0 about1) = true
  refine all_split ?_ w_codes
  rw [← List.take_append_drop 24 words1, List.all_append, w_t1, w_t2]
  rfl
set_option maxRecDepth 65536 in
theorem w_case : (Jvm.Cond.and given_1 narrow_1).before args0 about1 = true := by decide +kernel
theorem w_applies : (headSpec (Jvm.Cond.code x code maxLocals ret :: tables_1) room_1).applies x e0.platform about1 = true :=
  (Spec.applies_iff w_frames).mpr ⟨w_running, w_runnable, w_alone, w_named, w_hears, w_ripe, w_room, w_tables⟩
theorem atStart : AtStart classFile x code maxLocals ret World_1 tables_1 room_1 Calls_1 rest_1 Pre_1 launch0 p0 e0 about1 theMethod args0 below0 :=
  ⟨lists_1, trivial, launch0.admits_env _ _ _, launch0.least_env, fairChoices_fair.cas, fairChoices_fair.clock, w_frames, w_args, w_heap, w_applies, trivial, trivial, w_case⟩
end start1
theorem witness_1 : WitnessClaimed_1 := ⟨start1.p0, start1.e0, start1.about1, start1.theMethod, start1.args0, start1.below0, start1.atStart⟩
end Jvm.Pilot.@@N@@
