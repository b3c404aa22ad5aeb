import JvmDerived
import JvmDerived.Pilot.@@N@@Statement
import JvmDerived.Pilot.@@N@@Code
set_option linter.unusedVariables false
set_option linter.unusedSimpArgs false
namespace Jvm.Pilot.@@N@@
open Jvm Jvm.ClassFile Sem Op Lib Jvm.Free Jvm.Stand Jvm.LawKit Jvm.RoadKit Bundle Jvm.Pilot.@@N@@.Jvm.D
def own_Fin (p : Program) (e : Env) (below : List Frame) (E : Outcome → State → Prop) (σ : State) : Prop :=
  ∃ s₂ o, Steps p.tables e below σ s₂ ∧ s₂.status = .running ∧ Ended s₂ below o ∧ E o s₂
def own_End (s : State) (Q : Option Value → Heap → List Loc → Prop) (kc ks : Nat) (o : Outcome) (t : State) : Prop :=
  ∃ v L, o = .returned v ∧ Q v t.heap L ∧ FrameEnd s o t L kc ks
def own_Met (l : Launch) (Z : State) (y : MethodName) (bytes : ByteArray) (maxL : Nat) (ret : Option FieldType) (rm : Room) (as' : Array Value) (h : Heap) (Q : Option Value → Heap → List Loc → Prop) : Prop :=
  ∀ ws : List Jvm.Cond, MetFree l y (head1 (Jvm.Cond.code y bytes maxL ret :: ws) rm) (fun a U => a = as' ∧ Z.Warmed39 U.vm ∧ U.heap = h) (fun _ _ _ _ _ => True) (fun _ U o U' => ∃ v L, o = .returned v ∧ Q v U'.heap L ∧ FrameEnd U o U' L rm.cells rm.slots)
section Own
variable {p : Program} {l : Launch} {e : Env} {R : Room} {s : State} {m : MethodId} {args : Array Value} {below : List Frame} {meth : Method} {c : Code} {T : State} {locs : List Loc} {cells slots : Nat} {E : Outcome → State → Prop} {Q : Option Value → Heap → List Loc → Prop} {kc ks : Nat} {Z : State} {a0 : Array Value} {h : Heap} {pc : Nat} {Ls : Array Slot} {st : List Value}
theorem own_via {σ σ' : State} (h : own_Fin p e below E σ') (k : ∀ t, Steps p.tables e below σ' t → Steps p.tables e below σ t) : own_Fin p e below E σ := by
  obtain ⟨s₂, o, h1, r⟩ := h
  exact ⟨s₂, o, k _ h1, r⟩
theorem own_mono {σ : State} {Q' : Option Value → Heap → List Loc → Prop} (k : ∀ v h L, Q v h L → Q' v h L) (h : own_Fin p e below (own_End s Q kc ks) σ) : own_Fin p e below (own_End s Q' kc ks) σ := by
  obtain ⟨s₂, o, h1, h2, h3, v, L, h4, h5, r⟩ := h
  exact ⟨s₂, o, h1, h2, h3, v, L, h4, k _ _ _ h5, r⟩
theorem own_body {y : MethodName} {bytes : ByteArray} {maxL : Nat} {ret : Option FieldType} {rm : Room} {as' : Array Value} (hp : plainFor y = true) (hef : ∀ m, entryFrame m as' maxL = mkF m 0 Ls [])
    (K : ∀ (p : Program) (e : Env) (s : State) (m : MethodId) (below : List Frame) (meth : Method) (c : Code) (s₁ : State), p.tables.exec = Jvm.exec → Z.Warmed39 s.vm → c.code = bytes → c.maxLocals = maxL → s.vm.findClass y.cls = some m.cls → meth.name = y.name → meth.sig.returnType = ret → meth.locks = false →
      Stand p l e rm s m as' below meth c s₁ [] 0 0 → s₁.heap = h → own_Fin p e below (own_End s Q rm.cells rm.slots) (s₁.setTop (mkF m 0 Ls []))) : own_Met l Z y bytes maxL ret rm as' h Q := by
  intro ws
  refine MetFree.of_bodySF hp hisR ?_
  intro p e s m args below meth c s₁ Bd hml0 hP hK
  obtain ⟨rfl, hZ, hh⟩ := hP
  obtain ⟨s₂, o, h1, r⟩ := K p e s m below meth c s₁ Bd.exec hZ Bd.bytes hml0 (findClass_of_methodNamed Bd.named) (name_of_methodNamed Bd.named Bd.method).1 Bd.returns Bd.notSynchronized (Stand.of_body Bd) (by rw [← hh, Bd.state]; rfl)
  exact ⟨s₂, o, castTop (hef m) h1, r⟩
theorem own_aloadN (X : Stand p l e R s m args below meth c T locs cells slots) (hx : p.tables.exec = Jvm.exec) {k : Fin 4} {v : Value} (hd : decode c.code pc = .ok (.aload_n k, 1)) (hl : Ls[k.val]? = some (.val v)) (hv : v.isRef = true)
    (K : own_Fin p e below E (T.setTop (mkF m (pc + 1) Ls (v :: st)))) : own_Fin p e below E (T.setTop (mkF m pc Ls st)) :=
  own_via K fun t k => XS.aloadN X.here hx rfl hd hl hv k
theorem own_aload (X : Stand p l e R s m args below meth c T locs cells slots) (hx : p.tables.exec = Jvm.exec) {k : Nat} {v : Value} (hd : decode c.code pc = .ok (.aload k, 2)) (hl : Ls[k]? = some (.val v)) (hv : v.isRef = true)
    (K : own_Fin p e below E (T.setTop (mkF m (pc + 2) Ls (v :: st)))) : own_Fin p e below E (T.setTop (mkF m pc Ls st)) :=
  own_via K fun t k => XS.aload X.here hx rfl hd hl hv k
theorem own_iloadN (X : Stand p l e R s m args below meth c T locs cells slots) (hx : p.tables.exec = Jvm.exec) {k : Fin 4} {v : Int32} (hd : decode c.code pc = .ok (.iload_n k, 1)) (hl : Ls[k.val]? = some (.val (.int v)))
    (K : own_Fin p e below E (T.setTop (mkF m (pc + 1) Ls (.int v :: st)))) : own_Fin p e below E (T.setTop (mkF m pc Ls st)) :=
  own_via K fun t k => XS.iloadN X.here hx rfl hd hl k
theorem own_iload (X : Stand p l e R s m args below meth c T locs cells slots) (hx : p.tables.exec = Jvm.exec) {k : Nat} {v : Int32} (hd : decode c.code pc = .ok (.iload k, 2)) (hl : Ls[k]? = some (.val (.int v)))
    (K : own_Fin p e below E (T.setTop (mkF m (pc + 2) Ls (.int v :: st)))) : own_Fin p e below E (T.setTop (mkF m pc Ls st)) :=
  own_via K fun t k => XS.iload X.here hx rfl hd hl k
theorem own_lloadN (X : Stand p l e R s m args below meth c T locs cells slots) (hx : p.tables.exec = Jvm.exec) {k : Fin 4} {v : Int64} (hd : decode c.code pc = .ok (.lload_n k, 1)) (hl : Ls[k.val]? = some (.val (.long v)))
    (K : own_Fin p e below E (T.setTop (mkF m (pc + 1) Ls (.long v :: st)))) : own_Fin p e below E (T.setTop (mkF m pc Ls st)) :=
  own_via K fun t k => Jvm.Free.XT.lloadN X.here hx rfl hd hl k
theorem own_lload (X : Stand p l e R s m args below meth c T locs cells slots) (hx : p.tables.exec = Jvm.exec) {k : Nat} {v : Int64} (hd : decode c.code pc = .ok (.lload k, 2)) (hl : Ls[k]? = some (.val (.long v)))
    (K : own_Fin p e below E (T.setTop (mkF m (pc + 2) Ls (.long v :: st)))) : own_Fin p e below E (T.setTop (mkF m pc Ls st)) :=
  own_via K fun t k => Jvm.Free.XT.lload X.here hx rfl hd hl k
theorem own_iconst (X : Stand p l e R s m args below meth c T locs cells slots) (hx : p.tables.exec = Jvm.exec) {i : Int} (v : Int32) (hd : decode c.code pc = .ok (.iconst i, 1)) (hv : Int32.ofInt i = v)
    (K : own_Fin p e below E (T.setTop (mkF m (pc + 1) Ls (.int v :: st)))) : own_Fin p e below E (T.setTop (mkF m pc Ls st)) :=
  own_via K fun t k => Jvm.Free.XT.iconstV X.here hx rfl v hd hv k
theorem own_bipush (X : Stand p l e R s m args below meth c T locs cells slots) (hx : p.tables.exec = Jvm.exec) {i : Int} (v : Int32) (hd : decode c.code pc = .ok (.bipush i, 2)) (hv : (Int8.ofInt i).toInt32 = v)
    (K : own_Fin p e below E (T.setTop (mkF m (pc + 2) Ls (.int v :: st)))) : own_Fin p e below E (T.setTop (mkF m pc Ls st)) :=
  own_via K fun t k => Jvm.Free.XT.bipushV X.here hx rfl v hd hv k
theorem own_sipush (X : Stand p l e R s m args below meth c T locs cells slots) (hx : p.tables.exec = Jvm.exec) {i : Int} (v : Int32) (hd : decode c.code pc = .ok (.sipush i, 3)) (hv : (Int16.ofInt i).toInt32 = v)
    (K : own_Fin p e below E (T.setTop (mkF m (pc + 3) Ls (.int v :: st)))) : own_Fin p e below E (T.setTop (mkF m pc Ls st)) :=
  own_via K fun t k => Jvm.Free.XT.sipushV X.here hx rfl v hd hv k
theorem own_lconst (X : Stand p l e R s m args below meth c T locs cells slots) (hx : p.tables.exec = Jvm.exec) {i : Fin 2} (v : Int64) (hd : decode c.code pc = .ok (.lconst i, 1)) (hv : Int64.ofNat i = v)
    (K : own_Fin p e below E (T.setTop (mkF m (pc + 1) Ls (.long v :: st)))) : own_Fin p e below E (T.setTop (mkF m pc Ls st)) :=
  own_via K fun t k => Jvm.Free.XT.lconstV X.here hx rfl v hd hv k
theorem own_aconst_null (X : Stand p l e R s m args below meth c T locs cells slots) (hx : p.tables.exec = Jvm.exec) (hd : decode c.code pc = .ok (.aconst_null, 1))
    (K : own_Fin p e below E (T.setTop (mkF m (pc + 1) Ls (.null :: st)))) : own_Fin p e below E (T.setTop (mkF m pc Ls st)) :=
  own_via K fun t k => XS.aconstNull X.here hx rfl hd k
theorem own_ldcI (X : Stand p l e R s m args below meth c T locs cells slots) (hx : p.tables.exec = Jvm.exec) (hZ : Z.Warmed39 s.vm) {own : String} {index : Nat} {v : Int32} (hown : s.vm.findClass own = some m.cls) (w : (Jvm.Cond.constant own index v).before a0 Z = true) (hd : decode c.code pc = .ok (.ldc index, 2))
    (K : own_Fin p e below E (T.setTop (mkF m (pc + 2) Ls (.int v :: st)))) : own_Fin p e below E (T.setTop (mkF m pc Ls st)) :=
  own_via K fun t k => Jvm.Stand.ldcI X hx hown (mv hZ w) rfl hd k
theorem own_ldc2J (X : Stand p l e R s m args below meth c T locs cells slots) (hx : p.tables.exec = Jvm.exec) (hZ : Z.Warmed39 s.vm) {own : String} {index : Nat} {v : Int64} (hown : s.vm.findClass own = some m.cls) (w : (Jvm.Cond.constantLong own index v).before a0 Z = true) (hd : decode c.code pc = .ok (.ldc2_w index, 3))
    (K : own_Fin p e below E (T.setTop (mkF m (pc + 3) Ls (.long v :: st)))) : own_Fin p e below E (T.setTop (mkF m pc Ls st)) :=
  own_via K fun t k => Jvm.Stand.ldc2J X hx hown (mv hZ w) rfl hd k
theorem own_iadd (X : Stand p l e R s m args below meth c T locs cells slots) (hx : p.tables.exec = Jvm.exec) {x y : Int32} (hd : decode c.code pc = .ok (.iadd, 1))
    (K : own_Fin p e below E (T.setTop (mkF m (pc + 1) Ls (.int (x + y) :: st)))) : own_Fin p e below E (T.setTop (mkF m pc Ls (.int y :: .int x :: st))) :=
  own_via K fun t k => XS.iadd X.here hx rfl hd rfl k
theorem own_isub (X : Stand p l e R s m args below meth c T locs cells slots) (hx : p.tables.exec = Jvm.exec) {x y : Int32} (hd : decode c.code pc = .ok (.isub, 1))
    (K : own_Fin p e below E (T.setTop (mkF m (pc + 1) Ls (.int (x - y) :: st)))) : own_Fin p e below E (T.setTop (mkF m pc Ls (.int y :: .int x :: st))) :=
  own_via K fun t k => XS.isub X.here hx rfl hd rfl k
theorem own_imul (X : Stand p l e R s m args below meth c T locs cells slots) (hx : p.tables.exec = Jvm.exec) {x y : Int32} (hd : decode c.code pc = .ok (.imul, 1))
    (K : own_Fin p e below E (T.setTop (mkF m (pc + 1) Ls (.int (x * y) :: st)))) : own_Fin p e below E (T.setTop (mkF m pc Ls (.int y :: .int x :: st))) :=
  own_via K fun t k => XS.imul X.here hx rfl hd rfl k
theorem own_iand (X : Stand p l e R s m args below meth c T locs cells slots) (hx : p.tables.exec = Jvm.exec) {x y : Int32} (hd : decode c.code pc = .ok (.iand, 1))
    (K : own_Fin p e below E (T.setTop (mkF m (pc + 1) Ls (.int (x &&& y) :: st)))) : own_Fin p e below E (T.setTop (mkF m pc Ls (.int y :: .int x :: st))) :=
  own_via K fun t k => XS.iand X.here hx rfl hd rfl k
theorem own_ixor (X : Stand p l e R s m args below meth c T locs cells slots) (hx : p.tables.exec = Jvm.exec) {x y : Int32} (hd : decode c.code pc = .ok (.ixor, 1))
    (K : own_Fin p e below E (T.setTop (mkF m (pc + 1) Ls (.int (x ^^^ y) :: st)))) : own_Fin p e below E (T.setTop (mkF m pc Ls (.int y :: .int x :: st))) :=
  own_via K fun t k => Jvm.Free.XT.ixor X.here hx rfl hd rfl k
theorem own_ior (X : Stand p l e R s m args below meth c T locs cells slots) (hx : p.tables.exec = Jvm.exec) {x y : Int32} (hd : decode c.code pc = .ok (.ior, 1))
    (K : own_Fin p e below E (T.setTop (mkF m (pc + 1) Ls (.int (x ||| y) :: st)))) : own_Fin p e below E (T.setTop (mkF m pc Ls (.int y :: .int x :: st))) :=
  own_via K fun t k => Jvm.Free.XT.ior X.here hx rfl hd rfl k
theorem own_iushr (X : Stand p l e R s m args below meth c T locs cells slots) (hx : p.tables.exec = Jvm.exec) {x y : Int32} (hd : decode c.code pc = .ok (.iushr, 1))
    (K : own_Fin p e below E (T.setTop (mkF m (pc + 1) Ls (.int (Jvm.Free.XT.ushr x y) :: st)))) : own_Fin p e below E (T.setTop (mkF m pc Ls (.int y :: .int x :: st))) :=
  own_via K fun t k => Jvm.Free.XT.iushr X.here hx rfl hd rfl k
theorem own_irem (X : Stand p l e R s m args below meth c T locs cells slots) (hx : p.tables.exec = Jvm.exec) {x y : Int32} (hd : decode c.code pc = .ok (.irem, 1)) (hy : y ≠ 0)
    (K : own_Fin p e below E (T.setTop (mkF m (pc + 1) Ls (.int (x % y) :: st)))) : own_Fin p e below E (T.setTop (mkF m pc Ls (.int y :: .int x :: st))) :=
  own_via K fun t k => iremM X hx rfl hd rfl hy k
theorem own_ladd (X : Stand p l e R s m args below meth c T locs cells slots) (hx : p.tables.exec = Jvm.exec) {x y : Int64} (hd : decode c.code pc = .ok (.ladd, 1))
    (K : own_Fin p e below E (T.setTop (mkF m (pc + 1) Ls (.long (x + y) :: st)))) : own_Fin p e below E (T.setTop (mkF m pc Ls (.long y :: .long x :: st))) :=
  own_via K fun t k => Jvm.Free.XT.ladd X.here hx rfl hd rfl k
theorem own_lsub (X : Stand p l e R s m args below meth c T locs cells slots) (hx : p.tables.exec = Jvm.exec) {x y : Int64} (hd : decode c.code pc = .ok (.lsub, 1))
    (K : own_Fin p e below E (T.setTop (mkF m (pc + 1) Ls (.long (x - y) :: st)))) : own_Fin p e below E (T.setTop (mkF m pc Ls (.long y :: .long x :: st))) :=
  own_via K fun t k => Jvm.Free.XT.lsub X.here hx rfl hd rfl k
theorem own_lxor (X : Stand p l e R s m args below meth c T locs cells slots) (hx : p.tables.exec = Jvm.exec) {x y : Int64} (hd : decode c.code pc = .ok (.lxor, 1))
    (K : own_Fin p e below E (T.setTop (mkF m (pc + 1) Ls (.long (x ^^^ y) :: st)))) : own_Fin p e below E (T.setTop (mkF m pc Ls (.long y :: .long x :: st))) :=
  own_via K fun t k => Jvm.Free.XT.lxor X.here hx rfl hd rfl k
theorem own_lcmp (X : Stand p l e R s m args below meth c T locs cells slots) (hx : p.tables.exec = Jvm.exec) {x y : Int64} (hd : decode c.code pc = .ok (.lcmp, 1))
    (K : own_Fin p e below E (T.setTop (mkF m (pc + 1) Ls (.int (Jvm.Free.XT.cmpL x y) :: st)))) : own_Fin p e below E (T.setTop (mkF m pc Ls (.long y :: .long x :: st))) :=
  own_via K fun t k => Jvm.Free.XT.lcmp X.here hx rfl hd rfl k
theorem own_i2b (X : Stand p l e R s m args below meth c T locs cells slots) (hx : p.tables.exec = Jvm.exec) {x : Int32} (hd : decode c.code pc = .ok (.i2b, 1))
    (K : own_Fin p e below E (T.setTop (mkF m (pc + 1) Ls (.int (x.toInt8.toInt32) :: st)))) : own_Fin p e below E (T.setTop (mkF m pc Ls (.int x :: st))) :=
  own_via K fun t k => Jvm.Free.XT.i2b X.here hx rfl hd rfl k
theorem own_i2l (X : Stand p l e R s m args below meth c T locs cells slots) (hx : p.tables.exec = Jvm.exec) {x : Int32} (hd : decode c.code pc = .ok (.i2l, 1))
    (K : own_Fin p e below E (T.setTop (mkF m (pc + 1) Ls (.long (x.toInt64) :: st)))) : own_Fin p e below E (T.setTop (mkF m pc Ls (.int x :: st))) :=
  own_via K fun t k => Jvm.Free.XT.i2l X.here hx rfl hd rfl k
theorem own_l2i (X : Stand p l e R s m args below meth c T locs cells slots) (hx : p.tables.exec = Jvm.exec) {x : Int64} (hd : decode c.code pc = .ok (.l2i, 1))
    (K : own_Fin p e below E (T.setTop (mkF m (pc + 1) Ls (.int (x.toInt32) :: st)))) : own_Fin p e below E (T.setTop (mkF m pc Ls (.long x :: st))) :=
  own_via K fun t k => Jvm.Free.XT.l2i X.here hx rfl hd rfl k
theorem own_dup (X : Stand p l e R s m args below meth c T locs cells slots) (hx : p.tables.exec = Jvm.exec) {v : Value} (hd : decode c.code pc = .ok (.dup, 1)) (hc : v.category = 1)
    (K : own_Fin p e below E (T.setTop (mkF m (pc + 1) Ls (v :: v :: st)))) : own_Fin p e below E (T.setTop (mkF m pc Ls (v :: st))) :=
  own_via K fun t k => XS.dup X.here hx rfl hd rfl hc k
theorem own_pop (X : Stand p l e R s m args below meth c T locs cells slots) (hx : p.tables.exec = Jvm.exec) {v : Value} (hd : decode c.code pc = .ok (.pop, 1)) (hc : v.category = 1)
    (K : own_Fin p e below E (T.setTop (mkF m (pc + 1) Ls st))) : own_Fin p e below E (T.setTop (mkF m pc Ls (v :: st))) :=
  own_via K fun t k => Jvm.Free.XT.pop X.here hx rfl hd rfl hc k
theorem own_istoreN (X : Stand p l e R s m args below meth c T locs cells slots) (hx : p.tables.exec = Jvm.exec) {k : Fin 4} {x : Int32} {l' : Array Slot} (hd : decode c.code pc = .ok (.istore_n k, 1)) (hl : storeLocals Ls k.val (.int x) = some l')
    (K : own_Fin p e below E (T.setTop (mkF m (pc + 1) l' st))) : own_Fin p e below E (T.setTop (mkF m pc Ls (.int x :: st))) :=
  own_via K fun t k => XS.istoreN X.here hx rfl hd rfl hl k
theorem own_istore (X : Stand p l e R s m args below meth c T locs cells slots) (hx : p.tables.exec = Jvm.exec) {k : Nat} {x : Int32} {l' : Array Slot} (hd : decode c.code pc = .ok (.istore k, 2)) (hl : storeLocals Ls k (.int x) = some l')
    (K : own_Fin p e below E (T.setTop (mkF m (pc + 2) l' st))) : own_Fin p e below E (T.setTop (mkF m pc Ls (.int x :: st))) :=
  own_via K fun t k => XS.istore X.here hx rfl hd rfl hl k
theorem own_astoreN (X : Stand p l e R s m args below meth c T locs cells slots) (hx : p.tables.exec = Jvm.exec) {k : Fin 4} {x : Value} {l' : Array Slot} (hd : decode c.code pc = .ok (.astore_n k, 1)) (hv : x.isRef = true) (hl : storeLocals Ls k.val x = some l')
    (K : own_Fin p e below E (T.setTop (mkF m (pc + 1) l' st))) : own_Fin p e below E (T.setTop (mkF m pc Ls (x :: st))) :=
  own_via K fun t k => XS.astoreN X.here hx rfl hd rfl hv hl k
theorem own_astore (X : Stand p l e R s m args below meth c T locs cells slots) (hx : p.tables.exec = Jvm.exec) {k : Nat} {x : Value} {l' : Array Slot} (hd : decode c.code pc = .ok (.astore k, 2)) (hv : x.isRef = true) (hl : storeLocals Ls k x = some l')
    (K : own_Fin p e below E (T.setTop (mkF m (pc + 2) l' st))) : own_Fin p e below E (T.setTop (mkF m pc Ls (x :: st))) :=
  own_via K fun t k => XS.astore X.here hx rfl hd rfl hv hl k
theorem own_lstore (X : Stand p l e R s m args below meth c T locs cells slots) (hx : p.tables.exec = Jvm.exec) {k : Nat} {x : Int64} {l' : Array Slot} (hd : decode c.code pc = .ok (.lstore k, 2)) (hl : storeLocals Ls k (.long x) = some l')
    (K : own_Fin p e below E (T.setTop (mkF m (pc + 2) l' st))) : own_Fin p e below E (T.setTop (mkF m pc Ls (.long x :: st))) :=
  own_via K fun t k => Jvm.Free.XT.lstore X.here hx rfl hd rfl hl k
theorem own_iinc (X : Stand p l e R s m args below meth c T locs cells slots) (hx : p.tables.exec = Jvm.exec) {k : Nat} {cst : Int} {x : Int32} {l' : Array Slot} (v : Int32) (hd : decode c.code pc = .ok (.iinc k cst, 3)) (hv : Int32.ofInt cst = v) (hl : Ls[k]? = some (.val (.int x))) (hl' : storeLocals Ls k (.int (x + v)) = some l')
    (K : own_Fin p e below E (T.setTop (mkF m (pc + 3) l' st))) : own_Fin p e below E (T.setTop (mkF m pc Ls st)) :=
  own_via K fun t k => Jvm.Free.XT.iincV X.here hx rfl v hd hv hl hl' k
theorem own_goto (X : Stand p l e R s m args below meth c T locs cells slots) (hx : p.tables.exec = Jvm.exec) {o : Int} (pc' : Nat)  (hd : decode c.code pc = .ok (.goto o, 3)) (ho : 0 ≤ (pc : Int) + o) (hp : ((pc : Int) + o).toNat = pc')
    (K : own_Fin p e below E (T.setTop (mkF m pc' Ls st))) : own_Fin p e below E (T.setTop (mkF m pc Ls st)) :=
  own_via K fun t k => XS.goto X.here hx rfl rfl hd ho hp k
theorem own_ifYes (X : Stand p l e R s m args below meth c T locs cells slots) (hx : p.tables.exec = Jvm.exec) {cd : ClassFile.Cond} {x : Int32} {o : Int} (pc' : Nat)  (hd : decode c.code pc = .ok (.ifCond cd o, 3)) (ho : 0 ≤ (pc : Int) + o) (hp : ((pc : Int) + o).toNat = pc') (hc : ifCond.holds cd x = true)
    (K : own_Fin p e below E (T.setTop (mkF m pc' Ls st))) : own_Fin p e below E (T.setTop (mkF m pc Ls (.int x :: st))) :=
  own_via K fun t k => XS.ifYes X.here hx rfl rfl hd rfl hc ho hp k
theorem own_ifNo (X : Stand p l e R s m args below meth c T locs cells slots) (hx : p.tables.exec = Jvm.exec) {cd : ClassFile.Cond} {x : Int32} {o : Int} (hd : decode c.code pc = .ok (.ifCond cd o, 3)) (hc : ifCond.holds cd x = false)
    (K : own_Fin p e below E (T.setTop (mkF m (pc + 3) Ls st))) : own_Fin p e below E (T.setTop (mkF m pc Ls (.int x :: st))) :=
  own_via K fun t k => XS.ifNo X.here hx rfl hd rfl hc k
theorem own_icmpYes (X : Stand p l e R s m args below meth c T locs cells slots) (hx : p.tables.exec = Jvm.exec) {cd : ClassFile.Cond} {x y : Int32} {o : Int} (pc' : Nat)  (hd : decode c.code pc = .ok (.if_icmp cd o, 3)) (ho : 0 ≤ (pc : Int) + o) (hp : ((pc : Int) + o).toNat = pc') (hc : if_icmp.holds cd x y = true)
    (K : own_Fin p e below E (T.setTop (mkF m pc' Ls st))) : own_Fin p e below E (T.setTop (mkF m pc Ls (.int y :: .int x :: st))) :=
  own_via K fun t k => XS.icmpYes X.here hx rfl rfl hd rfl hc ho hp k
theorem own_icmpNo (X : Stand p l e R s m args below meth c T locs cells slots) (hx : p.tables.exec = Jvm.exec) {cd : ClassFile.Cond} {x y : Int32} {o : Int} (hd : decode c.code pc = .ok (.if_icmp cd o, 3)) (hc : if_icmp.holds cd x y = false)
    (K : own_Fin p e below E (T.setTop (mkF m (pc + 3) Ls st))) : own_Fin p e below E (T.setTop (mkF m pc Ls (.int y :: .int x :: st))) :=
  own_via K fun t k => XS.icmpNo X.here hx rfl hd rfl hc k
theorem own_acmpYes (X : Stand p l e R s m args below meth c T locs cells slots) (hx : p.tables.exec = Jvm.exec) {cd : ClassFile.ACond} {x y : Value} {o : Int} (pc' : Nat)  (hd : decode c.code pc = .ok (.if_acmp cd o, 3)) (ho : 0 ≤ (pc : Int) + o) (hp : ((pc : Int) + o).toNat = pc') (hx' : x.isRef = true) (hy' : y.isRef = true) (hc : Jvm.Free.XT.acmp cd x y = true)
    (K : own_Fin p e below E (T.setTop (mkF m pc' Ls st))) : own_Fin p e below E (T.setTop (mkF m pc Ls (y :: x :: st))) :=
  own_via K fun t k => Jvm.Free.XT.acmpYes X.here hx rfl rfl hd rfl hx' hy' hc ho hp k
theorem own_acmpNo (X : Stand p l e R s m args below meth c T locs cells slots) (hx : p.tables.exec = Jvm.exec) {cd : ClassFile.ACond} {x y : Value} {o : Int} (hd : decode c.code pc = .ok (.if_acmp cd o, 3)) (hx' : x.isRef = true) (hy' : y.isRef = true) (hc : Jvm.Free.XT.acmp cd x y = false)
    (K : own_Fin p e below E (T.setTop (mkF m (pc + 3) Ls st))) : own_Fin p e below E (T.setTop (mkF m pc Ls (y :: x :: st))) :=
  own_via K fun t k => Jvm.Free.XT.acmpNo X.here hx rfl hd rfl hx' hy' hc k
theorem own_ifnullYes (X : Stand p l e R s m args below meth c T locs cells slots) (hx : p.tables.exec = Jvm.exec) {o : Int} (pc' : Nat)  (hd : decode c.code pc = .ok (.ifnull o, 3)) (ho : 0 ≤ (pc : Int) + o) (hp : ((pc : Int) + o).toNat = pc')
    (K : own_Fin p e below E (T.setTop (mkF m pc' Ls st))) : own_Fin p e below E (T.setTop (mkF m pc Ls (.null :: st))) :=
  own_via K fun t k => XS.ifnullYes X.here hx rfl rfl hd rfl ho hp k
theorem own_ifnullNo (X : Stand p l e R s m args below meth c T locs cells slots) (hx : p.tables.exec = Jvm.exec) {o : Int} {b : Addr} (hd : decode c.code pc = .ok (.ifnull o, 3))
    (K : own_Fin p e below E (T.setTop (mkF m (pc + 3) Ls st))) : own_Fin p e below E (T.setTop (mkF m pc Ls (.ref b :: st))) :=
  own_via K fun t k => XS.ifnullNo X.here hx rfl hd rfl k
theorem own_ifnonnullYes (X : Stand p l e R s m args below meth c T locs cells slots) (hx : p.tables.exec = Jvm.exec) {o : Int} {b : Addr} (pc' : Nat)  (hd : decode c.code pc = .ok (.ifnonnull o, 3)) (ho : 0 ≤ (pc : Int) + o) (hp : ((pc : Int) + o).toNat = pc')
    (K : own_Fin p e below E (T.setTop (mkF m pc' Ls st))) : own_Fin p e below E (T.setTop (mkF m pc Ls (.ref b :: st))) :=
  own_via K fun t k => Jvm.Free.XT.ifnonnullYes X.here hx rfl rfl hd rfl ho hp k
theorem own_ifnonnullNo (X : Stand p l e R s m args below meth c T locs cells slots) (hx : p.tables.exec = Jvm.exec) {o : Int} (hd : decode c.code pc = .ok (.ifnonnull o, 3))
    (K : own_Fin p e below E (T.setTop (mkF m (pc + 3) Ls st))) : own_Fin p e below E (T.setTop (mkF m pc Ls (.null :: st))) :=
  own_via K fun t k => Jvm.Free.XT.ifnonnullNo X.here hx rfl hd rfl k
theorem own_getstatic (X : Stand p l e R s m args below meth c T locs cells slots) (hx : p.tables.exec = Jvm.exec) (hZ : Z.Warmed39 s.vm) {own R0 O n d host : String} {index : Nat} (hown : s.vm.findClass own = some m.cls) (w : (Jvm.Cond.fieldLink own index R0 n d).before a0 Z = true ∨ (Jvm.Cond.fieldLinkNest own index R0 n d host).before a0 Z = true) (via : Via Z R0 O n d) (eT : T.heap = h) {v : Value} (F : Sta Z h O n d v) (hd : decode c.code pc = .ok (.getstatic index, 3))
    (K : ∀ T', Stand p l e R s m args below meth c T' locs cells slots → T'.heap = h → own_Fin p e below E (T'.setTop (mkF m (pc + 3) Ls (v :: st)))) : own_Fin p e below E (T.setTop (mkF m pc Ls st)) := by
  obtain ⟨T', X', e', sp⟩ := getS2 X hx hZ hown w via eT F (g := mkF m pc Ls st) rfl hd
  exact own_via (K T' X' e') sp
theorem own_getfield (X : Stand p l e R s m args below meth c T locs cells slots) (hx : p.tables.exec = Jvm.exec) (hZ : Z.Warmed39 s.vm) {own R0 O n d host : String} {index : Nat} (hown : s.vm.findClass own = some m.cls) (w : (Jvm.Cond.fieldLink own index R0 n d).before a0 Z = true ∨ (Jvm.Cond.fieldLinkNest own index R0 n d host).before a0 Z = true) (via : Via Z R0 O n d) (eT : T.heap = h) {a : Addr} {v : Value} (F : Fld Z h a O n d v) (hd : decode c.code pc = .ok (.getfield index, 3))
    (K : ∀ T', Stand p l e R s m args below meth c T' locs cells slots → T'.heap = h → own_Fin p e below E (T'.setTop (mkF m (pc + 3) Ls (v :: st)))) : own_Fin p e below E (T.setTop (mkF m pc Ls (.ref a :: st))) := by
  obtain ⟨T', X', e', sp⟩ := getF X hx hZ hown w via eT F (g := mkF m pc Ls (.ref a :: st)) rfl rfl hd
  exact own_via (K T' X' e') sp
theorem own_putfield (X : Stand p l e R s m args below meth c T locs cells slots) (hx : p.tables.exec = Jvm.exec) (hZ : Z.Warmed39 s.vm) {own R0 O n d host : String} {index : Nat} (hown : s.vm.findClass own = some m.cls) (w : (Jvm.Cond.fieldLink own index R0 n d).before a0 Z = true ∨ (Jvm.Cond.fieldLinkNest own index R0 n d host).before a0 Z = true) (via : Via Z R0 O n d) (eT : T.heap = h) {C : String} {kk : Nat} {ty : FieldType} {a : Addr} {v old : Value} (F : Fld Z h a O n d old) (EX : Exa Z h a C) (L : (Jvm.Cond.lays C O n d).before a0 Z = true ∨ ((Jvm.Cond.laysFinal C O n d).before a0 Z = true ∧ own = O ∧ meth.name = "<init>")) (wi : (Jvm.Cond.instantiable C kk).before a0 Z = true)
    (hty : parseFieldDescriptor d = some ty) (hn : narrow ty v = v) (hf : fits ty v = true) (hd : decode c.code pc = .ok (.putfield index, 3))
    (K : ∀ T' h', Stand p l e R s m args below meth c T' (locs ++ [⟨a, Jvm.RoadKit.slotOf Z O n d⟩]) cells slots → T'.heap = h' → Wr h h' a (Jvm.RoadKit.slotOf Z O n d) v → own_Fin p e below E (T'.setTop (mkF m (pc + 3) Ls st))) : own_Fin p e below E (T.setTop (mkF m pc Ls (v :: .ref a :: st))) := by
  obtain ⟨T', h', X', e', W, sp⟩ := putF X hx hZ hown w via eT F EX L wi hty hn hf (g := mkF m pc Ls (v :: .ref a :: st)) rfl rfl hd
  exact own_via (K T' h' X' e' W) sp
theorem own_new (X : Stand p l e R s m args below meth c T locs cells slots) (hx : p.tables.exec = Jvm.exec) (hZ : Z.Warmed39 s.vm) {own C : String} {index n : Nat} (hown : s.vm.findClass own = some m.cls) (w : (Jvm.Cond.classLink own index C).before a0 Z = true) (wi : (Jvm.Cond.instantiable C n).before a0 Z = true) (wz : (Jvm.Cond.initialized C).before a0 Z = true) (eT : T.heap = h)
    (hd : decode c.code pc = .ok (.new index, 3)) (hc : cells + 1 ≤ R.cells) (hl : slots + n ≤ R.slots)
    (K : ∀ T' h' b, Stand p l e R s m args below meth c T' locs (cells + 1) (slots + n) → T'.heap = h' → b = h.size → Ext h h' → Exa Z h' b C → (∀ {O nm d : String} {ty : FieldType}, Laid Z a0 C O nm d → parseFieldDescriptor d = some ty → Fld Z h' b O nm d (defaultValue ty)) → own_Fin p e below E (T'.setTop (mkF m (pc + 3) Ls (.ref b :: st)))) : own_Fin p e below E (T.setTop (mkF m pc Ls st)) := by
  obtain ⟨T', h', X', e', EE, A, D, -, sp⟩ := newO X hx hZ hown w wi wz eT (g := mkF m pc Ls st) rfl hd hc hl
  exact own_via (K T' h' _ X' e' rfl EE A D) sp
theorem own_arraylength (X : Stand p l e R s m args below meth c T locs cells slots) (hx : p.tables.exec = Jvm.exec) (hZ : Z.Warmed39 s.vm) {a : Addr} {cl : Cell} {ty : FieldType} {n : Int32} (eT : T.heap = h) (A : Arr Z h a cl ty) (hn : cl.slots.size.toInt32 = n) (hd : decode c.code pc = .ok (.arraylength, 1))
    (K : own_Fin p e below E (T.setTop (mkF m (pc + 1) Ls (.int n :: st)))) : own_Fin p e below E (T.setTop (mkF m pc Ls (.ref a :: st))) := by
  subst hn
  exact own_via K fun t k => X.arraylength hx (by rw [eT]; exact A.1) (State.isArrayOf_alike hZ.alike A.2.1) (g := mkF m pc Ls (.ref a :: st)) rfl rfl hd t k
theorem own_aaload (X : Stand p l e R s m args below meth c T locs cells slots) (hx : p.tables.exec = Jvm.exec) (hZ : Z.Warmed39 s.vm) {a : Addr} {cl : Cell} {j : Int32} {v : Value} (eT : T.heap = h) {ty : FieldType} (A : Arr Z h a cl ty) (hty : ty.isReference = true) (hin : ¬ (j < 0 ∨ cl.slots.size ≤ j.toNatClampNeg)) (hv : cl.slots[j.toNatClampNeg]? = some v) (hd : decode c.code pc = .ok (.aaload, 1))
    (K : own_Fin p e below E (T.setTop (mkF m (pc + 1) Ls (v :: st)))) : own_Fin p e below E (T.setTop (mkF m pc Ls (.int j :: .ref a :: st))) :=
  own_via K fun t k => X.aaload hx (by rw [eT]; exact A.1) (State.isArrayOf_alike hZ.alike A.2.1) hty A.2.2 hin hv (g := mkF m pc Ls (.int j :: .ref a :: st)) rfl rfl hd t k
theorem own_baload (X : Stand p l e R s m args below meth c T locs cells slots) (hx : p.tables.exec = Jvm.exec) (hZ : Z.Warmed39 s.vm) {a : Addr} {cl : Cell} {j : Int32} {v : Value} (eT : T.heap = h) (A : Arr Z h a cl .byte)  (hin : ¬ (j < 0 ∨ cl.slots.size ≤ j.toNatClampNeg)) (hv : cl.slots[j.toNatClampNeg]? = some v) (hd : decode c.code pc = .ok (.baload, 1))
    (K : own_Fin p e below E (T.setTop (mkF m (pc + 1) Ls (v :: st)))) : own_Fin p e below E (T.setTop (mkF m pc Ls (.int j :: .ref a :: st))) :=
  own_via K fun t k => X.baloadBytes hx (by rw [eT]; exact A.1) (State.isArrayOf_alike hZ.alike A.2.1) A.2.2 hin hv (g := mkF m pc Ls (.int j :: .ref a :: st)) rfl rfl hd t k
theorem own_baloadZ (X : Stand p l e R s m args below meth c T locs cells slots) (hx : p.tables.exec = Jvm.exec) (hZ : Z.Warmed39 s.vm) {a : Addr} {cl : Cell} {j : Int32} {v : Value} (eT : T.heap = h) (A : Arr Z h a cl .boolean)  (hin : ¬ (j < 0 ∨ cl.slots.size ≤ j.toNatClampNeg)) (hv : cl.slots[j.toNatClampNeg]? = some v) (hd : decode c.code pc = .ok (.baload, 1))
    (K : own_Fin p e below E (T.setTop (mkF m (pc + 1) Ls (v :: st)))) : own_Fin p e below E (T.setTop (mkF m pc Ls (.int j :: .ref a :: st))) :=
  own_via K fun t k => X.baloadBooleans hx (by rw [eT]; exact A.1) (State.isArrayOf_alike hZ.alike A.2.1) A.2.2 hin hv (g := mkF m pc Ls (.int j :: .ref a :: st)) rfl rfl hd t k
theorem own_newarray (X : Stand p l e R s m args below meth c T locs cells slots) (hx : p.tables.exec = Jvm.exec) (hZ : Z.Warmed39 s.vm) {aty : ArrayType} (w : (Jvm.Cond.arrayClass (newarray.typeOf aty)).before a0 Z = true) (eT : T.heap = h) (hd : decode c.code pc = .ok (.newarray aty, 2)) {n : Int32} (hn : ¬ n < 0) (cap : Nat) (hcap : n.toNatClampNeg ≤ cap) (hb : cap * 8 ≤ 536870912) (hc : cells + 1 ≤ R.cells) (hl : slots + cap ≤ R.slots)
    (K : ∀ T' h' b cA, Stand p l e R s m args below meth c T' locs (cells + 1) (slots + cap) → T'.heap = h' → b = h.size → Ext h h' → Arr Z h' b (newA cA (newarray.typeOf aty) n) (newarray.typeOf aty) → own_Fin p e below E (T'.setTop (mkF m (pc + 2) Ls (.ref b :: st)))) : own_Fin p e below E (T.setTop (mkF m pc Ls (.int n :: st))) := by
  obtain ⟨T', h', cA, X', e', EE, A, sp⟩ := newP X hx hZ w eT (g := mkF m pc Ls (.int n :: st)) rfl hd rfl hn hcap hb hc hl
  exact own_via (K T' h' _ cA X' e' rfl EE A) sp
theorem own_bastore (X : Stand p l e R s m args below meth c T locs cells slots) (hx : p.tables.exec = Jvm.exec) (hZ : Z.Warmed39 s.vm) {a : Addr} {cl : Cell} {j x : Int32} (eT : T.heap = h) (A : Arr Z h a cl .byte) (hj : ¬ (j < 0 ∨ cl.slots.size ≤ j.toNatClampNeg)) (hd : decode c.code pc = .ok (.bastore, 1))
    (K : ∀ T' h', Stand p l e R s m args below meth c T' (locs ++ [⟨a, j.toNatClampNeg⟩]) cells slots → T'.heap = h' → Wr h h' a j.toNatClampNeg (.int (nar .byte x)) → own_Fin p e below E (T'.setTop (mkF m (pc + 1) Ls st))) : own_Fin p e below E (T.setTop (mkF m pc Ls (.int x :: .int j :: .ref a :: st))) := by
  obtain ⟨T', h', X', e', W, sp⟩ := stB X hx hZ eT A (x := x) hj (g := mkF m pc Ls (.int x :: .int j :: .ref a :: st)) rfl rfl hd
  exact own_via (K T' h' X' e' W) sp
theorem own_virt (X : Stand p l e R s m args below meth c T locs cells slots) (hx : p.tables.exec = Jvm.exec) (hZ : Z.Warmed39 s.vm) {own C : String} {index : Nat} {y z : MethodName} {bytes : ByteArray} {maxL : Nat} {ret : Option FieldType} {rm : Room} {W : Nat} {as' : Array Value} {Q' : Option Value → Heap → List Loc → Prop} {argsL rest : List Value} {a : Addr} (hown : s.vm.findClass own = some m.cls) (w1 : (Jvm.Cond.methodLink own index y).before a0 Z = true) (w2 : (Jvm.Cond.declares y).before a0 Z = true) (w3 : (Jvm.Cond.selects y.cls y y).before a0 Z = true) (w4 : (Jvm.Cond.selects C y z).before a0 Z = true) (w5 : (Jvm.Cond.instanceMethod z).before a0 Z = true)
    (w6 : (Jvm.Cond.code z bytes maxL ret).before a0 Z = true) (w7 : (Jvm.Cond.initialized z.cls).before a0 Z = true) (hy : y.cls ≠ "java/lang/invoke/MethodHandle" ∧ y.cls ≠ "java/lang/invoke/VarHandle") (eT : T.heap = h) (EX : Exa Z h a C) (hd : decode c.code pc = .ok (.invokevirtual index, 3)) (hsz : Ls.size = c.maxLocals) {ps : List FieldType} {rt : Option FieldType} (hpd : parseMethodDescriptor y.desc = some ⟨ps, rt⟩) (hlen : argsL.length = ps.length) (hW : (rest.map fun v => v.category).sum ≤ W)
    (hM : own_Met l Z z bytes maxL ret rm as' h Q') (hf : rm.frames + 1 ≤ R.frames) (hl : W + (maxL + 11) + rm.locals ≤ R.locals) (hcc : cells + rm.cells ≤ R.cells) (hss : slots + rm.slots ≤ R.slots) (hst : st = argsL.reverse ++ .ref a :: rest) (has : as' = (.ref a :: argsL).toArray)
    (K : ∀ v T' L', Stand p l e R s m args below meth c T' (locs ++ L') (cells + rm.cells) (slots + rm.slots) → Q' v T'.heap L' → own_Fin p e below E (T'.setTop (mkF m (pc + 3) Ls (v.toList ++ rest)))) : own_Fin p e below E (T.setTop (mkF m pc Ls st)) := by
  subst hst has
  obtain ⟨cq, kq, qa, -, qc⟩ := isOf hZ eT EX
  obtain ⟨v, _, ⟨T', L', k', n'⟩, -, X', ⟨L2, hQ, l1, y1, z1⟩, sp⟩ := X.virtualBack hx (y := y) (z := z) hown (mvT hZ w1) (mvT hZ w2) (notFace_of_selects (args := #[]) (mvT hZ w3)) (mvT hZ w4) (mvT hZ w5) hy (backOf (W := W) (hM []) hZ w6 w7 hf hl) qa qc (g := mkF m pc Ls (argsL.reverse ++ .ref a :: rest)) rfl hsz (Steps.refl _) (argsL := argsL) (rest := rest) (lenOf hpd hlen) rfl (by show 2 * 0 + _ ≤ _; omega) hd (fun _ _ => ⟨rfl, eT, hcc, hss⟩)
  dsimp only [Pt.U, Pt.locs, Pt.cells, Pt.slots] at X' l1 y1 z1 sp hQ
  subst l1 y1 z1
  exact own_via (K v T' L2 X' hQ) fun t k => sp.trans k
theorem own_stat (X : Stand p l e R s m args below meth c T locs cells slots) (hx : p.tables.exec = Jvm.exec) (hZ : Z.Warmed39 s.vm) {own : String} {index : Nat} {y : MethodName} {bytes : ByteArray} {maxL : Nat} {ret : Option FieldType} {rm : Room} {W : Nat} {as' : Array Value} {Q' : Option Value → Heap → List Loc → Prop} {argsL rest : List Value} (hown : s.vm.findClass own = some m.cls) (w1 : (Jvm.Cond.methodLink own index y).before a0 Z = true) (w2 : (Jvm.Cond.static y).before a0 Z = true)
    (w6 : (Jvm.Cond.code y bytes maxL ret).before a0 Z = true) (w7 : (Jvm.Cond.initialized y.cls).before a0 Z = true) (hy : y.cls ≠ "java/lang/invoke/MethodHandle" ∧ y.cls ≠ "java/lang/invoke/VarHandle") (eT : T.heap = h) (hd : decode c.code pc = .ok (.invokestatic index, 3)) (hsz : Ls.size = c.maxLocals) {ps : List FieldType} {rt : Option FieldType} (hpd : parseMethodDescriptor y.desc = some ⟨ps, rt⟩) (hlen : argsL.length = ps.length) (hW : (rest.map fun v => v.category).sum ≤ W)
    (hM : own_Met l Z y bytes maxL ret rm as' h Q') (hf : rm.frames + 1 ≤ R.frames) (hl : W + (maxL + 11) + rm.locals ≤ R.locals) (hcc : cells + rm.cells ≤ R.cells) (hss : slots + rm.slots ≤ R.slots) (hst : st = argsL.reverse ++ rest) (has : as' = argsL.toArray)
    (K : ∀ v T' L', Stand p l e R s m args below meth c T' (locs ++ L') (cells + rm.cells) (slots + rm.slots) → Q' v T'.heap L' → own_Fin p e below E (T'.setTop (mkF m (pc + 3) Ls (v.toList ++ rest)))) : own_Fin p e below E (T.setTop (mkF m pc Ls st)) := by
  subst hst has
  obtain ⟨v, _, ⟨T', L', k', n'⟩, -, X', ⟨L2, hQ, l1, y1, z1⟩, sp⟩ := Jvm.LawKit.callS X hx (y := y) hown (mvT hZ w1) (mvT hZ w2) (mvT hZ w7) (mvT hZ w6) hy (backOf (W := W) (hM []) hZ w6 w7 hf hl) (g := mkF m pc Ls (argsL.reverse ++ rest)) rfl hsz (argsL := argsL) (rest := rest) (lenOf hpd hlen) rfl (by show 2 * 0 + _ ≤ _; omega) hd (fun _ _ => ⟨rfl, eT, hcc, hss⟩)
  dsimp only [Pt.U, Pt.locs, Pt.cells, Pt.slots] at X' l1 y1 z1 sp hQ
  subst l1 y1 z1
  exact own_via (K v T' L2 X' hQ) sp
theorem own_spec (X : Stand p l e R s m args below meth c T locs cells slots) (hx : p.tables.exec = Jvm.exec) (hZ : Z.Warmed39 s.vm) {own : String} {index : Nat} {y : MethodName} {bytes : ByteArray} {maxL : Nat} {rm : Room} {W : Nat} {as' : Array Value} {Q' : Option Value → Heap → List Loc → Prop} {argsL rest : List Value} {a : Addr} (hy1 : y.name = "<init>") (hown : s.vm.findClass own = some m.cls) (w1 : (Jvm.Cond.methodLink own index y).before a0 Z = true) (w5 : (Jvm.Cond.instanceMethod y).before a0 Z = true)
    (w6 : (Jvm.Cond.code y bytes maxL none).before a0 Z = true) (w7 : (Jvm.Cond.initialized y.cls).before a0 Z = true) (hy : y.cls ≠ "java/lang/invoke/MethodHandle" ∧ y.cls ≠ "java/lang/invoke/VarHandle") (eT : T.heap = h) (hd : decode c.code pc = .ok (.invokespecial index, 3)) (hsz : Ls.size = c.maxLocals) {ps : List FieldType} {rt : Option FieldType} (hpd : parseMethodDescriptor y.desc = some ⟨ps, rt⟩) (hlen : argsL.length = ps.length) (hW : (rest.map fun v => v.category).sum ≤ W)
    (hM : own_Met l Z y bytes maxL none rm as' h Q') (hf : rm.frames + 1 ≤ R.frames) (hl : W + (maxL + 11) + rm.locals ≤ R.locals) (hcc : cells + rm.cells ≤ R.cells) (hss : slots + rm.slots ≤ R.slots) (hst : st = argsL.reverse ++ .ref a :: rest) (has : as' = (.ref a :: argsL).toArray)
    (K : ∀ v T' L', Stand p l e R s m args below meth c T' (locs ++ L') (cells + rm.cells) (slots + rm.slots) → Q' v T'.heap L' → own_Fin p e below E (T'.setTop (mkF m (pc + 3) Ls (v.toList ++ rest)))) : own_Fin p e below E (T.setTop (mkF m pc Ls st)) := by
  subst hst has
  obtain ⟨v, _, ⟨T', L', k', n'⟩, -, X', ⟨L2, hQ, l1, y1, z1⟩, sp⟩ := X.specialBack hx (y := y) hy1 hown (mvT hZ w1) (mvT hZ w5) (mvT hZ w6) hy (backOf (W := W) (hM []) hZ w6 w7 hf hl) (g := mkF m pc Ls (argsL.reverse ++ .ref a :: rest)) rfl hsz (Steps.refl _) (a := a) (argsL := argsL) (rest := rest) (lenOf hpd hlen) rfl (by show 2 * 0 + _ ≤ _; omega) hd (fun _ _ => ⟨rfl, eT, hcc, hss⟩)
  dsimp only [Pt.U, Pt.locs, Pt.cells, Pt.slots] at X' l1 y1 z1 sp hQ
  subst l1 y1 z1
  exact own_via (K v T' L2 X' hQ) fun t k => sp.trans k
theorem own_retN (X : Stand p l e R s m args below meth c T locs cells slots) (hx : p.tables.exec = Jvm.exec) {t : FieldType} {z : Int32} (hret : meth.sig.returnType = some t) (ht : t = .boolean ∨ t = .byte ∨ t = .char ∨ t = .short) (hd : decode c.code pc = .ok (.ireturn, 1)) (hlk : meth.locks = false) (hc : cells ≤ kc) (hs : slots ≤ ks) (hQ : Q (some (.int (nar t z))) T.heap locs) : own_Fin p e below (own_End s Q kc ks) (T.setTop (mkF m pc Ls (.int z :: st))) := by
  obtain ⟨fs, hr, hrun, hended, hW, hsame⟩ := X.leave (v := some (.int (nar t z))) (fun h => by rw [hret] at h; cases h) hlk
  exact ⟨_, _, retN X hx hret ht hd hr, hrun, hended, _, _, rfl, hQ, ⟨_, rfl⟩, hW, hsame.mono hc hs⟩
theorem own_retI (X : Stand p l e R s m args below meth c T locs cells slots) (hx : p.tables.exec = Jvm.exec) {z : Int32} (hret : meth.sig.returnType = some .int) (hd : decode c.code pc = .ok (.ireturn, 1)) (hlk : meth.locks = false) (hc : cells ≤ kc) (hs : slots ≤ ks) (hQ : Q (some (.int z)) T.heap locs) : own_Fin p e below (own_End s Q kc ks) (T.setTop (mkF m pc Ls (.int z :: st))) := by
  obtain ⟨fs, hr, hrun, hended, hW, hsame⟩ := X.leave (v := some (.int z)) (fun h => by rw [hret] at h; cases h) hlk
  exact ⟨_, _, retOut X hx hret rfl (Or.inl ⟨rfl, Or.inl rfl, z, rfl⟩) hd hr, hrun, hended, _, _, rfl, hQ, ⟨_, rfl⟩, hW, hsame.mono hc hs⟩
theorem own_retJ (X : Stand p l e R s m args below meth c T locs cells slots) (hx : p.tables.exec = Jvm.exec) {z : Int64} (hret : meth.sig.returnType = some .long) (hd : decode c.code pc = .ok (.lreturn, 1)) (hlk : meth.locks = false) (hc : cells ≤ kc) (hs : slots ≤ ks) (hQ : Q (some (.long z)) T.heap locs) : own_Fin p e below (own_End s Q kc ks) (T.setTop (mkF m pc Ls (.long z :: st))) := by
  obtain ⟨fs, hr, hrun, hended, hW, hsame⟩ := X.leave (v := some (.long z)) (fun h => by rw [hret] at h; cases h) hlk
  exact ⟨_, _, retOut X hx hret rfl (Or.inr (Or.inl ⟨rfl, rfl, z, rfl⟩)) hd hr, hrun, hended, _, _, rfl, hQ, ⟨_, rfl⟩, hW, hsame.mono hc hs⟩
theorem own_retA (X : Stand p l e R s m args below meth c T locs cells slots) (hx : p.tables.exec = Jvm.exec) {t : FieldType} {v : Value} (hret : meth.sig.returnType = some t) (ht : t.isReference = true) (hv : v.isRef = true) (hn : narrow t v = v) (hd : decode c.code pc = .ok (.areturn, 1)) (hlk : meth.locks = false) (hc : cells ≤ kc) (hs : slots ≤ ks) (hQ : Q (some v) T.heap locs) : own_Fin p e below (own_End s Q kc ks) (T.setTop (mkF m pc Ls (v :: st))) := by
  obtain ⟨fs, hr, hrun, hended, hW, hsame⟩ := X.leave (v := some v) (fun h => by rw [hret] at h; cases h) hlk
  exact ⟨_, _, retOut X hx hret hn (Or.inr (Or.inr (Or.inr (Or.inr ⟨rfl, ht, hv⟩)))) hd hr, hrun, hended, _, _, rfl, hQ, ⟨_, rfl⟩, hW, hsame.mono hc hs⟩
theorem own_retV (X : Stand p l e R s m args below meth c T locs cells slots) (hx : p.tables.exec = Jvm.exec) (hret : meth.sig.returnType = none) (hd : decode c.code pc = .ok (.return_, 1)) (hlk : meth.locks = false) (hc : cells ≤ kc) (hs : slots ≤ ks) (hQ : Q none T.heap locs) : own_Fin p e below (own_End s Q kc ks) (T.setTop (mkF m pc Ls [])) := by
  obtain ⟨fs, hr, hrun, hended, hW, hsame⟩ := X.leave (v := none) (fun _ => rfl) hlk
  exact ⟨_, _, X.returnOut hx hret hd hr, hrun, hended, _, _, rfl, hQ, ⟨_, rfl⟩, hW, hsame.mono hc hs⟩
theorem own_exa {t : Term} {C : String} (hx : (Jvm.Cond.exactly t C).value args s none s [] = some true) : ∃ a, t.eval args s none [] s = some (.ref a) ∧ Exa s s.heap a C := by
  obtain ⟨a, ev⟩ := exa_v hx
  exact ⟨a, ev, Exa.start ev hx⟩
theorem own_eqI {t : Term} {v : Int32} {idx : List Nat} (h : (Jvm.Cond.eq t (.int v)).value args s none s idx = some true) : t.eval args s none idx s = some (.int v) := by
  simp only [Cond.value, Term.eval] at h
  cases ht : t.eval args s none idx s with
  | none => simp [ht] at h
  | some x => cases x <;> simp [ht] at h ⊢; exact h
theorem own_eqR {t u : Term} {b : Addr} {idx : List Nat} (hu : u.eval args s none idx s = some (.ref b)) (h : (Jvm.Cond.eq t u).value args s none s idx = some true) : t.eval args s none idx s = some (.ref b) := by
  simp only [Cond.value, hu] at h
  cases ht : t.eval args s none idx s with
  | none => simp [ht] at h
  | some x => cases x <;> simp [ht] at h ⊢; exact h
theorem own_len2 {t : Term} {a : Addr} {cl : Cell} {ty : FieldType} {n : Int32} (ev : t.eval args s none [] s = some (.ref a)) (A : Arr s s.heap a cl ty) (h : (Term.length t).eval args s none [] s = some (.int n)) : cl.slots.size < 2 ^ 31 ∧ cl.slots.size.toInt32 = n := by
  have hA := A.fin (Vm.Alike.refl _)
  simp only [Term.eval, ev, hA, Option.bind_eq_bind, Option.bind_some] at h
  by_cases q : cl.slots.size < 2 ^ 31
  · rw [if_pos q] at h
    exact ⟨q, Value.int.inj (Option.some.inj h)⟩
  · rw [if_neg q] at h
    cases h
theorem own_len {t : Term} {a : Addr} {cl : Cell} {ty : FieldType} {n : Int32} (ev : t.eval args s none [] s = some (.ref a)) (A : Arr s s.heap a cl ty) (h : (Term.length t).eval args s none [] s = some (.int n)) : cl.slots.size.toInt32 = n := (own_len2 ev A h).2
theorem own_fld {t : Term} {O n d : String} {a : Addr} {v : Value} (ev : t.eval args s none [] s = some (.ref a)) (h : (Term.field t O n d).eval args s none [] s = some v) : Fld s s.heap a O n d v := Fld.start (by rw [← fld_at ev]; exact h)
def own_EndW (s : State) (Q : Option Value → Heap → List Loc → Prop) (kc ks : Nat) (o : Outcome) (t : State) : Prop :=
  ∃ v L, o = .returned v ∧ Q v t.heap L ∧ ReturnedEndW s o t L kc ks
theorem own_retNW {vm₁ : Vm} {n : Nat} (X : Stand p l e R (s.setVm vm₁) m args below meth c T locs cells slots) (hx : p.tables.exec = Jvm.exec) (hS : s.Since vm₁ n) (hn : n ≤ T.heap.size) {t : FieldType} {z : Int32} (hret : meth.sig.returnType = some t) (ht : t = .boolean ∨ t = .byte ∨ t = .char ∨ t = .short) (hd : decode c.code pc = .ok (.ireturn, 1)) (hlk : meth.locks = false) (hc : cells ≤ kc) (hs : slots ≤ ks) (hQ : Q (some (.int (nar t z))) T.heap locs) : own_Fin p e below (own_EndW s Q kc ks) (T.setTop (mkF m pc Ls (.int z :: st))) := by
  obtain ⟨fs, hr, hrun, hended, h1, h2, h3, h4⟩ := X.leaveW hS hn (v := some (.int (nar t z))) (fun h => by rw [hret] at h; cases h) hlk
  exact ⟨_, _, retN X hx hret ht hd hr, hrun, hended, _, _, rfl, hQ, h1, h2, h3, h4.mono hc hs⟩
def own_MetW (l : Launch) (Z : State) (y : MethodName) (bytes : ByteArray) (maxL : Nat) (ret : Option FieldType) (rm : Room) (as' : Array Value) (h : Heap) (Q : Option Value → Heap → List Loc → Prop) : Prop :=
  ∀ ws : List Jvm.Cond, MetFree l y (head1 (Jvm.Cond.code y bytes maxL ret :: ws) rm) (fun a U => a = as' ∧ Z.Warmed39 U.vm ∧ U.heap = h) (fun _ _ _ _ _ => True) (fun _ U o U' => ∃ v L, o = .returned v ∧ Q v U'.heap L ∧ ReturnedEndW U o U' L rm.cells rm.slots)
theorem own_bodyW {y : MethodName} {bytes : ByteArray} {maxL : Nat} {ret : Option FieldType} {rm : Room} {as' : Array Value} (hp : plainFor y = true) (hef : ∀ m, entryFrame m as' maxL = mkF m 0 Ls [])
    (K : ∀ (p : Program) (e : Env) (s : State) (m : MethodId) (below : List Frame) (meth : Method) (c : Code) (s₁ : State), p.tables.exec = Jvm.exec → Z.Warmed39 s.vm → c.code = bytes → c.maxLocals = maxL → s.vm.findClass y.cls = some m.cls → meth.name = y.name → meth.sig.returnType = ret → meth.locks = false →
      Stand p l e rm s m as' below meth c s₁ [] 0 0 → s₁.heap = h → own_Fin p e below (own_EndW s Q rm.cells rm.slots) (s₁.setTop (mkF m 0 Ls []))) : own_MetW l Z y bytes maxL ret rm as' h Q := by
  intro ws
  refine MetFree.of_bodySF hp hisR ?_
  intro p e s m args below meth c s₁ Bd hml0 hP hK
  obtain ⟨rfl, hZ, hh⟩ := hP
  obtain ⟨s₂, o, h1, r⟩ := K p e s m below meth c s₁ Bd.exec hZ Bd.bytes hml0 (findClass_of_methodNamed Bd.named) (name_of_methodNamed Bd.named Bd.method).1 Bd.returns Bd.notSynchronized (Stand.of_body Bd) (by rw [← hh, Bd.state]; rfl)
  exact ⟨s₂, o, castTop (hef m) h1, r⟩
theorem own_kext {h h' : Heap} (K : Keep h h' []) : Ext h h' := ⟨K.1, fun a c q => K.2.1 a c q nin0⟩
theorem own_dup_x1 (X : Stand p l e R s m args below meth c T locs cells slots) (hx : p.tables.exec = Jvm.exec) {v w : Value} (hd : decode c.code pc = .ok (.dup_x1, 1)) (h1 : v.category = 1) (h2 : w.category = 1)
    (K : own_Fin p e below E (T.setTop (mkF m (pc + 1) Ls (v :: w :: v :: st)))) : own_Fin p e below E (T.setTop (mkF m pc Ls (v :: w :: st))) :=
  own_via K fun t k => Jvm.Free.XT.dupX1 X.here hx rfl hd rfl h1 h2 k
theorem own_initO (X : Stand p l e R s m args below meth c T locs cells slots) (hx : p.tables.exec = Jvm.exec) (hZ : Z.Warmed39 s.vm) {own : String} {idx : Nat} (hown : s.vm.findClass own = some m.cls) (w1 : (Jvm.Cond.methodLink own idx Lib.objectInit).before a0 Z = true) (w2 : (Jvm.Cond.instanceMethod Lib.objectInit).before a0 Z = true) (w3 : (Jvm.Cond.code Lib.objectInit object_method_1_code 1 none).before a0 Z = true) (eT : T.heap = h) {a : Addr} (hsz : Ls.size = c.maxLocals) (hd : decode c.code pc = .ok (.invokespecial idx, 3)) (hf : 1 ≤ R.frames) (W : Nat) (hW : (st.map fun v => v.category).sum ≤ W) (hl : W + 12 ≤ R.locals)
    (K : ∀ T', Stand p l e R s m args below meth c T' locs cells slots → T'.heap = h → own_Fin p e below E (T'.setTop (mkF m (pc + 3) Ls st))) : own_Fin p e below E (T.setTop (mkF m pc Ls (.ref a :: st))) := by
  obtain ⟨T', X', e', sp⟩ := initO X hx hZ hown w1 w2 w3 eT (g := mkF m pc Ls (.ref a :: st)) rfl hsz rfl hd hf (W := W) (by show 2 * 0 + _ ≤ _; omega) hl
  exact own_via (K T' X' e') sp
theorem own_anewarray (X : Stand p l e R s m args below meth c T locs cells slots) (hx : p.tables.exec = Jvm.exec) (hZ : Z.Warmed39 s.vm) {own C ad : String} {index : Nat} (hown : s.vm.findClass own = some m.cls) (w1 : (Jvm.Cond.classLink own index C).before a0 Z = true) (w2 : (Jvm.Cond.arrayOver (.object C)).before a0 Z = true) (eT : T.heap = h) (hd : decode c.code pc = .ok (.anewarray index, 3)) {n : Int32} (hn : ¬ n < 0) (cap : Nat) (hcap : n.toNatClampNeg ≤ cap) (hb : cap * 8 ≤ 536870912) (hc : cells + 1 ≤ R.cells) (hl : slots + cap ≤ R.slots) (had : "[" ++ (FieldType.object C).toString = ad)
    (K : ∀ T' h' b cA, Stand p l e R s m args below meth c T' locs (cells + 1) (slots + cap) → T'.heap = h' → b = h.size → Ext h h' → Arr Z h' b (newA cA (.object C) n) (.object C) → Exa Z h' b ad → Ovr Z cA C → own_Fin p e below E (T'.setTop (mkF m (pc + 3) Ls (.ref b :: st)))) : own_Fin p e below E (T.setTop (mkF m pc Ls (.int n :: st))) := by
  obtain ⟨T', h', cA, X', e', EE, A, EX, O, sp⟩ := newRE X hx hZ hown w1 w2 eT (g := mkF m pc Ls (.int n :: st)) rfl hd rfl hn hcap hb hc hl had
  exact own_via (K T' h' _ cA X' e' rfl EE A EX O) sp
theorem own_aastore (X : Stand p l e R s m args below meth c T locs cells slots) (hx : p.tables.exec = Jvm.exec) (hZ : Z.Warmed39 s.vm) {a : Addr} {cl : Cell} {ty : FieldType} {j : Int32} {v : Value} (eT : T.heap = h) (A : Arr Z h a cl ty) (hj : ¬ (j < 0 ∨ cl.slots.size ≤ j.toNatClampNeg)) (hty : ty.isReference = true) (F : Sto Z h a v) (hd : decode c.code pc = .ok (.aastore, 1))
    (K : ∀ T' h', Stand p l e R s m args below meth c T' (locs ++ [⟨a, j.toNatClampNeg⟩]) cells slots → T'.heap = h' → Wr h h' a j.toNatClampNeg v → own_Fin p e below E (T'.setTop (mkF m (pc + 1) Ls st))) : own_Fin p e below E (T.setTop (mkF m pc Ls (v :: .int j :: .ref a :: st))) := by
  obtain ⟨T', h', X', e', W, sp⟩ := stR X hx hZ eT A hj hty F (g := mkF m pc Ls (v :: .int j :: .ref a :: st)) rfl rfl hd
  exact own_via (K T' h' X' e' W) sp
theorem own_checkcast (X : Stand p l e R s m args below meth c T locs cells slots) (hx : p.tables.exec = Jvm.exec) (hZ : Z.Warmed39 s.vm) {own K0 : String} {index : Nat} (hown : s.vm.findClass own = some m.cls) (w : (Jvm.Cond.classLink own index K0).before a0 Z = true) (eT : T.heap = h) {a : Addr} (F : Ins Z h a K0 true) (hd : decode c.code pc = .ok (.checkcast index, 3))
    (K : ∀ T', Stand p l e R s m args below meth c T' locs cells slots → T'.heap = h → own_Fin p e below E (T'.setTop (mkF m (pc + 3) Ls (.ref a :: st)))) : own_Fin p e below E (T.setTop (mkF m pc Ls (.ref a :: st))) := by
  obtain ⟨T', X', e', sp⟩ := castY X hx hZ hown w eT F (g := mkF m pc Ls (.ref a :: st)) rfl rfl hd
  exact own_via (K T' X' e') sp
theorem own_instNo (X : Stand p l e R s m args below meth c T locs cells slots) (hx : p.tables.exec = Jvm.exec) (hZ : Z.Warmed39 s.vm) {own K0 C : String} {index : Nat} (hown : s.vm.findClass own = some m.cls) (w : (Jvm.Cond.classLink own index K0).before a0 Z = true) (eT : T.heap = h) {a : Addr} (EX : Exa Z h a C) (F : ∃ c t, Z.vm.findClass C = some c ∧ Z.vm.findClass K0 = some t ∧ Z.vm.assignable c t = false) (hd : decode c.code pc = .ok (.instanceof index, 3))
    (K : ∀ T', Stand p l e R s m args below meth c T' locs cells slots → T'.heap = h → own_Fin p e below E (T'.setTop (mkF m (pc + 3) Ls (.int 0 :: st)))) : own_Fin p e below E (T.setTop (mkF m pc Ls (.ref a :: st))) := by
  obtain ⟨T', X', e', sp⟩ := instNo X hx hZ hown w eT EX F (g := mkF m pc Ls (.ref a :: st)) rfl rfl hd
  exact own_via (K T' X' e') sp
def own_Mir (Z : State) (C : String) (mr : Addr) : Prop := ∃ (c : ClassId) (k : Class), Z.vm.findClass C = some c ∧ Z.vm.classes[c]? = some k ∧ k.mirror = some mr
theorem own_getClass (X : Stand p l e R s m args below meth c T locs cells slots) (hx : p.tables.exec = Jvm.exec) (hZ : Z.Warmed39 s.vm) {own C : String} {index : Nat} (hown : s.vm.findClass own = some m.cls)
    (w1 : (Jvm.Cond.methodLink own index ⟨"java/lang/Object", "getClass", "()Ljava/lang/Class;"⟩).before a0 Z = true) (w2 : (Jvm.Cond.declares ⟨"java/lang/Object", "getClass", "()Ljava/lang/Class;"⟩).before a0 Z = true) (w3 : (Jvm.Cond.noSuperclass "java/lang/Object").before a0 Z = true) (w4 : (Jvm.Cond.selects C ⟨"java/lang/Object", "getClass", "()Ljava/lang/Class;"⟩ ⟨"java/lang/Object", "getClass", "()Ljava/lang/Class;"⟩).before a0 Z = true)
    (w5 : (Jvm.Cond.instanceMethod ⟨"java/lang/Object", "getClass", "()Ljava/lang/Class;"⟩).before a0 Z = true) (w6 : (Jvm.Cond.native ⟨"java/lang/Object", "getClass", "()Ljava/lang/Class;"⟩).before a0 Z = true) (eT : T.heap = h) {a : Addr} (EX : Exa Z h a C) {mr : Addr} (M : own_Mir Z C mr) (hsz : Ls.size = c.maxLocals) (hd : decode c.code pc = .ok (.invokevirtual index, 3)) (hf : 1 ≤ R.frames) (W : Nat) (hW : (st.map fun v => v.category).sum ≤ W) (hl : W + (nativeFrameWords "java/lang/Object" "getClass" 1 + 11) ≤ R.locals)
    (K : ∀ T', Stand p l e R s m args below meth c T' locs cells slots → T'.heap = h → own_Fin p e below E (T'.setTop (mkF m (pc + 3) Ls (.ref mr :: st)))) : own_Fin p e below E (T.setTop (mkF m pc Ls (.ref a :: st))) := by
  obtain ⟨cB, kB, i1, i2, i3⟩ := isOf hZ eT EX
  obtain ⟨cc, kc, m1, m2, m3⟩ := M
  have m1' : s.vm.findClass C = some cc := by rw [hZ.alike.findClass]; exact m1
  cases i1.symm.trans m1'
  obtain ⟨k', q, ek⟩ := hZ.alike.2.2 _ _ m2
  have m3' : k'.mirror = some mr := by rw [ek]; exact m3
  obtain ⟨vm', X', sp⟩ := X.getClassOf hx hown (mvT hZ w1) (mvT hZ w2) (nf_top (args := #[]) (mvT hZ w3)) (mvT hZ w4) (mvT hZ w5) (mvT hZ w6) m1' i3 q m3' (g := mkF m pc Ls (.ref a :: st)) rfl hsz rfl hd hf (by show 2 * 0 + _ + _ ≤ _; omega)
  exact own_via (K _ X' eT) sp
theorem own_ldcC (X : Stand p l e R s m args below meth c T locs cells slots) (hx : p.tables.exec = Jvm.exec) (hZ : Z.Warmed39 s.vm) {own C : String} {index : Nat} (hown : s.vm.findClass own = some m.cls) (w : (Jvm.Cond.classLink own index C).before a0 Z = true) (eT : T.heap = h) {mr : Addr} (M : own_Mir Z C mr) (hd : decode c.code pc = .ok (.ldc index, 2))
    (K : ∀ T', Stand p l e R s m args below meth c T' locs cells slots → T'.heap = h → own_Fin p e below E (T'.setTop (mkF m (pc + 2) Ls (.ref mr :: st)))) : own_Fin p e below E (T.setTop (mkF m pc Ls st)) := by
  obtain ⟨cc, kc, m1, m2, m3⟩ := M
  obtain ⟨k', q, ek⟩ := hZ.alike.2.2 _ _ m2
  have m1' : s.vm.findClass C = some cc := by rw [hZ.alike.findClass]; exact m1
  have m3' : k'.mirror = some mr := by rw [ek]; exact m3
  obtain ⟨vm', X', sp⟩ := X.ldcMirror hx hown (mv hZ w) (a := mr) (by simp [Term.eval, m1', q, m3']) (g := mkF m pc Ls st) rfl hd
  exact own_via (K _ X' eT) sp
theorem own_arraycopy (X : Stand p l e R s m args below meth c T locs cells slots) (hx : p.tables.exec = Jvm.exec) (hZ : Z.Warmed39 s.vm) {own : String} {index : Nat} (hown : s.vm.findClass own = some m.cls)
    (w1 : (Jvm.Cond.methodLink own index Jvm.Stand.acN).before a0 Z = true) (w2 : (Jvm.Cond.native Jvm.Stand.acN).before a0 Z = true) (w3 : (Jvm.Cond.static Jvm.Stand.acN).before a0 Z = true) (w4 : (Jvm.Cond.initialized "java/lang/System").before a0 Z = true) (eT : T.heap = h)
    {a b : Addr} {k k' : ClassId} {ty ty' : FieldType} {z z' sp dp nn : Int32} {vs vd us : List Value} {dv dd : Value} (A : Arv Z h a k ty z vs dv) (B : Arv Z h b k' ty' z' vd dd) (hty : (ty = ty' ∧ refKind ty = false) ∨ (refKind ty = true ∧ refKind ty' = true ∧ StoL Z h b us))
    (h1 : ¬ sp < 0) (h2 : ¬ dp < 0) (h3 : ¬ nn < 0) (h4 : sp.toNatClampNeg + nn.toNatClampNeg ≤ z.toNatClampNeg) (h5 : dp.toNatClampNeg + nn.toNatClampNeg ≤ z'.toNatClampNeg)
    (hus : us = (List.range nn.toNatClampNeg).map fun i => vs.getD (sp.toNatClampNeg + i) dv) (hl : dp.toNatClampNeg + nn.toNatClampNeg ≤ vd.length) {n0 : Nat} (N : Fr n0 locs) (ge : n0 ≤ b)
    (hsz : Ls.size = c.maxLocals) (hd : decode c.code pc = .ok (.invokestatic index, 3)) (hf : 1 ≤ R.frames) (W : Nat) (hW : (st.map fun v => v.category).sum ≤ W) (hlo : W + (nativeFrameWords "java/lang/System" "arraycopy" 5 + 11) ≤ R.locals)
    (K : ∀ T' h' L, Stand p l e R s m args below meth c T' L cells slots → T'.heap = h' → Fr n0 L → Keep h h' [b] → Arv Z h' b k' ty' z' (vd.take dp.toNatClampNeg ++ us ++ vd.drop (dp.toNatClampNeg + nn.toNatClampNeg)) dd → own_Fin p e below E (T'.setTop (mkF m (pc + 3) Ls st))) : own_Fin p e below E (T.setTop (mkF m pc Ls (.int nn :: .int dp :: .ref b :: .int sp :: .ref a :: st))) := by
  obtain ⟨T', h', L', X', e', N', KK, V', sp'⟩ := cpA X hx hZ hown w1 w2 w3 w4 eT A B hty h1 h2 h3 h4 h5 hus hl N ge (g := mkF m pc Ls (.int nn :: .int dp :: .ref b :: .int sp :: .ref a :: st)) rfl hsz rfl hd hf (W := W) (by show 2 * 0 + _ ≤ _; omega) hlo
  exact own_via (K T' h' L' X' e' N' KK V') sp'
theorem own_tsw (X : Stand p l e R s m args below meth c T locs cells slots) (hx : p.tables.exec = Jvm.exec) {dflt low high : Int} {offs : Array Int} {len : Nat} {o : Int} (pc' : Nat) (hd : decode c.code pc = .ok (.tableswitch dflt low high offs, len)) {i : Int32} (hin : ¬ (i.toInt < low ∨ i.toInt > high)) (hoff : offs[(i.toInt - low).toNat]? = some o) (ho : 0 ≤ (pc : Int) + o) (hp : ((pc : Int) + o).toNat = pc')
    (K : own_Fin p e below E (T.setTop (mkF m pc' Ls st))) : own_Fin p e below E (T.setTop (mkF m pc Ls (.int i :: st))) :=
  own_via K fun t k => XS.tswIn X.here hx rfl rfl hd rfl hin hoff ho hp k
theorem own_priv (X : Stand p l e R s m args below meth c T locs cells slots) (hx : p.tables.exec = Jvm.exec) (hZ : Z.Warmed39 s.vm) {own : String} {index : Nat} {y : MethodName} {bytes : ByteArray} {maxL : Nat} {ret : Option FieldType} {rm : Room} {W : Nat} {as' : Array Value} {Q' : Option Value → Heap → List Loc → Prop} {argsL rest : List Value} {a : Addr} {C : String} (hown : s.vm.findClass own = some m.cls) (w1 : (Jvm.Cond.methodLink own index y).before a0 Z = true) (w3 : (Jvm.Cond.selects y.cls y y).before a0 Z = true) (w5 : (Jvm.Cond.instanceMethod y).before a0 Z = true) (w8 : (Jvm.Cond.privateMethod y).before a0 Z = true)
    (w6 : (Jvm.Cond.code y bytes maxL ret).before a0 Z = true) (w7 : (Jvm.Cond.initialized y.cls).before a0 Z = true) (hy : y.cls ≠ "java/lang/invoke/MethodHandle" ∧ y.cls ≠ "java/lang/invoke/VarHandle") (eT : T.heap = h) (EX : Exa Z h a C) (hd : decode c.code pc = .ok (.invokevirtual index, 3)) (hsz : Ls.size = c.maxLocals) {ps : List FieldType} {rt : Option FieldType} (hpd : parseMethodDescriptor y.desc = some ⟨ps, rt⟩) (hlen : argsL.length = ps.length) (hW : (rest.map fun v => v.category).sum ≤ W)
    (hM : own_Met l Z y bytes maxL ret rm as' h Q') (hf : rm.frames + 1 ≤ R.frames) (hl : W + (maxL + 11) + rm.locals ≤ R.locals) (hcc : cells + rm.cells ≤ R.cells) (hss : slots + rm.slots ≤ R.slots) (hst : st = argsL.reverse ++ .ref a :: rest) (has : as' = (.ref a :: argsL).toArray)
    (K : ∀ v T' L', Stand p l e R s m args below meth c T' (locs ++ L') (cells + rm.cells) (slots + rm.slots) → Q' v T'.heap L' → own_Fin p e below E (T'.setTop (mkF m (pc + 3) Ls (v.toList ++ rest)))) : own_Fin p e below E (T.setTop (mkF m pc Ls st)) := by
  subst hst has
  obtain ⟨cq, qa, qb⟩ := EX.cell
  obtain ⟨v, _, ⟨T', L', k', n'⟩, -, X', ⟨L2, hQ, l1, y1, z1⟩, sp⟩ := X.privateBack hx (y := y) hown (mvT hZ w1) (mvT hZ w5) (mvT hZ w3) (Cond.privateMethod_at (mvP hZ w8 (args := #[]))) (mvT hZ w6) hy (backOf (W := W) (hM []) hZ w6 w7 hf hl) (g := mkF m pc Ls (argsL.reverse ++ .ref a :: rest)) rfl hsz (Steps.refl _) (a := a) (by rw [eT]; exact qa) qb (argsL := argsL) (rest := rest) (lenOf hpd hlen) rfl (by show 2 * 0 + _ ≤ _; omega) hd (fun _ _ => ⟨rfl, eT, hcc, hss⟩)
  dsimp only [Pt.U, Pt.locs, Pt.cells, Pt.slots] at X' l1 y1 z1 sp hQ
  subst l1 y1 z1
  exact own_via (K v T' L2 X' hQ) fun t k => sp.trans k
theorem own_intf (X : Stand p l e R s m args below meth c T locs cells slots) (hx : p.tables.exec = Jvm.exec) (hZ : Z.Warmed39 s.vm) {own C : String} {index count : Nat} {y z : MethodName} {bytes : ByteArray} {maxL : Nat} {ret : Option FieldType} {rm : Room} {W : Nat} {as' : Array Value} {Q' : Option Value → Heap → List Loc → Prop} {argsL rest : List Value} {a : Addr} (hown : s.vm.findClass own = some m.cls) (w1 : (Jvm.Cond.methodLink own index y).before a0 Z = true) (w2 : (Jvm.Cond.declares y).before a0 Z = true) (w3 : (Jvm.Cond.interfaceMethod y.cls y.cls y.name y.desc).before a0 Z = true) (w4 : (Jvm.Cond.selects C y z).before a0 Z = true) (w5 : (Jvm.Cond.instanceMethod z).before a0 Z = true) (w8 : (Jvm.Cond.publicMethod z).before a0 Z = true) (w9 : (Jvm.Cond.unhidden C y.name y.desc).before a0 Z = true) (w10 : (Jvm.Cond.castable C y.cls).before a0 Z = true)
    (w6 : (Jvm.Cond.code z bytes maxL ret).before a0 Z = true) (w7 : (Jvm.Cond.initialized z.cls).before a0 Z = true) (hy : y.cls ≠ "java/lang/invoke/MethodHandle" ∧ y.cls ≠ "java/lang/invoke/VarHandle") (eT : T.heap = h) (EX : Exa Z h a C) (hd : decode c.code pc = .ok (.invokeinterface index count, 5)) (hsz : Ls.size = c.maxLocals) {ps : List FieldType} {rt : Option FieldType} (hpd : parseMethodDescriptor y.desc = some ⟨ps, rt⟩) (hlen : argsL.length = ps.length) (hW : (rest.map fun v => v.category).sum ≤ W)
    (hM : own_Met l Z z bytes maxL ret rm as' h Q') (hf : rm.frames + 1 ≤ R.frames) (hl : W + (maxL + 11) + rm.locals ≤ R.locals) (hcc : cells + rm.cells ≤ R.cells) (hss : slots + rm.slots ≤ R.slots) (hst : st = argsL.reverse ++ .ref a :: rest) (has : as' = (.ref a :: argsL).toArray)
    (K : ∀ v T' L', Stand p l e R s m args below meth c T' (locs ++ L') (cells + rm.cells) (slots + rm.slots) → Q' v T'.heap L' → own_Fin p e below E (T'.setTop (mkF m (pc + 5) Ls (v.toList ++ rest)))) : own_Fin p e below E (T.setTop (mkF m pc Ls st)) := by
  subst hst has
  obtain ⟨cq, kq, qa, qb, qc⟩ := isOf hZ eT EX
  obtain ⟨v, _, ⟨T', L', k', n'⟩, -, X', ⟨L2, hQ, l1, y1, z1⟩, sp⟩ := X.interfaceBack hx (xi := y) (y := z) hown (mvT hZ w1) (mvT hZ w2) (mvT hZ w3 (by simp [Cond.onTables, Cond.keepsFace, Cond.keeps, Cond.steady, Cond.faceAtom, hy.1, hy.2])) (mvT hZ w4) (mvT hZ w5) (mvT hZ w8) (mvT hZ w9) (mvT hZ w10) hy (backOf (W := W) (hM []) hZ w6 w7 hf hl) qa qb qc (g := mkF m pc Ls (argsL.reverse ++ .ref a :: rest)) rfl hsz (Steps.refl _) (argsL := argsL) (rest := rest) (lenOf hpd hlen) rfl (by show 2 * 0 + _ ≤ _; omega) hd (fun _ _ => ⟨rfl, eT, hcc, hss⟩)
  dsimp only [Pt.U, Pt.locs, Pt.cells, Pt.slots] at X' l1 y1 z1 sp hQ
  subst l1 y1 z1
  exact own_via (K v T' L2 X' hQ) fun t k => sp.trans k
theorem own_ldcS {vm0 : Vm} (X : Stand p l e R (s.setVm vm0) m args below meth c T locs cells slots) (hx : p.tables.exec = Jvm.exec) (hZ : Z.Warmed39 vm0) {own text : String} {index : Nat} (hown : vm0.findClass own = some m.cls) (w : (Jvm.Cond.stringLink own index text).before a0 Z = true) (wS : ∀ a ∈ Bundle.stringAtoms, a.before a0 Z = true) (eT : T.heap = h) {k0 : Nat} (hS : s.Since vm0 k0) (hk : k0 ≤ h.size) (hd : decode c.code pc = .ok (.ldc index, 2)) (n : Nat) (hn : 4 * text.toList.length ≤ n) (hbig : n ≤ 536870912) (hc : cells + 2 ≤ R.cells) (hl : slots + (n + 4) ≤ R.slots)
    (K : ∀ (a : Addr) (vm1 : Vm) (T' : State) (h' : Heap) (k1 : Nat), Stand p l e R (s.setVm vm1) m args below meth c T' locs (cells + 2) (slots + (n + 4)) → T'.heap = h' → Ext h h' → s.Since vm1 k1 → k1 ≤ h'.size → Z.Warmed39 vm1 → vm1.findClass own = some m.cls → own_Fin p e below E (T'.setTop (mkF m (pc + 2) Ls (.ref a :: st)))) : own_Fin p e below E (T.setTop (mkF m pc Ls st)) := by
  obtain ⟨a, T', h', k1, X', e', EE, hS', hk', hZ', hown', sp⟩ := ldcS X hx hZ hown w wS eT hS hk (g := mkF m pc Ls st) rfl hd hn hbig hc hl
  exact own_via (K a _ T' h' k1 X' e' EE hS' hk' hZ' hown') sp
end Own


theorem own_w0 {a0 : Array Value} {Z : State} (hw : ∀ d ∈ tables_1, d.before a0 Z = true) : (Jvm.Cond.classLink "com/example/regent/regent/controller/MasterChangedApplyToPinLaw" (7 : Nat) "java/util/ArrayList").before a0 Z = true := hw _ (List.mem_of_getElem? (i := 0) rfl)
theorem own_w1 {a0 : Array Value} {Z : State} (hw : ∀ d ∈ tables_1, d.before a0 Z = true) : (Jvm.Cond.instantiable "java/util/ArrayList" (3 : Nat)).before a0 Z = true := hw _ (List.mem_of_getElem? (i := 1) rfl)
theorem own_w2 {a0 : Array Value} {Z : State} (hw : ∀ d ∈ tables_1, d.before a0 Z = true) : (Jvm.Cond.initialized "java/util/ArrayList").before a0 Z = true := hw _ (List.mem_of_getElem? (i := 2) rfl)
theorem own_w3 {a0 : Array Value} {Z : State} (hw : ∀ d ∈ tables_1, d.before a0 Z = true) : (Jvm.Cond.methodLink "com/example/regent/regent/controller/MasterChangedApplyToPinLaw" (9 : Nat) ({ cls := "java/util/ArrayList", name := "<init>", desc := "()V" } : Jvm.MethodName)).before a0 Z = true := hw _ (List.mem_of_getElem? (i := 3) rfl)
theorem own_w4 {a0 : Array Value} {Z : State} (hw : ∀ d ∈ tables_1, d.before a0 Z = true) : (Jvm.Cond.instanceMethod ({ cls := "java/util/ArrayList", name := "<init>", desc := "()V" } : Jvm.MethodName)).before a0 Z = true := hw _ (List.mem_of_getElem? (i := 4) rfl)
theorem own_w5 {a0 : Array Value} {Z : State} (hw : ∀ d ∈ tables_1, d.before a0 Z = true) : (Jvm.Cond.code ({ cls := "java/util/ArrayList", name := "<init>", desc := "()V" } : Jvm.MethodName) jdk_38_method_2_code (1 : Nat) (Option.none : Option Jvm.ClassFile.FieldType)).before a0 Z = true := hw _ (List.mem_of_getElem? (i := 5) rfl)
theorem own_w6 {a0 : Array Value} {Z : State} (hw : ∀ d ∈ tables_1, d.before a0 Z = true) : (Jvm.Cond.methodLink "java/util/ArrayList" (1 : Nat) ({ cls := "java/util/AbstractList", name := "<init>", desc := "()V" } : Jvm.MethodName)).before a0 Z = true := hw _ (List.mem_of_getElem? (i := 6) rfl)
theorem own_w7 {a0 : Array Value} {Z : State} (hw : ∀ d ∈ tables_1, d.before a0 Z = true) : (Jvm.Cond.instanceMethod ({ cls := "java/util/AbstractList", name := "<init>", desc := "()V" } : Jvm.MethodName)).before a0 Z = true := hw _ (List.mem_of_getElem? (i := 7) rfl)
theorem own_w8 {a0 : Array Value} {Z : State} (hw : ∀ d ∈ tables_1, d.before a0 Z = true) : (Jvm.Cond.declares ({ cls := "java/util/AbstractList", name := "<init>", desc := "()V" } : Jvm.MethodName)).before a0 Z = true := hw _ (List.mem_of_getElem? (i := 8) rfl)
theorem own_w9 {a0 : Array Value} {Z : State} (hw : ∀ d ∈ tables_1, d.before a0 Z = true) : (Jvm.Cond.castable "java/util/ArrayList" "java/util/AbstractList").before a0 Z = true := hw _ (List.mem_of_getElem? (i := 9) rfl)
theorem own_w10 {a0 : Array Value} {Z : State} (hw : ∀ d ∈ tables_1, d.before a0 Z = true) : (Jvm.Cond.initialized "java/util/AbstractList").before a0 Z = true := hw _ (List.mem_of_getElem? (i := 10) rfl)
theorem own_w11 {a0 : Array Value} {Z : State} (hw : ∀ d ∈ tables_1, d.before a0 Z = true) : (Jvm.Cond.code ({ cls := "java/util/AbstractList", name := "<init>", desc := "()V" } : Jvm.MethodName) jdk_39_method_1_code (1 : Nat) (Option.none : Option Jvm.ClassFile.FieldType)).before a0 Z = true := hw _ (List.mem_of_getElem? (i := 11) rfl)
theorem own_w12 {a0 : Array Value} {Z : State} (hw : ∀ d ∈ tables_1, d.before a0 Z = true) : (Jvm.Cond.methodLink "java/util/AbstractList" (1 : Nat) ({ cls := "java/util/AbstractCollection", name := "<init>", desc := "()V" } : Jvm.MethodName)).before a0 Z = true := hw _ (List.mem_of_getElem? (i := 12) rfl)
theorem own_w13 {a0 : Array Value} {Z : State} (hw : ∀ d ∈ tables_1, d.before a0 Z = true) : (Jvm.Cond.instanceMethod ({ cls := "java/util/AbstractCollection", name := "<init>", desc := "()V" } : Jvm.MethodName)).before a0 Z = true := hw _ (List.mem_of_getElem? (i := 13) rfl)
theorem own_w14 {a0 : Array Value} {Z : State} (hw : ∀ d ∈ tables_1, d.before a0 Z = true) : (Jvm.Cond.declares ({ cls := "java/util/AbstractCollection", name := "<init>", desc := "()V" } : Jvm.MethodName)).before a0 Z = true := hw _ (List.mem_of_getElem? (i := 14) rfl)
theorem own_w15 {a0 : Array Value} {Z : State} (hw : ∀ d ∈ tables_1, d.before a0 Z = true) : (Jvm.Cond.castable "java/util/ArrayList" "java/util/AbstractCollection").before a0 Z = true := hw _ (List.mem_of_getElem? (i := 15) rfl)
theorem own_w16 {a0 : Array Value} {Z : State} (hw : ∀ d ∈ tables_1, d.before a0 Z = true) : (Jvm.Cond.initialized "java/util/AbstractCollection").before a0 Z = true := hw _ (List.mem_of_getElem? (i := 16) rfl)
theorem own_w17 {a0 : Array Value} {Z : State} (hw : ∀ d ∈ tables_1, d.before a0 Z = true) : (Jvm.Cond.code ({ cls := "java/util/AbstractCollection", name := "<init>", desc := "()V" } : Jvm.MethodName) jdk_22_method_1_code (1 : Nat) (Option.none : Option Jvm.ClassFile.FieldType)).before a0 Z = true := hw _ (List.mem_of_getElem? (i := 17) rfl)
theorem own_w18 {a0 : Array Value} {Z : State} (hw : ∀ d ∈ tables_1, d.before a0 Z = true) : (Jvm.Cond.methodLink "java/util/AbstractCollection" (1 : Nat) ({ cls := "java/lang/Object", name := "<init>", desc := "()V" } : Jvm.MethodName)).before a0 Z = true := hw _ (List.mem_of_getElem? (i := 18) rfl)
theorem own_w19 {a0 : Array Value} {Z : State} (hw : ∀ d ∈ tables_1, d.before a0 Z = true) : (Jvm.Cond.instanceMethod ({ cls := "java/lang/Object", name := "<init>", desc := "()V" } : Jvm.MethodName)).before a0 Z = true := hw _ (List.mem_of_getElem? (i := 19) rfl)
theorem own_w20 {a0 : Array Value} {Z : State} (hw : ∀ d ∈ tables_1, d.before a0 Z = true) : (Jvm.Cond.code ({ cls := "java/lang/Object", name := "<init>", desc := "()V" } : Jvm.MethodName) object_method_1_code (1 : Nat) (Option.none : Option Jvm.ClassFile.FieldType)).before a0 Z = true := hw _ (List.mem_of_getElem? (i := 20) rfl)
theorem own_w21 {a0 : Array Value} {Z : State} (hw : ∀ d ∈ tables_1, d.before a0 Z = true) : (Jvm.Cond.fieldLink "java/util/AbstractList" (7 : Nat) "java/util/AbstractList" "modCount" "I").before a0 Z = true := hw _ (List.mem_of_getElem? (i := 21) rfl)
theorem own_w22 {a0 : Array Value} {Z : State} (hw : ∀ d ∈ tables_1, d.before a0 Z = true) : (Jvm.Cond.lays "java/util/ArrayList" "java/util/AbstractList" "modCount" "I").before a0 Z = true := hw _ (List.mem_of_getElem? (i := 22) rfl)
theorem own_w23 {a0 : Array Value} {Z : State} (hw : ∀ d ∈ tables_1, d.before a0 Z = true) : (Jvm.Cond.fieldLink "java/util/ArrayList" (39 : Nat) "java/util/ArrayList" "DEFAULTCAPACITY_EMPTY_ELEMENTDATA" "[Ljava/lang/Object;").before a0 Z = true := hw _ (List.mem_of_getElem? (i := 23) rfl)
theorem own_w24 {a0 : Array Value} {Z : State} (hw : ∀ d ∈ tables_1, d.before a0 Z = true) : (Jvm.Cond.fieldLink "java/util/ArrayList" (9 : Nat) "java/util/ArrayList" "elementData" "[Ljava/lang/Object;").before a0 Z = true := hw _ (List.mem_of_getElem? (i := 24) rfl)
theorem own_w25 {a0 : Array Value} {Z : State} (hw : ∀ d ∈ tables_1, d.before a0 Z = true) : (Jvm.Cond.lays "java/util/ArrayList" "java/util/ArrayList" "elementData" "[Ljava/lang/Object;").before a0 Z = true := hw _ (List.mem_of_getElem? (i := 25) rfl)
theorem own_w26 {a0 : Array Value} {Z : State} (hw : ∀ d ∈ tables_1, d.before a0 Z = true) : (Jvm.Cond.methodLink "com/example/regent/regent/controller/MasterChangedApplyToPinLaw" (10 : Nat) ({ cls := "java/lang/Long", name := "valueOf", desc := "(J)Ljava/lang/Long;" } : Jvm.MethodName)).before a0 Z = true := hw _ (List.mem_of_getElem? (i := 26) rfl)
theorem own_w27 {a0 : Array Value} {Z : State} (hw : ∀ d ∈ tables_1, d.before a0 Z = true) : (Jvm.Cond.static ({ cls := "java/lang/Long", name := "valueOf", desc := "(J)Ljava/lang/Long;" } : Jvm.MethodName)).before a0 Z = true := hw _ (List.mem_of_getElem? (i := 27) rfl)
theorem own_w28 {a0 : Array Value} {Z : State} (hw : ∀ d ∈ tables_1, d.before a0 Z = true) : (Jvm.Cond.initialized "java/lang/Long").before a0 Z = true := hw _ (List.mem_of_getElem? (i := 28) rfl)
theorem own_w29 {a0 : Array Value} {Z : State} (hw : ∀ d ∈ tables_1, d.before a0 Z = true) : (Jvm.Cond.code ({ cls := "java/lang/Long", name := "valueOf", desc := "(J)Ljava/lang/Long;" } : Jvm.MethodName) jdk_35_method_24_code (3 : Nat) (Option.some (Jvm.ClassFile.FieldType.object "java/lang/Long"))).before a0 Z = true := hw _ (List.mem_of_getElem? (i := 29) rfl)
theorem own_w30 {a0 : Array Value} {Z : State} (hw : ∀ d ∈ tables_1, d.before a0 Z = true) : (Jvm.Cond.constantLong "java/lang/Long" (230 : Nat) (-128 : Int64)).before a0 Z = true := hw _ (List.mem_of_getElem? (i := 30) rfl)
theorem own_w31 {a0 : Array Value} {Z : State} (hw : ∀ d ∈ tables_1, d.before a0 Z = true) : (Jvm.Cond.classLink "java/lang/Long" (1 : Nat) "java/lang/Long").before a0 Z = true := hw _ (List.mem_of_getElem? (i := 31) rfl)
theorem own_w32 {a0 : Array Value} {Z : State} (hw : ∀ d ∈ tables_1, d.before a0 Z = true) : (Jvm.Cond.instantiable "java/lang/Long" (1 : Nat)).before a0 Z = true := hw _ (List.mem_of_getElem? (i := 32) rfl)
theorem own_w33 {a0 : Array Value} {Z : State} (hw : ∀ d ∈ tables_1, d.before a0 Z = true) : (Jvm.Cond.methodLink "java/lang/Long" (240 : Nat) ({ cls := "java/lang/Long", name := "<init>", desc := "(J)V" } : Jvm.MethodName)).before a0 Z = true := hw _ (List.mem_of_getElem? (i := 33) rfl)
theorem own_w34 {a0 : Array Value} {Z : State} (hw : ∀ d ∈ tables_1, d.before a0 Z = true) : (Jvm.Cond.instanceMethod ({ cls := "java/lang/Long", name := "<init>", desc := "(J)V" } : Jvm.MethodName)).before a0 Z = true := hw _ (List.mem_of_getElem? (i := 34) rfl)
theorem own_w35 {a0 : Array Value} {Z : State} (hw : ∀ d ∈ tables_1, d.before a0 Z = true) : (Jvm.Cond.castable "java/lang/Long" "java/lang/Long").before a0 Z = true := hw _ (List.mem_of_getElem? (i := 35) rfl)
theorem own_w36 {a0 : Array Value} {Z : State} (hw : ∀ d ∈ tables_1, d.before a0 Z = true) : (Jvm.Cond.code ({ cls := "java/lang/Long", name := "<init>", desc := "(J)V" } : Jvm.MethodName) jdk_35_method_26_code (3 : Nat) (Option.none : Option Jvm.ClassFile.FieldType)).before a0 Z = true := hw _ (List.mem_of_getElem? (i := 36) rfl)
theorem own_w37 {a0 : Array Value} {Z : State} (hw : ∀ d ∈ tables_1, d.before a0 Z = true) : (Jvm.Cond.methodLink "java/lang/Long" (270 : Nat) ({ cls := "java/lang/Number", name := "<init>", desc := "()V" } : Jvm.MethodName)).before a0 Z = true := hw _ (List.mem_of_getElem? (i := 37) rfl)
theorem own_w38 {a0 : Array Value} {Z : State} (hw : ∀ d ∈ tables_1, d.before a0 Z = true) : (Jvm.Cond.instanceMethod ({ cls := "java/lang/Number", name := "<init>", desc := "()V" } : Jvm.MethodName)).before a0 Z = true := hw _ (List.mem_of_getElem? (i := 38) rfl)
theorem own_w39 {a0 : Array Value} {Z : State} (hw : ∀ d ∈ tables_1, d.before a0 Z = true) : (Jvm.Cond.declares ({ cls := "java/lang/Number", name := "<init>", desc := "()V" } : Jvm.MethodName)).before a0 Z = true := hw _ (List.mem_of_getElem? (i := 39) rfl)
theorem own_w40 {a0 : Array Value} {Z : State} (hw : ∀ d ∈ tables_1, d.before a0 Z = true) : (Jvm.Cond.castable "java/lang/Long" "java/lang/Number").before a0 Z = true := hw _ (List.mem_of_getElem? (i := 40) rfl)
theorem own_w41 {a0 : Array Value} {Z : State} (hw : ∀ d ∈ tables_1, d.before a0 Z = true) : (Jvm.Cond.initialized "java/lang/Number").before a0 Z = true := hw _ (List.mem_of_getElem? (i := 41) rfl)
theorem own_w42 {a0 : Array Value} {Z : State} (hw : ∀ d ∈ tables_1, d.before a0 Z = true) : (Jvm.Cond.code ({ cls := "java/lang/Number", name := "<init>", desc := "()V" } : Jvm.MethodName) jdk_18_method_1_code (1 : Nat) (Option.none : Option Jvm.ClassFile.FieldType)).before a0 Z = true := hw _ (List.mem_of_getElem? (i := 42) rfl)
theorem own_w43 {a0 : Array Value} {Z : State} (hw : ∀ d ∈ tables_1, d.before a0 Z = true) : (Jvm.Cond.methodLink "java/lang/Number" (1 : Nat) ({ cls := "java/lang/Object", name := "<init>", desc := "()V" } : Jvm.MethodName)).before a0 Z = true := hw _ (List.mem_of_getElem? (i := 43) rfl)
theorem own_w44 {a0 : Array Value} {Z : State} (hw : ∀ d ∈ tables_1, d.before a0 Z = true) : (Jvm.Cond.fieldLink "java/lang/Long" (273 : Nat) "java/lang/Long" "value" "J").before a0 Z = true := hw _ (List.mem_of_getElem? (i := 44) rfl)
theorem own_w45 {a0 : Array Value} {Z : State} (hw : ∀ d ∈ tables_1, d.before a0 Z = true) : (Jvm.Cond.laysFinal "java/lang/Long" "java/lang/Long" "value" "J").before a0 Z = true := hw _ (List.mem_of_getElem? (i := 45) rfl)
theorem own_w46 {a0 : Array Value} {Z : State} (hw : ∀ d ∈ tables_1, d.before a0 Z = true) : (Jvm.Cond.methodLink "com/example/regent/regent/controller/MasterChangedApplyToPinLaw" (16 : Nat) ({ cls := "java/util/ArrayList", name := "add", desc := "(Ljava/lang/Object;)Z" } : Jvm.MethodName)).before a0 Z = true := hw _ (List.mem_of_getElem? (i := 46) rfl)
theorem own_w47 {a0 : Array Value} {Z : State} (hw : ∀ d ∈ tables_1, d.before a0 Z = true) : (Jvm.Cond.declares ({ cls := "java/util/ArrayList", name := "add", desc := "(Ljava/lang/Object;)Z" } : Jvm.MethodName)).before a0 Z = true := hw _ (List.mem_of_getElem? (i := 47) rfl)
theorem own_w48 {a0 : Array Value} {Z : State} (hw : ∀ d ∈ tables_1, d.before a0 Z = true) : (Jvm.Cond.instanceMethod ({ cls := "java/util/ArrayList", name := "add", desc := "(Ljava/lang/Object;)Z" } : Jvm.MethodName)).before a0 Z = true := hw _ (List.mem_of_getElem? (i := 48) rfl)
theorem own_w49 {a0 : Array Value} {Z : State} (hw : ∀ d ∈ tables_1, d.before a0 Z = true) : (Jvm.Cond.selects "java/util/ArrayList" ({ cls := "java/util/ArrayList", name := "add", desc := "(Ljava/lang/Object;)Z" } : Jvm.MethodName) ({ cls := "java/util/ArrayList", name := "add", desc := "(Ljava/lang/Object;)Z" } : Jvm.MethodName)).before a0 Z = true := hw _ (List.mem_of_getElem? (i := 49) rfl)
theorem own_w50 {a0 : Array Value} {Z : State} (hw : ∀ d ∈ tables_1, d.before a0 Z = true) : (Jvm.Cond.code ({ cls := "java/util/ArrayList", name := "add", desc := "(Ljava/lang/Object;)Z" } : Jvm.MethodName) jdk_38_method_25_code (2 : Nat) (Option.some Jvm.ClassFile.FieldType.boolean)).before a0 Z = true := hw _ (List.mem_of_getElem? (i := 50) rfl)
theorem own_w51 {a0 : Array Value} {Z : State} (hw : ∀ d ∈ tables_1, d.before a0 Z = true) : (Jvm.Cond.fieldLink "java/util/ArrayList" (63 : Nat) "java/util/ArrayList" "modCount" "I").before a0 Z = true := hw _ (List.mem_of_getElem? (i := 51) rfl)
theorem own_w52 {a0 : Array Value} {Z : State} (hw : ∀ d ∈ tables_1, d.before a0 Z = true) : (Jvm.Cond.sameField "java/util/ArrayList" "java/util/AbstractList" "modCount" "I").before a0 Z = true := hw _ (List.mem_of_getElem? (i := 52) rfl)
theorem own_w53 {a0 : Array Value} {Z : State} (hw : ∀ d ∈ tables_1, d.before a0 Z = true) : (Jvm.Cond.fieldLink "java/util/ArrayList" (48 : Nat) "java/util/ArrayList" "size" "I").before a0 Z = true := hw _ (List.mem_of_getElem? (i := 53) rfl)
theorem own_w54 {a0 : Array Value} {Z : State} (hw : ∀ d ∈ tables_1, d.before a0 Z = true) : (Jvm.Cond.lays "java/util/ArrayList" "java/util/ArrayList" "size" "I").before a0 Z = true := hw _ (List.mem_of_getElem? (i := 54) rfl)
theorem own_w55 {a0 : Array Value} {Z : State} (hw : ∀ d ∈ tables_1, d.before a0 Z = true) : (Jvm.Cond.methodLink "java/util/ArrayList" (131 : Nat) ({ cls := "java/util/ArrayList", name := "add", desc := "(Ljava/lang/Object;[Ljava/lang/Object;I)V" } : Jvm.MethodName)).before a0 Z = true := hw _ (List.mem_of_getElem? (i := 55) rfl)
theorem own_w56 {a0 : Array Value} {Z : State} (hw : ∀ d ∈ tables_1, d.before a0 Z = true) : (Jvm.Cond.instanceMethod ({ cls := "java/util/ArrayList", name := "add", desc := "(Ljava/lang/Object;[Ljava/lang/Object;I)V" } : Jvm.MethodName)).before a0 Z = true := hw _ (List.mem_of_getElem? (i := 56) rfl)
theorem own_w57 {a0 : Array Value} {Z : State} (hw : ∀ d ∈ tables_1, d.before a0 Z = true) : (Jvm.Cond.privateMethod ({ cls := "java/util/ArrayList", name := "add", desc := "(Ljava/lang/Object;[Ljava/lang/Object;I)V" } : Jvm.MethodName)).before a0 Z = true := hw _ (List.mem_of_getElem? (i := 57) rfl)
theorem own_w58 {a0 : Array Value} {Z : State} (hw : ∀ d ∈ tables_1, d.before a0 Z = true) : (Jvm.Cond.selects "java/util/ArrayList" ({ cls := "java/util/ArrayList", name := "add", desc := "(Ljava/lang/Object;[Ljava/lang/Object;I)V" } : Jvm.MethodName) ({ cls := "java/util/ArrayList", name := "add", desc := "(Ljava/lang/Object;[Ljava/lang/Object;I)V" } : Jvm.MethodName)).before a0 Z = true := hw _ (List.mem_of_getElem? (i := 58) rfl)
theorem own_w59 {a0 : Array Value} {Z : State} (hw : ∀ d ∈ tables_1, d.before a0 Z = true) : (Jvm.Cond.code ({ cls := "java/util/ArrayList", name := "add", desc := "(Ljava/lang/Object;[Ljava/lang/Object;I)V" } : Jvm.MethodName) jdk_38_method_24_code (4 : Nat) (Option.none : Option Jvm.ClassFile.FieldType)).before a0 Z = true := hw _ (List.mem_of_getElem? (i := 59) rfl)
theorem own_w60 {a0 : Array Value} {Z : State} (hw : ∀ d ∈ tables_1, d.before a0 Z = true) : (Jvm.Cond.methodLink "java/util/ArrayList" (129 : Nat) ({ cls := "java/util/ArrayList", name := "grow", desc := "()[Ljava/lang/Object;" } : Jvm.MethodName)).before a0 Z = true := hw _ (List.mem_of_getElem? (i := 60) rfl)
theorem own_w61 {a0 : Array Value} {Z : State} (hw : ∀ d ∈ tables_1, d.before a0 Z = true) : (Jvm.Cond.instanceMethod ({ cls := "java/util/ArrayList", name := "grow", desc := "()[Ljava/lang/Object;" } : Jvm.MethodName)).before a0 Z = true := hw _ (List.mem_of_getElem? (i := 61) rfl)
theorem own_w62 {a0 : Array Value} {Z : State} (hw : ∀ d ∈ tables_1, d.before a0 Z = true) : (Jvm.Cond.privateMethod ({ cls := "java/util/ArrayList", name := "grow", desc := "()[Ljava/lang/Object;" } : Jvm.MethodName)).before a0 Z = true := hw _ (List.mem_of_getElem? (i := 62) rfl)
theorem own_w63 {a0 : Array Value} {Z : State} (hw : ∀ d ∈ tables_1, d.before a0 Z = true) : (Jvm.Cond.selects "java/util/ArrayList" ({ cls := "java/util/ArrayList", name := "grow", desc := "()[Ljava/lang/Object;" } : Jvm.MethodName) ({ cls := "java/util/ArrayList", name := "grow", desc := "()[Ljava/lang/Object;" } : Jvm.MethodName)).before a0 Z = true := hw _ (List.mem_of_getElem? (i := 63) rfl)
theorem own_w64 {a0 : Array Value} {Z : State} (hw : ∀ d ∈ tables_1, d.before a0 Z = true) : (Jvm.Cond.code ({ cls := "java/util/ArrayList", name := "grow", desc := "()[Ljava/lang/Object;" } : Jvm.MethodName) jdk_38_method_7_code (1 : Nat) (Option.some (Jvm.ClassFile.FieldType.array (Jvm.ClassFile.FieldType.object "java/lang/Object")))).before a0 Z = true := hw _ (List.mem_of_getElem? (i := 64) rfl)
theorem own_w65 {a0 : Array Value} {Z : State} (hw : ∀ d ∈ tables_1, d.before a0 Z = true) : (Jvm.Cond.methodLink "java/util/ArrayList" (69 : Nat) ({ cls := "java/util/ArrayList", name := "grow", desc := "(I)[Ljava/lang/Object;" } : Jvm.MethodName)).before a0 Z = true := hw _ (List.mem_of_getElem? (i := 65) rfl)
theorem own_w66 {a0 : Array Value} {Z : State} (hw : ∀ d ∈ tables_1, d.before a0 Z = true) : (Jvm.Cond.instanceMethod ({ cls := "java/util/ArrayList", name := "grow", desc := "(I)[Ljava/lang/Object;" } : Jvm.MethodName)).before a0 Z = true := hw _ (List.mem_of_getElem? (i := 66) rfl)
theorem own_w67 {a0 : Array Value} {Z : State} (hw : ∀ d ∈ tables_1, d.before a0 Z = true) : (Jvm.Cond.privateMethod ({ cls := "java/util/ArrayList", name := "grow", desc := "(I)[Ljava/lang/Object;" } : Jvm.MethodName)).before a0 Z = true := hw _ (List.mem_of_getElem? (i := 67) rfl)
theorem own_w68 {a0 : Array Value} {Z : State} (hw : ∀ d ∈ tables_1, d.before a0 Z = true) : (Jvm.Cond.selects "java/util/ArrayList" ({ cls := "java/util/ArrayList", name := "grow", desc := "(I)[Ljava/lang/Object;" } : Jvm.MethodName) ({ cls := "java/util/ArrayList", name := "grow", desc := "(I)[Ljava/lang/Object;" } : Jvm.MethodName)).before a0 Z = true := hw _ (List.mem_of_getElem? (i := 68) rfl)
theorem own_w69 {a0 : Array Value} {Z : State} (hw : ∀ d ∈ tables_1, d.before a0 Z = true) : (Jvm.Cond.code ({ cls := "java/util/ArrayList", name := "grow", desc := "(I)[Ljava/lang/Object;" } : Jvm.MethodName) jdk_38_method_6_code (4 : Nat) (Option.some (Jvm.ClassFile.FieldType.array (Jvm.ClassFile.FieldType.object "java/lang/Object")))).before a0 Z = true := hw _ (List.mem_of_getElem? (i := 69) rfl)
theorem own_w70 {a0 : Array Value} {Z : State} (hw : ∀ d ∈ tables_1, d.before a0 Z = true) : (Jvm.Cond.methodLink "java/util/ArrayList" (79 : Nat) ({ cls := "java/lang/Math", name := "max", desc := "(II)I" } : Jvm.MethodName)).before a0 Z = true := hw _ (List.mem_of_getElem? (i := 70) rfl)
theorem own_w71 {a0 : Array Value} {Z : State} (hw : ∀ d ∈ tables_1, d.before a0 Z = true) : (Jvm.Cond.static ({ cls := "java/lang/Math", name := "max", desc := "(II)I" } : Jvm.MethodName)).before a0 Z = true := hw _ (List.mem_of_getElem? (i := 71) rfl)
theorem own_w72 {a0 : Array Value} {Z : State} (hw : ∀ d ∈ tables_1, d.before a0 Z = true) : (Jvm.Cond.initialized "java/lang/Math").before a0 Z = true := hw _ (List.mem_of_getElem? (i := 72) rfl)
theorem own_w73 {a0 : Array Value} {Z : State} (hw : ∀ d ∈ tables_1, d.before a0 Z = true) : (Jvm.Cond.code ({ cls := "java/lang/Math", name := "max", desc := "(II)I" } : Jvm.MethodName) jdk_29_method_65_code (2 : Nat) (Option.some Jvm.ClassFile.FieldType.int)).before a0 Z = true := hw _ (List.mem_of_getElem? (i := 73) rfl)
theorem own_w74 {a0 : Array Value} {Z : State} (hw : ∀ d ∈ tables_1, d.before a0 Z = true) : (Jvm.Cond.classLink "java/util/ArrayList" (7 : Nat) "java/lang/Object").before a0 Z = true := hw _ (List.mem_of_getElem? (i := 74) rfl)
theorem own_w75 {a0 : Array Value} {Z : State} (hw : ∀ d ∈ tables_1, d.before a0 Z = true) : (Jvm.Cond.arrayOver (Jvm.ClassFile.FieldType.object "java/lang/Object")).before a0 Z = true := hw _ (List.mem_of_getElem? (i := 75) rfl)
theorem own_w76 {a0 : Array Value} {Z : State} (hw : ∀ d ∈ tables_1, d.before a0 Z = true) : (Jvm.Cond.castable "java/lang/Long" "java/lang/Object").before a0 Z = true := hw _ (List.mem_of_getElem? (i := 76) rfl)
theorem own_w77 {a0 : Array Value} {Z : State} (hw : ∀ d ∈ tables_1, d.before a0 Z = true) : (Jvm.Cond.constantLong "java/lang/Long" (232 : Nat) (127 : Int64)).before a0 Z = true := hw _ (List.mem_of_getElem? (i := 77) rfl)
theorem own_w78 {a0 : Array Value} {Z : State} (hw : ∀ d ∈ tables_1, d.before a0 Z = true) : (Jvm.Cond.fieldLink "java/lang/Long" (234 : Nat) "java/lang/Long$LongCache" "cache" "[Ljava/lang/Long;").before a0 Z = true := hw _ (List.mem_of_getElem? (i := 78) rfl)
theorem own_w79 {a0 : Array Value} {Z : State} (hw : ∀ d ∈ tables_1, d.before a0 Z = true) : (Jvm.Cond.initialized "java/lang/Long$LongCache").before a0 Z = true := hw _ (List.mem_of_getElem? (i := 79) rfl)
theorem own_w80 {a0 : Array Value} {Z : State} (hw : ∀ d ∈ tables_1, d.before a0 Z = true) : (Jvm.Cond.classLink "com/example/regent/regent/controller/MasterChangedApplyToPinLaw" (20 : Nat) "com/example/regent/regent/controller/Event$MasterChanged").before a0 Z = true := hw _ (List.mem_of_getElem? (i := 80) rfl)
theorem own_w81 {a0 : Array Value} {Z : State} (hw : ∀ d ∈ tables_1, d.before a0 Z = true) : (Jvm.Cond.instantiable "com/example/regent/regent/controller/Event$MasterChanged" (5 : Nat)).before a0 Z = true := hw _ (List.mem_of_getElem? (i := 81) rfl)
theorem own_w82 {a0 : Array Value} {Z : State} (hw : ∀ d ∈ tables_1, d.before a0 Z = true) : (Jvm.Cond.initialized "com/example/regent/regent/controller/Event$MasterChanged").before a0 Z = true := hw _ (List.mem_of_getElem? (i := 82) rfl)
theorem own_w83 {a0 : Array Value} {Z : State} (hw : ∀ d ∈ tables_1, d.before a0 Z = true) : (Jvm.Cond.stringLink "com/example/regent/regent/controller/MasterChangedApplyToPinLaw" (22 : Nat) "g").before a0 Z = true := hw _ (List.mem_of_getElem? (i := 83) rfl)
theorem own_w84 {a0 : Array Value} {Z : State} (hw : ∀ d ∈ tables_1, d.before a0 Z = true) : (Jvm.Cond.initialized "java/lang/String").before a0 Z = true := hw _ (List.mem_of_getElem? (i := 84) rfl)
theorem own_w85 {a0 : Array Value} {Z : State} (hw : ∀ d ∈ tables_1, d.before a0 Z = true) : (Jvm.Cond.instantiable "java/lang/String" (4 : Nat)).before a0 Z = true := hw _ (List.mem_of_getElem? (i := 85) rfl)
theorem own_w86 {a0 : Array Value} {Z : State} (hw : ∀ d ∈ tables_1, d.before a0 Z = true) : (Jvm.Cond.arrayClass Jvm.ClassFile.FieldType.byte).before a0 Z = true := hw _ (List.mem_of_getElem? (i := 86) rfl)
theorem own_w87 {a0 : Array Value} {Z : State} (hw : ∀ d ∈ tables_1, d.before a0 Z = true) : (Jvm.Cond.laysFinal "java/lang/String" "java/lang/String" "value" "[B").before a0 Z = true := hw _ (List.mem_of_getElem? (i := 87) rfl)
theorem own_w88 {a0 : Array Value} {Z : State} (hw : ∀ d ∈ tables_1, d.before a0 Z = true) : (Jvm.Cond.laysFinal "java/lang/String" "java/lang/String" "coder" "B").before a0 Z = true := hw _ (List.mem_of_getElem? (i := 88) rfl)
theorem own_w89 {a0 : Array Value} {Z : State} (hw : ∀ d ∈ tables_1, d.before a0 Z = true) : (Jvm.Cond.soleField "java/lang/String" "value").before a0 Z = true := hw _ (List.mem_of_getElem? (i := 89) rfl)
theorem own_w90 {a0 : Array Value} {Z : State} (hw : ∀ d ∈ tables_1, d.before a0 Z = true) : (Jvm.Cond.soleField "java/lang/String" "coder").before a0 Z = true := hw _ (List.mem_of_getElem? (i := 90) rfl)
theorem own_w91 {a0 : Array Value} {Z : State} (hw : ∀ d ∈ tables_1, d.before a0 Z = true) : (Jvm.Cond.methodLink "com/example/regent/regent/controller/MasterChangedApplyToPinLaw" (24 : Nat) ({ cls := "com/example/regent/regent/controller/Event$MasterChanged", name := "<init>", desc := "(Ljava/lang/String;Ljava/lang/Long;ILjava/util/List;I)V" } : Jvm.MethodName)).before a0 Z = true := hw _ (List.mem_of_getElem? (i := 91) rfl)
theorem own_w92 {a0 : Array Value} {Z : State} (hw : ∀ d ∈ tables_1, d.before a0 Z = true) : (Jvm.Cond.instanceMethod ({ cls := "com/example/regent/regent/controller/Event$MasterChanged", name := "<init>", desc := "(Ljava/lang/String;Ljava/lang/Long;ILjava/util/List;I)V" } : Jvm.MethodName)).before a0 Z = true := hw _ (List.mem_of_getElem? (i := 92) rfl)
theorem own_w93 {a0 : Array Value} {Z : State} (hw : ∀ d ∈ tables_1, d.before a0 Z = true) : (Jvm.Cond.code ({ cls := "com/example/regent/regent/controller/Event$MasterChanged", name := "<init>", desc := "(Ljava/lang/String;Ljava/lang/Long;ILjava/util/List;I)V" } : Jvm.MethodName) prog_53_method_1_code (6 : Nat) (Option.none : Option Jvm.ClassFile.FieldType)).before a0 Z = true := hw _ (List.mem_of_getElem? (i := 93) rfl)
theorem own_w94 {a0 : Array Value} {Z : State} (hw : ∀ d ∈ tables_1, d.before a0 Z = true) : (Jvm.Cond.methodLink "com/example/regent/regent/controller/Event$MasterChanged" (1 : Nat) ({ cls := "java/lang/Record", name := "<init>", desc := "()V" } : Jvm.MethodName)).before a0 Z = true := hw _ (List.mem_of_getElem? (i := 94) rfl)
theorem own_w95 {a0 : Array Value} {Z : State} (hw : ∀ d ∈ tables_1, d.before a0 Z = true) : (Jvm.Cond.instanceMethod ({ cls := "java/lang/Record", name := "<init>", desc := "()V" } : Jvm.MethodName)).before a0 Z = true := hw _ (List.mem_of_getElem? (i := 95) rfl)
theorem own_w96 {a0 : Array Value} {Z : State} (hw : ∀ d ∈ tables_1, d.before a0 Z = true) : (Jvm.Cond.declares ({ cls := "java/lang/Record", name := "<init>", desc := "()V" } : Jvm.MethodName)).before a0 Z = true := hw _ (List.mem_of_getElem? (i := 96) rfl)
theorem own_w97 {a0 : Array Value} {Z : State} (hw : ∀ d ∈ tables_1, d.before a0 Z = true) : (Jvm.Cond.initialized "java/lang/Record").before a0 Z = true := hw _ (List.mem_of_getElem? (i := 97) rfl)
theorem own_w98 {a0 : Array Value} {Z : State} (hw : ∀ d ∈ tables_1, d.before a0 Z = true) : (Jvm.Cond.code ({ cls := "java/lang/Record", name := "<init>", desc := "()V" } : Jvm.MethodName) jdk_30_method_1_code (1 : Nat) (Option.none : Option Jvm.ClassFile.FieldType)).before a0 Z = true := hw _ (List.mem_of_getElem? (i := 98) rfl)
theorem own_w99 {a0 : Array Value} {Z : State} (hw : ∀ d ∈ tables_1, d.before a0 Z = true) : (Jvm.Cond.methodLink "java/lang/Record" (1 : Nat) ({ cls := "java/lang/Object", name := "<init>", desc := "()V" } : Jvm.MethodName)).before a0 Z = true := hw _ (List.mem_of_getElem? (i := 99) rfl)
theorem own_w100 {a0 : Array Value} {Z : State} (hw : ∀ d ∈ tables_1, d.before a0 Z = true) : (Jvm.Cond.methodLink "com/example/regent/regent/controller/Event$MasterChanged" (7 : Nat) ({ cls := "java/util/List", name := "copyOf", desc := "(Ljava/util/Collection;)Ljava/util/List;" } : Jvm.MethodName)).before a0 Z = true := hw _ (List.mem_of_getElem? (i := 100) rfl)
theorem own_w101 {a0 : Array Value} {Z : State} (hw : ∀ d ∈ tables_1, d.before a0 Z = true) : (Jvm.Cond.static ({ cls := "java/util/List", name := "copyOf", desc := "(Ljava/util/Collection;)Ljava/util/List;" } : Jvm.MethodName)).before a0 Z = true := hw _ (List.mem_of_getElem? (i := 101) rfl)
theorem own_w102 {a0 : Array Value} {Z : State} (hw : ∀ d ∈ tables_1, d.before a0 Z = true) : (Jvm.Cond.initialized "java/util/List").before a0 Z = true := hw _ (List.mem_of_getElem? (i := 102) rfl)
theorem own_w103 {a0 : Array Value} {Z : State} (hw : ∀ d ∈ tables_1, d.before a0 Z = true) : (Jvm.Cond.code ({ cls := "java/util/List", name := "copyOf", desc := "(Ljava/util/Collection;)Ljava/util/List;" } : Jvm.MethodName) jdk_40_method_48_code (1 : Nat) (Option.some (Jvm.ClassFile.FieldType.object "java/util/List"))).before a0 Z = true := hw _ (List.mem_of_getElem? (i := 103) rfl)
theorem own_w104 {a0 : Array Value} {Z : State} (hw : ∀ d ∈ tables_1, d.before a0 Z = true) : (Jvm.Cond.methodLink "java/util/List" (112 : Nat) ({ cls := "java/util/ImmutableCollections", name := "listCopy", desc := "(Ljava/util/Collection;)Ljava/util/List;" } : Jvm.MethodName)).before a0 Z = true := hw _ (List.mem_of_getElem? (i := 104) rfl)
theorem own_w105 {a0 : Array Value} {Z : State} (hw : ∀ d ∈ tables_1, d.before a0 Z = true) : (Jvm.Cond.static ({ cls := "java/util/ImmutableCollections", name := "listCopy", desc := "(Ljava/util/Collection;)Ljava/util/List;" } : Jvm.MethodName)).before a0 Z = true := hw _ (List.mem_of_getElem? (i := 105) rfl)
theorem own_w106 {a0 : Array Value} {Z : State} (hw : ∀ d ∈ tables_1, d.before a0 Z = true) : (Jvm.Cond.initialized "java/util/ImmutableCollections").before a0 Z = true := hw _ (List.mem_of_getElem? (i := 106) rfl)
theorem own_w107 {a0 : Array Value} {Z : State} (hw : ∀ d ∈ tables_1, d.before a0 Z = true) : (Jvm.Cond.code ({ cls := "java/util/ImmutableCollections", name := "listCopy", desc := "(Ljava/util/Collection;)Ljava/util/List;" } : Jvm.MethodName) jdk_56_method_3_code (2 : Nat) (Option.some (Jvm.ClassFile.FieldType.object "java/util/List"))).before a0 Z = true := hw _ (List.mem_of_getElem? (i := 107) rfl)
theorem own_w108 {a0 : Array Value} {Z : State} (hw : ∀ d ∈ tables_1, d.before a0 Z = true) : (Jvm.Cond.classLink "java/util/ImmutableCollections" (10 : Nat) "java/util/ImmutableCollections$List12").before a0 Z = true := hw _ (List.mem_of_getElem? (i := 108) rfl)
theorem own_w109 {a0 : Array Value} {Z : State} (hw : ∀ d ∈ tables_1, d.before a0 Z = true) : (Jvm.Cond.superclass "java/util/ArrayList" "java/util/AbstractList").before a0 Z = true := hw _ (List.mem_of_getElem? (i := 109) rfl)
theorem own_w110 {a0 : Array Value} {Z : State} (hw : ∀ d ∈ tables_1, d.before a0 Z = true) : (Jvm.Cond.superclass "java/util/AbstractList" "java/util/AbstractCollection").before a0 Z = true := hw _ (List.mem_of_getElem? (i := 110) rfl)
theorem own_w111 {a0 : Array Value} {Z : State} (hw : ∀ d ∈ tables_1, d.before a0 Z = true) : (Jvm.Cond.superclass "java/util/AbstractCollection" "java/lang/Object").before a0 Z = true := hw _ (List.mem_of_getElem? (i := 111) rfl)
theorem own_w112 {a0 : Array Value} {Z : State} (hw : ∀ d ∈ tables_1, d.before a0 Z = true) : (Jvm.Cond.noSuperclass "java/lang/Object").before a0 Z = true := hw _ (List.mem_of_getElem? (i := 112) rfl)
theorem own_w113 {a0 : Array Value} {Z : State} (hw : ∀ d ∈ tables_1, d.before a0 Z = true) : (Jvm.Cond.classLink "java/util/ImmutableCollections" (12 : Nat) "java/util/ImmutableCollections$ListN").before a0 Z = true := hw _ (List.mem_of_getElem? (i := 113) rfl)
theorem own_w114 {a0 : Array Value} {Z : State} (hw : ∀ d ∈ tables_1, d.before a0 Z = true) : (Jvm.Cond.methodLink "java/util/ImmutableCollections" (20 : Nat) ({ cls := "java/util/Collection", name := "isEmpty", desc := "()Z" } : Jvm.MethodName)).before a0 Z = true := hw _ (List.mem_of_getElem? (i := 114) rfl)
theorem own_w115 {a0 : Array Value} {Z : State} (hw : ∀ d ∈ tables_1, d.before a0 Z = true) : (Jvm.Cond.declares ({ cls := "java/util/Collection", name := "isEmpty", desc := "()Z" } : Jvm.MethodName)).before a0 Z = true := hw _ (List.mem_of_getElem? (i := 115) rfl)
theorem own_w116 {a0 : Array Value} {Z : State} (hw : ∀ d ∈ tables_1, d.before a0 Z = true) : (Jvm.Cond.interfaceMethod "java/util/Collection" "java/util/Collection" "isEmpty" "()Z").before a0 Z = true := hw _ (List.mem_of_getElem? (i := 116) rfl)
theorem own_w117 {a0 : Array Value} {Z : State} (hw : ∀ d ∈ tables_1, d.before a0 Z = true) : (Jvm.Cond.selects "java/util/ArrayList" ({ cls := "java/util/Collection", name := "isEmpty", desc := "()Z" } : Jvm.MethodName) ({ cls := "java/util/ArrayList", name := "isEmpty", desc := "()Z" } : Jvm.MethodName)).before a0 Z = true := hw _ (List.mem_of_getElem? (i := 117) rfl)
theorem own_w118 {a0 : Array Value} {Z : State} (hw : ∀ d ∈ tables_1, d.before a0 Z = true) : (Jvm.Cond.instanceMethod ({ cls := "java/util/ArrayList", name := "isEmpty", desc := "()Z" } : Jvm.MethodName)).before a0 Z = true := hw _ (List.mem_of_getElem? (i := 118) rfl)
theorem own_w119 {a0 : Array Value} {Z : State} (hw : ∀ d ∈ tables_1, d.before a0 Z = true) : (Jvm.Cond.publicMethod ({ cls := "java/util/ArrayList", name := "isEmpty", desc := "()Z" } : Jvm.MethodName)).before a0 Z = true := hw _ (List.mem_of_getElem? (i := 119) rfl)
theorem own_w120 {a0 : Array Value} {Z : State} (hw : ∀ d ∈ tables_1, d.before a0 Z = true) : (Jvm.Cond.unhidden "java/util/ArrayList" "isEmpty" "()Z").before a0 Z = true := hw _ (List.mem_of_getElem? (i := 120) rfl)
theorem own_w121 {a0 : Array Value} {Z : State} (hw : ∀ d ∈ tables_1, d.before a0 Z = true) : (Jvm.Cond.castable "java/util/ArrayList" "java/util/Collection").before a0 Z = true := hw _ (List.mem_of_getElem? (i := 121) rfl)
theorem own_w122 {a0 : Array Value} {Z : State} (hw : ∀ d ∈ tables_1, d.before a0 Z = true) : (Jvm.Cond.code ({ cls := "java/util/ArrayList", name := "isEmpty", desc := "()Z" } : Jvm.MethodName) jdk_38_method_9_code (1 : Nat) (Option.some Jvm.ClassFile.FieldType.boolean)).before a0 Z = true := hw _ (List.mem_of_getElem? (i := 122) rfl)
theorem own_w123 {a0 : Array Value} {Z : State} (hw : ∀ d ∈ tables_1, d.before a0 Z = true) : (Jvm.Cond.methodLink "java/util/ImmutableCollections" (30 : Nat) ({ cls := "java/util/Collection", name := "toArray", desc := "()[Ljava/lang/Object;" } : Jvm.MethodName)).before a0 Z = true := hw _ (List.mem_of_getElem? (i := 123) rfl)
theorem own_w124 {a0 : Array Value} {Z : State} (hw : ∀ d ∈ tables_1, d.before a0 Z = true) : (Jvm.Cond.declares ({ cls := "java/util/Collection", name := "toArray", desc := "()[Ljava/lang/Object;" } : Jvm.MethodName)).before a0 Z = true := hw _ (List.mem_of_getElem? (i := 124) rfl)
theorem own_w125 {a0 : Array Value} {Z : State} (hw : ∀ d ∈ tables_1, d.before a0 Z = true) : (Jvm.Cond.interfaceMethod "java/util/Collection" "java/util/Collection" "toArray" "()[Ljava/lang/Object;").before a0 Z = true := hw _ (List.mem_of_getElem? (i := 125) rfl)
theorem own_w126 {a0 : Array Value} {Z : State} (hw : ∀ d ∈ tables_1, d.before a0 Z = true) : (Jvm.Cond.selects "java/util/ArrayList" ({ cls := "java/util/Collection", name := "toArray", desc := "()[Ljava/lang/Object;" } : Jvm.MethodName) ({ cls := "java/util/ArrayList", name := "toArray", desc := "()[Ljava/lang/Object;" } : Jvm.MethodName)).before a0 Z = true := hw _ (List.mem_of_getElem? (i := 126) rfl)
theorem own_w127 {a0 : Array Value} {Z : State} (hw : ∀ d ∈ tables_1, d.before a0 Z = true) : (Jvm.Cond.instanceMethod ({ cls := "java/util/ArrayList", name := "toArray", desc := "()[Ljava/lang/Object;" } : Jvm.MethodName)).before a0 Z = true := hw _ (List.mem_of_getElem? (i := 127) rfl)
theorem own_w128 {a0 : Array Value} {Z : State} (hw : ∀ d ∈ tables_1, d.before a0 Z = true) : (Jvm.Cond.publicMethod ({ cls := "java/util/ArrayList", name := "toArray", desc := "()[Ljava/lang/Object;" } : Jvm.MethodName)).before a0 Z = true := hw _ (List.mem_of_getElem? (i := 128) rfl)
theorem own_w129 {a0 : Array Value} {Z : State} (hw : ∀ d ∈ tables_1, d.before a0 Z = true) : (Jvm.Cond.unhidden "java/util/ArrayList" "toArray" "()[Ljava/lang/Object;").before a0 Z = true := hw _ (List.mem_of_getElem? (i := 129) rfl)
theorem own_w130 {a0 : Array Value} {Z : State} (hw : ∀ d ∈ tables_1, d.before a0 Z = true) : (Jvm.Cond.code ({ cls := "java/util/ArrayList", name := "toArray", desc := "()[Ljava/lang/Object;" } : Jvm.MethodName) jdk_38_method_16_code (1 : Nat) (Option.some (Jvm.ClassFile.FieldType.array (Jvm.ClassFile.FieldType.object "java/lang/Object")))).before a0 Z = true := hw _ (List.mem_of_getElem? (i := 130) rfl)
theorem own_w131 {a0 : Array Value} {Z : State} (hw : ∀ d ∈ tables_1, d.before a0 Z = true) : (Jvm.Cond.methodLink "java/util/ArrayList" (66 : Nat) ({ cls := "java/util/Arrays", name := "copyOf", desc := "([Ljava/lang/Object;I)[Ljava/lang/Object;" } : Jvm.MethodName)).before a0 Z = true := hw _ (List.mem_of_getElem? (i := 131) rfl)
theorem own_w132 {a0 : Array Value} {Z : State} (hw : ∀ d ∈ tables_1, d.before a0 Z = true) : (Jvm.Cond.static ({ cls := "java/util/Arrays", name := "copyOf", desc := "([Ljava/lang/Object;I)[Ljava/lang/Object;" } : Jvm.MethodName)).before a0 Z = true := hw _ (List.mem_of_getElem? (i := 132) rfl)
theorem own_w133 {a0 : Array Value} {Z : State} (hw : ∀ d ∈ tables_1, d.before a0 Z = true) : (Jvm.Cond.initialized "java/util/Arrays").before a0 Z = true := hw _ (List.mem_of_getElem? (i := 133) rfl)
theorem own_w134 {a0 : Array Value} {Z : State} (hw : ∀ d ∈ tables_1, d.before a0 Z = true) : (Jvm.Cond.code ({ cls := "java/util/Arrays", name := "copyOf", desc := "([Ljava/lang/Object;I)[Ljava/lang/Object;" } : Jvm.MethodName) jdk_65_method_119_code (2 : Nat) (Option.some (Jvm.ClassFile.FieldType.array (Jvm.ClassFile.FieldType.object "java/lang/Object")))).before a0 Z = true := hw _ (List.mem_of_getElem? (i := 134) rfl)
theorem own_w135 {a0 : Array Value} {Z : State} (hw : ∀ d ∈ tables_1, d.before a0 Z = true) : (Jvm.Cond.methodLink "java/util/Arrays" (86 : Nat) ({ cls := "java/lang/Object", name := "getClass", desc := "()Ljava/lang/Class;" } : Jvm.MethodName)).before a0 Z = true := hw _ (List.mem_of_getElem? (i := 135) rfl)
theorem own_w136 {a0 : Array Value} {Z : State} (hw : ∀ d ∈ tables_1, d.before a0 Z = true) : (Jvm.Cond.declares ({ cls := "java/lang/Object", name := "getClass", desc := "()Ljava/lang/Class;" } : Jvm.MethodName)).before a0 Z = true := hw _ (List.mem_of_getElem? (i := 136) rfl)
theorem own_w137 {a0 : Array Value} {Z : State} (hw : ∀ d ∈ tables_1, d.before a0 Z = true) : (Jvm.Cond.instanceMethod ({ cls := "java/lang/Object", name := "getClass", desc := "()Ljava/lang/Class;" } : Jvm.MethodName)).before a0 Z = true := hw _ (List.mem_of_getElem? (i := 137) rfl)
theorem own_w138 {a0 : Array Value} {Z : State} (hw : ∀ d ∈ tables_1, d.before a0 Z = true) : (Jvm.Cond.selects "[Ljava/lang/Object;" ({ cls := "java/lang/Object", name := "getClass", desc := "()Ljava/lang/Class;" } : Jvm.MethodName) ({ cls := "java/lang/Object", name := "getClass", desc := "()Ljava/lang/Class;" } : Jvm.MethodName)).before a0 Z = true := hw _ (List.mem_of_getElem? (i := 138) rfl)
theorem own_w139 {a0 : Array Value} {Z : State} (hw : ∀ d ∈ tables_1, d.before a0 Z = true) : (Jvm.Cond.native ({ cls := "java/lang/Object", name := "getClass", desc := "()Ljava/lang/Class;" } : Jvm.MethodName)).before a0 Z = true := hw _ (List.mem_of_getElem? (i := 139) rfl)
theorem own_w140 {a0 : Array Value} {Z : State} (hw : ∀ d ∈ tables_1, d.before a0 Z = true) : (Jvm.Cond.castable "[Ljava/lang/Object;" "[Ljava/lang/Object;").before a0 Z = true := hw _ (List.mem_of_getElem? (i := 140) rfl)
theorem own_w141 {a0 : Array Value} {Z : State} (hw : ∀ d ∈ tables_1, d.before a0 Z = true) : (Jvm.Cond.methodLink "java/util/Arrays" (300 : Nat) ({ cls := "java/util/Arrays", name := "copyOf", desc := "([Ljava/lang/Object;ILjava/lang/Class;)[Ljava/lang/Object;" } : Jvm.MethodName)).before a0 Z = true := hw _ (List.mem_of_getElem? (i := 141) rfl)
theorem own_w142 {a0 : Array Value} {Z : State} (hw : ∀ d ∈ tables_1, d.before a0 Z = true) : (Jvm.Cond.static ({ cls := "java/util/Arrays", name := "copyOf", desc := "([Ljava/lang/Object;ILjava/lang/Class;)[Ljava/lang/Object;" } : Jvm.MethodName)).before a0 Z = true := hw _ (List.mem_of_getElem? (i := 142) rfl)
theorem own_w143 {a0 : Array Value} {Z : State} (hw : ∀ d ∈ tables_1, d.before a0 Z = true) : (Jvm.Cond.code ({ cls := "java/util/Arrays", name := "copyOf", desc := "([Ljava/lang/Object;ILjava/lang/Class;)[Ljava/lang/Object;" } : Jvm.MethodName) jdk_65_method_120_code (4 : Nat) (Option.some (Jvm.ClassFile.FieldType.array (Jvm.ClassFile.FieldType.object "java/lang/Object")))).before a0 Z = true := hw _ (List.mem_of_getElem? (i := 143) rfl)
theorem own_w144 {a0 : Array Value} {Z : State} (hw : ∀ d ∈ tables_1, d.before a0 Z = true) : (Jvm.Cond.classLink "java/util/Arrays" (110 : Nat) "[Ljava/lang/Object;").before a0 Z = true := hw _ (List.mem_of_getElem? (i := 144) rfl)
theorem own_w145 {a0 : Array Value} {Z : State} (hw : ∀ d ∈ tables_1, d.before a0 Z = true) : (Jvm.Cond.classLink "java/util/Arrays" (2 : Nat) "java/lang/Object").before a0 Z = true := hw _ (List.mem_of_getElem? (i := 145) rfl)
theorem own_w146 {a0 : Array Value} {Z : State} (hw : ∀ d ∈ tables_1, d.before a0 Z = true) : (Jvm.Cond.methodLink "java/util/Arrays" (304 : Nat) ({ cls := "java/lang/Math", name := "min", desc := "(II)I" } : Jvm.MethodName)).before a0 Z = true := hw _ (List.mem_of_getElem? (i := 146) rfl)
theorem own_w147 {a0 : Array Value} {Z : State} (hw : ∀ d ∈ tables_1, d.before a0 Z = true) : (Jvm.Cond.static ({ cls := "java/lang/Math", name := "min", desc := "(II)I" } : Jvm.MethodName)).before a0 Z = true := hw _ (List.mem_of_getElem? (i := 147) rfl)
theorem own_w148 {a0 : Array Value} {Z : State} (hw : ∀ d ∈ tables_1, d.before a0 Z = true) : (Jvm.Cond.code ({ cls := "java/lang/Math", name := "min", desc := "(II)I" } : Jvm.MethodName) jdk_29_method_69_code (2 : Nat) (Option.some Jvm.ClassFile.FieldType.int)).before a0 Z = true := hw _ (List.mem_of_getElem? (i := 148) rfl)
theorem own_w149 {a0 : Array Value} {Z : State} (hw : ∀ d ∈ tables_1, d.before a0 Z = true) : (Jvm.Cond.methodLink "java/util/Arrays" (150 : Nat) ({ cls := "java/lang/System", name := "arraycopy", desc := "(Ljava/lang/Object;ILjava/lang/Object;II)V" } : Jvm.MethodName)).before a0 Z = true := hw _ (List.mem_of_getElem? (i := 149) rfl)
theorem own_w150 {a0 : Array Value} {Z : State} (hw : ∀ d ∈ tables_1, d.before a0 Z = true) : (Jvm.Cond.static ({ cls := "java/lang/System", name := "arraycopy", desc := "(Ljava/lang/Object;ILjava/lang/Object;II)V" } : Jvm.MethodName)).before a0 Z = true := hw _ (List.mem_of_getElem? (i := 150) rfl)
theorem own_w151 {a0 : Array Value} {Z : State} (hw : ∀ d ∈ tables_1, d.before a0 Z = true) : (Jvm.Cond.initialized "java/lang/System").before a0 Z = true := hw _ (List.mem_of_getElem? (i := 151) rfl)
theorem own_w152 {a0 : Array Value} {Z : State} (hw : ∀ d ∈ tables_1, d.before a0 Z = true) : (Jvm.Cond.native ({ cls := "java/lang/System", name := "arraycopy", desc := "(Ljava/lang/Object;ILjava/lang/Object;II)V" } : Jvm.MethodName)).before a0 Z = true := hw _ (List.mem_of_getElem? (i := 152) rfl)
theorem own_w153 {a0 : Array Value} {Z : State} (hw : ∀ d ∈ tables_1, d.before a0 Z = true) : (Jvm.Cond.methodLink "java/util/ImmutableCollections" (34 : Nat) ({ cls := "java/util/List", name := "of", desc := "([Ljava/lang/Object;)Ljava/util/List;" } : Jvm.MethodName)).before a0 Z = true := hw _ (List.mem_of_getElem? (i := 153) rfl)
theorem own_w154 {a0 : Array Value} {Z : State} (hw : ∀ d ∈ tables_1, d.before a0 Z = true) : (Jvm.Cond.static ({ cls := "java/util/List", name := "of", desc := "([Ljava/lang/Object;)Ljava/util/List;" } : Jvm.MethodName)).before a0 Z = true := hw _ (List.mem_of_getElem? (i := 154) rfl)
theorem own_w155 {a0 : Array Value} {Z : State} (hw : ∀ d ∈ tables_1, d.before a0 Z = true) : (Jvm.Cond.code ({ cls := "java/util/List", name := "of", desc := "([Ljava/lang/Object;)Ljava/util/List;" } : Jvm.MethodName) jdk_40_method_47_code (2 : Nat) (Option.some (Jvm.ClassFile.FieldType.object "java/util/List"))).before a0 Z = true := hw _ (List.mem_of_getElem? (i := 155) rfl)
theorem own_w156 {a0 : Array Value} {Z : State} (hw : ∀ d ∈ tables_1, d.before a0 Z = true) : (Jvm.Cond.classLink "java/util/List" (96 : Nat) "java/util/ImmutableCollections$List12").before a0 Z = true := hw _ (List.mem_of_getElem? (i := 156) rfl)
theorem own_w157 {a0 : Array Value} {Z : State} (hw : ∀ d ∈ tables_1, d.before a0 Z = true) : (Jvm.Cond.instantiable "java/util/ImmutableCollections$List12" (2 : Nat)).before a0 Z = true := hw _ (List.mem_of_getElem? (i := 157) rfl)
theorem own_w158 {a0 : Array Value} {Z : State} (hw : ∀ d ∈ tables_1, d.before a0 Z = true) : (Jvm.Cond.initialized "java/util/ImmutableCollections$List12").before a0 Z = true := hw _ (List.mem_of_getElem? (i := 158) rfl)
theorem own_w159 {a0 : Array Value} {Z : State} (hw : ∀ d ∈ tables_1, d.before a0 Z = true) : (Jvm.Cond.methodLink "java/util/List" (98 : Nat) ({ cls := "java/util/ImmutableCollections$List12", name := "<init>", desc := "(Ljava/lang/Object;)V" } : Jvm.MethodName)).before a0 Z = true := hw _ (List.mem_of_getElem? (i := 159) rfl)
theorem own_w160 {a0 : Array Value} {Z : State} (hw : ∀ d ∈ tables_1, d.before a0 Z = true) : (Jvm.Cond.instanceMethod ({ cls := "java/util/ImmutableCollections$List12", name := "<init>", desc := "(Ljava/lang/Object;)V" } : Jvm.MethodName)).before a0 Z = true := hw _ (List.mem_of_getElem? (i := 160) rfl)
theorem own_w161 {a0 : Array Value} {Z : State} (hw : ∀ d ∈ tables_1, d.before a0 Z = true) : (Jvm.Cond.castable "java/util/ImmutableCollections$List12" "java/util/ImmutableCollections$List12").before a0 Z = true := hw _ (List.mem_of_getElem? (i := 161) rfl)
theorem own_w162 {a0 : Array Value} {Z : State} (hw : ∀ d ∈ tables_1, d.before a0 Z = true) : (Jvm.Cond.code ({ cls := "java/util/ImmutableCollections$List12", name := "<init>", desc := "(Ljava/lang/Object;)V" } : Jvm.MethodName) jdk_44_method_1_code (2 : Nat) (Option.none : Option Jvm.ClassFile.FieldType)).before a0 Z = true := hw _ (List.mem_of_getElem? (i := 162) rfl)
theorem own_w163 {a0 : Array Value} {Z : State} (hw : ∀ d ∈ tables_1, d.before a0 Z = true) : (Jvm.Cond.methodLink "java/util/ImmutableCollections$List12" (1 : Nat) ({ cls := "java/util/ImmutableCollections$AbstractImmutableList", name := "<init>", desc := "()V" } : Jvm.MethodName)).before a0 Z = true := hw _ (List.mem_of_getElem? (i := 163) rfl)
theorem own_w164 {a0 : Array Value} {Z : State} (hw : ∀ d ∈ tables_1, d.before a0 Z = true) : (Jvm.Cond.instanceMethod ({ cls := "java/util/ImmutableCollections$AbstractImmutableList", name := "<init>", desc := "()V" } : Jvm.MethodName)).before a0 Z = true := hw _ (List.mem_of_getElem? (i := 164) rfl)
theorem own_w165 {a0 : Array Value} {Z : State} (hw : ∀ d ∈ tables_1, d.before a0 Z = true) : (Jvm.Cond.declares ({ cls := "java/util/ImmutableCollections$AbstractImmutableList", name := "<init>", desc := "()V" } : Jvm.MethodName)).before a0 Z = true := hw _ (List.mem_of_getElem? (i := 165) rfl)
theorem own_w166 {a0 : Array Value} {Z : State} (hw : ∀ d ∈ tables_1, d.before a0 Z = true) : (Jvm.Cond.castable "java/util/ImmutableCollections$List12" "java/util/ImmutableCollections$AbstractImmutableList").before a0 Z = true := hw _ (List.mem_of_getElem? (i := 166) rfl)
theorem own_w167 {a0 : Array Value} {Z : State} (hw : ∀ d ∈ tables_1, d.before a0 Z = true) : (Jvm.Cond.initialized "java/util/ImmutableCollections$AbstractImmutableList").before a0 Z = true := hw _ (List.mem_of_getElem? (i := 167) rfl)
theorem own_w168 {a0 : Array Value} {Z : State} (hw : ∀ d ∈ tables_1, d.before a0 Z = true) : (Jvm.Cond.code ({ cls := "java/util/ImmutableCollections$AbstractImmutableList", name := "<init>", desc := "()V" } : Jvm.MethodName) jdk_46_method_1_code (1 : Nat) (Option.none : Option Jvm.ClassFile.FieldType)).before a0 Z = true := hw _ (List.mem_of_getElem? (i := 168) rfl)
theorem own_w169 {a0 : Array Value} {Z : State} (hw : ∀ d ∈ tables_1, d.before a0 Z = true) : (Jvm.Cond.methodLink "java/util/ImmutableCollections$AbstractImmutableList" (1 : Nat) ({ cls := "java/util/ImmutableCollections$AbstractImmutableCollection", name := "<init>", desc := "()V" } : Jvm.MethodName)).before a0 Z = true := hw _ (List.mem_of_getElem? (i := 169) rfl)
theorem own_w170 {a0 : Array Value} {Z : State} (hw : ∀ d ∈ tables_1, d.before a0 Z = true) : (Jvm.Cond.instanceMethod ({ cls := "java/util/ImmutableCollections$AbstractImmutableCollection", name := "<init>", desc := "()V" } : Jvm.MethodName)).before a0 Z = true := hw _ (List.mem_of_getElem? (i := 170) rfl)
theorem own_w171 {a0 : Array Value} {Z : State} (hw : ∀ d ∈ tables_1, d.before a0 Z = true) : (Jvm.Cond.declares ({ cls := "java/util/ImmutableCollections$AbstractImmutableCollection", name := "<init>", desc := "()V" } : Jvm.MethodName)).before a0 Z = true := hw _ (List.mem_of_getElem? (i := 171) rfl)
theorem own_w172 {a0 : Array Value} {Z : State} (hw : ∀ d ∈ tables_1, d.before a0 Z = true) : (Jvm.Cond.castable "java/util/ImmutableCollections$List12" "java/util/ImmutableCollections$AbstractImmutableCollection").before a0 Z = true := hw _ (List.mem_of_getElem? (i := 172) rfl)
theorem own_w173 {a0 : Array Value} {Z : State} (hw : ∀ d ∈ tables_1, d.before a0 Z = true) : (Jvm.Cond.initialized "java/util/ImmutableCollections$AbstractImmutableCollection").before a0 Z = true := hw _ (List.mem_of_getElem? (i := 173) rfl)
theorem own_w174 {a0 : Array Value} {Z : State} (hw : ∀ d ∈ tables_1, d.before a0 Z = true) : (Jvm.Cond.code ({ cls := "java/util/ImmutableCollections$AbstractImmutableCollection", name := "<init>", desc := "()V" } : Jvm.MethodName) jdk_47_method_1_code (1 : Nat) (Option.none : Option Jvm.ClassFile.FieldType)).before a0 Z = true := hw _ (List.mem_of_getElem? (i := 174) rfl)
theorem own_w175 {a0 : Array Value} {Z : State} (hw : ∀ d ∈ tables_1, d.before a0 Z = true) : (Jvm.Cond.methodLink "java/util/ImmutableCollections$AbstractImmutableCollection" (1 : Nat) ({ cls := "java/util/AbstractCollection", name := "<init>", desc := "()V" } : Jvm.MethodName)).before a0 Z = true := hw _ (List.mem_of_getElem? (i := 175) rfl)
theorem own_w176 {a0 : Array Value} {Z : State} (hw : ∀ d ∈ tables_1, d.before a0 Z = true) : (Jvm.Cond.castable "java/util/ImmutableCollections$List12" "java/util/AbstractCollection").before a0 Z = true := hw _ (List.mem_of_getElem? (i := 176) rfl)
theorem own_w177 {a0 : Array Value} {Z : State} (hw : ∀ d ∈ tables_1, d.before a0 Z = true) : (Jvm.Cond.methodLink "java/util/ImmutableCollections$List12" (7 : Nat) ({ cls := "java/util/Objects", name := "requireNonNull", desc := "(Ljava/lang/Object;)Ljava/lang/Object;" } : Jvm.MethodName)).before a0 Z = true := hw _ (List.mem_of_getElem? (i := 177) rfl)
theorem own_w178 {a0 : Array Value} {Z : State} (hw : ∀ d ∈ tables_1, d.before a0 Z = true) : (Jvm.Cond.static ({ cls := "java/util/Objects", name := "requireNonNull", desc := "(Ljava/lang/Object;)Ljava/lang/Object;" } : Jvm.MethodName)).before a0 Z = true := hw _ (List.mem_of_getElem? (i := 178) rfl)
theorem own_w179 {a0 : Array Value} {Z : State} (hw : ∀ d ∈ tables_1, d.before a0 Z = true) : (Jvm.Cond.initialized "java/util/Objects").before a0 Z = true := hw _ (List.mem_of_getElem? (i := 179) rfl)
theorem own_w180 {a0 : Array Value} {Z : State} (hw : ∀ d ∈ tables_1, d.before a0 Z = true) : (Jvm.Cond.code ({ cls := "java/util/Objects", name := "requireNonNull", desc := "(Ljava/lang/Object;)Ljava/lang/Object;" } : Jvm.MethodName) jdk_31_method_10_code (1 : Nat) (Option.some (Jvm.ClassFile.FieldType.object "java/lang/Object"))).before a0 Z = true := hw _ (List.mem_of_getElem? (i := 180) rfl)
theorem own_w181 {a0 : Array Value} {Z : State} (hw : ∀ d ∈ tables_1, d.before a0 Z = true) : (Jvm.Cond.fieldLink "java/util/ImmutableCollections$List12" (13 : Nat) "java/util/ImmutableCollections$List12" "e0" "Ljava/lang/Object;").before a0 Z = true := hw _ (List.mem_of_getElem? (i := 181) rfl)
theorem own_w182 {a0 : Array Value} {Z : State} (hw : ∀ d ∈ tables_1, d.before a0 Z = true) : (Jvm.Cond.laysFinal "java/util/ImmutableCollections$List12" "java/util/ImmutableCollections$List12" "e0" "Ljava/lang/Object;").before a0 Z = true := hw _ (List.mem_of_getElem? (i := 182) rfl)
theorem own_w183 {a0 : Array Value} {Z : State} (hw : ∀ d ∈ tables_1, d.before a0 Z = true) : (Jvm.Cond.fieldLinkNest "java/util/ImmutableCollections$List12" (19 : Nat) "java/util/ImmutableCollections" "EMPTY" "Ljava/lang/Object;" "java/util/ImmutableCollections").before a0 Z = true := hw _ (List.mem_of_getElem? (i := 183) rfl)
theorem own_w184 {a0 : Array Value} {Z : State} (hw : ∀ d ∈ tables_1, d.before a0 Z = true) : (Jvm.Cond.fieldLink "java/util/ImmutableCollections$List12" (24 : Nat) "java/util/ImmutableCollections$List12" "e1" "Ljava/lang/Object;").before a0 Z = true := hw _ (List.mem_of_getElem? (i := 184) rfl)
theorem own_w185 {a0 : Array Value} {Z : State} (hw : ∀ d ∈ tables_1, d.before a0 Z = true) : (Jvm.Cond.laysFinal "java/util/ImmutableCollections$List12" "java/util/ImmutableCollections$List12" "e1" "Ljava/lang/Object;").before a0 Z = true := hw _ (List.mem_of_getElem? (i := 185) rfl)
theorem own_w186 {a0 : Array Value} {Z : State} (hw : ∀ d ∈ tables_1, d.before a0 Z = true) : (Jvm.Cond.fieldLink "com/example/regent/regent/controller/Event$MasterChanged" (13 : Nat) "com/example/regent/regent/controller/Event$MasterChanged" "group" "Ljava/lang/String;").before a0 Z = true := hw _ (List.mem_of_getElem? (i := 186) rfl)
theorem own_w187 {a0 : Array Value} {Z : State} (hw : ∀ d ∈ tables_1, d.before a0 Z = true) : (Jvm.Cond.laysFinal "com/example/regent/regent/controller/Event$MasterChanged" "com/example/regent/regent/controller/Event$MasterChanged" "group" "Ljava/lang/String;").before a0 Z = true := hw _ (List.mem_of_getElem? (i := 187) rfl)
theorem own_w188 {a0 : Array Value} {Z : State} (hw : ∀ d ∈ tables_1, d.before a0 Z = true) : (Jvm.Cond.fieldLink "com/example/regent/regent/controller/Event$MasterChanged" (19 : Nat) "com/example/regent/regent/controller/Event$MasterChanged" "master" "Ljava/lang/Long;").before a0 Z = true := hw _ (List.mem_of_getElem? (i := 188) rfl)
theorem own_w189 {a0 : Array Value} {Z : State} (hw : ∀ d ∈ tables_1, d.before a0 Z = true) : (Jvm.Cond.laysFinal "com/example/regent/regent/controller/Event$MasterChanged" "com/example/regent/regent/controller/Event$MasterChanged" "master" "Ljava/lang/Long;").before a0 Z = true := hw _ (List.mem_of_getElem? (i := 189) rfl)
theorem own_w190 {a0 : Array Value} {Z : State} (hw : ∀ d ∈ tables_1, d.before a0 Z = true) : (Jvm.Cond.fieldLink "com/example/regent/regent/controller/Event$MasterChanged" (23 : Nat) "com/example/regent/regent/controller/Event$MasterChanged" "masterEpoch" "I").before a0 Z = true := hw _ (List.mem_of_getElem? (i := 190) rfl)
theorem own_w191 {a0 : Array Value} {Z : State} (hw : ∀ d ∈ tables_1, d.before a0 Z = true) : (Jvm.Cond.laysFinal "com/example/regent/regent/controller/Event$MasterChanged" "com/example/regent/regent/controller/Event$MasterChanged" "masterEpoch" "I").before a0 Z = true := hw _ (List.mem_of_getElem? (i := 191) rfl)
theorem own_w192 {a0 : Array Value} {Z : State} (hw : ∀ d ∈ tables_1, d.before a0 Z = true) : (Jvm.Cond.fieldLink "com/example/regent/regent/controller/Event$MasterChanged" (27 : Nat) "com/example/regent/regent/controller/Event$MasterChanged" "syncStateSet" "Ljava/util/List;").before a0 Z = true := hw _ (List.mem_of_getElem? (i := 192) rfl)
theorem own_w193 {a0 : Array Value} {Z : State} (hw : ∀ d ∈ tables_1, d.before a0 Z = true) : (Jvm.Cond.laysFinal "com/example/regent/regent/controller/Event$MasterChanged" "com/example/regent/regent/controller/Event$MasterChanged" "syncStateSet" "Ljava/util/List;").before a0 Z = true := hw _ (List.mem_of_getElem? (i := 193) rfl)
theorem own_w194 {a0 : Array Value} {Z : State} (hw : ∀ d ∈ tables_1, d.before a0 Z = true) : (Jvm.Cond.fieldLink "com/example/regent/regent/controller/Event$MasterChanged" (31 : Nat) "com/example/regent/regent/controller/Event$MasterChanged" "syncStateSetEpoch" "I").before a0 Z = true := hw _ (List.mem_of_getElem? (i := 194) rfl)
theorem own_w195 {a0 : Array Value} {Z : State} (hw : ∀ d ∈ tables_1, d.before a0 Z = true) : (Jvm.Cond.laysFinal "com/example/regent/regent/controller/Event$MasterChanged" "com/example/regent/regent/controller/Event$MasterChanged" "syncStateSetEpoch" "I").before a0 Z = true := hw _ (List.mem_of_getElem? (i := 195) rfl)
theorem own_w196 {a0 : Array Value} {Z : State} (hw : ∀ d ∈ tables_1, d.before a0 Z = true) : (Jvm.Cond.classLink "com/example/regent/regent/controller/MasterChangedApplyToPinLaw" (27 : Nat) "com/example/regent/regent/controller/Group").before a0 Z = true := hw _ (List.mem_of_getElem? (i := 196) rfl)
theorem own_w197 {a0 : Array Value} {Z : State} (hw : ∀ d ∈ tables_1, d.before a0 Z = true) : (Jvm.Cond.instantiable "com/example/regent/regent/controller/Group" (7 : Nat)).before a0 Z = true := hw _ (List.mem_of_getElem? (i := 197) rfl)
theorem own_w198 {a0 : Array Value} {Z : State} (hw : ∀ d ∈ tables_1, d.before a0 Z = true) : (Jvm.Cond.initialized "com/example/regent/regent/controller/Group").before a0 Z = true := hw _ (List.mem_of_getElem? (i := 198) rfl)
theorem own_w199 {a0 : Array Value} {Z : State} (hw : ∀ d ∈ tables_1, d.before a0 Z = true) : (Jvm.Cond.methodLink "com/example/regent/regent/controller/MasterChangedApplyToPinLaw" (29 : Nat) ({ cls := "com/example/regent/regent/controller/Group", name := "<init>", desc := "(Ljava/lang/String;)V" } : Jvm.MethodName)).before a0 Z = true := hw _ (List.mem_of_getElem? (i := 199) rfl)
theorem own_w200 {a0 : Array Value} {Z : State} (hw : ∀ d ∈ tables_1, d.before a0 Z = true) : (Jvm.Cond.instanceMethod ({ cls := "com/example/regent/regent/controller/Group", name := "<init>", desc := "(Ljava/lang/String;)V" } : Jvm.MethodName)).before a0 Z = true := hw _ (List.mem_of_getElem? (i := 200) rfl)
theorem own_w201 {a0 : Array Value} {Z : State} (hw : ∀ d ∈ tables_1, d.before a0 Z = true) : (Jvm.Cond.code ({ cls := "com/example/regent/regent/controller/Group", name := "<init>", desc := "(Ljava/lang/String;)V" } : Jvm.MethodName) prog_56_method_1_code (2 : Nat) (Option.none : Option Jvm.ClassFile.FieldType)).before a0 Z = true := hw _ (List.mem_of_getElem? (i := 201) rfl)
theorem own_w202 {a0 : Array Value} {Z : State} (hw : ∀ d ∈ tables_1, d.before a0 Z = true) : (Jvm.Cond.methodLink "com/example/regent/regent/controller/Group" (1 : Nat) ({ cls := "java/lang/Object", name := "<init>", desc := "()V" } : Jvm.MethodName)).before a0 Z = true := hw _ (List.mem_of_getElem? (i := 202) rfl)
theorem own_w203 {a0 : Array Value} {Z : State} (hw : ∀ d ∈ tables_1, d.before a0 Z = true) : (Jvm.Cond.classLink "com/example/regent/regent/controller/Group" (7 : Nat) "java/util/TreeMap").before a0 Z = true := hw _ (List.mem_of_getElem? (i := 203) rfl)
theorem own_w204 {a0 : Array Value} {Z : State} (hw : ∀ d ∈ tables_1, d.before a0 Z = true) : (Jvm.Cond.instantiable "java/util/TreeMap" (9 : Nat)).before a0 Z = true := hw _ (List.mem_of_getElem? (i := 204) rfl)
theorem own_w205 {a0 : Array Value} {Z : State} (hw : ∀ d ∈ tables_1, d.before a0 Z = true) : (Jvm.Cond.initialized "java/util/TreeMap").before a0 Z = true := hw _ (List.mem_of_getElem? (i := 205) rfl)
theorem own_w206 {a0 : Array Value} {Z : State} (hw : ∀ d ∈ tables_1, d.before a0 Z = true) : (Jvm.Cond.methodLink "com/example/regent/regent/controller/Group" (9 : Nat) ({ cls := "java/util/TreeMap", name := "<init>", desc := "()V" } : Jvm.MethodName)).before a0 Z = true := hw _ (List.mem_of_getElem? (i := 206) rfl)
theorem own_w207 {a0 : Array Value} {Z : State} (hw : ∀ d ∈ tables_1, d.before a0 Z = true) : (Jvm.Cond.instanceMethod ({ cls := "java/util/TreeMap", name := "<init>", desc := "()V" } : Jvm.MethodName)).before a0 Z = true := hw _ (List.mem_of_getElem? (i := 207) rfl)
theorem own_w208 {a0 : Array Value} {Z : State} (hw : ∀ d ∈ tables_1, d.before a0 Z = true) : (Jvm.Cond.code ({ cls := "java/util/TreeMap", name := "<init>", desc := "()V" } : Jvm.MethodName) jdk_2729_method_1_code (1 : Nat) (Option.none : Option Jvm.ClassFile.FieldType)).before a0 Z = true := hw _ (List.mem_of_getElem? (i := 208) rfl)
theorem own_w209 {a0 : Array Value} {Z : State} (hw : ∀ d ∈ tables_1, d.before a0 Z = true) : (Jvm.Cond.methodLink "java/util/TreeMap" (1 : Nat) ({ cls := "java/util/AbstractMap", name := "<init>", desc := "()V" } : Jvm.MethodName)).before a0 Z = true := hw _ (List.mem_of_getElem? (i := 209) rfl)
theorem own_w210 {a0 : Array Value} {Z : State} (hw : ∀ d ∈ tables_1, d.before a0 Z = true) : (Jvm.Cond.instanceMethod ({ cls := "java/util/AbstractMap", name := "<init>", desc := "()V" } : Jvm.MethodName)).before a0 Z = true := hw _ (List.mem_of_getElem? (i := 210) rfl)
theorem own_w211 {a0 : Array Value} {Z : State} (hw : ∀ d ∈ tables_1, d.before a0 Z = true) : (Jvm.Cond.declares ({ cls := "java/util/AbstractMap", name := "<init>", desc := "()V" } : Jvm.MethodName)).before a0 Z = true := hw _ (List.mem_of_getElem? (i := 211) rfl)
theorem own_w212 {a0 : Array Value} {Z : State} (hw : ∀ d ∈ tables_1, d.before a0 Z = true) : (Jvm.Cond.castable "java/util/TreeMap" "java/util/AbstractMap").before a0 Z = true := hw _ (List.mem_of_getElem? (i := 212) rfl)
theorem own_w213 {a0 : Array Value} {Z : State} (hw : ∀ d ∈ tables_1, d.before a0 Z = true) : (Jvm.Cond.initialized "java/util/AbstractMap").before a0 Z = true := hw _ (List.mem_of_getElem? (i := 213) rfl)
theorem own_w214 {a0 : Array Value} {Z : State} (hw : ∀ d ∈ tables_1, d.before a0 Z = true) : (Jvm.Cond.code ({ cls := "java/util/AbstractMap", name := "<init>", desc := "()V" } : Jvm.MethodName) jdk_71_method_1_code (1 : Nat) (Option.none : Option Jvm.ClassFile.FieldType)).before a0 Z = true := hw _ (List.mem_of_getElem? (i := 214) rfl)
theorem own_w215 {a0 : Array Value} {Z : State} (hw : ∀ d ∈ tables_1, d.before a0 Z = true) : (Jvm.Cond.methodLink "java/util/AbstractMap" (1 : Nat) ({ cls := "java/lang/Object", name := "<init>", desc := "()V" } : Jvm.MethodName)).before a0 Z = true := hw _ (List.mem_of_getElem? (i := 215) rfl)
theorem own_w216 {a0 : Array Value} {Z : State} (hw : ∀ d ∈ tables_1, d.before a0 Z = true) : (Jvm.Cond.fieldLink "java/util/TreeMap" (7 : Nat) "java/util/TreeMap" "size" "I").before a0 Z = true := hw _ (List.mem_of_getElem? (i := 216) rfl)
theorem own_w217 {a0 : Array Value} {Z : State} (hw : ∀ d ∈ tables_1, d.before a0 Z = true) : (Jvm.Cond.lays "java/util/TreeMap" "java/util/TreeMap" "size" "I").before a0 Z = true := hw _ (List.mem_of_getElem? (i := 217) rfl)
theorem own_w218 {a0 : Array Value} {Z : State} (hw : ∀ d ∈ tables_1, d.before a0 Z = true) : (Jvm.Cond.fieldLink "java/util/TreeMap" (13 : Nat) "java/util/TreeMap" "modCount" "I").before a0 Z = true := hw _ (List.mem_of_getElem? (i := 218) rfl)
theorem own_w219 {a0 : Array Value} {Z : State} (hw : ∀ d ∈ tables_1, d.before a0 Z = true) : (Jvm.Cond.lays "java/util/TreeMap" "java/util/TreeMap" "modCount" "I").before a0 Z = true := hw _ (List.mem_of_getElem? (i := 219) rfl)
theorem own_w220 {a0 : Array Value} {Z : State} (hw : ∀ d ∈ tables_1, d.before a0 Z = true) : (Jvm.Cond.fieldLink "java/util/TreeMap" (16 : Nat) "java/util/TreeMap" "comparator" "Ljava/util/Comparator;").before a0 Z = true := hw _ (List.mem_of_getElem? (i := 220) rfl)
theorem own_w221 {a0 : Array Value} {Z : State} (hw : ∀ d ∈ tables_1, d.before a0 Z = true) : (Jvm.Cond.laysFinal "java/util/TreeMap" "java/util/TreeMap" "comparator" "Ljava/util/Comparator;").before a0 Z = true := hw _ (List.mem_of_getElem? (i := 221) rfl)
theorem own_w222 {a0 : Array Value} {Z : State} (hw : ∀ d ∈ tables_1, d.before a0 Z = true) : (Jvm.Cond.fieldLink "com/example/regent/regent/controller/Group" (10 : Nat) "com/example/regent/regent/controller/Group" "registerCodes" "Ljava/util/NavigableMap;").before a0 Z = true := hw _ (List.mem_of_getElem? (i := 222) rfl)
theorem own_w223 {a0 : Array Value} {Z : State} (hw : ∀ d ∈ tables_1, d.before a0 Z = true) : (Jvm.Cond.laysFinal "com/example/regent/regent/controller/Group" "com/example/regent/regent/controller/Group" "registerCodes" "Ljava/util/NavigableMap;").before a0 Z = true := hw _ (List.mem_of_getElem? (i := 223) rfl)
theorem own_w224 {a0 : Array Value} {Z : State} (hw : ∀ d ∈ tables_1, d.before a0 Z = true) : (Jvm.Cond.fieldLink "com/example/regent/regent/controller/Group" (16 : Nat) "com/example/regent/regent/controller/Group" "brokers" "Ljava/util/NavigableMap;").before a0 Z = true := hw _ (List.mem_of_getElem? (i := 224) rfl)
theorem own_w225 {a0 : Array Value} {Z : State} (hw : ∀ d ∈ tables_1, d.before a0 Z = true) : (Jvm.Cond.laysFinal "com/example/regent/regent/controller/Group" "com/example/regent/regent/controller/Group" "brokers" "Ljava/util/NavigableMap;").before a0 Z = true := hw _ (List.mem_of_getElem? (i := 225) rfl)
theorem own_w226 {a0 : Array Value} {Z : State} (hw : ∀ d ∈ tables_1, d.before a0 Z = true) : (Jvm.Cond.methodLink "com/example/regent/regent/controller/Group" (19 : Nat) ({ cls := "java/util/List", name := "of", desc := "()Ljava/util/List;" } : Jvm.MethodName)).before a0 Z = true := hw _ (List.mem_of_getElem? (i := 226) rfl)
theorem own_w227 {a0 : Array Value} {Z : State} (hw : ∀ d ∈ tables_1, d.before a0 Z = true) : (Jvm.Cond.static ({ cls := "java/util/List", name := "of", desc := "()Ljava/util/List;" } : Jvm.MethodName)).before a0 Z = true := hw _ (List.mem_of_getElem? (i := 227) rfl)
theorem own_w228 {a0 : Array Value} {Z : State} (hw : ∀ d ∈ tables_1, d.before a0 Z = true) : (Jvm.Cond.code ({ cls := "java/util/List", name := "of", desc := "()Ljava/util/List;" } : Jvm.MethodName) jdk_40_method_36_code (0 : Nat) (Option.some (Jvm.ClassFile.FieldType.object "java/util/List"))).before a0 Z = true := hw _ (List.mem_of_getElem? (i := 228) rfl)
theorem own_w229 {a0 : Array Value} {Z : State} (hw : ∀ d ∈ tables_1, d.before a0 Z = true) : (Jvm.Cond.fieldLink "java/util/List" (90 : Nat) "java/util/ImmutableCollections" "EMPTY_LIST" "Ljava/util/ImmutableCollections$ListN;").before a0 Z = true := hw _ (List.mem_of_getElem? (i := 229) rfl)
theorem own_w230 {a0 : Array Value} {Z : State} (hw : ∀ d ∈ tables_1, d.before a0 Z = true) : (Jvm.Cond.fieldLink "com/example/regent/regent/controller/Group" (25 : Nat) "com/example/regent/regent/controller/Group" "syncStateSet" "Ljava/util/List;").before a0 Z = true := hw _ (List.mem_of_getElem? (i := 230) rfl)
theorem own_w231 {a0 : Array Value} {Z : State} (hw : ∀ d ∈ tables_1, d.before a0 Z = true) : (Jvm.Cond.lays "com/example/regent/regent/controller/Group" "com/example/regent/regent/controller/Group" "syncStateSet" "Ljava/util/List;").before a0 Z = true := hw _ (List.mem_of_getElem? (i := 231) rfl)
theorem own_w232 {a0 : Array Value} {Z : State} (hw : ∀ d ∈ tables_1, d.before a0 Z = true) : (Jvm.Cond.fieldLink "com/example/regent/regent/controller/Group" (29 : Nat) "com/example/regent/regent/controller/Group" "name" "Ljava/lang/String;").before a0 Z = true := hw _ (List.mem_of_getElem? (i := 232) rfl)
theorem own_w233 {a0 : Array Value} {Z : State} (hw : ∀ d ∈ tables_1, d.before a0 Z = true) : (Jvm.Cond.laysFinal "com/example/regent/regent/controller/Group" "com/example/regent/regent/controller/Group" "name" "Ljava/lang/String;").before a0 Z = true := hw _ (List.mem_of_getElem? (i := 233) rfl)
theorem own_w234 {a0 : Array Value} {Z : State} (hw : ∀ d ∈ tables_1, d.before a0 Z = true) : (Jvm.Cond.constantLong "com/example/regent/regent/controller/MasterChangedApplyToPinLaw" (32 : Nat) (-1 : Int64)).before a0 Z = true := hw _ (List.mem_of_getElem? (i := 234) rfl)
theorem own_w235 {a0 : Array Value} {Z : State} (hw : ∀ d ∈ tables_1, d.before a0 Z = true) : (Jvm.Cond.fieldLink "com/example/regent/regent/controller/MasterChangedApplyToPinLaw" (34 : Nat) "com/example/regent/regent/controller/Group" "master" "Ljava/lang/Long;").before a0 Z = true := hw _ (List.mem_of_getElem? (i := 235) rfl)
theorem own_w236 {a0 : Array Value} {Z : State} (hw : ∀ d ∈ tables_1, d.before a0 Z = true) : (Jvm.Cond.lays "com/example/regent/regent/controller/Group" "com/example/regent/regent/controller/Group" "master" "Ljava/lang/Long;").before a0 Z = true := hw _ (List.mem_of_getElem? (i := 236) rfl)
theorem own_w237 {a0 : Array Value} {Z : State} (hw : ∀ d ∈ tables_1, d.before a0 Z = true) : (Jvm.Cond.fieldLink "com/example/regent/regent/controller/MasterChangedApplyToPinLaw" (38 : Nat) "com/example/regent/regent/controller/Group" "masterEpoch" "I").before a0 Z = true := hw _ (List.mem_of_getElem? (i := 237) rfl)
theorem own_w238 {a0 : Array Value} {Z : State} (hw : ∀ d ∈ tables_1, d.before a0 Z = true) : (Jvm.Cond.lays "com/example/regent/regent/controller/Group" "com/example/regent/regent/controller/Group" "masterEpoch" "I").before a0 Z = true := hw _ (List.mem_of_getElem? (i := 238) rfl)
theorem own_w239 {a0 : Array Value} {Z : State} (hw : ∀ d ∈ tables_1, d.before a0 Z = true) : (Jvm.Cond.fieldLink "com/example/regent/regent/controller/MasterChangedApplyToPinLaw" (42 : Nat) "com/example/regent/regent/controller/Group" "syncStateSet" "Ljava/util/List;").before a0 Z = true := hw _ (List.mem_of_getElem? (i := 239) rfl)
theorem own_w240 {a0 : Array Value} {Z : State} (hw : ∀ d ∈ tables_1, d.before a0 Z = true) : (Jvm.Cond.fieldLink "com/example/regent/regent/controller/MasterChangedApplyToPinLaw" (46 : Nat) "com/example/regent/regent/controller/Group" "syncStateSetEpoch" "I").before a0 Z = true := hw _ (List.mem_of_getElem? (i := 240) rfl)
theorem own_w241 {a0 : Array Value} {Z : State} (hw : ∀ d ∈ tables_1, d.before a0 Z = true) : (Jvm.Cond.lays "com/example/regent/regent/controller/Group" "com/example/regent/regent/controller/Group" "syncStateSetEpoch" "I").before a0 Z = true := hw _ (List.mem_of_getElem? (i := 241) rfl)
theorem own_w242 {a0 : Array Value} {Z : State} (hw : ∀ d ∈ tables_1, d.before a0 Z = true) : (Jvm.Cond.methodLink "com/example/regent/regent/controller/MasterChangedApplyToPinLaw" (49 : Nat) ({ cls := "com/example/regent/regent/controller/Event$MasterChanged", name := "applyTo", desc := "(Lcom/example/regent/regent/controller/Group;)V" } : Jvm.MethodName)).before a0 Z = true := hw _ (List.mem_of_getElem? (i := 242) rfl)
theorem own_w243 {a0 : Array Value} {Z : State} (hw : ∀ d ∈ tables_1, d.before a0 Z = true) : (Jvm.Cond.declares ({ cls := "com/example/regent/regent/controller/Event$MasterChanged", name := "applyTo", desc := "(Lcom/example/regent/regent/controller/Group;)V" } : Jvm.MethodName)).before a0 Z = true := hw _ (List.mem_of_getElem? (i := 243) rfl)
theorem own_w244 {a0 : Array Value} {Z : State} (hw : ∀ d ∈ tables_1, d.before a0 Z = true) : (Jvm.Cond.instanceMethod ({ cls := "com/example/regent/regent/controller/Event$MasterChanged", name := "applyTo", desc := "(Lcom/example/regent/regent/controller/Group;)V" } : Jvm.MethodName)).before a0 Z = true := hw _ (List.mem_of_getElem? (i := 244) rfl)
theorem own_w245 {a0 : Array Value} {Z : State} (hw : ∀ d ∈ tables_1, d.before a0 Z = true) : (Jvm.Cond.selects "com/example/regent/regent/controller/Event$MasterChanged" ({ cls := "com/example/regent/regent/controller/Event$MasterChanged", name := "applyTo", desc := "(Lcom/example/regent/regent/controller/Group;)V" } : Jvm.MethodName) ({ cls := "com/example/regent/regent/controller/Event$MasterChanged", name := "applyTo", desc := "(Lcom/example/regent/regent/controller/Group;)V" } : Jvm.MethodName)).before a0 Z = true := hw _ (List.mem_of_getElem? (i := 245) rfl)
theorem own_w246 {a0 : Array Value} {Z : State} (hw : ∀ d ∈ tables_1, d.before a0 Z = true) : (Jvm.Cond.code ({ cls := "com/example/regent/regent/controller/Event$MasterChanged", name := "applyTo", desc := "(Lcom/example/regent/regent/controller/Group;)V" } : Jvm.MethodName) prog_53_method_2_code (2 : Nat) (Option.none : Option Jvm.ClassFile.FieldType)).before a0 Z = true := hw _ (List.mem_of_getElem? (i := 246) rfl)
theorem own_w247 {a0 : Array Value} {Z : State} (hw : ∀ d ∈ tables_1, d.before a0 Z = true) : (Jvm.Cond.fieldLink "com/example/regent/regent/controller/Event$MasterChanged" (34 : Nat) "com/example/regent/regent/controller/Group" "master" "Ljava/lang/Long;").before a0 Z = true := hw _ (List.mem_of_getElem? (i := 247) rfl)
theorem own_w248 {a0 : Array Value} {Z : State} (hw : ∀ d ∈ tables_1, d.before a0 Z = true) : (Jvm.Cond.fieldLink "com/example/regent/regent/controller/Event$MasterChanged" (37 : Nat) "com/example/regent/regent/controller/Group" "masterEpoch" "I").before a0 Z = true := hw _ (List.mem_of_getElem? (i := 248) rfl)
theorem own_w249 {a0 : Array Value} {Z : State} (hw : ∀ d ∈ tables_1, d.before a0 Z = true) : (Jvm.Cond.fieldLink "com/example/regent/regent/controller/Event$MasterChanged" (38 : Nat) "com/example/regent/regent/controller/Group" "syncStateSet" "Ljava/util/List;").before a0 Z = true := hw _ (List.mem_of_getElem? (i := 249) rfl)
theorem own_w250 {a0 : Array Value} {Z : State} (hw : ∀ d ∈ tables_1, d.before a0 Z = true) : (Jvm.Cond.fieldLink "com/example/regent/regent/controller/Event$MasterChanged" (39 : Nat) "com/example/regent/regent/controller/Group" "syncStateSetEpoch" "I").before a0 Z = true := hw _ (List.mem_of_getElem? (i := 250) rfl)
theorem own_w251 {a0 : Array Value} {Z : State} (hw : ∀ d ∈ tables_1, d.before a0 Z = true) : (Jvm.Cond.methodLink "com/example/regent/regent/controller/MasterChangedApplyToPinLaw" (53 : Nat) ({ cls := "java/lang/Long", name := "longValue", desc := "()J" } : Jvm.MethodName)).before a0 Z = true := hw _ (List.mem_of_getElem? (i := 251) rfl)
theorem own_w252 {a0 : Array Value} {Z : State} (hw : ∀ d ∈ tables_1, d.before a0 Z = true) : (Jvm.Cond.declares ({ cls := "java/lang/Long", name := "longValue", desc := "()J" } : Jvm.MethodName)).before a0 Z = true := hw _ (List.mem_of_getElem? (i := 252) rfl)
theorem own_w253 {a0 : Array Value} {Z : State} (hw : ∀ d ∈ tables_1, d.before a0 Z = true) : (Jvm.Cond.instanceMethod ({ cls := "java/lang/Long", name := "longValue", desc := "()J" } : Jvm.MethodName)).before a0 Z = true := hw _ (List.mem_of_getElem? (i := 253) rfl)
theorem own_w254 {a0 : Array Value} {Z : State} (hw : ∀ d ∈ tables_1, d.before a0 Z = true) : (Jvm.Cond.selects "java/lang/Long" ({ cls := "java/lang/Long", name := "longValue", desc := "()J" } : Jvm.MethodName) ({ cls := "java/lang/Long", name := "longValue", desc := "()J" } : Jvm.MethodName)).before a0 Z = true := hw _ (List.mem_of_getElem? (i := 254) rfl)
theorem own_w255 {a0 : Array Value} {Z : State} (hw : ∀ d ∈ tables_1, d.before a0 Z = true) : (Jvm.Cond.code ({ cls := "java/lang/Long", name := "longValue", desc := "()J" } : Jvm.MethodName) jdk_35_method_31_code (1 : Nat) (Option.some Jvm.ClassFile.FieldType.long)).before a0 Z = true := hw _ (List.mem_of_getElem? (i := 255) rfl)
theorem own_w256 {a0 : Array Value} {Z : State} (hw : ∀ d ∈ tables_1, d.before a0 Z = true) : (Jvm.Cond.methodLink "com/example/regent/regent/controller/MasterChangedApplyToPinLaw" (57 : Nat) ({ cls := "java/util/List", name := "size", desc := "()I" } : Jvm.MethodName)).before a0 Z = true := hw _ (List.mem_of_getElem? (i := 256) rfl)
theorem own_w257 {a0 : Array Value} {Z : State} (hw : ∀ d ∈ tables_1, d.before a0 Z = true) : (Jvm.Cond.declares ({ cls := "java/util/List", name := "size", desc := "()I" } : Jvm.MethodName)).before a0 Z = true := hw _ (List.mem_of_getElem? (i := 257) rfl)
theorem own_w258 {a0 : Array Value} {Z : State} (hw : ∀ d ∈ tables_1, d.before a0 Z = true) : (Jvm.Cond.interfaceMethod "java/util/List" "java/util/List" "size" "()I").before a0 Z = true := hw _ (List.mem_of_getElem? (i := 258) rfl)
theorem own_w259 {a0 : Array Value} {Z : State} (hw : ∀ d ∈ tables_1, d.before a0 Z = true) : (Jvm.Cond.selects "java/util/ImmutableCollections$List12" ({ cls := "java/util/List", name := "size", desc := "()I" } : Jvm.MethodName) ({ cls := "java/util/ImmutableCollections$List12", name := "size", desc := "()I" } : Jvm.MethodName)).before a0 Z = true := hw _ (List.mem_of_getElem? (i := 259) rfl)
theorem own_w260 {a0 : Array Value} {Z : State} (hw : ∀ d ∈ tables_1, d.before a0 Z = true) : (Jvm.Cond.instanceMethod ({ cls := "java/util/ImmutableCollections$List12", name := "size", desc := "()I" } : Jvm.MethodName)).before a0 Z = true := hw _ (List.mem_of_getElem? (i := 260) rfl)
theorem own_w261 {a0 : Array Value} {Z : State} (hw : ∀ d ∈ tables_1, d.before a0 Z = true) : (Jvm.Cond.publicMethod ({ cls := "java/util/ImmutableCollections$List12", name := "size", desc := "()I" } : Jvm.MethodName)).before a0 Z = true := hw _ (List.mem_of_getElem? (i := 261) rfl)
theorem own_w262 {a0 : Array Value} {Z : State} (hw : ∀ d ∈ tables_1, d.before a0 Z = true) : (Jvm.Cond.unhidden "java/util/ImmutableCollections$List12" "size" "()I").before a0 Z = true := hw _ (List.mem_of_getElem? (i := 262) rfl)
theorem own_w263 {a0 : Array Value} {Z : State} (hw : ∀ d ∈ tables_1, d.before a0 Z = true) : (Jvm.Cond.castable "java/util/ImmutableCollections$List12" "java/util/List").before a0 Z = true := hw _ (List.mem_of_getElem? (i := 263) rfl)
theorem own_w264 {a0 : Array Value} {Z : State} (hw : ∀ d ∈ tables_1, d.before a0 Z = true) : (Jvm.Cond.code ({ cls := "java/util/ImmutableCollections$List12", name := "size", desc := "()I" } : Jvm.MethodName) jdk_44_method_3_code (1 : Nat) (Option.some Jvm.ClassFile.FieldType.int)).before a0 Z = true := hw _ (List.mem_of_getElem? (i := 264) rfl)
theorem own_w265 {a0 : Array Value} {Z : State} (hw : ∀ d ∈ tables_1, d.before a0 Z = true) : (Jvm.Cond.methodLink "com/example/regent/regent/controller/MasterChangedApplyToPinLaw" (63 : Nat) ({ cls := "java/util/List", name := "get", desc := "(I)Ljava/lang/Object;" } : Jvm.MethodName)).before a0 Z = true := hw _ (List.mem_of_getElem? (i := 265) rfl)
theorem own_w266 {a0 : Array Value} {Z : State} (hw : ∀ d ∈ tables_1, d.before a0 Z = true) : (Jvm.Cond.declares ({ cls := "java/util/List", name := "get", desc := "(I)Ljava/lang/Object;" } : Jvm.MethodName)).before a0 Z = true := hw _ (List.mem_of_getElem? (i := 266) rfl)
theorem own_w267 {a0 : Array Value} {Z : State} (hw : ∀ d ∈ tables_1, d.before a0 Z = true) : (Jvm.Cond.interfaceMethod "java/util/List" "java/util/List" "get" "(I)Ljava/lang/Object;").before a0 Z = true := hw _ (List.mem_of_getElem? (i := 267) rfl)
theorem own_w268 {a0 : Array Value} {Z : State} (hw : ∀ d ∈ tables_1, d.before a0 Z = true) : (Jvm.Cond.selects "java/util/ImmutableCollections$List12" ({ cls := "java/util/List", name := "get", desc := "(I)Ljava/lang/Object;" } : Jvm.MethodName) ({ cls := "java/util/ImmutableCollections$List12", name := "get", desc := "(I)Ljava/lang/Object;" } : Jvm.MethodName)).before a0 Z = true := hw _ (List.mem_of_getElem? (i := 268) rfl)
theorem own_w269 {a0 : Array Value} {Z : State} (hw : ∀ d ∈ tables_1, d.before a0 Z = true) : (Jvm.Cond.instanceMethod ({ cls := "java/util/ImmutableCollections$List12", name := "get", desc := "(I)Ljava/lang/Object;" } : Jvm.MethodName)).before a0 Z = true := hw _ (List.mem_of_getElem? (i := 269) rfl)
theorem own_w270 {a0 : Array Value} {Z : State} (hw : ∀ d ∈ tables_1, d.before a0 Z = true) : (Jvm.Cond.publicMethod ({ cls := "java/util/ImmutableCollections$List12", name := "get", desc := "(I)Ljava/lang/Object;" } : Jvm.MethodName)).before a0 Z = true := hw _ (List.mem_of_getElem? (i := 270) rfl)
theorem own_w271 {a0 : Array Value} {Z : State} (hw : ∀ d ∈ tables_1, d.before a0 Z = true) : (Jvm.Cond.unhidden "java/util/ImmutableCollections$List12" "get" "(I)Ljava/lang/Object;").before a0 Z = true := hw _ (List.mem_of_getElem? (i := 271) rfl)
theorem own_w272 {a0 : Array Value} {Z : State} (hw : ∀ d ∈ tables_1, d.before a0 Z = true) : (Jvm.Cond.code ({ cls := "java/util/ImmutableCollections$List12", name := "get", desc := "(I)Ljava/lang/Object;" } : Jvm.MethodName) jdk_44_method_5_code (2 : Nat) (Option.some (Jvm.ClassFile.FieldType.object "java/lang/Object"))).before a0 Z = true := hw _ (List.mem_of_getElem? (i := 272) rfl)
theorem own_w273 {a0 : Array Value} {Z : State} (hw : ∀ d ∈ tables_1, d.before a0 Z = true) : (Jvm.Cond.classLink "com/example/regent/regent/controller/MasterChangedApplyToPinLaw" (11 : Nat) "java/lang/Long").before a0 Z = true := hw _ (List.mem_of_getElem? (i := 273) rfl)
theorem own_w274 {a0 : Array Value} {Z : State} (hw : ∀ d ∈ tables_1, d.before a0 Z = true) : (Jvm.Cond.methodLink "java/util/ImmutableCollections" (26 : Nat) ({ cls := "java/util/List", name := "of", desc := "()Ljava/util/List;" } : Jvm.MethodName)).before a0 Z = true := hw _ (List.mem_of_getElem? (i := 274) rfl)
theorem own_w275 {a0 : Array Value} {Z : State} (hw : ∀ d ∈ tables_1, d.before a0 Z = true) : (Jvm.Cond.selects "java/util/ImmutableCollections$ListN" ({ cls := "java/util/List", name := "size", desc := "()I" } : Jvm.MethodName) ({ cls := "java/util/ImmutableCollections$ListN", name := "size", desc := "()I" } : Jvm.MethodName)).before a0 Z = true := hw _ (List.mem_of_getElem? (i := 275) rfl)
theorem own_w276 {a0 : Array Value} {Z : State} (hw : ∀ d ∈ tables_1, d.before a0 Z = true) : (Jvm.Cond.instanceMethod ({ cls := "java/util/ImmutableCollections$ListN", name := "size", desc := "()I" } : Jvm.MethodName)).before a0 Z = true := hw _ (List.mem_of_getElem? (i := 276) rfl)
theorem own_w277 {a0 : Array Value} {Z : State} (hw : ∀ d ∈ tables_1, d.before a0 Z = true) : (Jvm.Cond.publicMethod ({ cls := "java/util/ImmutableCollections$ListN", name := "size", desc := "()I" } : Jvm.MethodName)).before a0 Z = true := hw _ (List.mem_of_getElem? (i := 277) rfl)
theorem own_w278 {a0 : Array Value} {Z : State} (hw : ∀ d ∈ tables_1, d.before a0 Z = true) : (Jvm.Cond.unhidden "java/util/ImmutableCollections$ListN" "size" "()I").before a0 Z = true := hw _ (List.mem_of_getElem? (i := 278) rfl)
theorem own_w279 {a0 : Array Value} {Z : State} (hw : ∀ d ∈ tables_1, d.before a0 Z = true) : (Jvm.Cond.castable "java/util/ImmutableCollections$ListN" "java/util/List").before a0 Z = true := hw _ (List.mem_of_getElem? (i := 279) rfl)
theorem own_w280 {a0 : Array Value} {Z : State} (hw : ∀ d ∈ tables_1, d.before a0 Z = true) : (Jvm.Cond.initialized "java/util/ImmutableCollections$ListN").before a0 Z = true := hw _ (List.mem_of_getElem? (i := 280) rfl)
theorem own_w281 {a0 : Array Value} {Z : State} (hw : ∀ d ∈ tables_1, d.before a0 Z = true) : (Jvm.Cond.code ({ cls := "java/util/ImmutableCollections$ListN", name := "size", desc := "()I" } : Jvm.MethodName) jdk_45_method_3_code (1 : Nat) (Option.some Jvm.ClassFile.FieldType.int)).before a0 Z = true := hw _ (List.mem_of_getElem? (i := 281) rfl)
theorem own_w282 {a0 : Array Value} {Z : State} (hw : ∀ d ∈ tables_1, d.before a0 Z = true) : (Jvm.Cond.fieldLink "java/util/ImmutableCollections$ListN" (7 : Nat) "java/util/ImmutableCollections$ListN" "elements" "[Ljava/lang/Object;").before a0 Z = true := hw _ (List.mem_of_getElem? (i := 282) rfl)
theorem own_w283 {a0 : Array Value} {Z : State} (hw : ∀ d ∈ tables_1, d.before a0 Z = true) : (Jvm.Cond.laysFinal "java/util/ImmutableCollections$ListN" "java/util/ImmutableCollections$ListN" "elements" "[Ljava/lang/Object;").before a0 Z = true := hw _ (List.mem_of_getElem? (i := 283) rfl)
theorem own_w284 {a0 : Array Value} {Z : State} (hw : ∀ d ∈ tables_1, d.before a0 Z = true) : (Jvm.Cond.methodLink "java/util/List" (100 : Nat) ({ cls := "java/util/ImmutableCollections$List12", name := "<init>", desc := "(Ljava/lang/Object;Ljava/lang/Object;)V" } : Jvm.MethodName)).before a0 Z = true := hw _ (List.mem_of_getElem? (i := 284) rfl)
theorem own_w285 {a0 : Array Value} {Z : State} (hw : ∀ d ∈ tables_1, d.before a0 Z = true) : (Jvm.Cond.instanceMethod ({ cls := "java/util/ImmutableCollections$List12", name := "<init>", desc := "(Ljava/lang/Object;Ljava/lang/Object;)V" } : Jvm.MethodName)).before a0 Z = true := hw _ (List.mem_of_getElem? (i := 285) rfl)
theorem own_w286 {a0 : Array Value} {Z : State} (hw : ∀ d ∈ tables_1, d.before a0 Z = true) : (Jvm.Cond.code ({ cls := "java/util/ImmutableCollections$List12", name := "<init>", desc := "(Ljava/lang/Object;Ljava/lang/Object;)V" } : Jvm.MethodName) jdk_44_method_2_code (3 : Nat) (Option.none : Option Jvm.ClassFile.FieldType)).before a0 Z = true := hw _ (List.mem_of_getElem? (i := 286) rfl)
theorem own_old {Z : State} {n0 : Nat} {h : Heap} (X : Old Z n0 h) : n0 ≤ h.size := by rw [← X.1]; exact X.2.1
theorem own_lc {q : Int64} (h1 : ¬ q < -128) (h2 : ¬ 127 < q) : ¬ (q.toInt32 + 128) < 0 ∧ (q.toInt32 + 128) < 256 ∧ ((q.toInt32 + 128) - 128).toInt64 = q := by
  rw [Int64.lt_iff_toInt_lt] at h1 h2
  have e1 : (-128 : Int64).toInt = -128 := by decide
  have e2 : (127 : Int64).toInt = 127 := by decide
  rw [e1] at h1
  rw [e2] at h2
  have hf : Jvm.Free.XT.fits32 q.toInt := ⟨by omega, by omega⟩
  have hn := Jvm.Free.XT.narrowInt hf
  have e3 : (128 : Int32).toInt = 128 := by decide
  have ha : (q.toInt32 + 128).toInt = q.toInt32.toInt + (128 : Int32).toInt := Jvm.Free.XT.add32 ⟨by rw [hn, e3]; omega, by rw [hn, e3]; omega⟩
  have e4 : (0 : Int32).toInt = 0 := by decide
  have e5 : (256 : Int32).toInt = 256 := by decide
  refine ⟨?_, ?_, ?_⟩
  · rw [Int32.lt_iff_toInt_lt, ha, hn, e3, e4]; omega
  · rw [Int32.lt_iff_toInt_lt, ha, hn, e3, e5]; omega
  · have e6 : q.toInt32 + 128 - 128 = q.toInt32 := by
      rw [← Int32.toInt_inj, Jvm.Free.XT.sub32 ⟨by rw [ha, hn, e3]; omega, by rw [ha, hn, e3]; omega⟩, ha]; omega
    rw [e6]; exact Jvm.Free.XT.narrowOk hf
def own_L12 (Z : State) (h : Heap) (y : Addr) (v0 v1 : Value) : Prop := Exa Z h y "java/util/ImmutableCollections$List12" ∧ Fld Z h y "java/util/ImmutableCollections$List12" "e0" "Ljava/lang/Object;" v0 ∧ Fld Z h y "java/util/ImmutableCollections$List12" "e1" "Ljava/lang/Object;" v1
theorem own_abc_0 : decode jdk_22_method_1_code 0 = .ok (.aload_n 0, 1) := by decide +kernel
theorem own_abc_1 : decode jdk_22_method_1_code 1 = .ok (.invokespecial 1, 3) := by decide +kernel
theorem own_abc_4 : decode jdk_22_method_1_code 4 = .ok (.return_, 1) := by decide +kernel
theorem own_pn_java_util_AbstractCollection : plainName "java/util/AbstractCollection" = true := by first | (simp [plainName, overriddenIn]; done) | decide +kernel
theorem own_pd__28_29V : parseMethodDescriptor "()V" = some ⟨[], none⟩ := by decide +kernel
set_option maxRecDepth 65536 in
set_option maxHeartbeats 40000000 in
theorem own_abc (l : Launch) (Z : State) (a0 : Array Value) (hw : ∀ d ∈ tables_1, d.before a0 Z = true) (a : Addr) (h0 : Heap) (n0 : Nat) (OX : Old Z n0 h0)  :
    own_Met l Z (⟨"java/util/AbstractCollection", "<init>", "()V"⟩ : MethodName) jdk_22_method_1_code 1 none ({ frames := 1, cells := 0, slots := 0, locals := 12 } : Room) #[(.ref a)] h0 (fun v h L => v = none ∧ Fr n0 L ∧ h = h0) := by
  refine own_body (Ls := #[.val (.ref a)]) (plainFor_of_name own_pn_java_util_AbstractCollection) (fun m => by first | (simp [entryFrame, mkF, argsToLocals, Value.category]; done) | rfl) ?_
  intro p e s m below meth c s₁ hx hZ hby hml hown hnm hret hlk X0 e0
  have N0 := Fr.nil n0
  refine own_aloadN X0 hx (hb hby own_abc_0) rfl rfl ?_
  refine own_initO X0 hx hZ hown (own_w18 hw) (own_w19 hw) (own_w20 hw) e0 (by rw [hml]; rfl) (hb hby own_abc_1) (by decide) 0 (Nat.le_of_ble_eq_true rfl) (by decide) fun T1 X1 e1 => ?_
  refine own_retV X1 hx hret (hb hby own_abc_4) hlk (by decide) (by decide) ?_
  exact ⟨rfl, N0, e1⟩
theorem own_num_0 : decode jdk_18_method_1_code 0 = .ok (.aload_n 0, 1) := by decide +kernel
theorem own_num_1 : decode jdk_18_method_1_code 1 = .ok (.invokespecial 1, 3) := by decide +kernel
theorem own_num_4 : decode jdk_18_method_1_code 4 = .ok (.return_, 1) := by decide +kernel
theorem own_pn_java_lang_Number : plainName "java/lang/Number" = true := by first | (simp [plainName, overriddenIn]; done) | decide +kernel
set_option maxRecDepth 65536 in
set_option maxHeartbeats 40000000 in
theorem own_num (l : Launch) (Z : State) (a0 : Array Value) (hw : ∀ d ∈ tables_1, d.before a0 Z = true) (a : Addr) (h0 : Heap) (n0 : Nat) (OX : Old Z n0 h0)  :
    own_Met l Z (⟨"java/lang/Number", "<init>", "()V"⟩ : MethodName) jdk_18_method_1_code 1 none ({ frames := 1, cells := 0, slots := 0, locals := 12 } : Room) #[(.ref a)] h0 (fun v h L => v = none ∧ Fr n0 L ∧ h = h0) := by
  refine own_body (Ls := #[.val (.ref a)]) (plainFor_of_name own_pn_java_lang_Number) (fun m => by first | (simp [entryFrame, mkF, argsToLocals, Value.category]; done) | rfl) ?_
  intro p e s m below meth c s₁ hx hZ hby hml hown hnm hret hlk X0 e0
  have N0 := Fr.nil n0
  refine own_aloadN X0 hx (hb hby own_num_0) rfl rfl ?_
  refine own_initO X0 hx hZ hown (own_w43 hw) (own_w19 hw) (own_w20 hw) e0 (by rw [hml]; rfl) (hb hby own_num_1) (by decide) 0 (Nat.le_of_ble_eq_true rfl) (by decide) fun T2 X2 e2 => ?_
  refine own_retV X2 hx hret (hb hby own_num_4) hlk (by decide) (by decide) ?_
  exact ⟨rfl, N0, e2⟩
theorem own_rec_0 : decode jdk_30_method_1_code 0 = .ok (.aload_n 0, 1) := by decide +kernel
theorem own_rec_1 : decode jdk_30_method_1_code 1 = .ok (.invokespecial 1, 3) := by decide +kernel
theorem own_rec_4 : decode jdk_30_method_1_code 4 = .ok (.return_, 1) := by decide +kernel
theorem own_pn_java_lang_Record : plainName "java/lang/Record" = true := by first | (simp [plainName, overriddenIn]; done) | decide +kernel
set_option maxRecDepth 65536 in
set_option maxHeartbeats 40000000 in
theorem own_rec (l : Launch) (Z : State) (a0 : Array Value) (hw : ∀ d ∈ tables_1, d.before a0 Z = true) (a : Addr) (h0 : Heap) (n0 : Nat) (OX : Old Z n0 h0)  :
    own_Met l Z (⟨"java/lang/Record", "<init>", "()V"⟩ : MethodName) jdk_30_method_1_code 1 none ({ frames := 1, cells := 0, slots := 0, locals := 12 } : Room) #[(.ref a)] h0 (fun v h L => v = none ∧ Fr n0 L ∧ h = h0) := by
  refine own_body (Ls := #[.val (.ref a)]) (plainFor_of_name own_pn_java_lang_Record) (fun m => by first | (simp [entryFrame, mkF, argsToLocals, Value.category]; done) | rfl) ?_
  intro p e s m below meth c s₁ hx hZ hby hml hown hnm hret hlk X0 e0
  have N0 := Fr.nil n0
  refine own_aloadN X0 hx (hb hby own_rec_0) rfl rfl ?_
  refine own_initO X0 hx hZ hown (own_w99 hw) (own_w19 hw) (own_w20 hw) e0 (by rw [hml]; rfl) (hb hby own_rec_1) (by decide) 0 (Nat.le_of_ble_eq_true rfl) (by decide) fun T3 X3 e3 => ?_
  refine own_retV X3 hx hret (hb hby own_rec_4) hlk (by decide) (by decide) ?_
  exact ⟨rfl, N0, e3⟩
theorem own_abm_0 : decode jdk_71_method_1_code 0 = .ok (.aload_n 0, 1) := by decide +kernel
theorem own_abm_1 : decode jdk_71_method_1_code 1 = .ok (.invokespecial 1, 3) := by decide +kernel
theorem own_abm_4 : decode jdk_71_method_1_code 4 = .ok (.return_, 1) := by decide +kernel
theorem own_pn_java_util_AbstractMap : plainName "java/util/AbstractMap" = true := by first | (simp [plainName, overriddenIn]; done) | decide +kernel
set_option maxRecDepth 65536 in
set_option maxHeartbeats 40000000 in
theorem own_abm (l : Launch) (Z : State) (a0 : Array Value) (hw : ∀ d ∈ tables_1, d.before a0 Z = true) (a : Addr) (h0 : Heap) (n0 : Nat) (OX : Old Z n0 h0)  :
    own_Met l Z (⟨"java/util/AbstractMap", "<init>", "()V"⟩ : MethodName) jdk_71_method_1_code 1 none ({ frames := 1, cells := 0, slots := 0, locals := 12 } : Room) #[(.ref a)] h0 (fun v h L => v = none ∧ Fr n0 L ∧ h = h0) := by
  refine own_body (Ls := #[.val (.ref a)]) (plainFor_of_name own_pn_java_util_AbstractMap) (fun m => by first | (simp [entryFrame, mkF, argsToLocals, Value.category]; done) | rfl) ?_
  intro p e s m below meth c s₁ hx hZ hby hml hown hnm hret hlk X0 e0
  have N0 := Fr.nil n0
  refine own_aloadN X0 hx (hb hby own_abm_0) rfl rfl ?_
  refine own_initO X0 hx hZ hown (own_w215 hw) (own_w19 hw) (own_w20 hw) e0 (by rw [hml]; rfl) (hb hby own_abm_1) (by decide) 0 (Nat.le_of_ble_eq_true rfl) (by decide) fun T4 X4 e4 => ?_
  refine own_retV X4 hx hret (hb hby own_abm_4) hlk (by decide) (by decide) ?_
  exact ⟨rfl, N0, e4⟩
theorem own_aic_0 : decode jdk_47_method_1_code 0 = .ok (.aload_n 0, 1) := by decide +kernel
theorem own_aic_1 : decode jdk_47_method_1_code 1 = .ok (.invokespecial 1, 3) := by decide +kernel
theorem own_aic_4 : decode jdk_47_method_1_code 4 = .ok (.return_, 1) := by decide +kernel
theorem own_pn_java_util_ImmutableCollections_AbstractImmutableCollection : plainName "java/util/ImmutableCollections$AbstractImmutableCollection" = true := by first | (simp [plainName, overriddenIn]; done) | decide +kernel
set_option maxRecDepth 65536 in
set_option maxHeartbeats 40000000 in
theorem own_aic (l : Launch) (Z : State) (a0 : Array Value) (hw : ∀ d ∈ tables_1, d.before a0 Z = true) (a : Addr) (h0 : Heap) (n0 : Nat) (OX : Old Z n0 h0)  :
    own_Met l Z (⟨"java/util/ImmutableCollections$AbstractImmutableCollection", "<init>", "()V"⟩ : MethodName) jdk_47_method_1_code 1 none ({ frames := 2, cells := 0, slots := 0, locals := 24 } : Room) #[(.ref a)] h0 (fun v h L => v = none ∧ Fr n0 L ∧ h = h0) := by
  refine own_body (Ls := #[.val (.ref a)]) (plainFor_of_name own_pn_java_util_ImmutableCollections_AbstractImmutableCollection) (fun m => by first | (simp [entryFrame, mkF, argsToLocals, Value.category]; done) | rfl) ?_
  intro p e s m below meth c s₁ hx hZ hby hml hown hnm hret hlk X0 e0
  have N0 := Fr.nil n0
  refine own_aloadN X0 hx (hb hby own_aic_0) rfl rfl ?_
  refine own_spec X0 hx hZ rfl hown (own_w175 hw) (own_w13 hw) (own_w17 hw) (own_w16 hw) (by decide) e0 (hb hby own_aic_1) (by rw [hml]; rfl) own_pd__28_29V rfl (W := 0) (Nat.le_of_ble_eq_true rfl) (own_abc l Z a0 hw a h0 n0 OX) (by decide) (by decide) (by decide) (by decide) (a := a) (argsL := []) (rest := []) rfl rfl fun v5 T5 L5 X5 q5 => ?_
  obtain ⟨rfl, M5, e5⟩ := q5
  have N5 := Fr.app N0 M5
  show own_Fin p e below _ (T5.setTop (mkF m 4 #[.val (.ref a)] []))
  refine own_retV X5 hx hret (hb hby own_aic_4) hlk (by decide) (by decide) ?_
  exact ⟨rfl, N5, e5⟩
theorem own_ail_0 : decode jdk_46_method_1_code 0 = .ok (.aload_n 0, 1) := by decide +kernel
theorem own_ail_1 : decode jdk_46_method_1_code 1 = .ok (.invokespecial 1, 3) := by decide +kernel
theorem own_ail_4 : decode jdk_46_method_1_code 4 = .ok (.return_, 1) := by decide +kernel
theorem own_pn_java_util_ImmutableCollections_AbstractImmutableList : plainName "java/util/ImmutableCollections$AbstractImmutableList" = true := by first | (simp [plainName, overriddenIn]; done) | decide +kernel
set_option maxRecDepth 65536 in
set_option maxHeartbeats 40000000 in
theorem own_ail (l : Launch) (Z : State) (a0 : Array Value) (hw : ∀ d ∈ tables_1, d.before a0 Z = true) (a : Addr) (h0 : Heap) (n0 : Nat) (OX : Old Z n0 h0)  :
    own_Met l Z (⟨"java/util/ImmutableCollections$AbstractImmutableList", "<init>", "()V"⟩ : MethodName) jdk_46_method_1_code 1 none ({ frames := 3, cells := 0, slots := 0, locals := 36 } : Room) #[(.ref a)] h0 (fun v h L => v = none ∧ Fr n0 L ∧ h = h0) := by
  refine own_body (Ls := #[.val (.ref a)]) (plainFor_of_name own_pn_java_util_ImmutableCollections_AbstractImmutableList) (fun m => by first | (simp [entryFrame, mkF, argsToLocals, Value.category]; done) | rfl) ?_
  intro p e s m below meth c s₁ hx hZ hby hml hown hnm hret hlk X0 e0
  have N0 := Fr.nil n0
  refine own_aloadN X0 hx (hb hby own_ail_0) rfl rfl ?_
  refine own_spec X0 hx hZ rfl hown (own_w169 hw) (own_w170 hw) (own_w174 hw) (own_w173 hw) (by decide) e0 (hb hby own_ail_1) (by rw [hml]; rfl) own_pd__28_29V rfl (W := 0) (Nat.le_of_ble_eq_true rfl) (own_aic l Z a0 hw a h0 n0 OX) (by decide) (by decide) (by decide) (by decide) (a := a) (argsL := []) (rest := []) rfl rfl fun v6 T6 L6 X6 q6 => ?_
  obtain ⟨rfl, M6, e6⟩ := q6
  have N6 := Fr.app N0 M6
  show own_Fin p e below _ (T6.setTop (mkF m 4 #[.val (.ref a)] []))
  refine own_retV X6 hx hret (hb hby own_ail_4) hlk (by decide) (by decide) ?_
  exact ⟨rfl, N6, e6⟩
theorem own_min_0 : decode jdk_29_method_69_code 0 = .ok (.iload_n 0, 1) := by decide +kernel
theorem own_min_1 : decode jdk_29_method_69_code 1 = .ok (.iload_n 1, 1) := by decide +kernel
theorem own_min_2 : decode jdk_29_method_69_code 2 = .ok (.if_icmp .gt 7, 3) := by decide +kernel
theorem own_min_5 : decode jdk_29_method_69_code 5 = .ok (.iload_n 0, 1) := by decide +kernel
theorem own_min_6 : decode jdk_29_method_69_code 6 = .ok (.goto 4, 3) := by decide +kernel
theorem own_min_9 : decode jdk_29_method_69_code 9 = .ok (.iload_n 1, 1) := by decide +kernel
theorem own_min_10 : decode jdk_29_method_69_code 10 = .ok (.ireturn, 1) := by decide +kernel
set_option maxRecDepth 65536 in
set_option maxHeartbeats 40000000 in
theorem own_min (l : Launch) (Z : State) (a0 : Array Value) (hw : ∀ d ∈ tables_1, d.before a0 Z = true) (a b : Int32) (h0 : Heap) (n0 : Nat) (OX : Old Z n0 h0)  :
    own_Met l Z (⟨"java/lang/Math", "min", "(II)I"⟩ : MethodName) jdk_29_method_69_code 2 (some .int) ({ frames := 0, cells := 0, slots := 0, locals := 0 } : Room) #[(.int a), (.int b)] h0 (fun v h L => v = some (.int (if b < a then b else a)) ∧ Fr n0 L ∧ h = h0) := by
  refine own_body (Ls := #[.val (.int a), .val (.int b)]) (Jvm.Free.JP.mathPlain rfl (by decide +kernel)) (fun m => by first | (simp [entryFrame, mkF, argsToLocals, Value.category]; done) | rfl) ?_
  intro p e s m below meth c s₁ hx hZ hby hml hown hnm hret hlk X0 e0
  have N0 := Fr.nil n0
  refine own_iloadN X0 hx (hb hby own_min_0) rfl ?_
  refine own_iloadN X0 hx (hb hby own_min_1) rfl ?_
  by_cases hc : b < a
  · skip
    refine own_icmpYes X0 hx 9 (hb hby own_min_2) (by decide) (by decide) (Jvm.Free.XT.ii_gt_t hc) ?_
    refine own_iloadN X0 hx (hb hby own_min_9) rfl ?_
    refine own_retI X0 hx hret (hb hby own_min_10) hlk (by decide) (by decide) ?_
    exact ⟨by rw [if_pos hc], N0, e0⟩
  · skip
    refine own_icmpNo X0 hx (hb hby own_min_2) (Jvm.Free.XT.ii_gt_f hc) ?_
    refine own_iloadN X0 hx (hb hby own_min_5) rfl ?_
    refine own_goto X0 hx 10 (hb hby own_min_6) (by decide) (by decide) ?_
    refine own_retI X0 hx hret (hb hby own_min_10) hlk (by decide) (by decide) ?_
    exact ⟨by rw [if_neg hc], N0, e0⟩
theorem own_max_0 : decode jdk_29_method_65_code 0 = .ok (.iload_n 0, 1) := by decide +kernel
theorem own_max_1 : decode jdk_29_method_65_code 1 = .ok (.iload_n 1, 1) := by decide +kernel
theorem own_max_2 : decode jdk_29_method_65_code 2 = .ok (.if_icmp .lt 7, 3) := by decide +kernel
theorem own_max_5 : decode jdk_29_method_65_code 5 = .ok (.iload_n 0, 1) := by decide +kernel
theorem own_max_6 : decode jdk_29_method_65_code 6 = .ok (.goto 4, 3) := by decide +kernel
theorem own_max_9 : decode jdk_29_method_65_code 9 = .ok (.iload_n 1, 1) := by decide +kernel
theorem own_max_10 : decode jdk_29_method_65_code 10 = .ok (.ireturn, 1) := by decide +kernel
set_option maxRecDepth 65536 in
set_option maxHeartbeats 40000000 in
theorem own_max (l : Launch) (Z : State) (a0 : Array Value) (hw : ∀ d ∈ tables_1, d.before a0 Z = true) (a b : Int32) (h0 : Heap) (n0 : Nat) (OX : Old Z n0 h0)  :
    own_Met l Z (⟨"java/lang/Math", "max", "(II)I"⟩ : MethodName) jdk_29_method_65_code 2 (some .int) ({ frames := 0, cells := 0, slots := 0, locals := 0 } : Room) #[(.int a), (.int b)] h0 (fun v h L => v = some (.int (if a < b then b else a)) ∧ Fr n0 L ∧ h = h0) := by
  refine own_body (Ls := #[.val (.int a), .val (.int b)]) (Jvm.Free.JP.mathPlain rfl (by decide +kernel)) (fun m => by first | (simp [entryFrame, mkF, argsToLocals, Value.category]; done) | rfl) ?_
  intro p e s m below meth c s₁ hx hZ hby hml hown hnm hret hlk X0 e0
  have N0 := Fr.nil n0
  refine own_iloadN X0 hx (hb hby own_max_0) rfl ?_
  refine own_iloadN X0 hx (hb hby own_max_1) rfl ?_
  by_cases hc : a < b
  · skip
    refine own_icmpYes X0 hx 9 (hb hby own_max_2) (by decide) (by decide) (Jvm.Free.XT.ii_lt_t hc) ?_
    refine own_iloadN X0 hx (hb hby own_max_9) rfl ?_
    refine own_retI X0 hx hret (hb hby own_max_10) hlk (by decide) (by decide) ?_
    exact ⟨by rw [if_pos hc], N0, e0⟩
  · skip
    refine own_icmpNo X0 hx (hb hby own_max_2) (Jvm.Free.XT.ii_lt_f hc) ?_
    refine own_iloadN X0 hx (hb hby own_max_5) rfl ?_
    refine own_goto X0 hx 10 (hb hby own_max_6) (by decide) (by decide) ?_
    refine own_retI X0 hx hret (hb hby own_max_10) hlk (by decide) (by decide) ?_
    exact ⟨by rw [if_neg hc], N0, e0⟩
theorem own_abl_0 : decode jdk_39_method_1_code 0 = .ok (.aload_n 0, 1) := by decide +kernel
theorem own_abl_1 : decode jdk_39_method_1_code 1 = .ok (.invokespecial 1, 3) := by decide +kernel
theorem own_abl_4 : decode jdk_39_method_1_code 4 = .ok (.aload_n 0, 1) := by decide +kernel
theorem own_abl_5 : decode jdk_39_method_1_code 5 = .ok (.iconst 0, 1) := by decide +kernel
theorem own_abl_6 : decode jdk_39_method_1_code 6 = .ok (.putfield 7, 3) := by decide +kernel
theorem own_abl_9 : decode jdk_39_method_1_code 9 = .ok (.return_, 1) := by decide +kernel
theorem own_pn_java_util_AbstractList : plainName "java/util/AbstractList" = true := by first | (simp [plainName, overriddenIn]; done) | decide +kernel
theorem own_fd_I : parseFieldDescriptor "I" = some .int := by decide +kernel
set_option maxRecDepth 65536 in
set_option maxHeartbeats 40000000 in
theorem own_abl (l : Launch) (Z : State) (a0 : Array Value) (hw : ∀ d ∈ tables_1, d.before a0 Z = true) (a : Addr) (u : Value) (h0 : Heap) (n0 : Nat) (OX : Old Z n0 h0) (E : Exa Z h0 a "java/util/ArrayList") (F : Fld Z h0 a "java/util/AbstractList" "modCount" "I" u) (g : n0 ≤ a) :
    own_Met l Z (⟨"java/util/AbstractList", "<init>", "()V"⟩ : MethodName) jdk_39_method_1_code 1 none ({ frames := 2, cells := 0, slots := 0, locals := 24 } : Room) #[(.ref a)] h0 (fun v h L => v = none ∧ Fr n0 L ∧ Wr h0 h a (Jvm.RoadKit.slotOf Z "java/util/AbstractList" "modCount" "I") (.int (0 : Int32))) := by
  refine own_body (Ls := #[.val (.ref a)]) (plainFor_of_name own_pn_java_util_AbstractList) (fun m => by first | (simp [entryFrame, mkF, argsToLocals, Value.category]; done) | rfl) ?_
  intro p e s m below meth c s₁ hx hZ hby hml hown hnm hret hlk X0 e0
  have N0 := Fr.nil n0
  refine own_aloadN X0 hx (hb hby own_abl_0) rfl rfl ?_
  refine own_spec X0 hx hZ rfl hown (own_w12 hw) (own_w13 hw) (own_w17 hw) (own_w16 hw) (by decide) e0 (hb hby own_abl_1) (by rw [hml]; rfl) own_pd__28_29V rfl (W := 0) (Nat.le_of_ble_eq_true rfl) (own_abc l Z a0 hw a h0 n0 OX) (by decide) (by decide) (by decide) (by decide) (a := a) (argsL := []) (rest := []) rfl rfl fun v7 T7 L7 X7 q7 => ?_
  obtain ⟨rfl, M7, e7⟩ := q7
  have N7 := Fr.app N0 M7
  show own_Fin p e below _ (T7.setTop (mkF m 4 #[.val (.ref a)] []))
  refine own_aloadN X7 hx (hb hby own_abl_4) rfl rfl ?_
  refine own_iconst X7 hx (0 : Int32) (hb hby own_abl_5) rfl ?_
  refine own_putfield X7 hx hZ (host := "") hown (Or.inl (own_w21 hw)) Via.refl e7 F E (Or.inl (own_w22 hw)) (own_w1 hw) own_fd_I rfl rfl (hb hby own_abl_6) fun T8 h8 X8 e8 W8 => ?_
  have N8 := Fr.snoc X8 N7 g
  refine own_retV X8 hx hret (hb hby own_abl_9) hlk (by decide) (by decide) ?_
  exact ⟨rfl, N8, by rw [e8]; exact W8⟩
theorem own_ali_0 : decode jdk_38_method_2_code 0 = .ok (.aload_n 0, 1) := by decide +kernel
theorem own_ali_1 : decode jdk_38_method_2_code 1 = .ok (.invokespecial 1, 3) := by decide +kernel
theorem own_ali_4 : decode jdk_38_method_2_code 4 = .ok (.aload_n 0, 1) := by decide +kernel
theorem own_ali_5 : decode jdk_38_method_2_code 5 = .ok (.getstatic 39, 3) := by decide +kernel
theorem own_ali_8 : decode jdk_38_method_2_code 8 = .ok (.putfield 9, 3) := by decide +kernel
theorem own_ali_11 : decode jdk_38_method_2_code 11 = .ok (.return_, 1) := by decide +kernel
theorem own_pn_java_util_ArrayList : plainName "java/util/ArrayList" = true := by first | (simp [plainName, overriddenIn]; done) | decide +kernel
theorem own_pd__28Ljava_2flang_2fObject_3b_5bLjava_2flang_2fObject_3bI_29V : parseMethodDescriptor "(Ljava/lang/Object;[Ljava/lang/Object;I)V" = some ⟨[(.object "java/lang/Object"), (.array (.object "java/lang/Object")), .int], none⟩ := by decide +kernel
theorem own_pd__28_29_5bLjava_2flang_2fObject_3b : parseMethodDescriptor "()[Ljava/lang/Object;" = some ⟨[], some (.array (.object "java/lang/Object"))⟩ := by decide +kernel
theorem own_pd__28I_29_5bLjava_2flang_2fObject_3b : parseMethodDescriptor "(I)[Ljava/lang/Object;" = some ⟨[.int], some (.array (.object "java/lang/Object"))⟩ := by decide +kernel
theorem own_pd__28II_29I : parseMethodDescriptor "(II)I" = some ⟨[.int, .int], some .int⟩ := by decide +kernel
theorem own_pd__28_5bLjava_2flang_2fObject_3bI_29_5bLjava_2flang_2fObject_3b : parseMethodDescriptor "([Ljava/lang/Object;I)[Ljava/lang/Object;" = some ⟨[(.array (.object "java/lang/Object")), .int], some (.array (.object "java/lang/Object"))⟩ := by decide +kernel
theorem own_fd__5bLjava_2flang_2fObject_3b : parseFieldDescriptor "[Ljava/lang/Object;" = some (.array (.object "java/lang/Object")) := by decide +kernel
set_option maxRecDepth 65536 in
set_option maxHeartbeats 40000000 in
theorem own_ali (l : Launch) (Z : State) (a0 : Array Value) (hw : ∀ d ∈ tables_1, d.before a0 Z = true) (a dc : Addr) (u1 u2 : Value) (h0 : Heap) (n0 : Nat) (OX : Old Z n0 h0) (E : Exa Z h0 a "java/util/ArrayList") (F1 : Fld Z h0 a "java/util/AbstractList" "modCount" "I" u1) (F2 : Fld Z h0 a "java/util/ArrayList" "elementData" "[Ljava/lang/Object;" u2) (g : n0 ≤ a) (S : Sta Z Z.heap "java/util/ArrayList" "DEFAULTCAPACITY_EMPTY_ELEMENTDATA" "[Ljava/lang/Object;" (.ref dc)) :
    own_Met l Z (⟨"java/util/ArrayList", "<init>", "()V"⟩ : MethodName) jdk_38_method_2_code 1 none ({ frames := 3, cells := 0, slots := 0, locals := 36 } : Room) #[(.ref a)] h0 (fun v h L => v = none ∧ Fr n0 L ∧ ∃ h1, Wr h0 h1 a (Jvm.RoadKit.slotOf Z "java/util/AbstractList" "modCount" "I") (.int (0 : Int32)) ∧ Wr h1 h a (Jvm.RoadKit.slotOf Z "java/util/ArrayList" "elementData" "[Ljava/lang/Object;") (.ref dc)) := by
  refine own_body (Ls := #[.val (.ref a)]) (plainFor_of_name own_pn_java_util_ArrayList) (fun m => by first | (simp [entryFrame, mkF, argsToLocals, Value.category]; done) | rfl) ?_
  intro p e s m below meth c s₁ hx hZ hby hml hown hnm hret hlk X0 e0
  have N0 := Fr.nil n0
  refine own_aloadN X0 hx (hb hby own_ali_0) rfl rfl ?_
  refine own_spec X0 hx hZ rfl hown (own_w6 hw) (own_w7 hw) (own_w11 hw) (own_w10 hw) (by decide) e0 (hb hby own_ali_1) (by rw [hml]; rfl) own_pd__28_29V rfl (W := 0) (Nat.le_of_ble_eq_true rfl) (own_abl l Z a0 hw a u1 h0 n0 OX E F1 g) (by decide) (by decide) (by decide) (by decide) (a := a) (argsL := []) (rest := []) rfl rfl fun v9 T9 L9 X9 q9 => ?_
  obtain ⟨h9, e9⟩ : ∃ z, T9.heap = z := ⟨_, rfl⟩
  try dsimp only at q9
  rw [e9] at q9
  obtain ⟨rfl, M9, W9⟩ := q9
  have N9 := Fr.app N0 M9
  show own_Fin p e below _ (T9.setTop (mkF m 4 #[.val (.ref a)] []))
  refine own_aloadN X9 hx (hb hby own_ali_4) rfl rfl ?_
  have f10 := (OX.wr W9 g)
  refine own_getstatic X9 hx hZ (host := "") hown (Or.inl (own_w23 hw)) Via.refl e9 (S.ext f10.2) (hb hby own_ali_5) fun T11 X11 e11 => ?_
  have f12 := (F2.other W9 (Or.inr (slot_ne (Or.inl (own_w25 hw)) (Or.inl (own_w22 hw)) (by decide) own_fd__5bLjava_2flang_2fObject_3b own_fd_I)))
  have f13 := (E.wr W9)
  refine own_putfield X11 hx hZ (host := "") hown (Or.inl (own_w24 hw)) Via.refl e11 f12 f13 (Or.inl (own_w25 hw)) (own_w1 hw) own_fd__5bLjava_2flang_2fObject_3b rfl rfl (hb hby own_ali_8) fun T14 h14 X14 e14 W14 => ?_
  have N14 := Fr.snoc X14 N9 g
  refine own_retV X14 hx hret (hb hby own_ali_11) hlk (by decide) (by decide) ?_
  exact ⟨rfl, N14, _, W9, by rw [e14]; exact W14⟩
theorem own_lni_0 : decode jdk_35_method_26_code 0 = .ok (.aload_n 0, 1) := by decide +kernel
theorem own_lni_1 : decode jdk_35_method_26_code 1 = .ok (.invokespecial 270, 3) := by decide +kernel
theorem own_lni_4 : decode jdk_35_method_26_code 4 = .ok (.aload_n 0, 1) := by decide +kernel
theorem own_lni_5 : decode jdk_35_method_26_code 5 = .ok (.lload_n 1, 1) := by decide +kernel
theorem own_lni_6 : decode jdk_35_method_26_code 6 = .ok (.putfield 273, 3) := by decide +kernel
theorem own_lni_9 : decode jdk_35_method_26_code 9 = .ok (.return_, 1) := by decide +kernel
theorem own_pn_java_lang_Long : plainName "java/lang/Long" = true := by first | (simp [plainName, overriddenIn]; done) | decide +kernel
theorem own_pd__28J_29V : parseMethodDescriptor "(J)V" = some ⟨[.long], none⟩ := by decide +kernel
theorem own_fd_J : parseFieldDescriptor "J" = some .long := by decide +kernel
set_option maxRecDepth 65536 in
set_option maxHeartbeats 40000000 in
theorem own_lni (l : Launch) (Z : State) (a0 : Array Value) (hw : ∀ d ∈ tables_1, d.before a0 Z = true) (a : Addr) (q : Int64) (u : Value) (h0 : Heap) (n0 : Nat) (OX : Old Z n0 h0) (E : Exa Z h0 a "java/lang/Long") (F : Fld Z h0 a "java/lang/Long" "value" "J" u) (g : n0 ≤ a) :
    own_Met l Z (⟨"java/lang/Long", "<init>", "(J)V"⟩ : MethodName) jdk_35_method_26_code 3 none ({ frames := 2, cells := 0, slots := 0, locals := 24 } : Room) #[(.ref a), (.long q)] h0 (fun v h L => v = none ∧ Fr n0 L ∧ Wr h0 h a (Jvm.RoadKit.slotOf Z "java/lang/Long" "value" "J") (.long q)) := by
  refine own_body (Ls := #[.val (.ref a), .val (.long q), .second]) (plainFor_of_name own_pn_java_lang_Long) (fun m => by first | (simp [entryFrame, mkF, argsToLocals, Value.category]; done) | rfl) ?_
  intro p e s m below meth c s₁ hx hZ hby hml hown hnm hret hlk X0 e0
  have N0 := Fr.nil n0
  refine own_aloadN X0 hx (hb hby own_lni_0) rfl rfl ?_
  refine own_spec X0 hx hZ rfl hown (own_w37 hw) (own_w38 hw) (own_w42 hw) (own_w41 hw) (by decide) e0 (hb hby own_lni_1) (by rw [hml]; rfl) own_pd__28_29V rfl (W := 0) (Nat.le_of_ble_eq_true rfl) (own_num l Z a0 hw a h0 n0 OX) (by decide) (by decide) (by decide) (by decide) (a := a) (argsL := []) (rest := []) rfl rfl fun v15 T15 L15 X15 q15 => ?_
  obtain ⟨rfl, M15, e15⟩ := q15
  have N15 := Fr.app N0 M15
  show own_Fin p e below _ (T15.setTop (mkF m 4 #[.val (.ref a), .val (.long q), .second] []))
  refine own_aloadN X15 hx (hb hby own_lni_4) rfl rfl ?_
  refine own_lloadN X15 hx (hb hby own_lni_5) rfl ?_
  refine own_putfield X15 hx hZ (host := "") hown (Or.inl (own_w44 hw)) Via.refl e15 F E (Or.inr ⟨(own_w45 hw), rfl, hnm⟩) (own_w32 hw) own_fd_J rfl rfl (hb hby own_lni_6) fun T16 h16 X16 e16 W16 => ?_
  have N16 := Fr.snoc X16 N15 g
  refine own_retV X16 hx hret (hb hby own_lni_9) hlk (by decide) (by decide) ?_
  exact ⟨rfl, N16, by rw [e16]; exact W16⟩
theorem own_lvo_0 : decode jdk_35_method_24_code 0 = .ok (.sipush 128, 3) := by decide +kernel
theorem own_lvo_3 : decode jdk_35_method_24_code 3 = .ok (.istore_n 2, 1) := by decide +kernel
theorem own_lvo_4 : decode jdk_35_method_24_code 4 = .ok (.lload_n 0, 1) := by decide +kernel
theorem own_lvo_5 : decode jdk_35_method_24_code 5 = .ok (.ldc2_w 230, 3) := by decide +kernel
theorem own_lvo_8 : decode jdk_35_method_24_code 8 = .ok (.lcmp, 1) := by decide +kernel
theorem own_lvo_9 : decode jdk_35_method_24_code 9 = .ok (.ifCond .lt 22, 3) := by decide +kernel
theorem own_lvo_12 : decode jdk_35_method_24_code 12 = .ok (.lload_n 0, 1) := by decide +kernel
theorem own_lvo_13 : decode jdk_35_method_24_code 13 = .ok (.ldc2_w 232, 3) := by decide +kernel
theorem own_lvo_16 : decode jdk_35_method_24_code 16 = .ok (.lcmp, 1) := by decide +kernel
theorem own_lvo_17 : decode jdk_35_method_24_code 17 = .ok (.ifCond .gt 14, 3) := by decide +kernel
theorem own_lvo_20 : decode jdk_35_method_24_code 20 = .ok (.getstatic 234, 3) := by decide +kernel
theorem own_lvo_23 : decode jdk_35_method_24_code 23 = .ok (.lload_n 0, 1) := by decide +kernel
theorem own_lvo_24 : decode jdk_35_method_24_code 24 = .ok (.l2i, 1) := by decide +kernel
theorem own_lvo_25 : decode jdk_35_method_24_code 25 = .ok (.sipush 128, 3) := by decide +kernel
theorem own_lvo_28 : decode jdk_35_method_24_code 28 = .ok (.iadd, 1) := by decide +kernel
theorem own_lvo_29 : decode jdk_35_method_24_code 29 = .ok (.aaload, 1) := by decide +kernel
theorem own_lvo_30 : decode jdk_35_method_24_code 30 = .ok (.areturn, 1) := by decide +kernel
theorem own_lvo_31 : decode jdk_35_method_24_code 31 = .ok (.new 1, 3) := by decide +kernel
theorem own_lvo_34 : decode jdk_35_method_24_code 34 = .ok (.dup, 1) := by decide +kernel
theorem own_lvo_35 : decode jdk_35_method_24_code 35 = .ok (.lload_n 0, 1) := by decide +kernel
theorem own_lvo_36 : decode jdk_35_method_24_code 36 = .ok (.invokespecial 240, 3) := by decide +kernel
theorem own_lvo_39 : decode jdk_35_method_24_code 39 = .ok (.areturn, 1) := by decide +kernel
set_option maxRecDepth 65536 in
set_option maxHeartbeats 40000000 in
theorem own_lvo (l : Launch) (Z : State) (a0 : Array Value) (hw : ∀ d ∈ tables_1, d.before a0 Z = true) (q : Int64) (ca : Addr) (cc : Cell) (h0 : Heap) (n0 : Nat) (OX : Old Z n0 h0) (SC : Sta Z Z.heap "java/lang/Long$LongCache" "cache" "[Ljava/lang/Long;" (.ref ca)) (BC : Bxs Z ca cc "java/lang/Long" "J" 256 fun j => .long (j - 128).toInt64) :
    own_Met l Z (⟨"java/lang/Long", "valueOf", "(J)Ljava/lang/Long;"⟩ : MethodName) jdk_35_method_24_code 3 (some (.object "java/lang/Long")) ({ frames := 3, cells := 1, slots := 1, locals := 39 } : Room) #[(.long q)] h0 (fun v h L => ∃ x, v = some (.ref x) ∧ Fr n0 L ∧ Ext h0 h ∧ Exa Z h x "java/lang/Long" ∧ Fld Z h x "java/lang/Long" "value" "J" (.long q)) := by
  refine own_body (Ls := #[.val (.long q), .second, .unset]) (plainFor_of_name own_pn_java_lang_Long) (fun m => by first | (simp [entryFrame, mkF, argsToLocals, Value.category]; done) | rfl) ?_
  intro p e s m below meth c s₁ hx hZ hby hml hown hnm hret hlk X0 e0
  have N0 := Fr.nil n0
  refine own_sipush X0 hx (128 : Int32) (hb hby own_lvo_0) rfl ?_
  refine own_istoreN X0 hx (l' := #[.val (.long q), .second, .val (.int (128 : Int32))]) (hb hby own_lvo_3) rfl ?_
  refine own_lloadN X0 hx (hb hby own_lvo_4) rfl ?_
  refine own_ldc2J X0 hx hZ hown (own_w30 hw) (hb hby own_lvo_5) ?_
  refine own_lcmp X0 hx (hb hby own_lvo_8) ?_
  by_cases h1 : q < (-128 : Int64)
  · skip
    refine own_ifYes X0 hx 31 (hb hby own_lvo_9) (by decide) (by decide) (Jvm.Free.XT.ll_lt_t h1) ?_
    refine own_new X0 hx hZ hown (own_w31 hw) (own_w32 hw) (own_w28 hw) e0 (hb hby own_lvo_31) (by decide) (by decide) fun T17 h17 b17 X17 e17 g17 E17 A17 D17 => ?_
    have f18 : n0 ≤ b17 := Nat.le_trans (own_old OX) (Nat.le_of_eq g17.symm)
    have f19 : h0.size ≤ b17 := Nat.le_trans (Keep.refl h0 []).1 (Nat.le_of_eq g17.symm)
    have f20 : Fld Z h17 b17 "java/lang/Long" "value" "J" (.long (0 : Int64)) := D17 (Or.inr (own_w45 hw)) own_fd_J
    refine own_dup X17 hx (hb hby own_lvo_34) rfl ?_
    refine own_lloadN X17 hx (hb hby own_lvo_35) rfl ?_
    have f21 := (OX.ext E17)
    refine own_spec X17 hx hZ rfl hown (own_w33 hw) (own_w34 hw) (own_w36 hw) (own_w28 hw) (by decide) e17 (hb hby own_lvo_36) (by rw [hml]; rfl) own_pd__28J_29V rfl (W := 1) (Nat.le_of_ble_eq_true rfl) (own_lni l Z a0 hw b17 q _ h17 n0 f21 A17 f20 f18) (by decide) (by decide) (by decide) (by decide) (a := b17) (argsL := [(.long q)]) (rest := [(.ref b17)]) rfl rfl fun v22 T22 L22 X22 q22 => ?_
    obtain ⟨h22, e22⟩ : ∃ z, T22.heap = z := ⟨_, rfl⟩
    try dsimp only at q22
    rw [e22] at q22
    obtain ⟨rfl, M22, W22⟩ := q22
    have N22 := Fr.app N0 M22
    show own_Fin p e below _ (T22.setTop (mkF m 39 #[.val (.long q), .second, .val (.int (128 : Int32))] [(.ref b17)]))
    refine own_retA X22 hx hret rfl rfl rfl (hb hby own_lvo_39) hlk (by decide) (by decide) ?_
    refine ⟨b17, rfl, N22, ?_⟩
    rw [e22]
    exact ⟨own_kext (((Keep.refl h0 []).ext E17).wr W22 (Or.inr (Nat.le_of_eq g17.symm))), (A17.wr W22), (f20.same W22)⟩
  · skip
    refine own_ifNo X0 hx (hb hby own_lvo_9) (Jvm.Free.XT.ll_lt_f h1) ?_
    refine own_lloadN X0 hx (hb hby own_lvo_12) rfl ?_
    refine own_ldc2J X0 hx hZ hown (own_w77 hw) (hb hby own_lvo_13) ?_
    refine own_lcmp X0 hx (hb hby own_lvo_16) ?_
    by_cases h2 : (127 : Int64) < q
    · skip
      refine own_ifYes X0 hx 31 (hb hby own_lvo_17) (by decide) (by decide) (Jvm.Free.XT.ll_gt_t h2) ?_
      refine own_new X0 hx hZ hown (own_w31 hw) (own_w32 hw) (own_w28 hw) e0 (hb hby own_lvo_31) (by decide) (by decide) fun T23 h23 b23 X23 e23 g23 E23 A23 D23 => ?_
      have f24 : n0 ≤ b23 := Nat.le_trans (own_old OX) (Nat.le_of_eq g23.symm)
      have f25 : h0.size ≤ b23 := Nat.le_trans (Keep.refl h0 []).1 (Nat.le_of_eq g23.symm)
      have f26 : Fld Z h23 b23 "java/lang/Long" "value" "J" (.long (0 : Int64)) := D23 (Or.inr (own_w45 hw)) own_fd_J
      refine own_dup X23 hx (hb hby own_lvo_34) rfl ?_
      refine own_lloadN X23 hx (hb hby own_lvo_35) rfl ?_
      have f27 := (OX.ext E23)
      refine own_spec X23 hx hZ rfl hown (own_w33 hw) (own_w34 hw) (own_w36 hw) (own_w28 hw) (by decide) e23 (hb hby own_lvo_36) (by rw [hml]; rfl) own_pd__28J_29V rfl (W := 1) (Nat.le_of_ble_eq_true rfl) (own_lni l Z a0 hw b23 q _ h23 n0 f27 A23 f26 f24) (by decide) (by decide) (by decide) (by decide) (a := b23) (argsL := [(.long q)]) (rest := [(.ref b23)]) rfl rfl fun v28 T28 L28 X28 q28 => ?_
      obtain ⟨h28, e28⟩ : ∃ z, T28.heap = z := ⟨_, rfl⟩
      try dsimp only at q28
      rw [e28] at q28
      obtain ⟨rfl, M28, W28⟩ := q28
      have N28 := Fr.app N0 M28
      show own_Fin p e below _ (T28.setTop (mkF m 39 #[.val (.long q), .second, .val (.int (128 : Int32))] [(.ref b23)]))
      refine own_retA X28 hx hret rfl rfl rfl (hb hby own_lvo_39) hlk (by decide) (by decide) ?_
      refine ⟨b23, rfl, N28, ?_⟩
      rw [e28]
      exact ⟨own_kext (((Keep.refl h0 []).ext E23).wr W28 (Or.inr (Nat.le_of_eq g23.symm))), (A23.wr W28), (f26.same W28)⟩
    · skip
      refine own_ifNo X0 hx (hb hby own_lvo_17) (Jvm.Free.XT.ll_gt_f h2) ?_
      refine own_getstatic X0 hx hZ (host := "") hown (Or.inl (own_w78 hw)) Via.refl e0 (SC.ext OX.2) (hb hby own_lvo_20) fun T29 X29 e29 => ?_
      refine own_lloadN X29 hx (hb hby own_lvo_23) rfl ?_
      refine own_l2i X29 hx (hb hby own_lvo_24) ?_
      refine own_sipush X29 hx (128 : Int32) (hb hby own_lvo_25) rfl ?_
      refine own_iadd X29 hx (hb hby own_lvo_28) ?_
      obtain ⟨j1, j2, j3⟩ := own_lc h1 h2
      have hin : ¬ (((q).toInt32 + (128 : Int32)) < 0 ∨ cc.slots.size ≤ (((q).toInt32 + (128 : Int32))).toNatClampNeg) := inb_of BC.2.1 ⟨j1, j2⟩
      obtain ⟨x, x1, x2, x3⟩ := BC.2.2.2 _ hin
      dsimp only at x3
      rw [j3] at x3
      refine own_aaload X29 hx hZ e29 (BC.1.ext OX.2) rfl hin x1 (hb hby own_lvo_29) ?_
      refine own_retA X29 hx hret rfl rfl rfl (hb hby own_lvo_30) hlk (by decide) (by decide) ?_
      refine ⟨x, rfl, N0, ?_⟩
      rw [e29]
      exact ⟨⟨Nat.le_refl _, fun _ _ q => q⟩, x2.ext OX.2, x3.ext OX.2⟩
theorem own_gr1_0 : decode jdk_38_method_6_code 0 = .ok (.aload_n 0, 1) := by decide +kernel
theorem own_gr1_1 : decode jdk_38_method_6_code 1 = .ok (.getfield 9, 3) := by decide +kernel
theorem own_gr1_4 : decode jdk_38_method_6_code 4 = .ok (.arraylength, 1) := by decide +kernel
theorem own_gr1_5 : decode jdk_38_method_6_code 5 = .ok (.istore_n 2, 1) := by decide +kernel
theorem own_gr1_6 : decode jdk_38_method_6_code 6 = .ok (.iload_n 2, 1) := by decide +kernel
theorem own_gr1_7 : decode jdk_38_method_6_code 7 = .ok (.ifCond .gt 13, 3) := by decide +kernel
theorem own_gr1_10 : decode jdk_38_method_6_code 10 = .ok (.aload_n 0, 1) := by decide +kernel
theorem own_gr1_11 : decode jdk_38_method_6_code 11 = .ok (.getfield 9, 3) := by decide +kernel
theorem own_gr1_14 : decode jdk_38_method_6_code 14 = .ok (.getstatic 39, 3) := by decide +kernel
theorem own_gr1_17 : decode jdk_38_method_6_code 17 = .ok (.if_acmp .eq 28, 3) := by decide +kernel
theorem own_gr1_20 : decode jdk_38_method_6_code 20 = .ok (.iload_n 2, 1) := by decide +kernel
theorem own_gr1_21 : decode jdk_38_method_6_code 21 = .ok (.iload_n 1, 1) := by decide +kernel
theorem own_gr1_22 : decode jdk_38_method_6_code 22 = .ok (.iload_n 2, 1) := by decide +kernel
theorem own_gr1_23 : decode jdk_38_method_6_code 23 = .ok (.isub, 1) := by decide +kernel
theorem own_gr1_24 : decode jdk_38_method_6_code 24 = .ok (.iload_n 2, 1) := by decide +kernel
theorem own_gr1_25 : decode jdk_38_method_6_code 25 = .ok (.iconst 1, 1) := by decide +kernel
theorem own_gr1_26 : decode jdk_38_method_6_code 26 = .ok (.ishr, 1) := by decide +kernel
theorem own_gr1_27 : decode jdk_38_method_6_code 27 = .ok (.invokestatic 73, 3) := by decide +kernel
theorem own_gr1_30 : decode jdk_38_method_6_code 30 = .ok (.istore_n 3, 1) := by decide +kernel
theorem own_gr1_31 : decode jdk_38_method_6_code 31 = .ok (.aload_n 0, 1) := by decide +kernel
theorem own_gr1_32 : decode jdk_38_method_6_code 32 = .ok (.aload_n 0, 1) := by decide +kernel
theorem own_gr1_33 : decode jdk_38_method_6_code 33 = .ok (.getfield 9, 3) := by decide +kernel
theorem own_gr1_36 : decode jdk_38_method_6_code 36 = .ok (.iload_n 3, 1) := by decide +kernel
theorem own_gr1_37 : decode jdk_38_method_6_code 37 = .ok (.invokestatic 66, 3) := by decide +kernel
theorem own_gr1_40 : decode jdk_38_method_6_code 40 = .ok (.dup_x1, 1) := by decide +kernel
theorem own_gr1_41 : decode jdk_38_method_6_code 41 = .ok (.putfield 9, 3) := by decide +kernel
theorem own_gr1_44 : decode jdk_38_method_6_code 44 = .ok (.areturn, 1) := by decide +kernel
theorem own_gr1_45 : decode jdk_38_method_6_code 45 = .ok (.aload_n 0, 1) := by decide +kernel
theorem own_gr1_46 : decode jdk_38_method_6_code 46 = .ok (.bipush 10, 2) := by decide +kernel
theorem own_gr1_48 : decode jdk_38_method_6_code 48 = .ok (.iload_n 1, 1) := by decide +kernel
theorem own_gr1_49 : decode jdk_38_method_6_code 49 = .ok (.invokestatic 79, 3) := by decide +kernel
theorem own_gr1_52 : decode jdk_38_method_6_code 52 = .ok (.anewarray 7, 3) := by decide +kernel
theorem own_gr1_55 : decode jdk_38_method_6_code 55 = .ok (.dup_x1, 1) := by decide +kernel
theorem own_gr1_56 : decode jdk_38_method_6_code 56 = .ok (.putfield 9, 3) := by decide +kernel
theorem own_gr1_59 : decode jdk_38_method_6_code 59 = .ok (.areturn, 1) := by decide +kernel
set_option maxRecDepth 65536 in
set_option maxHeartbeats 40000000 in
theorem own_gr1 (l : Launch) (Z : State) (a0 : Array Value) (hw : ∀ d ∈ tables_1, d.before a0 Z = true) (a dc : Addr) (dl : Cell) (h0 : Heap) (n0 : Nat) (OX : Old Z n0 h0) (E : Exa Z h0 a "java/util/ArrayList") (F : Fld Z h0 a "java/util/ArrayList" "elementData" "[Ljava/lang/Object;" (.ref dc)) (g : n0 ≤ a) (S : Sta Z Z.heap "java/util/ArrayList" "DEFAULTCAPACITY_EMPTY_ELEMENTDATA" "[Ljava/lang/Object;" (.ref dc)) (A : Arr Z Z.heap dc dl (.object "java/lang/Object")) (hl : dl.slots.size.toInt32 = (0 : Int32)) :
    own_Met l Z (⟨"java/util/ArrayList", "grow", "(I)[Ljava/lang/Object;"⟩ : MethodName) jdk_38_method_6_code 4 (some (.array (.object "java/lang/Object"))) ({ frames := 1, cells := 1, slots := 10, locals := 14 } : Room) #[(.ref a), (.int (1 : Int32))] h0 (fun v h L => ∃ b k h1, v = some (.ref b) ∧ Fr n0 L ∧ b = h0.size ∧ Ext h0 h1 ∧ Arr Z h1 b (newA k (.object "java/lang/Object") 10) (.object "java/lang/Object") ∧ Exa Z h1 b "[Ljava/lang/Object;" ∧ Ovr Z k "java/lang/Object" ∧ Wr h1 h a (Jvm.RoadKit.slotOf Z "java/util/ArrayList" "elementData" "[Ljava/lang/Object;") (.ref b)) := by
  refine own_body (Ls := #[.val (.ref a), .val (.int (1 : Int32)), .unset, .unset]) (plainFor_of_name own_pn_java_util_ArrayList) (fun m => by first | (simp [entryFrame, mkF, argsToLocals, Value.category]; done) | rfl) ?_
  intro p e s m below meth c s₁ hx hZ hby hml hown hnm hret hlk X0 e0
  have N0 := Fr.nil n0
  refine own_aloadN X0 hx (hb hby own_gr1_0) rfl rfl ?_
  refine own_getfield X0 hx hZ (host := "") hown (Or.inl (own_w24 hw)) Via.refl e0 F (hb hby own_gr1_1) fun T30 X30 e30 => ?_
  refine own_arraylength X30 hx hZ e30 (A.ext OX.2) hl (hb hby own_gr1_4) ?_
  refine own_istoreN X30 hx (l' := #[.val (.ref a), .val (.int (1 : Int32)), .val (.int (0 : Int32)), .unset]) (hb hby own_gr1_5) rfl ?_
  refine own_iloadN X30 hx (hb hby own_gr1_6) rfl ?_
  refine own_ifNo X30 hx (hb hby own_gr1_7) (by decide) ?_
  refine own_aloadN X30 hx (hb hby own_gr1_10) rfl rfl ?_
  refine own_getfield X30 hx hZ (host := "") hown (Or.inl (own_w24 hw)) Via.refl e30 F (hb hby own_gr1_11) fun T31 X31 e31 => ?_
  refine own_getstatic X31 hx hZ (host := "") hown (Or.inl (own_w23 hw)) Via.refl e31 (S.ext OX.2) (hb hby own_gr1_14) fun T32 X32 e32 => ?_
  refine own_acmpYes X32 hx 45 (hb hby own_gr1_17) (by decide) (by decide) rfl rfl (Jvm.Free.XT.aa_eq_t rfl) ?_
  refine own_aloadN X32 hx (hb hby own_gr1_45) rfl rfl ?_
  refine own_bipush X32 hx (10 : Int32) (hb hby own_gr1_46) rfl ?_
  refine own_iloadN X32 hx (hb hby own_gr1_48) rfl ?_
  refine own_stat X32 hx hZ hown (own_w70 hw) (own_w71 hw) (own_w73 hw) (own_w72 hw) (by decide) e32 (hb hby own_gr1_49) (by rw [hml]; rfl) own_pd__28II_29I rfl (W := 1) (Nat.le_of_ble_eq_true rfl) (own_max l Z a0 hw 10 1 h0 n0 OX) (by decide) (by decide) (by decide) (by decide) (argsL := [(.int (10 : Int32)), (.int (1 : Int32))]) (rest := [(.ref a)]) rfl rfl fun v33 T33 L33 X33 q33 => ?_
  obtain ⟨rfl, M33, e33⟩ := q33
  have N33 := Fr.app N0 M33
  rw [if_neg (by decide)]
  show own_Fin p e below _ (T33.setTop (mkF m 52 #[.val (.ref a), .val (.int (1 : Int32)), .val (.int (0 : Int32)), .unset] [(.int (10 : Int32)), (.ref a)]))
  refine own_anewarray X33 hx hZ hown (own_w74 hw) (own_w75 hw) e33 (hb hby own_gr1_52) (by decide) 10 (by decide) (by decide) (by decide) (by decide) rfl fun T34 h34 b34 k34 X34 e34 g34 E34 A34 Q34 O34 => ?_
  have f35 : n0 ≤ b34 := Nat.le_trans (own_old OX) (Nat.le_of_eq g34.symm)
  have f36 : h0.size ≤ b34 := Nat.le_trans (Keep.refl h0 []).1 (Nat.le_of_eq g34.symm)
  refine own_dup_x1 X34 hx (hb hby own_gr1_55) rfl rfl ?_
  have f37 := (F.ext E34)
  have f38 := (E.ext E34)
  refine own_putfield X34 hx hZ (host := "") hown (Or.inl (own_w24 hw)) Via.refl e34 f37 f38 (Or.inl (own_w25 hw)) (own_w1 hw) own_fd__5bLjava_2flang_2fObject_3b rfl rfl (hb hby own_gr1_56) fun T39 h39 X39 e39 W39 => ?_
  have N39 := Fr.snoc X39 N33 g
  refine own_retA X39 hx hret rfl rfl rfl (hb hby own_gr1_59) hlk (by decide) (by decide) ?_
  exact ⟨b34, k34, h34, rfl, N39, g34, E34, A34, Q34, O34, by rw [e39]; exact W39⟩
theorem own_gr0_0 : decode jdk_38_method_7_code 0 = .ok (.aload_n 0, 1) := by decide +kernel
theorem own_gr0_1 : decode jdk_38_method_7_code 1 = .ok (.aload_n 0, 1) := by decide +kernel
theorem own_gr0_2 : decode jdk_38_method_7_code 2 = .ok (.getfield 48, 3) := by decide +kernel
theorem own_gr0_5 : decode jdk_38_method_7_code 5 = .ok (.iconst 1, 1) := by decide +kernel
theorem own_gr0_6 : decode jdk_38_method_7_code 6 = .ok (.iadd, 1) := by decide +kernel
theorem own_gr0_7 : decode jdk_38_method_7_code 7 = .ok (.invokevirtual 69, 3) := by decide +kernel
theorem own_gr0_10 : decode jdk_38_method_7_code 10 = .ok (.areturn, 1) := by decide +kernel
set_option maxRecDepth 65536 in
set_option maxHeartbeats 40000000 in
theorem own_gr0 (l : Launch) (Z : State) (a0 : Array Value) (hw : ∀ d ∈ tables_1, d.before a0 Z = true) (a dc : Addr) (dl : Cell) (h0 : Heap) (n0 : Nat) (OX : Old Z n0 h0) (E : Exa Z h0 a "java/util/ArrayList") (F : Fld Z h0 a "java/util/ArrayList" "elementData" "[Ljava/lang/Object;" (.ref dc)) (g : n0 ≤ a) (F0 : Fld Z h0 a "java/util/ArrayList" "size" "I" (.int 0)) (S : Sta Z Z.heap "java/util/ArrayList" "DEFAULTCAPACITY_EMPTY_ELEMENTDATA" "[Ljava/lang/Object;" (.ref dc)) (A : Arr Z Z.heap dc dl (.object "java/lang/Object")) (hl : dl.slots.size.toInt32 = (0 : Int32)) :
    own_Met l Z (⟨"java/util/ArrayList", "grow", "()[Ljava/lang/Object;"⟩ : MethodName) jdk_38_method_7_code 1 (some (.array (.object "java/lang/Object"))) ({ frames := 2, cells := 1, slots := 10, locals := 29 } : Room) #[(.ref a)] h0 (fun v h L => ∃ b k h1, v = some (.ref b) ∧ Fr n0 L ∧ b = h0.size ∧ Ext h0 h1 ∧ Arr Z h1 b (newA k (.object "java/lang/Object") 10) (.object "java/lang/Object") ∧ Exa Z h1 b "[Ljava/lang/Object;" ∧ Ovr Z k "java/lang/Object" ∧ Wr h1 h a (Jvm.RoadKit.slotOf Z "java/util/ArrayList" "elementData" "[Ljava/lang/Object;") (.ref b)) := by
  refine own_body (Ls := #[.val (.ref a)]) (plainFor_of_name own_pn_java_util_ArrayList) (fun m => by first | (simp [entryFrame, mkF, argsToLocals, Value.category]; done) | rfl) ?_
  intro p e s m below meth c s₁ hx hZ hby hml hown hnm hret hlk X0 e0
  have N0 := Fr.nil n0
  refine own_aloadN X0 hx (hb hby own_gr0_0) rfl rfl ?_
  refine own_aloadN X0 hx (hb hby own_gr0_1) rfl rfl ?_
  refine own_getfield X0 hx hZ (host := "") hown (Or.inl (own_w53 hw)) Via.refl e0 F0 (hb hby own_gr0_2) fun T40 X40 e40 => ?_
  refine own_iconst X40 hx (1 : Int32) (hb hby own_gr0_5) rfl ?_
  refine own_iadd X40 hx (hb hby own_gr0_6) ?_
  refine own_priv X40 hx hZ hown (own_w65 hw) (own_w68 hw) (own_w66 hw) (own_w67 hw) (own_w69 hw) (own_w2 hw) (by decide) e40 E (hb hby own_gr0_7) (by rw [hml]; rfl) own_pd__28I_29_5bLjava_2flang_2fObject_3b rfl (W := 0) (Nat.le_of_ble_eq_true rfl) (own_gr1 l Z a0 hw a dc dl h0 n0 OX E F g S A hl) (by decide) (by decide) (by decide) (by decide) (argsL := [(.int (1 : Int32))]) (rest := []) rfl rfl fun v41 T41 L41 X41 q41 => ?_
  obtain ⟨h41, e41⟩ : ∃ z, T41.heap = z := ⟨_, rfl⟩
  try dsimp only at q41
  rw [e41] at q41
  obtain ⟨b41, k41, j41, rfl, M41, g41, E41, A41, Q41, O41, W41⟩ := q41
  have N41 := Fr.app N0 M41
  show own_Fin p e below _ (T41.setTop (mkF m 10 #[.val (.ref a)] [(.ref b41)]))
  refine own_retA X41 hx hret rfl rfl rfl (hb hby own_gr0_10) hlk (by decide) (by decide) ?_
  exact ⟨b41, k41, j41, rfl, N41, g41, E41, A41, Q41, O41, by rw [e41]; exact W41⟩
theorem own_ad3_0 : decode jdk_38_method_24_code 0 = .ok (.iload_n 3, 1) := by decide +kernel
theorem own_ad3_1 : decode jdk_38_method_24_code 1 = .ok (.aload_n 2, 1) := by decide +kernel
theorem own_ad3_2 : decode jdk_38_method_24_code 2 = .ok (.arraylength, 1) := by decide +kernel
theorem own_ad3_3 : decode jdk_38_method_24_code 3 = .ok (.if_icmp .ne 8, 3) := by decide +kernel
theorem own_ad3_6 : decode jdk_38_method_24_code 6 = .ok (.aload_n 0, 1) := by decide +kernel
theorem own_ad3_7 : decode jdk_38_method_24_code 7 = .ok (.invokevirtual 129, 3) := by decide +kernel
theorem own_ad3_10 : decode jdk_38_method_24_code 10 = .ok (.astore_n 2, 1) := by decide +kernel
theorem own_ad3_11 : decode jdk_38_method_24_code 11 = .ok (.aload_n 2, 1) := by decide +kernel
theorem own_ad3_12 : decode jdk_38_method_24_code 12 = .ok (.iload_n 3, 1) := by decide +kernel
theorem own_ad3_13 : decode jdk_38_method_24_code 13 = .ok (.aload_n 1, 1) := by decide +kernel
theorem own_ad3_14 : decode jdk_38_method_24_code 14 = .ok (.aastore, 1) := by decide +kernel
theorem own_ad3_15 : decode jdk_38_method_24_code 15 = .ok (.aload_n 0, 1) := by decide +kernel
theorem own_ad3_16 : decode jdk_38_method_24_code 16 = .ok (.iload_n 3, 1) := by decide +kernel
theorem own_ad3_17 : decode jdk_38_method_24_code 17 = .ok (.iconst 1, 1) := by decide +kernel
theorem own_ad3_18 : decode jdk_38_method_24_code 18 = .ok (.iadd, 1) := by decide +kernel
theorem own_ad3_19 : decode jdk_38_method_24_code 19 = .ok (.putfield 48, 3) := by decide +kernel
theorem own_ad3_22 : decode jdk_38_method_24_code 22 = .ok (.return_, 1) := by decide +kernel
set_option maxRecDepth 65536 in
set_option maxHeartbeats 40000000 in
theorem own_ad3 (l : Launch) (Z : State) (a0 : Array Value) (hw : ∀ d ∈ tables_1, d.before a0 Z = true) (a x dc : Addr) (dl : Cell) (u1 : Value) (h0 : Heap) (n0 : Nat) (OX : Old Z n0 h0) (E : Exa Z h0 a "java/util/ArrayList") (F : Fld Z h0 a "java/util/ArrayList" "elementData" "[Ljava/lang/Object;" (.ref dc)) (g : n0 ≤ a) (F0 : Fld Z h0 a "java/util/ArrayList" "size" "I" (.int 0)) (F1 : Fld Z h0 a "java/util/AbstractList" "modCount" "I" u1) (EX : Exa Z h0 x "java/lang/Long") (S : Sta Z Z.heap "java/util/ArrayList" "DEFAULTCAPACITY_EMPTY_ELEMENTDATA" "[Ljava/lang/Object;" (.ref dc)) (A : Arr Z Z.heap dc dl (.object "java/lang/Object")) (hl : dl.slots.size.toInt32 = (0 : Int32)) :
    own_Met l Z (⟨"java/util/ArrayList", "add", "(Ljava/lang/Object;[Ljava/lang/Object;I)V"⟩ : MethodName) jdk_38_method_24_code 4 none ({ frames := 3, cells := 1, slots := 10, locals := 41 } : Room) #[(.ref a), (.ref x), (.ref dc), (.int (0 : Int32))] h0 (fun v h L => v = none ∧ Fr n0 L ∧ Keep h0 h [a] ∧ Exa Z h a "java/util/ArrayList" ∧ Fld Z h a "java/util/ArrayList" "size" "I" (.int (1 : Int32)) ∧ Fld Z h a "java/util/AbstractList" "modCount" "I" u1 ∧ ∃ b k, h0.size ≤ b ∧ Fld Z h a "java/util/ArrayList" "elementData" "[Ljava/lang/Object;" (.ref b) ∧ Arv Z h b k (.object "java/lang/Object") 10 [(.ref x), .null, .null, .null, .null, .null, .null, .null, .null, .null] .null ∧ Exa Z h b "[Ljava/lang/Object;" ∧ Ovr Z k "java/lang/Object") := by
  refine own_body (Ls := #[.val (.ref a), .val (.ref x), .val (.ref dc), .val (.int (0 : Int32))]) (plainFor_of_name own_pn_java_util_ArrayList) (fun m => by first | (simp [entryFrame, mkF, argsToLocals, Value.category]; done) | rfl) ?_
  intro p e s m below meth c s₁ hx hZ hby hml hown hnm hret hlk X0 e0
  have N0 := Fr.nil n0
  refine own_iloadN X0 hx (hb hby own_ad3_0) rfl ?_
  refine own_aloadN X0 hx (hb hby own_ad3_1) rfl rfl ?_
  refine own_arraylength X0 hx hZ e0 (A.ext OX.2) hl (hb hby own_ad3_2) ?_
  refine own_icmpNo X0 hx (hb hby own_ad3_3) (by decide) ?_
  refine own_aloadN X0 hx (hb hby own_ad3_6) rfl rfl ?_
  refine own_priv X0 hx hZ hown (own_w60 hw) (own_w63 hw) (own_w61 hw) (own_w62 hw) (own_w64 hw) (own_w2 hw) (by decide) e0 E (hb hby own_ad3_7) (by rw [hml]; rfl) own_pd__28_29_5bLjava_2flang_2fObject_3b rfl (W := 0) (Nat.le_of_ble_eq_true rfl) (own_gr0 l Z a0 hw a dc dl h0 n0 OX E F g F0 S A hl) (by decide) (by decide) (by decide) (by decide) (argsL := []) (rest := []) rfl rfl fun v42 T42 L42 X42 q42 => ?_
  obtain ⟨h42, e42⟩ : ∃ z, T42.heap = z := ⟨_, rfl⟩
  try dsimp only at q42
  rw [e42] at q42
  obtain ⟨b42, k42, j42, rfl, M42, g42, E42, A42, Q42, O42, W42⟩ := q42
  have N42 := Fr.app N0 M42
  have f43 : n0 ≤ b42 := Nat.le_trans (own_old OX) (Nat.le_of_eq g42.symm)
  have f44 : h0.size ≤ b42 := Nat.le_trans (Keep.refl h0 []).1 (Nat.le_of_eq g42.symm)
  have f45 : Arv Z j42 b42 k42 (.object "java/lang/Object") 10 [.null, .null, .null, .null, .null, .null, .null, .null, .null, .null] .null := (Arv.new A42 (by decide)).pad (pad_rep [] .null 10)
  have f46 := (F.ext E42)
  show own_Fin p e below _ (T42.setTop (mkF m 10 #[.val (.ref a), .val (.ref x), .val (.ref dc), .val (.int (0 : Int32))] [(.ref b42)]))
  refine own_astoreN X42 hx (l' := #[.val (.ref a), .val (.ref x), .val (.ref b42), .val (.int (0 : Int32))]) (hb hby own_ad3_10) rfl rfl ?_
  refine own_aloadN X42 hx (hb hby own_ad3_11) rfl rfl ?_
  refine own_iloadN X42 hx (hb hby own_ad3_12) rfl ?_
  refine own_aloadN X42 hx (hb hby own_ad3_13) rfl rfl ?_
  have f47 := (Q42.wr W42)
  have f48 := ((E.ext E42).wr W42)
  have f49 := ne_exa f47 f48 (by decide)
  have f50 := (f45.other W42 f49)
  have vo51 := f50
  obtain ⟨cl51, Ar51, qq51, S51, Nn51, H51, G51⟩ := vo51
  have f53 := ((EX.ext E42).wr W42)
  refine own_aastore X42 hx hZ e42 Ar51 (inb_of S51 ⟨by decide, by decide⟩) rfl (Sto.ofV Ar51 qq51 O42 (Ins.of_exa f53 (own_w76 hw))) (hb hby own_ad3_14) fun T52 h52 X52 e52 W52 => ?_
  have N52 := Fr.snoc X52 N42 f43
  have f54 : Arv Z h52 b42 k42 (.object "java/lang/Object") 10 [(.ref x), .null, .null, .null, .null, .null, .null, .null, .null, .null] .null := Arv.set Ar51 qq51 S51 Nn51 H51 G51 rfl W52 0 rfl (Nat.le_of_ble_eq_true rfl)
  refine own_aloadN X52 hx (hb hby own_ad3_15) rfl rfl ?_
  refine own_iloadN X52 hx (hb hby own_ad3_16) rfl ?_
  refine own_iconst X52 hx (1 : Int32) (hb hby own_ad3_17) rfl ?_
  refine own_iadd X52 hx (hb hby own_ad3_18) ?_
  have f55 := (((F0.ext E42).other W42 (Or.inr (slot_ne (Or.inl (own_w54 hw)) (Or.inl (own_w25 hw)) (by decide) own_fd_I own_fd__5bLjava_2flang_2fObject_3b))).other W52 (Or.inl (Ne.symm f49)))
  have f56 := (f48.wr W52)
  refine own_putfield X52 hx hZ (host := "") hown (Or.inl (own_w53 hw)) Via.refl e52 f55 f56 (Or.inl (own_w54 hw)) (own_w1 hw) own_fd_I rfl rfl (hb hby own_ad3_19) fun T57 h57 X57 e57 W57 => ?_
  have N57 := Fr.snoc X57 N52 g
  refine own_retV X57 hx hret (hb hby own_ad3_22) hlk (by decide) (by decide) ?_
  refine ⟨rfl, N57, ?_⟩
  rw [e57]
  exact ⟨(((((Keep.refl h0 [a]).ext E42).wr W42 (Or.inl (by simp))).wr W52 (Or.inr f44)).wr W57 (Or.inl (by simp))), (f56.wr W57), (f55.same W57), ((((F1.ext E42).other W42 (Or.inr (slot_ne (Or.inl (own_w22 hw)) (Or.inl (own_w25 hw)) (by decide) own_fd_I own_fd__5bLjava_2flang_2fObject_3b))).other W52 (Or.inl (Ne.symm f49))).other W57 (Or.inr (slot_ne (Or.inl (own_w22 hw)) (Or.inl (own_w54 hw)) (by decide) own_fd_I own_fd_I))), b42, k42, Nat.le_of_eq g42.symm, (((f46.same W42).other W52 (Or.inl (Ne.symm f49))).other W57 (Or.inr (slot_ne (Or.inl (own_w25 hw)) (Or.inl (own_w54 hw)) (by decide) own_fd__5bLjava_2flang_2fObject_3b own_fd_I))), (f54.other W57 f49), ((f47.wr W52).wr W57), O42⟩
set_option maxRecDepth 65536 in
set_option maxHeartbeats 40000000 in
theorem own_ad3b (l : Launch) (Z : State) (a0 : Array Value) (hw : ∀ d ∈ tables_1, d.before a0 Z = true) (a x x0 b : Addr) (k : ClassId) (u1 : Value) (h0 : Heap) (n0 : Nat) (OX : Old Z n0 h0) (E : Exa Z h0 a "java/util/ArrayList") (g : n0 ≤ a) (gb : n0 ≤ b) (F : Fld Z h0 a "java/util/ArrayList" "elementData" "[Ljava/lang/Object;" (.ref b)) (F0 : Fld Z h0 a "java/util/ArrayList" "size" "I" (.int 1)) (F1 : Fld Z h0 a "java/util/AbstractList" "modCount" "I" u1) (EX : Exa Z h0 x "java/lang/Long") (VV : Arv Z h0 b k (.object "java/lang/Object") 10 [(.ref x0), .null, .null, .null, .null, .null, .null, .null, .null, .null] .null) (EB : Exa Z h0 b "[Ljava/lang/Object;") (OO : Ovr Z k "java/lang/Object") :
    own_Met l Z (⟨"java/util/ArrayList", "add", "(Ljava/lang/Object;[Ljava/lang/Object;I)V"⟩ : MethodName) jdk_38_method_24_code 4 none ({ frames := 0, cells := 0, slots := 0, locals := 0 } : Room) #[(.ref a), (.ref x), (.ref b), (.int (1 : Int32))] h0 (fun v h L => v = none ∧ Fr n0 L ∧ Keep h0 h [a, b] ∧ Exa Z h a "java/util/ArrayList" ∧ Fld Z h a "java/util/ArrayList" "size" "I" (.int (2 : Int32)) ∧ Fld Z h a "java/util/AbstractList" "modCount" "I" u1 ∧ Fld Z h a "java/util/ArrayList" "elementData" "[Ljava/lang/Object;" (.ref b) ∧ Arv Z h b k (.object "java/lang/Object") 10 [(.ref x0), (.ref x), .null, .null, .null, .null, .null, .null, .null, .null] .null ∧ Exa Z h b "[Ljava/lang/Object;") := by
  refine own_body (Ls := #[.val (.ref a), .val (.ref x), .val (.ref b), .val (.int (1 : Int32))]) (plainFor_of_name own_pn_java_util_ArrayList) (fun m => by first | (simp [entryFrame, mkF, argsToLocals, Value.category]; done) | rfl) ?_
  intro p e s m below meth c s₁ hx hZ hby hml hown hnm hret hlk X0 e0
  have N0 := Fr.nil n0
  refine own_iloadN X0 hx (hb hby own_ad3_0) rfl ?_
  refine own_aloadN X0 hx (hb hby own_ad3_1) rfl rfl ?_
  have vo58 := VV
  obtain ⟨cl58, Ar58, qq58, S58, Nn58, H58, G58⟩ := vo58
  refine own_arraylength X0 hx hZ e0 Ar58 (len_of S58 Nn58) (hb hby own_ad3_2) ?_
  refine own_icmpYes X0 hx 11 (hb hby own_ad3_3) (by decide) (by decide) (by decide) ?_
  refine own_aloadN X0 hx (hb hby own_ad3_11) rfl rfl ?_
  refine own_iloadN X0 hx (hb hby own_ad3_12) rfl ?_
  refine own_aloadN X0 hx (hb hby own_ad3_13) rfl rfl ?_
  have vo59 := VV
  obtain ⟨cl59, Ar59, qq59, S59, Nn59, H59, G59⟩ := vo59
  refine own_aastore X0 hx hZ e0 Ar59 (inb_of S59 ⟨by decide, by decide⟩) rfl (Sto.ofV Ar59 qq59 OO (Ins.of_exa EX (own_w76 hw))) (hb hby own_ad3_14) fun T60 h60 X60 e60 W60 => ?_
  have N60 := Fr.snoc X60 N0 gb
  have f61 : Arv Z h60 b k (.object "java/lang/Object") 10 [(.ref x0), (.ref x), .null, .null, .null, .null, .null, .null, .null, .null] .null := Arv.set Ar59 qq59 S59 Nn59 H59 G59 rfl W60 1 rfl (Nat.le_of_ble_eq_true rfl)
  refine own_aloadN X60 hx (hb hby own_ad3_15) rfl rfl ?_
  refine own_iloadN X60 hx (hb hby own_ad3_16) rfl ?_
  refine own_iconst X60 hx (1 : Int32) (hb hby own_ad3_17) rfl ?_
  refine own_iadd X60 hx (hb hby own_ad3_18) ?_
  have f62 := (E.wr W60)
  have f63 := (EB.wr W60)
  have f64 := ne_exa f62 f63 (by decide)
  have f65 := (F0.other W60 (Or.inl f64))
  refine own_putfield X60 hx hZ (host := "") hown (Or.inl (own_w53 hw)) Via.refl e60 f65 f62 (Or.inl (own_w54 hw)) (own_w1 hw) own_fd_I rfl rfl (hb hby own_ad3_19) fun T66 h66 X66 e66 W66 => ?_
  have N66 := Fr.snoc X66 N60 g
  refine own_retV X66 hx hret (hb hby own_ad3_22) hlk (by decide) (by decide) ?_
  refine ⟨rfl, N66, ?_⟩
  rw [e66]
  exact ⟨(((Keep.refl h0 [a, b]).wr W60 (Or.inl (by simp))).wr W66 (Or.inl (by simp))), (f62.wr W66), (f65.same W66), ((F1.other W60 (Or.inl f64)).other W66 (Or.inr (slot_ne (Or.inl (own_w22 hw)) (Or.inl (own_w54 hw)) (by decide) own_fd_I own_fd_I))), ((F.other W60 (Or.inl f64)).other W66 (Or.inr (slot_ne (Or.inl (own_w25 hw)) (Or.inl (own_w54 hw)) (by decide) own_fd__5bLjava_2flang_2fObject_3b own_fd_I))), (f61.other W66 (Ne.symm f64)), (f63.wr W66)⟩
theorem own_ad1_0 : decode jdk_38_method_25_code 0 = .ok (.aload_n 0, 1) := by decide +kernel
theorem own_ad1_1 : decode jdk_38_method_25_code 1 = .ok (.dup, 1) := by decide +kernel
theorem own_ad1_2 : decode jdk_38_method_25_code 2 = .ok (.getfield 63, 3) := by decide +kernel
theorem own_ad1_5 : decode jdk_38_method_25_code 5 = .ok (.iconst 1, 1) := by decide +kernel
theorem own_ad1_6 : decode jdk_38_method_25_code 6 = .ok (.iadd, 1) := by decide +kernel
theorem own_ad1_7 : decode jdk_38_method_25_code 7 = .ok (.putfield 63, 3) := by decide +kernel
theorem own_ad1_10 : decode jdk_38_method_25_code 10 = .ok (.aload_n 0, 1) := by decide +kernel
theorem own_ad1_11 : decode jdk_38_method_25_code 11 = .ok (.aload_n 1, 1) := by decide +kernel
theorem own_ad1_12 : decode jdk_38_method_25_code 12 = .ok (.aload_n 0, 1) := by decide +kernel
theorem own_ad1_13 : decode jdk_38_method_25_code 13 = .ok (.getfield 9, 3) := by decide +kernel
theorem own_ad1_16 : decode jdk_38_method_25_code 16 = .ok (.aload_n 0, 1) := by decide +kernel
theorem own_ad1_17 : decode jdk_38_method_25_code 17 = .ok (.getfield 48, 3) := by decide +kernel
theorem own_ad1_20 : decode jdk_38_method_25_code 20 = .ok (.invokevirtual 131, 3) := by decide +kernel
theorem own_ad1_23 : decode jdk_38_method_25_code 23 = .ok (.iconst 1, 1) := by decide +kernel
theorem own_ad1_24 : decode jdk_38_method_25_code 24 = .ok (.ireturn, 1) := by decide +kernel
set_option maxRecDepth 65536 in
set_option maxHeartbeats 40000000 in
theorem own_ad1 (l : Launch) (Z : State) (a0 : Array Value) (hw : ∀ d ∈ tables_1, d.before a0 Z = true) (a x dc : Addr) (dl : Cell) (mc : Int32) (h0 : Heap) (n0 : Nat) (OX : Old Z n0 h0) (E : Exa Z h0 a "java/util/ArrayList") (F : Fld Z h0 a "java/util/ArrayList" "elementData" "[Ljava/lang/Object;" (.ref dc)) (g : n0 ≤ a) (F0 : Fld Z h0 a "java/util/ArrayList" "size" "I" (.int 0)) (F1 : Fld Z h0 a "java/util/AbstractList" "modCount" "I" (.int mc)) (EX : Exa Z h0 x "java/lang/Long") (S : Sta Z Z.heap "java/util/ArrayList" "DEFAULTCAPACITY_EMPTY_ELEMENTDATA" "[Ljava/lang/Object;" (.ref dc)) (A : Arr Z Z.heap dc dl (.object "java/lang/Object")) (hl : dl.slots.size.toInt32 = (0 : Int32)) :
    own_Met l Z (⟨"java/util/ArrayList", "add", "(Ljava/lang/Object;)Z"⟩ : MethodName) jdk_38_method_25_code 2 (some .boolean) ({ frames := 4, cells := 1, slots := 10, locals := 56 } : Room) #[(.ref a), (.ref x)] h0 (fun v h L => v = some (.int (1 : Int32)) ∧ Fr n0 L ∧ Keep h0 h [a] ∧ Exa Z h a "java/util/ArrayList" ∧ Fld Z h a "java/util/ArrayList" "size" "I" (.int (1 : Int32)) ∧ Fld Z h a "java/util/AbstractList" "modCount" "I" (.int (mc + (1 : Int32))) ∧ ∃ b k, h0.size ≤ b ∧ Fld Z h a "java/util/ArrayList" "elementData" "[Ljava/lang/Object;" (.ref b) ∧ Arv Z h b k (.object "java/lang/Object") 10 [(.ref x), .null, .null, .null, .null, .null, .null, .null, .null, .null] .null ∧ Exa Z h b "[Ljava/lang/Object;" ∧ Ovr Z k "java/lang/Object") := by
  refine own_body (Ls := #[.val (.ref a), .val (.ref x)]) (plainFor_of_name own_pn_java_util_ArrayList) (fun m => by first | (simp [entryFrame, mkF, argsToLocals, Value.category]; done) | rfl) ?_
  intro p e s m below meth c s₁ hx hZ hby hml hown hnm hret hlk X0 e0
  have N0 := Fr.nil n0
  refine own_aloadN X0 hx (hb hby own_ad1_0) rfl rfl ?_
  refine own_dup X0 hx (hb hby own_ad1_1) rfl ?_
  refine own_getfield X0 hx hZ (host := "") hown (Or.inl (own_w51 hw)) (Via.of (own_w52 hw)) e0 F1 (hb hby own_ad1_2) fun T67 X67 e67 => ?_
  refine own_iconst X67 hx (1 : Int32) (hb hby own_ad1_5) rfl ?_
  refine own_iadd X67 hx (hb hby own_ad1_6) ?_
  refine own_putfield X67 hx hZ (host := "") hown (Or.inl (own_w51 hw)) (Via.of (own_w52 hw)) e67 F1 E (Or.inl (own_w22 hw)) (own_w1 hw) own_fd_I rfl rfl (hb hby own_ad1_7) fun T68 h68 X68 e68 W68 => ?_
  have N68 := Fr.snoc X68 N0 g
  refine own_aloadN X68 hx (hb hby own_ad1_10) rfl rfl ?_
  refine own_aloadN X68 hx (hb hby own_ad1_11) rfl rfl ?_
  refine own_aloadN X68 hx (hb hby own_ad1_12) rfl rfl ?_
  have f69 := (F.other W68 (Or.inr (slot_ne (Or.inl (own_w25 hw)) (Or.inl (own_w22 hw)) (by decide) own_fd__5bLjava_2flang_2fObject_3b own_fd_I)))
  refine own_getfield X68 hx hZ (host := "") hown (Or.inl (own_w24 hw)) Via.refl e68 f69 (hb hby own_ad1_13) fun T70 X70 e70 => ?_
  refine own_aloadN X70 hx (hb hby own_ad1_16) rfl rfl ?_
  have f71 := (F0.other W68 (Or.inr (slot_ne (Or.inl (own_w54 hw)) (Or.inl (own_w22 hw)) (by decide) own_fd_I own_fd_I)))
  refine own_getfield X70 hx hZ (host := "") hown (Or.inl (own_w53 hw)) Via.refl e70 f71 (hb hby own_ad1_17) fun T72 X72 e72 => ?_
  have f73 := (OX.wr W68 g)
  have f74 := (E.wr W68)
  have f75 := (EX.wr W68)
  refine own_priv X72 hx hZ hown (own_w55 hw) (own_w58 hw) (own_w56 hw) (own_w57 hw) (own_w59 hw) (own_w2 hw) (by decide) e72 f74 (hb hby own_ad1_20) (by rw [hml]; rfl) own_pd__28Ljava_2flang_2fObject_3b_5bLjava_2flang_2fObject_3bI_29V rfl (W := 0) (Nat.le_of_ble_eq_true rfl) (own_ad3 l Z a0 hw a x dc dl (.int (mc + (1 : Int32))) h68 n0 f73 f74 f69 g f71 (F1.same W68) f75 S A hl) (by decide) (by decide) (by decide) (by decide) (argsL := [(.ref x), (.ref dc), (.int (0 : Int32))]) (rest := []) rfl rfl fun v76 T76 L76 X76 q76 => ?_
  obtain ⟨h76, e76⟩ : ∃ z, T76.heap = z := ⟨_, rfl⟩
  try dsimp only at q76
  rw [e76] at q76
  obtain ⟨rfl, M76, K76, a1, a2, a3, b, k, b0, a4, a5, a6, a7⟩ := q76
  have N76 := Fr.app N68 M76
  show own_Fin p e below _ (T76.setTop (mkF m 23 #[.val (.ref a), .val (.ref x)] []))
  refine own_iconst X76 hx (1 : Int32) (hb hby own_ad1_23) rfl ?_
  refine own_retN X76 hx (t := .boolean) hret (by simp) (hb hby own_ad1_24) hlk (by decide) (by decide) ?_
  refine ⟨rfl, N76, ?_⟩
  rw [e76]
  exact ⟨(Keep.of_wr W68).trans K76 (allS (Or.inl (by simp)) all0), a1, a2, a3, b, k, Nat.le_trans (Keep.of_wr W68).1 b0, a4, a5, a6, a7⟩
set_option maxRecDepth 65536 in
set_option maxHeartbeats 40000000 in
theorem own_ad2 (l : Launch) (Z : State) (a0 : Array Value) (hw : ∀ d ∈ tables_1, d.before a0 Z = true) (a x x0 b : Addr) (k : ClassId) (mc : Int32) (h0 : Heap) (n0 : Nat) (OX : Old Z n0 h0) (E : Exa Z h0 a "java/util/ArrayList") (g : n0 ≤ a) (gb : n0 ≤ b) (F : Fld Z h0 a "java/util/ArrayList" "elementData" "[Ljava/lang/Object;" (.ref b)) (F0 : Fld Z h0 a "java/util/ArrayList" "size" "I" (.int 1)) (F1 : Fld Z h0 a "java/util/AbstractList" "modCount" "I" (.int mc)) (EX : Exa Z h0 x "java/lang/Long") (VV : Arv Z h0 b k (.object "java/lang/Object") 10 [(.ref x0), .null, .null, .null, .null, .null, .null, .null, .null, .null] .null) (EB : Exa Z h0 b "[Ljava/lang/Object;") (OO : Ovr Z k "java/lang/Object") :
    own_Met l Z (⟨"java/util/ArrayList", "add", "(Ljava/lang/Object;)Z"⟩ : MethodName) jdk_38_method_25_code 2 (some .boolean) ({ frames := 1, cells := 0, slots := 0, locals := 15 } : Room) #[(.ref a), (.ref x)] h0 (fun v h L => v = some (.int (1 : Int32)) ∧ Fr n0 L ∧ Keep h0 h [a, b] ∧ Exa Z h a "java/util/ArrayList" ∧ Fld Z h a "java/util/ArrayList" "size" "I" (.int (2 : Int32)) ∧ Fld Z h a "java/util/AbstractList" "modCount" "I" (.int (mc + (1 : Int32))) ∧ Fld Z h a "java/util/ArrayList" "elementData" "[Ljava/lang/Object;" (.ref b) ∧ Arv Z h b k (.object "java/lang/Object") 10 [(.ref x0), (.ref x), .null, .null, .null, .null, .null, .null, .null, .null] .null ∧ Exa Z h b "[Ljava/lang/Object;") := by
  refine own_body (Ls := #[.val (.ref a), .val (.ref x)]) (plainFor_of_name own_pn_java_util_ArrayList) (fun m => by first | (simp [entryFrame, mkF, argsToLocals, Value.category]; done) | rfl) ?_
  intro p e s m below meth c s₁ hx hZ hby hml hown hnm hret hlk X0 e0
  have N0 := Fr.nil n0
  refine own_aloadN X0 hx (hb hby own_ad1_0) rfl rfl ?_
  refine own_dup X0 hx (hb hby own_ad1_1) rfl ?_
  refine own_getfield X0 hx hZ (host := "") hown (Or.inl (own_w51 hw)) (Via.of (own_w52 hw)) e0 F1 (hb hby own_ad1_2) fun T77 X77 e77 => ?_
  refine own_iconst X77 hx (1 : Int32) (hb hby own_ad1_5) rfl ?_
  refine own_iadd X77 hx (hb hby own_ad1_6) ?_
  refine own_putfield X77 hx hZ (host := "") hown (Or.inl (own_w51 hw)) (Via.of (own_w52 hw)) e77 F1 E (Or.inl (own_w22 hw)) (own_w1 hw) own_fd_I rfl rfl (hb hby own_ad1_7) fun T78 h78 X78 e78 W78 => ?_
  have N78 := Fr.snoc X78 N0 g
  refine own_aloadN X78 hx (hb hby own_ad1_10) rfl rfl ?_
  refine own_aloadN X78 hx (hb hby own_ad1_11) rfl rfl ?_
  refine own_aloadN X78 hx (hb hby own_ad1_12) rfl rfl ?_
  have f79 := (F.other W78 (Or.inr (slot_ne (Or.inl (own_w25 hw)) (Or.inl (own_w22 hw)) (by decide) own_fd__5bLjava_2flang_2fObject_3b own_fd_I)))
  refine own_getfield X78 hx hZ (host := "") hown (Or.inl (own_w24 hw)) Via.refl e78 f79 (hb hby own_ad1_13) fun T80 X80 e80 => ?_
  refine own_aloadN X80 hx (hb hby own_ad1_16) rfl rfl ?_
  have f81 := (F0.other W78 (Or.inr (slot_ne (Or.inl (own_w54 hw)) (Or.inl (own_w22 hw)) (by decide) own_fd_I own_fd_I)))
  refine own_getfield X80 hx hZ (host := "") hown (Or.inl (own_w53 hw)) Via.refl e80 f81 (hb hby own_ad1_17) fun T82 X82 e82 => ?_
  have f83 := (OX.wr W78 g)
  have f84 := (E.wr W78)
  have f85 := (EX.wr W78)
  have f86 := (EB.wr W78)
  have f87 := ne_exa f86 f84 (by decide)
  have f88 := (VV.other W78 f87)
  refine own_priv X82 hx hZ hown (own_w55 hw) (own_w58 hw) (own_w56 hw) (own_w57 hw) (own_w59 hw) (own_w2 hw) (by decide) e82 f84 (hb hby own_ad1_20) (by rw [hml]; rfl) own_pd__28Ljava_2flang_2fObject_3b_5bLjava_2flang_2fObject_3bI_29V rfl (W := 0) (Nat.le_of_ble_eq_true rfl) (own_ad3b l Z a0 hw a x x0 b k (.int (mc + (1 : Int32))) h78 n0 f83 f84 g gb f79 f81 (F1.same W78) f85 f88 f86 OO) (by decide) (by decide) (by decide) (by decide) (argsL := [(.ref x), (.ref b), (.int (1 : Int32))]) (rest := []) rfl rfl fun v89 T89 L89 X89 q89 => ?_
  obtain ⟨h89, e89⟩ : ∃ z, T89.heap = z := ⟨_, rfl⟩
  try dsimp only at q89
  rw [e89] at q89
  obtain ⟨rfl, M89, K89, a1, a2, a3, a4, a5, a6⟩ := q89
  have N89 := Fr.app N78 M89
  show own_Fin p e below _ (T89.setTop (mkF m 23 #[.val (.ref a), .val (.ref x)] []))
  refine own_iconst X89 hx (1 : Int32) (hb hby own_ad1_23) rfl ?_
  refine own_retN X89 hx (t := .boolean) hret (by simp) (hb hby own_ad1_24) hlk (by decide) (by decide) ?_
  refine ⟨rfl, N89, ?_⟩
  rw [e89]
  exact ⟨((Keep.refl h0 [a, b]).wr W78 (Or.inl (by simp))).trans K89 (allS (Or.inl (by simp)) (allS (Or.inl (by simp)) all0)), a1, a2, a3, a4, a5, a6⟩
theorem own_lv_0 : decode jdk_35_method_31_code 0 = .ok (.aload_n 0, 1) := by decide +kernel
theorem own_lv_1 : decode jdk_35_method_31_code 1 = .ok (.getfield 273, 3) := by decide +kernel
theorem own_lv_4 : decode jdk_35_method_31_code 4 = .ok (.lreturn, 1) := by decide +kernel
set_option maxRecDepth 65536 in
set_option maxHeartbeats 40000000 in
theorem own_lv (l : Launch) (Z : State) (a0 : Array Value) (hw : ∀ d ∈ tables_1, d.before a0 Z = true) (a : Addr) (g : Int64) (h0 : Heap) (n0 : Nat) (OX : Old Z n0 h0) (F : Fld Z h0 a "java/lang/Long" "value" "J" (.long g)) :
    own_Met l Z (⟨"java/lang/Long", "longValue", "()J"⟩ : MethodName) jdk_35_method_31_code 1 (some .long) ({ frames := 0, cells := 0, slots := 0, locals := 0 } : Room) #[(.ref a)] h0 (fun v h L => v = some (.long g) ∧ Fr n0 L ∧ h = h0) := by
  refine own_body (Ls := #[.val (.ref a)]) (plainFor_of_name own_pn_java_lang_Long) (fun m => by first | (simp [entryFrame, mkF, argsToLocals, Value.category]; done) | rfl) ?_
  intro p e s m below meth c s₁ hx hZ hby hml hown hnm hret hlk X0 e0
  have N0 := Fr.nil n0
  refine own_aloadN X0 hx (hb hby own_lv_0) rfl rfl ?_
  refine own_getfield X0 hx hZ (host := "") hown (Or.inl (own_w44 hw)) Via.refl e0 F (hb hby own_lv_1) fun T90 X90 e90 => ?_
  refine own_retJ X90 hx hret (hb hby own_lv_4) hlk (by decide) (by decide) ?_
  exact ⟨rfl, N0, e90⟩
theorem own_ie_0 : decode jdk_38_method_9_code 0 = .ok (.aload_n 0, 1) := by decide +kernel
theorem own_ie_1 : decode jdk_38_method_9_code 1 = .ok (.getfield 48, 3) := by decide +kernel
theorem own_ie_4 : decode jdk_38_method_9_code 4 = .ok (.ifCond .ne 7, 3) := by decide +kernel
theorem own_ie_7 : decode jdk_38_method_9_code 7 = .ok (.iconst 1, 1) := by decide +kernel
theorem own_ie_8 : decode jdk_38_method_9_code 8 = .ok (.goto 4, 3) := by decide +kernel
theorem own_ie_11 : decode jdk_38_method_9_code 11 = .ok (.iconst 0, 1) := by decide +kernel
theorem own_ie_12 : decode jdk_38_method_9_code 12 = .ok (.ireturn, 1) := by decide +kernel
set_option maxRecDepth 65536 in
set_option maxHeartbeats 40000000 in
theorem own_ie0 (l : Launch) (Z : State) (a0 : Array Value) (hw : ∀ d ∈ tables_1, d.before a0 Z = true) (a : Addr) (h0 : Heap) (n0 : Nat) (OX : Old Z n0 h0) (F : Fld Z h0 a "java/util/ArrayList" "size" "I" (.int (0 : Int32))) :
    own_Met l Z (⟨"java/util/ArrayList", "isEmpty", "()Z"⟩ : MethodName) jdk_38_method_9_code 1 (some .boolean) ({ frames := 0, cells := 0, slots := 0, locals := 0 } : Room) #[(.ref a)] h0 (fun v h L => v = some (.int (1 : Int32)) ∧ Fr n0 L ∧ h = h0) := by
  refine own_body (Ls := #[.val (.ref a)]) (plainFor_of_name own_pn_java_util_ArrayList) (fun m => by first | (simp [entryFrame, mkF, argsToLocals, Value.category]; done) | rfl) ?_
  intro p e s m below meth c s₁ hx hZ hby hml hown hnm hret hlk X0 e0
  have N0 := Fr.nil n0
  refine own_aloadN X0 hx (hb hby own_ie_0) rfl rfl ?_
  refine own_getfield X0 hx hZ (host := "") hown (Or.inl (own_w53 hw)) Via.refl e0 F (hb hby own_ie_1) fun T91 X91 e91 => ?_
  refine own_ifNo X91 hx (hb hby own_ie_4) (by decide) ?_
  refine own_iconst X91 hx (1 : Int32) (hb hby own_ie_7) rfl ?_
  refine own_goto X91 hx 12 (hb hby own_ie_8) (by decide) (by decide) ?_
  refine own_retN X91 hx (t := .boolean) hret (by simp) (hb hby own_ie_12) hlk (by decide) (by decide) ?_
  exact ⟨rfl, N0, e91⟩
set_option maxRecDepth 65536 in
set_option maxHeartbeats 40000000 in
theorem own_ie1 (l : Launch) (Z : State) (a0 : Array Value) (hw : ∀ d ∈ tables_1, d.before a0 Z = true) (a : Addr) (h0 : Heap) (n0 : Nat) (OX : Old Z n0 h0) (F : Fld Z h0 a "java/util/ArrayList" "size" "I" (.int (1 : Int32))) :
    own_Met l Z (⟨"java/util/ArrayList", "isEmpty", "()Z"⟩ : MethodName) jdk_38_method_9_code 1 (some .boolean) ({ frames := 0, cells := 0, slots := 0, locals := 0 } : Room) #[(.ref a)] h0 (fun v h L => v = some (.int (0 : Int32)) ∧ Fr n0 L ∧ h = h0) := by
  refine own_body (Ls := #[.val (.ref a)]) (plainFor_of_name own_pn_java_util_ArrayList) (fun m => by first | (simp [entryFrame, mkF, argsToLocals, Value.category]; done) | rfl) ?_
  intro p e s m below meth c s₁ hx hZ hby hml hown hnm hret hlk X0 e0
  have N0 := Fr.nil n0
  refine own_aloadN X0 hx (hb hby own_ie_0) rfl rfl ?_
  refine own_getfield X0 hx hZ (host := "") hown (Or.inl (own_w53 hw)) Via.refl e0 F (hb hby own_ie_1) fun T92 X92 e92 => ?_
  refine own_ifYes X92 hx 11 (hb hby own_ie_4) (by decide) (by decide) (by decide) ?_
  refine own_iconst X92 hx (0 : Int32) (hb hby own_ie_11) rfl ?_
  refine own_retN X92 hx (t := .boolean) hret (by simp) (hb hby own_ie_12) hlk (by decide) (by decide) ?_
  exact ⟨rfl, N0, e92⟩
set_option maxRecDepth 65536 in
set_option maxHeartbeats 40000000 in
theorem own_ie2 (l : Launch) (Z : State) (a0 : Array Value) (hw : ∀ d ∈ tables_1, d.before a0 Z = true) (a : Addr) (h0 : Heap) (n0 : Nat) (OX : Old Z n0 h0) (F : Fld Z h0 a "java/util/ArrayList" "size" "I" (.int (2 : Int32))) :
    own_Met l Z (⟨"java/util/ArrayList", "isEmpty", "()Z"⟩ : MethodName) jdk_38_method_9_code 1 (some .boolean) ({ frames := 0, cells := 0, slots := 0, locals := 0 } : Room) #[(.ref a)] h0 (fun v h L => v = some (.int (0 : Int32)) ∧ Fr n0 L ∧ h = h0) := by
  refine own_body (Ls := #[.val (.ref a)]) (plainFor_of_name own_pn_java_util_ArrayList) (fun m => by first | (simp [entryFrame, mkF, argsToLocals, Value.category]; done) | rfl) ?_
  intro p e s m below meth c s₁ hx hZ hby hml hown hnm hret hlk X0 e0
  have N0 := Fr.nil n0
  refine own_aloadN X0 hx (hb hby own_ie_0) rfl rfl ?_
  refine own_getfield X0 hx hZ (host := "") hown (Or.inl (own_w53 hw)) Via.refl e0 F (hb hby own_ie_1) fun T93 X93 e93 => ?_
  refine own_ifYes X93 hx 11 (hb hby own_ie_4) (by decide) (by decide) (by decide) ?_
  refine own_iconst X93 hx (0 : Int32) (hb hby own_ie_11) rfl ?_
  refine own_retN X93 hx (t := .boolean) hret (by simp) (hb hby own_ie_12) hlk (by decide) (by decide) ?_
  exact ⟨rfl, N0, e93⟩
theorem own_cq_0 : decode jdk_65_method_120_code 0 = .ok (.aload_n 2, 1) := by decide +kernel
theorem own_cq_1 : decode jdk_65_method_120_code 1 = .ok (.ldc 110, 2) := by decide +kernel
theorem own_cq_3 : decode jdk_65_method_120_code 3 = .ok (.if_acmp .ne 10, 3) := by decide +kernel
theorem own_cq_6 : decode jdk_65_method_120_code 6 = .ok (.iload_n 1, 1) := by decide +kernel
theorem own_cq_7 : decode jdk_65_method_120_code 7 = .ok (.anewarray 2, 3) := by decide +kernel
theorem own_cq_10 : decode jdk_65_method_120_code 10 = .ok (.goto 14, 3) := by decide +kernel
theorem own_cq_13 : decode jdk_65_method_120_code 13 = .ok (.aload_n 2, 1) := by decide +kernel
theorem own_cq_14 : decode jdk_65_method_120_code 14 = .ok (.invokevirtual 90, 3) := by decide +kernel
theorem own_cq_17 : decode jdk_65_method_120_code 17 = .ok (.iload_n 1, 1) := by decide +kernel
theorem own_cq_18 : decode jdk_65_method_120_code 18 = .ok (.invokestatic 95, 3) := by decide +kernel
theorem own_cq_21 : decode jdk_65_method_120_code 21 = .ok (.checkcast 110, 3) := by decide +kernel
theorem own_cq_24 : decode jdk_65_method_120_code 24 = .ok (.astore_n 3, 1) := by decide +kernel
theorem own_cq_25 : decode jdk_65_method_120_code 25 = .ok (.aload_n 0, 1) := by decide +kernel
theorem own_cq_26 : decode jdk_65_method_120_code 26 = .ok (.iconst 0, 1) := by decide +kernel
theorem own_cq_27 : decode jdk_65_method_120_code 27 = .ok (.aload_n 3, 1) := by decide +kernel
theorem own_cq_28 : decode jdk_65_method_120_code 28 = .ok (.iconst 0, 1) := by decide +kernel
theorem own_cq_29 : decode jdk_65_method_120_code 29 = .ok (.aload_n 0, 1) := by decide +kernel
theorem own_cq_30 : decode jdk_65_method_120_code 30 = .ok (.arraylength, 1) := by decide +kernel
theorem own_cq_31 : decode jdk_65_method_120_code 31 = .ok (.iload_n 1, 1) := by decide +kernel
theorem own_cq_32 : decode jdk_65_method_120_code 32 = .ok (.invokestatic 304, 3) := by decide +kernel
theorem own_cq_35 : decode jdk_65_method_120_code 35 = .ok (.invokestatic 150, 3) := by decide +kernel
theorem own_cq_38 : decode jdk_65_method_120_code 38 = .ok (.aload_n 3, 1) := by decide +kernel
theorem own_cq_39 : decode jdk_65_method_120_code 39 = .ok (.areturn, 1) := by decide +kernel
theorem own_pn_java_util_Arrays : plainName "java/util/Arrays" = true := by first | (simp [plainName, overriddenIn]; done) | decide +kernel
theorem own_pd__28_29Ljava_2flang_2fClass_3b : parseMethodDescriptor "()Ljava/lang/Class;" = some ⟨[], some (.object "java/lang/Class")⟩ := by decide +kernel
theorem own_pd__28_5bLjava_2flang_2fObject_3bILjava_2flang_2fClass_3b_29_5bLjava_2flang_2fObject_3b : parseMethodDescriptor "([Ljava/lang/Object;ILjava/lang/Class;)[Ljava/lang/Object;" = some ⟨[(.array (.object "java/lang/Object")), .int, (.object "java/lang/Class")], some (.array (.object "java/lang/Object"))⟩ := by decide +kernel
theorem own_pd__28Ljava_2flang_2fObject_3bILjava_2flang_2fObject_3bII_29V : parseMethodDescriptor "(Ljava/lang/Object;ILjava/lang/Object;II)V" = some ⟨[(.object "java/lang/Object"), .int, (.object "java/lang/Object"), .int, .int], none⟩ := by decide +kernel
set_option maxRecDepth 65536 in
set_option maxHeartbeats 40000000 in
theorem own_cq1 (l : Launch) (Z : State) (a0 : Array Value) (hw : ∀ d ∈ tables_1, d.before a0 Z = true) (b mr x0 : Addr) (k : ClassId) (h0 : Heap) (n0 : Nat) (OX : Old Z n0 h0) (VV : Arv Z h0 b k (.object "java/lang/Object") 10 [(.ref x0), .null, .null, .null, .null, .null, .null, .null, .null, .null] .null) (EX0 : Exa Z h0 x0 "java/lang/Long") (EB : Exa Z h0 b "[Ljava/lang/Object;") (MM : own_Mir Z "[Ljava/lang/Object;" mr) :
    own_Met l Z (⟨"java/util/Arrays", "copyOf", "([Ljava/lang/Object;ILjava/lang/Class;)[Ljava/lang/Object;"⟩ : MethodName) jdk_65_method_120_code 4 (some (.array (.object "java/lang/Object"))) ({ frames := 1, cells := 1, slots := 1, locals := 18 } : Room) #[(.ref b), (.int (1 : Int32)), (.ref mr)] h0 (fun v h L => ∃ d kd, v = some (.ref d) ∧ Fr n0 L ∧ Ext h0 h ∧ h0.size ≤ d ∧ Arv Z h d kd (.object "java/lang/Object") 1 [(.ref x0)] .null) := by
  refine own_body (Ls := #[.val (.ref b), .val (.int (1 : Int32)), .val (.ref mr), .unset]) (plainFor_of_name own_pn_java_util_Arrays) (fun m => by first | (simp [entryFrame, mkF, argsToLocals, Value.category]; done) | rfl) ?_
  intro p e s m below meth c s₁ hx hZ hby hml hown hnm hret hlk X0 e0
  have N0 := Fr.nil n0
  refine own_aloadN X0 hx (hb hby own_cq_0) rfl rfl ?_
  refine own_ldcC X0 hx hZ hown (own_w144 hw) e0 MM (hb hby own_cq_1) fun T94 X94 e94 => ?_
  refine own_acmpNo X94 hx (hb hby own_cq_3) rfl rfl (Jvm.Free.XT.aa_ne_f rfl) ?_
  refine own_iloadN X94 hx (hb hby own_cq_6) rfl ?_
  refine own_anewarray X94 hx hZ hown (own_w145 hw) (own_w75 hw) e94 (hb hby own_cq_7) (by decide) 1 (by decide) (by decide) (by decide) (by decide) rfl fun T95 h95 d95 k95 X95 e95 g95 E95 A95 Q95 O95 => ?_
  have f96 := Nat.ne_of_lt (Nat.lt_of_lt_of_le EB.lt (Nat.le_of_eq g95.symm))
  have f97 : n0 ≤ d95 := Nat.le_trans (own_old OX) (Nat.le_of_eq g95.symm)
  have f98 : h0.size ≤ d95 := Nat.le_trans (Keep.refl h0 []).1 (Nat.le_of_eq g95.symm)
  have f99 : Arv Z h95 d95 k95 (.object "java/lang/Object") 1 [.null] .null := (Arv.new A95 (by decide)).pad (pad_rep [] .null 1)
  refine own_goto X95 hx 24 (hb hby own_cq_10) (by decide) (by decide) ?_
  refine own_astoreN X95 hx (l' := #[.val (.ref b), .val (.int (1 : Int32)), .val (.ref mr), .val (.ref d95)]) (hb hby own_cq_24) rfl rfl ?_
  refine own_aloadN X95 hx (hb hby own_cq_25) rfl rfl ?_
  refine own_iconst X95 hx (0 : Int32) (hb hby own_cq_26) rfl ?_
  refine own_aloadN X95 hx (hb hby own_cq_27) rfl rfl ?_
  refine own_iconst X95 hx (0 : Int32) (hb hby own_cq_28) rfl ?_
  refine own_aloadN X95 hx (hb hby own_cq_29) rfl rfl ?_
  have f100 := (VV.ext E95)
  have vo101 := f100
  obtain ⟨cl101, Ar101, qq101, S101, Nn101, H101, G101⟩ := vo101
  refine own_arraylength X95 hx hZ e95 Ar101 (len_of S101 Nn101) (hb hby own_cq_30) ?_
  refine own_iloadN X95 hx (hb hby own_cq_31) rfl ?_
  have f102 := (OX.ext E95)
  refine own_stat X95 hx hZ hown (own_w146 hw) (own_w147 hw) (own_w148 hw) (own_w72 hw) (by decide) e95 (hb hby own_cq_32) (by rw [hml]; rfl) own_pd__28II_29I rfl (W := 4) (Nat.le_of_ble_eq_true rfl) (own_min l Z a0 hw 10 1 h95 n0 f102) (by decide) (by decide) (by decide) (by decide) (argsL := [(.int (10 : Int32)), (.int (1 : Int32))]) (rest := [(.int (0 : Int32)), (.ref d95), (.int (0 : Int32)), (.ref b)]) rfl rfl fun v103 T103 L103 X103 q103 => ?_
  obtain ⟨rfl, M103, e103⟩ := q103
  have N103 := Fr.app N0 M103
  rw [if_pos (by decide)]
  show own_Fin p e below _ (T103.setTop (mkF m 35 #[.val (.ref b), .val (.int (1 : Int32)), .val (.ref mr), .val (.ref d95)] [(.int (1 : Int32)), (.int (0 : Int32)), (.ref d95), (.int (0 : Int32)), (.ref b)]))
  have vo105 := f99
  obtain ⟨cl105, Ar105, qq105, S105, Nn105, H105, G105⟩ := vo105
  have f106 := (EX0.ext E95)
  refine own_arraycopy X103 hx hZ hown (own_w149 hw) (own_w152 hw) (own_w150 hw) (own_w151 hw) e103 f100 f99 (us := [(.ref x0)]) (Or.inr ⟨rfl, rfl, Sto.ofV Ar105 qq105 O95 (Ins.of_exa f106 (own_w76 hw)), trivial⟩) (by decide) (by decide) (by decide) (by decide) (by decide) rfl (by decide) N103 f97 (by rw [hml]; rfl) (hb hby own_cq_35) (by decide) 0 (by decide) (by decide) fun T104 h104 L104 X104 e104 N104 K104 V104 => ?_
  have f107 : Arv Z h104 d95 k95 (.object "java/lang/Object") 1 [(.ref x0)] .null := V104
  refine own_aloadN X104 hx (hb hby own_cq_38) rfl rfl ?_
  refine own_retA X104 hx hret rfl rfl rfl (hb hby own_cq_39) hlk (by decide) (by decide) ?_
  refine ⟨d95, k95, rfl, N104, ?_⟩
  rw [e104]
  exact ⟨own_kext (((Keep.refl h0 []).ext E95).trans K104 (allS (Or.inr f98) all0)), f98, f107⟩
theorem own_cp_0 : decode jdk_65_method_119_code 0 = .ok (.aload_n 0, 1) := by decide +kernel
theorem own_cp_1 : decode jdk_65_method_119_code 1 = .ok (.iload_n 1, 1) := by decide +kernel
theorem own_cp_2 : decode jdk_65_method_119_code 2 = .ok (.aload_n 0, 1) := by decide +kernel
theorem own_cp_3 : decode jdk_65_method_119_code 3 = .ok (.invokevirtual 86, 3) := by decide +kernel
theorem own_cp_6 : decode jdk_65_method_119_code 6 = .ok (.invokestatic 300, 3) := by decide +kernel
theorem own_cp_9 : decode jdk_65_method_119_code 9 = .ok (.areturn, 1) := by decide +kernel
set_option maxRecDepth 65536 in
set_option maxHeartbeats 40000000 in
theorem own_cp1 (l : Launch) (Z : State) (a0 : Array Value) (hw : ∀ d ∈ tables_1, d.before a0 Z = true) (b mr x0 : Addr) (k : ClassId) (h0 : Heap) (n0 : Nat) (OX : Old Z n0 h0) (VV : Arv Z h0 b k (.object "java/lang/Object") 10 [(.ref x0), .null, .null, .null, .null, .null, .null, .null, .null, .null] .null) (EX0 : Exa Z h0 x0 "java/lang/Long") (EB : Exa Z h0 b "[Ljava/lang/Object;") (MM : own_Mir Z "[Ljava/lang/Object;" mr) :
    own_Met l Z (⟨"java/util/Arrays", "copyOf", "([Ljava/lang/Object;I)[Ljava/lang/Object;"⟩ : MethodName) jdk_65_method_119_code 2 (some (.array (.object "java/lang/Object"))) ({ frames := 2, cells := 1, slots := 1, locals := 33 } : Room) #[(.ref b), (.int (1 : Int32))] h0 (fun v h L => ∃ d kd, v = some (.ref d) ∧ Fr n0 L ∧ Ext h0 h ∧ h0.size ≤ d ∧ Arv Z h d kd (.object "java/lang/Object") 1 [(.ref x0)] .null) := by
  refine own_body (Ls := #[.val (.ref b), .val (.int (1 : Int32))]) (plainFor_of_name own_pn_java_util_Arrays) (fun m => by first | (simp [entryFrame, mkF, argsToLocals, Value.category]; done) | rfl) ?_
  intro p e s m below meth c s₁ hx hZ hby hml hown hnm hret hlk X0 e0
  have N0 := Fr.nil n0
  refine own_aloadN X0 hx (hb hby own_cp_0) rfl rfl ?_
  refine own_iloadN X0 hx (hb hby own_cp_1) rfl ?_
  refine own_aloadN X0 hx (hb hby own_cp_2) rfl rfl ?_
  refine own_getClass X0 hx hZ hown (own_w135 hw) (own_w136 hw) (own_w112 hw) (own_w138 hw) (own_w137 hw) (own_w139 hw) e0 EB MM (by rw [hml]; rfl) (hb hby own_cp_3) (by decide) 2 (Nat.le_of_ble_eq_true rfl) (by decide) fun T108 X108 e108 => ?_
  refine own_stat X108 hx hZ hown (own_w141 hw) (own_w142 hw) (own_w143 hw) (own_w133 hw) (by decide) e108 (hb hby own_cp_6) (by rw [hml]; rfl) own_pd__28_5bLjava_2flang_2fObject_3bILjava_2flang_2fClass_3b_29_5bLjava_2flang_2fObject_3b rfl (W := 0) (Nat.le_of_ble_eq_true rfl) (own_cq1 l Z a0 hw b mr x0 k h0 n0 OX VV EX0 EB MM) (by decide) (by decide) (by decide) (by decide) (argsL := [(.ref b), (.int (1 : Int32)), (.ref mr)]) (rest := []) rfl rfl fun v109 T109 L109 X109 q109 => ?_
  obtain ⟨h109, e109⟩ : ∃ z, T109.heap = z := ⟨_, rfl⟩
  try dsimp only at q109
  rw [e109] at q109
  obtain ⟨d, kd, rfl, M109, d1, d2, d3⟩ := q109
  have N109 := Fr.app N0 M109
  show own_Fin p e below _ (T109.setTop (mkF m 9 #[.val (.ref b), .val (.int (1 : Int32))] [(.ref d)]))
  refine own_retA X109 hx hret rfl rfl rfl (hb hby own_cp_9) hlk (by decide) (by decide) ?_
  refine ⟨d, kd, rfl, N109, ?_⟩
  rw [e109]
  exact ⟨d1, d2, d3⟩
theorem own_ta_0 : decode jdk_38_method_16_code 0 = .ok (.aload_n 0, 1) := by decide +kernel
theorem own_ta_1 : decode jdk_38_method_16_code 1 = .ok (.getfield 9, 3) := by decide +kernel
theorem own_ta_4 : decode jdk_38_method_16_code 4 = .ok (.aload_n 0, 1) := by decide +kernel
theorem own_ta_5 : decode jdk_38_method_16_code 5 = .ok (.getfield 48, 3) := by decide +kernel
theorem own_ta_8 : decode jdk_38_method_16_code 8 = .ok (.invokestatic 66, 3) := by decide +kernel
theorem own_ta_11 : decode jdk_38_method_16_code 11 = .ok (.areturn, 1) := by decide +kernel
set_option maxRecDepth 65536 in
set_option maxHeartbeats 40000000 in
theorem own_ta1 (l : Launch) (Z : State) (a0 : Array Value) (hw : ∀ d ∈ tables_1, d.before a0 Z = true) (a : Addr) (b mr x0 : Addr) (k : ClassId) (h0 : Heap) (n0 : Nat) (OX : Old Z n0 h0) (E : Exa Z h0 a "java/util/ArrayList") (F : Fld Z h0 a "java/util/ArrayList" "elementData" "[Ljava/lang/Object;" (.ref b)) (F0 : Fld Z h0 a "java/util/ArrayList" "size" "I" (.int (1 : Int32))) (VV : Arv Z h0 b k (.object "java/lang/Object") 10 [(.ref x0), .null, .null, .null, .null, .null, .null, .null, .null, .null] .null) (EX0 : Exa Z h0 x0 "java/lang/Long") (EB : Exa Z h0 b "[Ljava/lang/Object;") (MM : own_Mir Z "[Ljava/lang/Object;" mr) :
    own_Met l Z (⟨"java/util/ArrayList", "toArray", "()[Ljava/lang/Object;"⟩ : MethodName) jdk_38_method_16_code 1 (some (.array (.object "java/lang/Object"))) ({ frames := 3, cells := 1, slots := 1, locals := 46 } : Room) #[(.ref a)] h0 (fun v h L => ∃ d kd, v = some (.ref d) ∧ Fr n0 L ∧ Ext h0 h ∧ h0.size ≤ d ∧ Arv Z h d kd (.object "java/lang/Object") 1 [(.ref x0)] .null) := by
  refine own_body (Ls := #[.val (.ref a)]) (plainFor_of_name own_pn_java_util_ArrayList) (fun m => by first | (simp [entryFrame, mkF, argsToLocals, Value.category]; done) | rfl) ?_
  intro p e s m below meth c s₁ hx hZ hby hml hown hnm hret hlk X0 e0
  have N0 := Fr.nil n0
  refine own_aloadN X0 hx (hb hby own_ta_0) rfl rfl ?_
  refine own_getfield X0 hx hZ (host := "") hown (Or.inl (own_w24 hw)) Via.refl e0 F (hb hby own_ta_1) fun T110 X110 e110 => ?_
  refine own_aloadN X110 hx (hb hby own_ta_4) rfl rfl ?_
  refine own_getfield X110 hx hZ (host := "") hown (Or.inl (own_w53 hw)) Via.refl e110 F0 (hb hby own_ta_5) fun T111 X111 e111 => ?_
  refine own_stat X111 hx hZ hown (own_w131 hw) (own_w132 hw) (own_w134 hw) (own_w133 hw) (by decide) e111 (hb hby own_ta_8) (by rw [hml]; rfl) own_pd__28_5bLjava_2flang_2fObject_3bI_29_5bLjava_2flang_2fObject_3b rfl (W := 0) (Nat.le_of_ble_eq_true rfl) (own_cp1 l Z a0 hw b mr x0 k h0 n0 OX VV EX0 EB MM) (by decide) (by decide) (by decide) (by decide) (argsL := [(.ref b), (.int (1 : Int32))]) (rest := []) rfl rfl fun v112 T112 L112 X112 q112 => ?_
  obtain ⟨h112, e112⟩ : ∃ z, T112.heap = z := ⟨_, rfl⟩
  try dsimp only at q112
  rw [e112] at q112
  obtain ⟨d, kd, rfl, M112, d1, d2, d3⟩ := q112
  have N112 := Fr.app N0 M112
  show own_Fin p e below _ (T112.setTop (mkF m 11 #[.val (.ref a)] [(.ref d)]))
  refine own_retA X112 hx hret rfl rfl rfl (hb hby own_ta_11) hlk (by decide) (by decide) ?_
  refine ⟨d, kd, rfl, N112, ?_⟩
  rw [e112]
  exact ⟨d1, d2, d3⟩
set_option maxRecDepth 65536 in
set_option maxHeartbeats 40000000 in
theorem own_cq2 (l : Launch) (Z : State) (a0 : Array Value) (hw : ∀ d ∈ tables_1, d.before a0 Z = true) (b mr x0 x1 : Addr) (k : ClassId) (h0 : Heap) (n0 : Nat) (OX : Old Z n0 h0) (VV : Arv Z h0 b k (.object "java/lang/Object") 10 [(.ref x0), (.ref x1), .null, .null, .null, .null, .null, .null, .null, .null] .null) (EX0 : Exa Z h0 x0 "java/lang/Long") (EX1 : Exa Z h0 x1 "java/lang/Long") (EB : Exa Z h0 b "[Ljava/lang/Object;") (MM : own_Mir Z "[Ljava/lang/Object;" mr) :
    own_Met l Z (⟨"java/util/Arrays", "copyOf", "([Ljava/lang/Object;ILjava/lang/Class;)[Ljava/lang/Object;"⟩ : MethodName) jdk_65_method_120_code 4 (some (.array (.object "java/lang/Object"))) ({ frames := 1, cells := 1, slots := 2, locals := 18 } : Room) #[(.ref b), (.int (2 : Int32)), (.ref mr)] h0 (fun v h L => ∃ d kd, v = some (.ref d) ∧ Fr n0 L ∧ Ext h0 h ∧ h0.size ≤ d ∧ Arv Z h d kd (.object "java/lang/Object") 2 [(.ref x0), (.ref x1)] .null) := by
  refine own_body (Ls := #[.val (.ref b), .val (.int (2 : Int32)), .val (.ref mr), .unset]) (plainFor_of_name own_pn_java_util_Arrays) (fun m => by first | (simp [entryFrame, mkF, argsToLocals, Value.category]; done) | rfl) ?_
  intro p e s m below meth c s₁ hx hZ hby hml hown hnm hret hlk X0 e0
  have N0 := Fr.nil n0
  refine own_aloadN X0 hx (hb hby own_cq_0) rfl rfl ?_
  refine own_ldcC X0 hx hZ hown (own_w144 hw) e0 MM (hb hby own_cq_1) fun T113 X113 e113 => ?_
  refine own_acmpNo X113 hx (hb hby own_cq_3) rfl rfl (Jvm.Free.XT.aa_ne_f rfl) ?_
  refine own_iloadN X113 hx (hb hby own_cq_6) rfl ?_
  refine own_anewarray X113 hx hZ hown (own_w145 hw) (own_w75 hw) e113 (hb hby own_cq_7) (by decide) 2 (by decide) (by decide) (by decide) (by decide) rfl fun T114 h114 d114 k114 X114 e114 g114 E114 A114 Q114 O114 => ?_
  have f115 := Nat.ne_of_lt (Nat.lt_of_lt_of_le EB.lt (Nat.le_of_eq g114.symm))
  have f116 : n0 ≤ d114 := Nat.le_trans (own_old OX) (Nat.le_of_eq g114.symm)
  have f117 : h0.size ≤ d114 := Nat.le_trans (Keep.refl h0 []).1 (Nat.le_of_eq g114.symm)
  have f118 : Arv Z h114 d114 k114 (.object "java/lang/Object") 2 [.null, .null] .null := (Arv.new A114 (by decide)).pad (pad_rep [] .null 2)
  refine own_goto X114 hx 24 (hb hby own_cq_10) (by decide) (by decide) ?_
  refine own_astoreN X114 hx (l' := #[.val (.ref b), .val (.int (2 : Int32)), .val (.ref mr), .val (.ref d114)]) (hb hby own_cq_24) rfl rfl ?_
  refine own_aloadN X114 hx (hb hby own_cq_25) rfl rfl ?_
  refine own_iconst X114 hx (0 : Int32) (hb hby own_cq_26) rfl ?_
  refine own_aloadN X114 hx (hb hby own_cq_27) rfl rfl ?_
  refine own_iconst X114 hx (0 : Int32) (hb hby own_cq_28) rfl ?_
  refine own_aloadN X114 hx (hb hby own_cq_29) rfl rfl ?_
  have f119 := (VV.ext E114)
  have vo120 := f119
  obtain ⟨cl120, Ar120, qq120, S120, Nn120, H120, G120⟩ := vo120
  refine own_arraylength X114 hx hZ e114 Ar120 (len_of S120 Nn120) (hb hby own_cq_30) ?_
  refine own_iloadN X114 hx (hb hby own_cq_31) rfl ?_
  have f121 := (OX.ext E114)
  refine own_stat X114 hx hZ hown (own_w146 hw) (own_w147 hw) (own_w148 hw) (own_w72 hw) (by decide) e114 (hb hby own_cq_32) (by rw [hml]; rfl) own_pd__28II_29I rfl (W := 4) (Nat.le_of_ble_eq_true rfl) (own_min l Z a0 hw 10 2 h114 n0 f121) (by decide) (by decide) (by decide) (by decide) (argsL := [(.int (10 : Int32)), (.int (2 : Int32))]) (rest := [(.int (0 : Int32)), (.ref d114), (.int (0 : Int32)), (.ref b)]) rfl rfl fun v122 T122 L122 X122 q122 => ?_
  obtain ⟨rfl, M122, e122⟩ := q122
  have N122 := Fr.app N0 M122
  rw [if_pos (by decide)]
  show own_Fin p e below _ (T122.setTop (mkF m 35 #[.val (.ref b), .val (.int (2 : Int32)), .val (.ref mr), .val (.ref d114)] [(.int (2 : Int32)), (.int (0 : Int32)), (.ref d114), (.int (0 : Int32)), (.ref b)]))
  have vo124 := f118
  obtain ⟨cl124, Ar124, qq124, S124, Nn124, H124, G124⟩ := vo124
  have f125 := (EX0.ext E114)
  have f126 := (EX1.ext E114)
  refine own_arraycopy X122 hx hZ hown (own_w149 hw) (own_w152 hw) (own_w150 hw) (own_w151 hw) e122 f119 f118 (us := [(.ref x0), (.ref x1)]) (Or.inr ⟨rfl, rfl, Sto.ofV Ar124 qq124 O114 (Ins.of_exa f125 (own_w76 hw)), Sto.ofV Ar124 qq124 O114 (Ins.of_exa f126 (own_w76 hw)), trivial⟩) (by decide) (by decide) (by decide) (by decide) (by decide) rfl (by decide) N122 f116 (by rw [hml]; rfl) (hb hby own_cq_35) (by decide) 0 (by decide) (by decide) fun T123 h123 L123 X123 e123 N123 K123 V123 => ?_
  have f127 : Arv Z h123 d114 k114 (.object "java/lang/Object") 2 [(.ref x0), (.ref x1)] .null := V123
  refine own_aloadN X123 hx (hb hby own_cq_38) rfl rfl ?_
  refine own_retA X123 hx hret rfl rfl rfl (hb hby own_cq_39) hlk (by decide) (by decide) ?_
  refine ⟨d114, k114, rfl, N123, ?_⟩
  rw [e123]
  exact ⟨own_kext (((Keep.refl h0 []).ext E114).trans K123 (allS (Or.inr f117) all0)), f117, f127⟩
set_option maxRecDepth 65536 in
set_option maxHeartbeats 40000000 in
theorem own_cp2 (l : Launch) (Z : State) (a0 : Array Value) (hw : ∀ d ∈ tables_1, d.before a0 Z = true) (b mr x0 x1 : Addr) (k : ClassId) (h0 : Heap) (n0 : Nat) (OX : Old Z n0 h0) (VV : Arv Z h0 b k (.object "java/lang/Object") 10 [(.ref x0), (.ref x1), .null, .null, .null, .null, .null, .null, .null, .null] .null) (EX0 : Exa Z h0 x0 "java/lang/Long") (EX1 : Exa Z h0 x1 "java/lang/Long") (EB : Exa Z h0 b "[Ljava/lang/Object;") (MM : own_Mir Z "[Ljava/lang/Object;" mr) :
    own_Met l Z (⟨"java/util/Arrays", "copyOf", "([Ljava/lang/Object;I)[Ljava/lang/Object;"⟩ : MethodName) jdk_65_method_119_code 2 (some (.array (.object "java/lang/Object"))) ({ frames := 2, cells := 1, slots := 2, locals := 33 } : Room) #[(.ref b), (.int (2 : Int32))] h0 (fun v h L => ∃ d kd, v = some (.ref d) ∧ Fr n0 L ∧ Ext h0 h ∧ h0.size ≤ d ∧ Arv Z h d kd (.object "java/lang/Object") 2 [(.ref x0), (.ref x1)] .null) := by
  refine own_body (Ls := #[.val (.ref b), .val (.int (2 : Int32))]) (plainFor_of_name own_pn_java_util_Arrays) (fun m => by first | (simp [entryFrame, mkF, argsToLocals, Value.category]; done) | rfl) ?_
  intro p e s m below meth c s₁ hx hZ hby hml hown hnm hret hlk X0 e0
  have N0 := Fr.nil n0
  refine own_aloadN X0 hx (hb hby own_cp_0) rfl rfl ?_
  refine own_iloadN X0 hx (hb hby own_cp_1) rfl ?_
  refine own_aloadN X0 hx (hb hby own_cp_2) rfl rfl ?_
  refine own_getClass X0 hx hZ hown (own_w135 hw) (own_w136 hw) (own_w112 hw) (own_w138 hw) (own_w137 hw) (own_w139 hw) e0 EB MM (by rw [hml]; rfl) (hb hby own_cp_3) (by decide) 2 (Nat.le_of_ble_eq_true rfl) (by decide) fun T128 X128 e128 => ?_
  refine own_stat X128 hx hZ hown (own_w141 hw) (own_w142 hw) (own_w143 hw) (own_w133 hw) (by decide) e128 (hb hby own_cp_6) (by rw [hml]; rfl) own_pd__28_5bLjava_2flang_2fObject_3bILjava_2flang_2fClass_3b_29_5bLjava_2flang_2fObject_3b rfl (W := 0) (Nat.le_of_ble_eq_true rfl) (own_cq2 l Z a0 hw b mr x0 x1 k h0 n0 OX VV EX0 EX1 EB MM) (by decide) (by decide) (by decide) (by decide) (argsL := [(.ref b), (.int (2 : Int32)), (.ref mr)]) (rest := []) rfl rfl fun v129 T129 L129 X129 q129 => ?_
  obtain ⟨h129, e129⟩ : ∃ z, T129.heap = z := ⟨_, rfl⟩
  try dsimp only at q129
  rw [e129] at q129
  obtain ⟨d, kd, rfl, M129, d1, d2, d3⟩ := q129
  have N129 := Fr.app N0 M129
  show own_Fin p e below _ (T129.setTop (mkF m 9 #[.val (.ref b), .val (.int (2 : Int32))] [(.ref d)]))
  refine own_retA X129 hx hret rfl rfl rfl (hb hby own_cp_9) hlk (by decide) (by decide) ?_
  refine ⟨d, kd, rfl, N129, ?_⟩
  rw [e129]
  exact ⟨d1, d2, d3⟩
set_option maxRecDepth 65536 in
set_option maxHeartbeats 40000000 in
theorem own_ta2 (l : Launch) (Z : State) (a0 : Array Value) (hw : ∀ d ∈ tables_1, d.before a0 Z = true) (a : Addr) (b mr x0 x1 : Addr) (k : ClassId) (h0 : Heap) (n0 : Nat) (OX : Old Z n0 h0) (E : Exa Z h0 a "java/util/ArrayList") (F : Fld Z h0 a "java/util/ArrayList" "elementData" "[Ljava/lang/Object;" (.ref b)) (F0 : Fld Z h0 a "java/util/ArrayList" "size" "I" (.int (2 : Int32))) (VV : Arv Z h0 b k (.object "java/lang/Object") 10 [(.ref x0), (.ref x1), .null, .null, .null, .null, .null, .null, .null, .null] .null) (EX0 : Exa Z h0 x0 "java/lang/Long") (EX1 : Exa Z h0 x1 "java/lang/Long") (EB : Exa Z h0 b "[Ljava/lang/Object;") (MM : own_Mir Z "[Ljava/lang/Object;" mr) :
    own_Met l Z (⟨"java/util/ArrayList", "toArray", "()[Ljava/lang/Object;"⟩ : MethodName) jdk_38_method_16_code 1 (some (.array (.object "java/lang/Object"))) ({ frames := 3, cells := 1, slots := 2, locals := 46 } : Room) #[(.ref a)] h0 (fun v h L => ∃ d kd, v = some (.ref d) ∧ Fr n0 L ∧ Ext h0 h ∧ h0.size ≤ d ∧ Arv Z h d kd (.object "java/lang/Object") 2 [(.ref x0), (.ref x1)] .null) := by
  refine own_body (Ls := #[.val (.ref a)]) (plainFor_of_name own_pn_java_util_ArrayList) (fun m => by first | (simp [entryFrame, mkF, argsToLocals, Value.category]; done) | rfl) ?_
  intro p e s m below meth c s₁ hx hZ hby hml hown hnm hret hlk X0 e0
  have N0 := Fr.nil n0
  refine own_aloadN X0 hx (hb hby own_ta_0) rfl rfl ?_
  refine own_getfield X0 hx hZ (host := "") hown (Or.inl (own_w24 hw)) Via.refl e0 F (hb hby own_ta_1) fun T130 X130 e130 => ?_
  refine own_aloadN X130 hx (hb hby own_ta_4) rfl rfl ?_
  refine own_getfield X130 hx hZ (host := "") hown (Or.inl (own_w53 hw)) Via.refl e130 F0 (hb hby own_ta_5) fun T131 X131 e131 => ?_
  refine own_stat X131 hx hZ hown (own_w131 hw) (own_w132 hw) (own_w134 hw) (own_w133 hw) (by decide) e131 (hb hby own_ta_8) (by rw [hml]; rfl) own_pd__28_5bLjava_2flang_2fObject_3bI_29_5bLjava_2flang_2fObject_3b rfl (W := 0) (Nat.le_of_ble_eq_true rfl) (own_cp2 l Z a0 hw b mr x0 x1 k h0 n0 OX VV EX0 EX1 EB MM) (by decide) (by decide) (by decide) (by decide) (argsL := [(.ref b), (.int (2 : Int32))]) (rest := []) rfl rfl fun v132 T132 L132 X132 q132 => ?_
  obtain ⟨h132, e132⟩ : ∃ z, T132.heap = z := ⟨_, rfl⟩
  try dsimp only at q132
  rw [e132] at q132
  obtain ⟨d, kd, rfl, M132, d1, d2, d3⟩ := q132
  have N132 := Fr.app N0 M132
  show own_Fin p e below _ (T132.setTop (mkF m 11 #[.val (.ref a)] [(.ref d)]))
  refine own_retA X132 hx hret rfl rfl rfl (hb hby own_ta_11) hlk (by decide) (by decide) ?_
  refine ⟨d, kd, rfl, N132, ?_⟩
  rw [e132]
  exact ⟨d1, d2, d3⟩
theorem own_rnn_0 : decode jdk_31_method_10_code 0 = .ok (.aload_n 0, 1) := by decide +kernel
theorem own_rnn_1 : decode jdk_31_method_10_code 1 = .ok (.ifnonnull 11, 3) := by decide +kernel
theorem own_rnn_4 : decode jdk_31_method_10_code 4 = .ok (.new 84, 3) := by decide +kernel
theorem own_rnn_7 : decode jdk_31_method_10_code 7 = .ok (.dup, 1) := by decide +kernel
theorem own_rnn_8 : decode jdk_31_method_10_code 8 = .ok (.invokespecial 86, 3) := by decide +kernel
theorem own_rnn_11 : decode jdk_31_method_10_code 11 = .ok (.athrow, 1) := by decide +kernel
theorem own_rnn_12 : decode jdk_31_method_10_code 12 = .ok (.aload_n 0, 1) := by decide +kernel
theorem own_rnn_13 : decode jdk_31_method_10_code 13 = .ok (.areturn, 1) := by decide +kernel
theorem own_pn_java_util_Objects : plainName "java/util/Objects" = true := by first | (simp [plainName, overriddenIn]; done) | decide +kernel
set_option maxRecDepth 65536 in
set_option maxHeartbeats 40000000 in
theorem own_rnn (l : Launch) (Z : State) (a0 : Array Value) (hw : ∀ d ∈ tables_1, d.before a0 Z = true) (x : Addr) (h0 : Heap) (n0 : Nat) (OX : Old Z n0 h0)  :
    own_Met l Z (⟨"java/util/Objects", "requireNonNull", "(Ljava/lang/Object;)Ljava/lang/Object;"⟩ : MethodName) jdk_31_method_10_code 1 (some (.object "java/lang/Object")) ({ frames := 0, cells := 0, slots := 0, locals := 0 } : Room) #[(.ref x)] h0 (fun v h L => v = some (.ref x) ∧ Fr n0 L ∧ h = h0) := by
  refine own_body (Ls := #[.val (.ref x)]) (plainFor_of_name own_pn_java_util_Objects) (fun m => by first | (simp [entryFrame, mkF, argsToLocals, Value.category]; done) | rfl) ?_
  intro p e s m below meth c s₁ hx hZ hby hml hown hnm hret hlk X0 e0
  have N0 := Fr.nil n0
  refine own_aloadN X0 hx (hb hby own_rnn_0) rfl rfl ?_
  refine own_ifnonnullYes X0 hx 12 (hb hby own_rnn_1) (by decide) (by decide) ?_
  refine own_aloadN X0 hx (hb hby own_rnn_12) rfl rfl ?_
  refine own_retA X0 hx hret rfl rfl rfl (hb hby own_rnn_13) hlk (by decide) (by decide) ?_
  exact ⟨rfl, N0, e0⟩
theorem own_li1_0 : decode jdk_44_method_1_code 0 = .ok (.aload_n 0, 1) := by decide +kernel
theorem own_li1_1 : decode jdk_44_method_1_code 1 = .ok (.invokespecial 1, 3) := by decide +kernel
theorem own_li1_4 : decode jdk_44_method_1_code 4 = .ok (.aload_n 0, 1) := by decide +kernel
theorem own_li1_5 : decode jdk_44_method_1_code 5 = .ok (.aload_n 1, 1) := by decide +kernel
theorem own_li1_6 : decode jdk_44_method_1_code 6 = .ok (.invokestatic 7, 3) := by decide +kernel
theorem own_li1_9 : decode jdk_44_method_1_code 9 = .ok (.putfield 13, 3) := by decide +kernel
theorem own_li1_12 : decode jdk_44_method_1_code 12 = .ok (.aload_n 0, 1) := by decide +kernel
theorem own_li1_13 : decode jdk_44_method_1_code 13 = .ok (.getstatic 19, 3) := by decide +kernel
theorem own_li1_16 : decode jdk_44_method_1_code 16 = .ok (.putfield 24, 3) := by decide +kernel
theorem own_li1_19 : decode jdk_44_method_1_code 19 = .ok (.return_, 1) := by decide +kernel
theorem own_pn_java_util_ImmutableCollections_List12 : plainName "java/util/ImmutableCollections$List12" = true := by first | (simp [plainName, overriddenIn]; done) | decide +kernel
theorem own_pd__28Ljava_2flang_2fObject_3b_29Ljava_2flang_2fObject_3b : parseMethodDescriptor "(Ljava/lang/Object;)Ljava/lang/Object;" = some ⟨[(.object "java/lang/Object")], some (.object "java/lang/Object")⟩ := by decide +kernel
theorem own_fd_Ljava_2flang_2fObject_3b : parseFieldDescriptor "Ljava/lang/Object;" = some (.object "java/lang/Object") := by decide +kernel
set_option maxRecDepth 65536 in
set_option maxHeartbeats 40000000 in
theorem own_li1 (l : Launch) (Z : State) (a0 : Array Value) (hw : ∀ d ∈ tables_1, d.before a0 Z = true) (a em x0 : Addr) (u0 u1 : Value) (h0 : Heap) (n0 : Nat) (OX : Old Z n0 h0) (E : Exa Z h0 a "java/util/ImmutableCollections$List12") (F0 : Fld Z h0 a "java/util/ImmutableCollections$List12" "e0" "Ljava/lang/Object;" u0) (F1 : Fld Z h0 a "java/util/ImmutableCollections$List12" "e1" "Ljava/lang/Object;" u1) (g : n0 ≤ a) (SE : Sta Z Z.heap "java/util/ImmutableCollections" "EMPTY" "Ljava/lang/Object;" (.ref em)) :
    own_Met l Z (⟨"java/util/ImmutableCollections$List12", "<init>", "(Ljava/lang/Object;)V"⟩ : MethodName) jdk_44_method_1_code 2 none ({ frames := 4, cells := 0, slots := 0, locals := 48 } : Room) #[(.ref a), (.ref x0)] h0 (fun v h L => v = none ∧ Fr n0 L ∧ ∃ h1, Wr h0 h1 a (Jvm.RoadKit.slotOf Z "java/util/ImmutableCollections$List12" "e0" "Ljava/lang/Object;") (.ref x0) ∧ Wr h1 h a (Jvm.RoadKit.slotOf Z "java/util/ImmutableCollections$List12" "e1" "Ljava/lang/Object;") (.ref em)) := by
  refine own_body (Ls := #[.val (.ref a), .val (.ref x0)]) (plainFor_of_name own_pn_java_util_ImmutableCollections_List12) (fun m => by first | (simp [entryFrame, mkF, argsToLocals, Value.category]; done) | rfl) ?_
  intro p e s m below meth c s₁ hx hZ hby hml hown hnm hret hlk X0 e0
  have N0 := Fr.nil n0
  refine own_aloadN X0 hx (hb hby own_li1_0) rfl rfl ?_
  refine own_spec X0 hx hZ rfl hown (own_w163 hw) (own_w164 hw) (own_w168 hw) (own_w167 hw) (by decide) e0 (hb hby own_li1_1) (by rw [hml]; rfl) own_pd__28_29V rfl (W := 0) (Nat.le_of_ble_eq_true rfl) (own_ail l Z a0 hw a h0 n0 OX) (by decide) (by decide) (by decide) (by decide) (a := a) (argsL := []) (rest := []) rfl rfl fun v133 T133 L133 X133 q133 => ?_
  obtain ⟨rfl, M133, e133⟩ := q133
  have N133 := Fr.app N0 M133
  show own_Fin p e below _ (T133.setTop (mkF m 4 #[.val (.ref a), .val (.ref x0)] []))
  refine own_aloadN X133 hx (hb hby own_li1_4) rfl rfl ?_
  refine own_aloadN X133 hx (hb hby own_li1_5) rfl rfl ?_
  refine own_stat X133 hx hZ hown (own_w177 hw) (own_w178 hw) (own_w180 hw) (own_w179 hw) (by decide) e133 (hb hby own_li1_6) (by rw [hml]; rfl) own_pd__28Ljava_2flang_2fObject_3b_29Ljava_2flang_2fObject_3b rfl (W := 1) (Nat.le_of_ble_eq_true rfl) (own_rnn l Z a0 hw x0 h0 n0 OX) (by decide) (by decide) (by decide) (by decide) (argsL := [(.ref x0)]) (rest := [(.ref a)]) rfl rfl fun v134 T134 L134 X134 q134 => ?_
  obtain ⟨rfl, M134, e134⟩ := q134
  have N134 := Fr.app N133 M134
  show own_Fin p e below _ (T134.setTop (mkF m 9 #[.val (.ref a), .val (.ref x0)] [(.ref x0), (.ref a)]))
  refine own_putfield X134 hx hZ (host := "") hown (Or.inl (own_w181 hw)) Via.refl e134 F0 E (Or.inr ⟨(own_w182 hw), rfl, hnm⟩) (own_w157 hw) own_fd_Ljava_2flang_2fObject_3b rfl rfl (hb hby own_li1_9) fun T135 h135 X135 e135 W135 => ?_
  have N135 := Fr.snoc X135 N134 g
  refine own_aloadN X135 hx (hb hby own_li1_12) rfl rfl ?_
  have f136 := (OX.wr W135 g)
  refine own_getstatic X135 hx hZ hown (Or.inr (own_w183 hw)) Via.refl e135 (SE.ext f136.2) (hb hby own_li1_13) fun T137 X137 e137 => ?_
  have f138 := (F1.other W135 (Or.inr (slot_ne (Or.inr (own_w185 hw)) (Or.inr (own_w182 hw)) (by decide) own_fd_Ljava_2flang_2fObject_3b own_fd_Ljava_2flang_2fObject_3b)))
  have f139 := (E.wr W135)
  refine own_putfield X137 hx hZ (host := "") hown (Or.inl (own_w184 hw)) Via.refl e137 f138 f139 (Or.inr ⟨(own_w185 hw), rfl, hnm⟩) (own_w157 hw) own_fd_Ljava_2flang_2fObject_3b rfl rfl (hb hby own_li1_16) fun T140 h140 X140 e140 W140 => ?_
  have N140 := Fr.snoc X140 N135 g
  refine own_retV X140 hx hret (hb hby own_li1_19) hlk (by decide) (by decide) ?_
  exact ⟨rfl, N140, _, W135, by rw [e140]; exact W140⟩
theorem own_lo_0 : decode jdk_40_method_47_code 0 = .ok (.aload_n 0, 1) := by decide +kernel
theorem own_lo_1 : decode jdk_40_method_47_code 1 = .ok (.arraylength, 1) := by decide +kernel
theorem own_lo_2 : decode jdk_40_method_47_code 2 = .ok (.tableswitch 57 0 2 #[26, 32, 43], 26) := by decide +kernel
theorem own_lo_28 : decode jdk_40_method_47_code 28 = .ok (.getstatic 90, 3) := by decide +kernel
theorem own_lo_31 : decode jdk_40_method_47_code 31 = .ok (.astore_n 1, 1) := by decide +kernel
theorem own_lo_32 : decode jdk_40_method_47_code 32 = .ok (.aload_n 1, 1) := by decide +kernel
theorem own_lo_33 : decode jdk_40_method_47_code 33 = .ok (.areturn, 1) := by decide +kernel
theorem own_lo_34 : decode jdk_40_method_47_code 34 = .ok (.new 96, 3) := by decide +kernel
theorem own_lo_37 : decode jdk_40_method_47_code 37 = .ok (.dup, 1) := by decide +kernel
theorem own_lo_38 : decode jdk_40_method_47_code 38 = .ok (.aload_n 0, 1) := by decide +kernel
theorem own_lo_39 : decode jdk_40_method_47_code 39 = .ok (.iconst 0, 1) := by decide +kernel
theorem own_lo_40 : decode jdk_40_method_47_code 40 = .ok (.aaload, 1) := by decide +kernel
theorem own_lo_41 : decode jdk_40_method_47_code 41 = .ok (.invokespecial 98, 3) := by decide +kernel
theorem own_lo_44 : decode jdk_40_method_47_code 44 = .ok (.areturn, 1) := by decide +kernel
theorem own_lo_45 : decode jdk_40_method_47_code 45 = .ok (.new 96, 3) := by decide +kernel
theorem own_lo_48 : decode jdk_40_method_47_code 48 = .ok (.dup, 1) := by decide +kernel
theorem own_lo_49 : decode jdk_40_method_47_code 49 = .ok (.aload_n 0, 1) := by decide +kernel
theorem own_lo_50 : decode jdk_40_method_47_code 50 = .ok (.iconst 0, 1) := by decide +kernel
theorem own_lo_51 : decode jdk_40_method_47_code 51 = .ok (.aaload, 1) := by decide +kernel
theorem own_lo_52 : decode jdk_40_method_47_code 52 = .ok (.aload_n 0, 1) := by decide +kernel
theorem own_lo_53 : decode jdk_40_method_47_code 53 = .ok (.iconst 1, 1) := by decide +kernel
theorem own_lo_54 : decode jdk_40_method_47_code 54 = .ok (.aaload, 1) := by decide +kernel
theorem own_lo_55 : decode jdk_40_method_47_code 55 = .ok (.invokespecial 100, 3) := by decide +kernel
theorem own_lo_58 : decode jdk_40_method_47_code 58 = .ok (.areturn, 1) := by decide +kernel
theorem own_lo_59 : decode jdk_40_method_47_code 59 = .ok (.aload_n 0, 1) := by decide +kernel
theorem own_lo_60 : decode jdk_40_method_47_code 60 = .ok (.invokestatic 109, 3) := by decide +kernel
theorem own_lo_63 : decode jdk_40_method_47_code 63 = .ok (.areturn, 1) := by decide +kernel
theorem own_pn_java_util_List : plainName "java/util/List" = true := by first | (simp [plainName, overriddenIn]; done) | decide +kernel
theorem own_pd__28Ljava_2futil_2fCollection_3b_29Ljava_2futil_2fList_3b : parseMethodDescriptor "(Ljava/util/Collection;)Ljava/util/List;" = some ⟨[(.object "java/util/Collection")], some (.object "java/util/List")⟩ := by decide +kernel
theorem own_pd__28Ljava_2flang_2fObject_3b_29V : parseMethodDescriptor "(Ljava/lang/Object;)V" = some ⟨[(.object "java/lang/Object")], none⟩ := by decide +kernel
theorem own_pd__28Ljava_2flang_2fObject_3bLjava_2flang_2fObject_3b_29V : parseMethodDescriptor "(Ljava/lang/Object;Ljava/lang/Object;)V" = some ⟨[(.object "java/lang/Object"), (.object "java/lang/Object")], none⟩ := by decide +kernel
set_option maxRecDepth 65536 in
set_option maxHeartbeats 40000000 in
theorem own_lo1 (l : Launch) (Z : State) (a0 : Array Value) (hw : ∀ d ∈ tables_1, d.before a0 Z = true) (d em x0 : Addr) (kd : ClassId) (h0 : Heap) (n0 : Nat) (OX : Old Z n0 h0) (VD : Arv Z h0 d kd (.object "java/lang/Object") 1 [(.ref x0)] .null) (SE : Sta Z Z.heap "java/util/ImmutableCollections" "EMPTY" "Ljava/lang/Object;" (.ref em)) :
    own_Met l Z (⟨"java/util/List", "of", "([Ljava/lang/Object;)Ljava/util/List;"⟩ : MethodName) jdk_40_method_47_code 2 (some (.object "java/util/List")) ({ frames := 5, cells := 1, slots := 2, locals := 62 } : Room) #[(.ref d)] h0 (fun v h L => ∃ y, v = some (.ref y) ∧ Fr n0 L ∧ Ext h0 h ∧ h0.size ≤ y ∧ own_L12 Z h y (.ref x0) (.ref em)) := by
  refine own_body (Ls := #[.val (.ref d), .unset]) (plainFor_of_name own_pn_java_util_List) (fun m => by first | (simp [entryFrame, mkF, argsToLocals, Value.category]; done) | rfl) ?_
  intro p e s m below meth c s₁ hx hZ hby hml hown hnm hret hlk X0 e0
  have N0 := Fr.nil n0
  refine own_aloadN X0 hx (hb hby own_lo_0) rfl rfl ?_
  have vo141 := VD
  obtain ⟨cl141, Ar141, qq141, S141, Nn141, H141, G141⟩ := vo141
  refine own_arraylength X0 hx hZ e0 Ar141 (len_of S141 Nn141) (hb hby own_lo_1) ?_
  refine own_tsw X0 hx 34 (hb hby own_lo_2) (by decide) rfl (by decide) (by decide) ?_
  refine own_new X0 hx hZ hown (own_w156 hw) (own_w157 hw) (own_w158 hw) e0 (hb hby own_lo_34) (by decide) (by decide) fun T142 h142 b142 X142 e142 g142 E142 A142 D142 => ?_
  have f143 : n0 ≤ b142 := Nat.le_trans (own_old OX) (Nat.le_of_eq g142.symm)
  have f144 : h0.size ≤ b142 := Nat.le_trans (Keep.refl h0 []).1 (Nat.le_of_eq g142.symm)
  have f145 : Fld Z h142 b142 "java/util/ImmutableCollections$List12" "e0" "Ljava/lang/Object;" .null := D142 (Or.inr (own_w182 hw)) own_fd_Ljava_2flang_2fObject_3b
  have f146 : Fld Z h142 b142 "java/util/ImmutableCollections$List12" "e1" "Ljava/lang/Object;" .null := D142 (Or.inr (own_w185 hw)) own_fd_Ljava_2flang_2fObject_3b
  refine own_dup X142 hx (hb hby own_lo_37) rfl ?_
  refine own_aloadN X142 hx (hb hby own_lo_38) rfl rfl ?_
  refine own_iconst X142 hx (0 : Int32) (hb hby own_lo_39) rfl ?_
  have f147 := (VD.ext E142)
  have vo148 := f147
  obtain ⟨cl148, Ar148, qq148, S148, Nn148, H148, G148⟩ := vo148
  refine own_aaload X142 hx hZ e142 Ar148 rfl (inb_of S148 ⟨by decide, by decide⟩) (Has.at H148 (inb_of S148 ⟨by decide, by decide⟩) rfl) (hb hby own_lo_40) ?_
  have f149 := (OX.ext E142)
  refine own_spec X142 hx hZ rfl hown (own_w159 hw) (own_w160 hw) (own_w162 hw) (own_w158 hw) (by decide) e142 (hb hby own_lo_41) (by rw [hml]; rfl) own_pd__28Ljava_2flang_2fObject_3b_29V rfl (W := 1) (Nat.le_of_ble_eq_true rfl) (own_li1 l Z a0 hw b142 em x0 _ _ h142 n0 f149 A142 f145 f146 f143 SE) (by decide) (by decide) (by decide) (by decide) (a := b142) (argsL := [(.ref x0)]) (rest := [(.ref b142)]) rfl rfl fun v150 T150 L150 X150 q150 => ?_
  obtain ⟨h150, e150⟩ : ∃ z, T150.heap = z := ⟨_, rfl⟩
  try dsimp only at q150
  rw [e150] at q150
  obtain ⟨rfl, M150, j150, W150, U150⟩ := q150
  have N150 := Fr.app N0 M150
  have f151 := (f146.other W150 (Or.inr (slot_ne (Or.inr (own_w185 hw)) (Or.inr (own_w182 hw)) (by decide) own_fd_Ljava_2flang_2fObject_3b own_fd_Ljava_2flang_2fObject_3b)))
  show own_Fin p e below _ (T150.setTop (mkF m 44 #[.val (.ref d), .unset] [(.ref b142)]))
  refine own_retA X150 hx hret rfl rfl rfl (hb hby own_lo_44) hlk (by decide) (by decide) ?_
  refine ⟨b142, rfl, N150, ?_⟩
  rw [e150]
  exact ⟨own_kext ((((Keep.refl h0 []).ext E142).wr W150 (Or.inr f144)).wr U150 (Or.inr f144)), f144, ((A142.wr W150).wr U150), ((f145.same W150).other U150 (Or.inr (slot_ne (Or.inr (own_w182 hw)) (Or.inr (own_w185 hw)) (by decide) own_fd_Ljava_2flang_2fObject_3b own_fd_Ljava_2flang_2fObject_3b))), (f151.same U150)⟩
theorem own_li2_0 : decode jdk_44_method_2_code 0 = .ok (.aload_n 0, 1) := by decide +kernel
theorem own_li2_1 : decode jdk_44_method_2_code 1 = .ok (.invokespecial 1, 3) := by decide +kernel
theorem own_li2_4 : decode jdk_44_method_2_code 4 = .ok (.aload_n 0, 1) := by decide +kernel
theorem own_li2_5 : decode jdk_44_method_2_code 5 = .ok (.aload_n 1, 1) := by decide +kernel
theorem own_li2_6 : decode jdk_44_method_2_code 6 = .ok (.invokestatic 7, 3) := by decide +kernel
theorem own_li2_9 : decode jdk_44_method_2_code 9 = .ok (.putfield 13, 3) := by decide +kernel
theorem own_li2_12 : decode jdk_44_method_2_code 12 = .ok (.aload_n 0, 1) := by decide +kernel
theorem own_li2_13 : decode jdk_44_method_2_code 13 = .ok (.aload_n 2, 1) := by decide +kernel
theorem own_li2_14 : decode jdk_44_method_2_code 14 = .ok (.invokestatic 7, 3) := by decide +kernel
theorem own_li2_17 : decode jdk_44_method_2_code 17 = .ok (.putfield 24, 3) := by decide +kernel
theorem own_li2_20 : decode jdk_44_method_2_code 20 = .ok (.return_, 1) := by decide +kernel
set_option maxRecDepth 65536 in
set_option maxHeartbeats 40000000 in
theorem own_li2 (l : Launch) (Z : State) (a0 : Array Value) (hw : ∀ d ∈ tables_1, d.before a0 Z = true) (a em x0 x1 : Addr) (u0 u1 : Value) (h0 : Heap) (n0 : Nat) (OX : Old Z n0 h0) (E : Exa Z h0 a "java/util/ImmutableCollections$List12") (F0 : Fld Z h0 a "java/util/ImmutableCollections$List12" "e0" "Ljava/lang/Object;" u0) (F1 : Fld Z h0 a "java/util/ImmutableCollections$List12" "e1" "Ljava/lang/Object;" u1) (g : n0 ≤ a) (SE : Sta Z Z.heap "java/util/ImmutableCollections" "EMPTY" "Ljava/lang/Object;" (.ref em)) :
    own_Met l Z (⟨"java/util/ImmutableCollections$List12", "<init>", "(Ljava/lang/Object;Ljava/lang/Object;)V"⟩ : MethodName) jdk_44_method_2_code 3 none ({ frames := 4, cells := 0, slots := 0, locals := 48 } : Room) #[(.ref a), (.ref x0), (.ref x1)] h0 (fun v h L => v = none ∧ Fr n0 L ∧ ∃ h1, Wr h0 h1 a (Jvm.RoadKit.slotOf Z "java/util/ImmutableCollections$List12" "e0" "Ljava/lang/Object;") (.ref x0) ∧ Wr h1 h a (Jvm.RoadKit.slotOf Z "java/util/ImmutableCollections$List12" "e1" "Ljava/lang/Object;") (.ref x1)) := by
  refine own_body (Ls := #[.val (.ref a), .val (.ref x0), .val (.ref x1)]) (plainFor_of_name own_pn_java_util_ImmutableCollections_List12) (fun m => by first | (simp [entryFrame, mkF, argsToLocals, Value.category]; done) | rfl) ?_
  intro p e s m below meth c s₁ hx hZ hby hml hown hnm hret hlk X0 e0
  have N0 := Fr.nil n0
  refine own_aloadN X0 hx (hb hby own_li2_0) rfl rfl ?_
  refine own_spec X0 hx hZ rfl hown (own_w163 hw) (own_w164 hw) (own_w168 hw) (own_w167 hw) (by decide) e0 (hb hby own_li2_1) (by rw [hml]; rfl) own_pd__28_29V rfl (W := 0) (Nat.le_of_ble_eq_true rfl) (own_ail l Z a0 hw a h0 n0 OX) (by decide) (by decide) (by decide) (by decide) (a := a) (argsL := []) (rest := []) rfl rfl fun v152 T152 L152 X152 q152 => ?_
  obtain ⟨rfl, M152, e152⟩ := q152
  have N152 := Fr.app N0 M152
  show own_Fin p e below _ (T152.setTop (mkF m 4 #[.val (.ref a), .val (.ref x0), .val (.ref x1)] []))
  refine own_aloadN X152 hx (hb hby own_li2_4) rfl rfl ?_
  refine own_aloadN X152 hx (hb hby own_li2_5) rfl rfl ?_
  refine own_stat X152 hx hZ hown (own_w177 hw) (own_w178 hw) (own_w180 hw) (own_w179 hw) (by decide) e152 (hb hby own_li2_6) (by rw [hml]; rfl) own_pd__28Ljava_2flang_2fObject_3b_29Ljava_2flang_2fObject_3b rfl (W := 1) (Nat.le_of_ble_eq_true rfl) (own_rnn l Z a0 hw x0 h0 n0 OX) (by decide) (by decide) (by decide) (by decide) (argsL := [(.ref x0)]) (rest := [(.ref a)]) rfl rfl fun v153 T153 L153 X153 q153 => ?_
  obtain ⟨rfl, M153, e153⟩ := q153
  have N153 := Fr.app N152 M153
  show own_Fin p e below _ (T153.setTop (mkF m 9 #[.val (.ref a), .val (.ref x0), .val (.ref x1)] [(.ref x0), (.ref a)]))
  refine own_putfield X153 hx hZ (host := "") hown (Or.inl (own_w181 hw)) Via.refl e153 F0 E (Or.inr ⟨(own_w182 hw), rfl, hnm⟩) (own_w157 hw) own_fd_Ljava_2flang_2fObject_3b rfl rfl (hb hby own_li2_9) fun T154 h154 X154 e154 W154 => ?_
  have N154 := Fr.snoc X154 N153 g
  refine own_aloadN X154 hx (hb hby own_li2_12) rfl rfl ?_
  refine own_aloadN X154 hx (hb hby own_li2_13) rfl rfl ?_
  have f155 := (OX.wr W154 g)
  refine own_stat X154 hx hZ hown (own_w177 hw) (own_w178 hw) (own_w180 hw) (own_w179 hw) (by decide) e154 (hb hby own_li2_14) (by rw [hml]; rfl) own_pd__28Ljava_2flang_2fObject_3b_29Ljava_2flang_2fObject_3b rfl (W := 1) (Nat.le_of_ble_eq_true rfl) (own_rnn l Z a0 hw x1 h154 n0 f155) (by decide) (by decide) (by decide) (by decide) (argsL := [(.ref x1)]) (rest := [(.ref a)]) rfl rfl fun v156 T156 L156 X156 q156 => ?_
  obtain ⟨rfl, M156, e156⟩ := q156
  have N156 := Fr.app N154 M156
  show own_Fin p e below _ (T156.setTop (mkF m 17 #[.val (.ref a), .val (.ref x0), .val (.ref x1)] [(.ref x1), (.ref a)]))
  have f157 := (F1.other W154 (Or.inr (slot_ne (Or.inr (own_w185 hw)) (Or.inr (own_w182 hw)) (by decide) own_fd_Ljava_2flang_2fObject_3b own_fd_Ljava_2flang_2fObject_3b)))
  have f158 := (E.wr W154)
  refine own_putfield X156 hx hZ (host := "") hown (Or.inl (own_w184 hw)) Via.refl e156 f157 f158 (Or.inr ⟨(own_w185 hw), rfl, hnm⟩) (own_w157 hw) own_fd_Ljava_2flang_2fObject_3b rfl rfl (hb hby own_li2_17) fun T159 h159 X159 e159 W159 => ?_
  have N159 := Fr.snoc X159 N156 g
  refine own_retV X159 hx hret (hb hby own_li2_20) hlk (by decide) (by decide) ?_
  exact ⟨rfl, N159, _, W154, by rw [e159]; exact W159⟩
set_option maxRecDepth 65536 in
set_option maxHeartbeats 40000000 in
theorem own_lo2 (l : Launch) (Z : State) (a0 : Array Value) (hw : ∀ d ∈ tables_1, d.before a0 Z = true) (d em x0 x1 : Addr) (kd : ClassId) (h0 : Heap) (n0 : Nat) (OX : Old Z n0 h0) (VD : Arv Z h0 d kd (.object "java/lang/Object") 2 [(.ref x0), (.ref x1)] .null) (SE : Sta Z Z.heap "java/util/ImmutableCollections" "EMPTY" "Ljava/lang/Object;" (.ref em)) :
    own_Met l Z (⟨"java/util/List", "of", "([Ljava/lang/Object;)Ljava/util/List;"⟩ : MethodName) jdk_40_method_47_code 2 (some (.object "java/util/List")) ({ frames := 5, cells := 1, slots := 2, locals := 63 } : Room) #[(.ref d)] h0 (fun v h L => ∃ y, v = some (.ref y) ∧ Fr n0 L ∧ Ext h0 h ∧ h0.size ≤ y ∧ own_L12 Z h y (.ref x0) (.ref x1)) := by
  refine own_body (Ls := #[.val (.ref d), .unset]) (plainFor_of_name own_pn_java_util_List) (fun m => by first | (simp [entryFrame, mkF, argsToLocals, Value.category]; done) | rfl) ?_
  intro p e s m below meth c s₁ hx hZ hby hml hown hnm hret hlk X0 e0
  have N0 := Fr.nil n0
  refine own_aloadN X0 hx (hb hby own_lo_0) rfl rfl ?_
  have vo160 := VD
  obtain ⟨cl160, Ar160, qq160, S160, Nn160, H160, G160⟩ := vo160
  refine own_arraylength X0 hx hZ e0 Ar160 (len_of S160 Nn160) (hb hby own_lo_1) ?_
  refine own_tsw X0 hx 45 (hb hby own_lo_2) (by decide) rfl (by decide) (by decide) ?_
  refine own_new X0 hx hZ hown (own_w156 hw) (own_w157 hw) (own_w158 hw) e0 (hb hby own_lo_45) (by decide) (by decide) fun T161 h161 b161 X161 e161 g161 E161 A161 D161 => ?_
  have f162 : n0 ≤ b161 := Nat.le_trans (own_old OX) (Nat.le_of_eq g161.symm)
  have f163 : h0.size ≤ b161 := Nat.le_trans (Keep.refl h0 []).1 (Nat.le_of_eq g161.symm)
  have f164 : Fld Z h161 b161 "java/util/ImmutableCollections$List12" "e0" "Ljava/lang/Object;" .null := D161 (Or.inr (own_w182 hw)) own_fd_Ljava_2flang_2fObject_3b
  have f165 : Fld Z h161 b161 "java/util/ImmutableCollections$List12" "e1" "Ljava/lang/Object;" .null := D161 (Or.inr (own_w185 hw)) own_fd_Ljava_2flang_2fObject_3b
  refine own_dup X161 hx (hb hby own_lo_48) rfl ?_
  refine own_aloadN X161 hx (hb hby own_lo_49) rfl rfl ?_
  refine own_iconst X161 hx (0 : Int32) (hb hby own_lo_50) rfl ?_
  have f166 := (VD.ext E161)
  have vo167 := f166
  obtain ⟨cl167, Ar167, qq167, S167, Nn167, H167, G167⟩ := vo167
  refine own_aaload X161 hx hZ e161 Ar167 rfl (inb_of S167 ⟨by decide, by decide⟩) (Has.at H167 (inb_of S167 ⟨by decide, by decide⟩) rfl) (hb hby own_lo_51) ?_
  refine own_aloadN X161 hx (hb hby own_lo_52) rfl rfl ?_
  refine own_iconst X161 hx (1 : Int32) (hb hby own_lo_53) rfl ?_
  refine own_aaload X161 hx hZ e161 Ar167 rfl (inb_of S167 ⟨by decide, by decide⟩) (Has.at H167 (inb_of S167 ⟨by decide, by decide⟩) rfl) (hb hby own_lo_54) ?_
  have f168 := (OX.ext E161)
  refine own_spec X161 hx hZ rfl hown (own_w284 hw) (own_w285 hw) (own_w286 hw) (own_w158 hw) (by decide) e161 (hb hby own_lo_55) (by rw [hml]; rfl) own_pd__28Ljava_2flang_2fObject_3bLjava_2flang_2fObject_3b_29V rfl (W := 1) (Nat.le_of_ble_eq_true rfl) (own_li2 l Z a0 hw b161 em x0 x1 _ _ h161 n0 f168 A161 f164 f165 f162 SE) (by decide) (by decide) (by decide) (by decide) (a := b161) (argsL := [(.ref x0), (.ref x1)]) (rest := [(.ref b161)]) rfl rfl fun v169 T169 L169 X169 q169 => ?_
  obtain ⟨h169, e169⟩ : ∃ z, T169.heap = z := ⟨_, rfl⟩
  try dsimp only at q169
  rw [e169] at q169
  obtain ⟨rfl, M169, j169, W169, U169⟩ := q169
  have N169 := Fr.app N0 M169
  have f170 := (f165.other W169 (Or.inr (slot_ne (Or.inr (own_w185 hw)) (Or.inr (own_w182 hw)) (by decide) own_fd_Ljava_2flang_2fObject_3b own_fd_Ljava_2flang_2fObject_3b)))
  show own_Fin p e below _ (T169.setTop (mkF m 58 #[.val (.ref d), .unset] [(.ref b161)]))
  refine own_retA X169 hx hret rfl rfl rfl (hb hby own_lo_58) hlk (by decide) (by decide) ?_
  refine ⟨b161, rfl, N169, ?_⟩
  rw [e169]
  exact ⟨own_kext ((((Keep.refl h0 []).ext E161).wr W169 (Or.inr f163)).wr U169 (Or.inr f163)), f163, ((A161.wr W169).wr U169), ((f164.same W169).other U169 (Or.inr (slot_ne (Or.inr (own_w182 hw)) (Or.inr (own_w185 hw)) (by decide) own_fd_Ljava_2flang_2fObject_3b own_fd_Ljava_2flang_2fObject_3b))), (f170.same U169)⟩
theorem own_lof_0 : decode jdk_40_method_36_code 0 = .ok (.getstatic 90, 3) := by decide +kernel
theorem own_lof_3 : decode jdk_40_method_36_code 3 = .ok (.areturn, 1) := by decide +kernel
set_option maxRecDepth 65536 in
set_option maxHeartbeats 40000000 in
theorem own_lof (l : Launch) (Z : State) (a0 : Array Value) (hw : ∀ d ∈ tables_1, d.before a0 Z = true) (el : Addr) (h0 : Heap) (n0 : Nat) (OX : Old Z n0 h0) (SL : Sta Z Z.heap "java/util/ImmutableCollections" "EMPTY_LIST" "Ljava/util/ImmutableCollections$ListN;" (.ref el)) :
    own_Met l Z (⟨"java/util/List", "of", "()Ljava/util/List;"⟩ : MethodName) jdk_40_method_36_code 0 (some (.object "java/util/List")) ({ frames := 0, cells := 0, slots := 0, locals := 0 } : Room) #[] h0 (fun v h L => v = some (.ref el) ∧ Fr n0 L ∧ h = h0) := by
  refine own_body (Ls := #[]) (plainFor_of_name own_pn_java_util_List) (fun m => by first | (simp [entryFrame, mkF, argsToLocals, Value.category]; done) | rfl) ?_
  intro p e s m below meth c s₁ hx hZ hby hml hown hnm hret hlk X0 e0
  have N0 := Fr.nil n0
  refine own_getstatic X0 hx hZ (host := "") hown (Or.inl (own_w229 hw)) Via.refl e0 (SL.ext OX.2) (hb hby own_lof_0) fun T171 X171 e171 => ?_
  refine own_retA X171 hx hret rfl rfl rfl (hb hby own_lof_3) hlk (by decide) (by decide) ?_
  exact ⟨rfl, N0, e171⟩
theorem own_lc_0 : decode jdk_56_method_3_code 0 = .ok (.aload_n 0, 1) := by decide +kernel
theorem own_lc_1 : decode jdk_56_method_3_code 1 = .ok (.instanceof 10, 3) := by decide +kernel
theorem own_lc_4 : decode jdk_56_method_3_code 4 = .ok (.ifCond .ne 22, 3) := by decide +kernel
theorem own_lc_7 : decode jdk_56_method_3_code 7 = .ok (.aload_n 0, 1) := by decide +kernel
theorem own_lc_8 : decode jdk_56_method_3_code 8 = .ok (.instanceof 12, 3) := by decide +kernel
theorem own_lc_11 : decode jdk_56_method_3_code 11 = .ok (.ifCond .eq 20, 3) := by decide +kernel
theorem own_lc_14 : decode jdk_56_method_3_code 14 = .ok (.aload_n 0, 1) := by decide +kernel
theorem own_lc_15 : decode jdk_56_method_3_code 15 = .ok (.checkcast 12, 3) := by decide +kernel
theorem own_lc_18 : decode jdk_56_method_3_code 18 = .ok (.astore_n 1, 1) := by decide +kernel
theorem own_lc_19 : decode jdk_56_method_3_code 19 = .ok (.aload_n 1, 1) := by decide +kernel
theorem own_lc_20 : decode jdk_56_method_3_code 20 = .ok (.getfield 14, 3) := by decide +kernel
theorem own_lc_23 : decode jdk_56_method_3_code 23 = .ok (.ifCond .ne 8, 3) := by decide +kernel
theorem own_lc_26 : decode jdk_56_method_3_code 26 = .ok (.aload_n 0, 1) := by decide +kernel
theorem own_lc_27 : decode jdk_56_method_3_code 27 = .ok (.checkcast 18, 3) := by decide +kernel
theorem own_lc_30 : decode jdk_56_method_3_code 30 = .ok (.areturn, 1) := by decide +kernel
theorem own_lc_31 : decode jdk_56_method_3_code 31 = .ok (.aload_n 0, 1) := by decide +kernel
theorem own_lc_32 : decode jdk_56_method_3_code 32 = .ok (.invokeinterface 20 1, 5) := by decide +kernel
theorem own_lc_37 : decode jdk_56_method_3_code 37 = .ok (.ifCond .eq 7, 3) := by decide +kernel
theorem own_lc_40 : decode jdk_56_method_3_code 40 = .ok (.invokestatic 26, 3) := by decide +kernel
theorem own_lc_43 : decode jdk_56_method_3_code 43 = .ok (.areturn, 1) := by decide +kernel
theorem own_lc_44 : decode jdk_56_method_3_code 44 = .ok (.aload_n 0, 1) := by decide +kernel
theorem own_lc_45 : decode jdk_56_method_3_code 45 = .ok (.invokeinterface 30 1, 5) := by decide +kernel
theorem own_lc_50 : decode jdk_56_method_3_code 50 = .ok (.invokestatic 34, 3) := by decide +kernel
theorem own_lc_53 : decode jdk_56_method_3_code 53 = .ok (.areturn, 1) := by decide +kernel
theorem own_pn_java_util_ImmutableCollections : plainName "java/util/ImmutableCollections" = true := by first | (simp [plainName, overriddenIn]; done) | decide +kernel
theorem own_pd__28_29Z : parseMethodDescriptor "()Z" = some ⟨[], some .boolean⟩ := by decide +kernel
theorem own_pd__28_5bLjava_2flang_2fObject_3b_29Ljava_2futil_2fList_3b : parseMethodDescriptor "([Ljava/lang/Object;)Ljava/util/List;" = some ⟨[(.array (.object "java/lang/Object"))], some (.object "java/util/List")⟩ := by decide +kernel
theorem own_pd__28_29Ljava_2futil_2fList_3b : parseMethodDescriptor "()Ljava/util/List;" = some ⟨[], some (.object "java/util/List")⟩ := by decide +kernel
set_option maxRecDepth 65536 in
set_option maxHeartbeats 40000000 in
theorem own_lc0 (l : Launch) (Z : State) (a0 : Array Value) (hw : ∀ d ∈ tables_1, d.before a0 Z = true) (a el : Addr) (h0 : Heap) (n0 : Nat) (OX : Old Z n0 h0) (E : Exa Z h0 a "java/util/ArrayList") (F0 : Fld Z h0 a "java/util/ArrayList" "size" "I" (.int (0 : Int32))) (SL : Sta Z Z.heap "java/util/ImmutableCollections" "EMPTY_LIST" "Ljava/util/ImmutableCollections$ListN;" (.ref el)) (NA : ∃ c t, Z.vm.findClass "java/util/ArrayList" = some c ∧ Z.vm.findClass "java/util/ImmutableCollections$List12" = some t ∧ Z.vm.assignable c t = false) (NB : ∃ c t, Z.vm.findClass "java/util/ArrayList" = some c ∧ Z.vm.findClass "java/util/ImmutableCollections$ListN" = some t ∧ Z.vm.assignable c t = false) :
    own_Met l Z (⟨"java/util/ImmutableCollections", "listCopy", "(Ljava/util/Collection;)Ljava/util/List;"⟩ : MethodName) jdk_56_method_3_code 2 (some (.object "java/util/List")) ({ frames := 1, cells := 0, slots := 0, locals := 12 } : Room) #[(.ref a)] h0 (fun v h L => v = some (.ref el) ∧ Fr n0 L ∧ h = h0) := by
  refine own_body (Ls := #[.val (.ref a), .unset]) (plainFor_of_name own_pn_java_util_ImmutableCollections) (fun m => by first | (simp [entryFrame, mkF, argsToLocals, Value.category]; done) | rfl) ?_
  intro p e s m below meth c s₁ hx hZ hby hml hown hnm hret hlk X0 e0
  have N0 := Fr.nil n0
  refine own_aloadN X0 hx (hb hby own_lc_0) rfl rfl ?_
  refine own_instNo X0 hx hZ hown (own_w108 hw) e0 E NA (hb hby own_lc_1) fun T172 X172 e172 => ?_
  refine own_ifNo X172 hx (hb hby own_lc_4) (by decide) ?_
  refine own_aloadN X172 hx (hb hby own_lc_7) rfl rfl ?_
  refine own_instNo X172 hx hZ hown (own_w113 hw) e172 E NB (hb hby own_lc_8) fun T173 X173 e173 => ?_
  refine own_ifYes X173 hx 31 (hb hby own_lc_11) (by decide) (by decide) (by decide) ?_
  refine own_aloadN X173 hx (hb hby own_lc_31) rfl rfl ?_
  refine own_intf X173 hx hZ hown (own_w114 hw) (own_w115 hw) (own_w116 hw) (own_w117 hw) (own_w118 hw) (own_w119 hw) (own_w120 hw) (own_w121 hw) (own_w122 hw) (own_w2 hw) (by decide) e173 E (hb hby own_lc_32) (by rw [hml]; rfl) own_pd__28_29Z rfl (W := 0) (Nat.le_of_ble_eq_true rfl) (own_ie0 l Z a0 hw a h0 n0 OX F0) (by decide) (by decide) (by decide) (by decide) (argsL := []) (rest := []) rfl rfl fun v174 T174 L174 X174 q174 => ?_
  obtain ⟨rfl, M174, e174⟩ := q174
  have N174 := Fr.app N0 M174
  show own_Fin p e below _ (T174.setTop (mkF m 37 #[.val (.ref a), .unset] [(.int (1 : Int32))]))
  refine own_ifNo X174 hx (hb hby own_lc_37) (by decide) ?_
  refine own_stat X174 hx hZ hown (own_w274 hw) (own_w227 hw) (own_w228 hw) (own_w102 hw) (by decide) e174 (hb hby own_lc_40) (by rw [hml]; rfl) own_pd__28_29Ljava_2futil_2fList_3b rfl (W := 0) (Nat.le_of_ble_eq_true rfl) (own_lof l Z a0 hw el h0 n0 OX SL) (by decide) (by decide) (by decide) (by decide) (argsL := []) (rest := []) rfl rfl fun v175 T175 L175 X175 q175 => ?_
  obtain ⟨rfl, M175, e175⟩ := q175
  have N175 := Fr.app N174 M175
  show own_Fin p e below _ (T175.setTop (mkF m 43 #[.val (.ref a), .unset] [(.ref el)]))
  refine own_retA X175 hx hret rfl rfl rfl (hb hby own_lc_43) hlk (by decide) (by decide) ?_
  exact ⟨rfl, N175, e175⟩
theorem own_lk_0 : decode jdk_40_method_48_code 0 = .ok (.aload_n 0, 1) := by decide +kernel
theorem own_lk_1 : decode jdk_40_method_48_code 1 = .ok (.invokestatic 112, 3) := by decide +kernel
theorem own_lk_4 : decode jdk_40_method_48_code 4 = .ok (.areturn, 1) := by decide +kernel
set_option maxRecDepth 65536 in
set_option maxHeartbeats 40000000 in
theorem own_lk0 (l : Launch) (Z : State) (a0 : Array Value) (hw : ∀ d ∈ tables_1, d.before a0 Z = true) (a el : Addr) (h0 : Heap) (n0 : Nat) (OX : Old Z n0 h0) (E : Exa Z h0 a "java/util/ArrayList") (F0 : Fld Z h0 a "java/util/ArrayList" "size" "I" (.int (0 : Int32))) (SL : Sta Z Z.heap "java/util/ImmutableCollections" "EMPTY_LIST" "Ljava/util/ImmutableCollections$ListN;" (.ref el)) (NA : ∃ c t, Z.vm.findClass "java/util/ArrayList" = some c ∧ Z.vm.findClass "java/util/ImmutableCollections$List12" = some t ∧ Z.vm.assignable c t = false) (NB : ∃ c t, Z.vm.findClass "java/util/ArrayList" = some c ∧ Z.vm.findClass "java/util/ImmutableCollections$ListN" = some t ∧ Z.vm.assignable c t = false) :
    own_Met l Z (⟨"java/util/List", "copyOf", "(Ljava/util/Collection;)Ljava/util/List;"⟩ : MethodName) jdk_40_method_48_code 1 (some (.object "java/util/List")) ({ frames := 2, cells := 0, slots := 0, locals := 25 } : Room) #[(.ref a)] h0 (fun v h L => v = some (.ref el) ∧ Fr n0 L ∧ h = h0) := by
  refine own_body (Ls := #[.val (.ref a)]) (plainFor_of_name own_pn_java_util_List) (fun m => by first | (simp [entryFrame, mkF, argsToLocals, Value.category]; done) | rfl) ?_
  intro p e s m below meth c s₁ hx hZ hby hml hown hnm hret hlk X0 e0
  have N0 := Fr.nil n0
  refine own_aloadN X0 hx (hb hby own_lk_0) rfl rfl ?_
  refine own_stat X0 hx hZ hown (own_w104 hw) (own_w105 hw) (own_w107 hw) (own_w106 hw) (by decide) e0 (hb hby own_lk_1) (by rw [hml]; rfl) own_pd__28Ljava_2futil_2fCollection_3b_29Ljava_2futil_2fList_3b rfl (W := 0) (Nat.le_of_ble_eq_true rfl) (own_lc0 l Z a0 hw a el h0 n0 OX E F0 SL NA NB) (by decide) (by decide) (by decide) (by decide) (argsL := [(.ref a)]) (rest := []) rfl rfl fun v176 T176 L176 X176 q176 => ?_
  obtain ⟨rfl, M176, e176⟩ := q176
  have N176 := Fr.app N0 M176
  show own_Fin p e below _ (T176.setTop (mkF m 4 #[.val (.ref a)] [(.ref el)]))
  refine own_retA X176 hx hret rfl rfl rfl (hb hby own_lk_4) hlk (by decide) (by decide) ?_
  exact ⟨rfl, N176, e176⟩
set_option maxRecDepth 65536 in
set_option maxHeartbeats 40000000 in
theorem own_lc1 (l : Launch) (Z : State) (a0 : Array Value) (hw : ∀ d ∈ tables_1, d.before a0 Z = true) (a em b mr x0 : Addr) (k : ClassId) (h0 : Heap) (n0 : Nat) (OX : Old Z n0 h0) (E : Exa Z h0 a "java/util/ArrayList") (F0 : Fld Z h0 a "java/util/ArrayList" "size" "I" (.int (1 : Int32))) (F : Fld Z h0 a "java/util/ArrayList" "elementData" "[Ljava/lang/Object;" (.ref b)) (VV : Arv Z h0 b k (.object "java/lang/Object") 10 [(.ref x0), .null, .null, .null, .null, .null, .null, .null, .null, .null] .null) (EX0 : Exa Z h0 x0 "java/lang/Long") (EB : Exa Z h0 b "[Ljava/lang/Object;") (MM : own_Mir Z "[Ljava/lang/Object;" mr) (SE : Sta Z Z.heap "java/util/ImmutableCollections" "EMPTY" "Ljava/lang/Object;" (.ref em)) (NA : ∃ c t, Z.vm.findClass "java/util/ArrayList" = some c ∧ Z.vm.findClass "java/util/ImmutableCollections$List12" = some t ∧ Z.vm.assignable c t = false) (NB : ∃ c t, Z.vm.findClass "java/util/ArrayList" = some c ∧ Z.vm.findClass "java/util/ImmutableCollections$ListN" = some t ∧ Z.vm.assignable c t = false) :
    own_Met l Z (⟨"java/util/ImmutableCollections", "listCopy", "(Ljava/util/Collection;)Ljava/util/List;"⟩ : MethodName) jdk_56_method_3_code 2 (some (.object "java/util/List")) ({ frames := 6, cells := 2, slots := 3, locals := 75 } : Room) #[(.ref a)] h0 (fun v h L => ∃ y, v = some (.ref y) ∧ Fr n0 L ∧ Ext h0 h ∧ h0.size ≤ y ∧ own_L12 Z h y (.ref x0) (.ref em)) := by
  refine own_body (Ls := #[.val (.ref a), .unset]) (plainFor_of_name own_pn_java_util_ImmutableCollections) (fun m => by first | (simp [entryFrame, mkF, argsToLocals, Value.category]; done) | rfl) ?_
  intro p e s m below meth c s₁ hx hZ hby hml hown hnm hret hlk X0 e0
  have N0 := Fr.nil n0
  refine own_aloadN X0 hx (hb hby own_lc_0) rfl rfl ?_
  refine own_instNo X0 hx hZ hown (own_w108 hw) e0 E NA (hb hby own_lc_1) fun T177 X177 e177 => ?_
  refine own_ifNo X177 hx (hb hby own_lc_4) (by decide) ?_
  refine own_aloadN X177 hx (hb hby own_lc_7) rfl rfl ?_
  refine own_instNo X177 hx hZ hown (own_w113 hw) e177 E NB (hb hby own_lc_8) fun T178 X178 e178 => ?_
  refine own_ifYes X178 hx 31 (hb hby own_lc_11) (by decide) (by decide) (by decide) ?_
  refine own_aloadN X178 hx (hb hby own_lc_31) rfl rfl ?_
  refine own_intf X178 hx hZ hown (own_w114 hw) (own_w115 hw) (own_w116 hw) (own_w117 hw) (own_w118 hw) (own_w119 hw) (own_w120 hw) (own_w121 hw) (own_w122 hw) (own_w2 hw) (by decide) e178 E (hb hby own_lc_32) (by rw [hml]; rfl) own_pd__28_29Z rfl (W := 0) (Nat.le_of_ble_eq_true rfl) (own_ie1 l Z a0 hw a h0 n0 OX F0) (by decide) (by decide) (by decide) (by decide) (argsL := []) (rest := []) rfl rfl fun v179 T179 L179 X179 q179 => ?_
  obtain ⟨rfl, M179, e179⟩ := q179
  have N179 := Fr.app N0 M179
  show own_Fin p e below _ (T179.setTop (mkF m 37 #[.val (.ref a), .unset] [(.int (0 : Int32))]))
  refine own_ifYes X179 hx 44 (hb hby own_lc_37) (by decide) (by decide) (by decide) ?_
  refine own_aloadN X179 hx (hb hby own_lc_44) rfl rfl ?_
  refine own_intf X179 hx hZ hown (own_w123 hw) (own_w124 hw) (own_w125 hw) (own_w126 hw) (own_w127 hw) (own_w128 hw) (own_w129 hw) (own_w121 hw) (own_w130 hw) (own_w2 hw) (by decide) e179 E (hb hby own_lc_45) (by rw [hml]; rfl) own_pd__28_29_5bLjava_2flang_2fObject_3b rfl (W := 0) (Nat.le_of_ble_eq_true rfl) (own_ta1 l Z a0 hw a b mr x0 k h0 n0 OX E F F0 VV EX0 EB MM) (by decide) (by decide) (by decide) (by decide) (argsL := []) (rest := []) rfl rfl fun v180 T180 L180 X180 q180 => ?_
  obtain ⟨h180, e180⟩ : ∃ z, T180.heap = z := ⟨_, rfl⟩
  try dsimp only at q180
  rw [e180] at q180
  obtain ⟨d, kd, rfl, M180, d1, d2, d3⟩ := q180
  have N180 := Fr.app N179 M180
  show own_Fin p e below _ (T180.setTop (mkF m 50 #[.val (.ref a), .unset] [(.ref d)]))
  have f181 := (OX.ext d1)
  refine own_stat X180 hx hZ hown (own_w153 hw) (own_w154 hw) (own_w155 hw) (own_w102 hw) (by decide) e180 (hb hby own_lc_50) (by rw [hml]; rfl) own_pd__28_5bLjava_2flang_2fObject_3b_29Ljava_2futil_2fList_3b rfl (W := 0) (Nat.le_of_ble_eq_true rfl) (own_lo1 l Z a0 hw d em x0 kd h180 n0 f181 d3 SE) (by decide) (by decide) (by decide) (by decide) (argsL := [(.ref d)]) (rest := []) rfl rfl fun v182 T182 L182 X182 q182 => ?_
  obtain ⟨h182, e182⟩ : ∃ z, T182.heap = z := ⟨_, rfl⟩
  try dsimp only at q182
  rw [e182] at q182
  obtain ⟨y, rfl, M182, y1, y2, y3⟩ := q182
  have N182 := Fr.app N180 M182
  show own_Fin p e below _ (T182.setTop (mkF m 53 #[.val (.ref a), .unset] [(.ref y)]))
  refine own_retA X182 hx hret rfl rfl rfl (hb hby own_lc_53) hlk (by decide) (by decide) ?_
  refine ⟨y, rfl, N182, ?_⟩
  rw [e182]
  exact ⟨⟨Nat.le_trans d1.1 y1.1, fun a c q => y1.2 a c (d1.2 a c q)⟩, Nat.le_trans d1.1 y2, y3⟩
set_option maxRecDepth 65536 in
set_option maxHeartbeats 40000000 in
theorem own_lk1 (l : Launch) (Z : State) (a0 : Array Value) (hw : ∀ d ∈ tables_1, d.before a0 Z = true) (a em b mr x0 : Addr) (k : ClassId) (h0 : Heap) (n0 : Nat) (OX : Old Z n0 h0) (E : Exa Z h0 a "java/util/ArrayList") (F0 : Fld Z h0 a "java/util/ArrayList" "size" "I" (.int (1 : Int32))) (F : Fld Z h0 a "java/util/ArrayList" "elementData" "[Ljava/lang/Object;" (.ref b)) (VV : Arv Z h0 b k (.object "java/lang/Object") 10 [(.ref x0), .null, .null, .null, .null, .null, .null, .null, .null, .null] .null) (EX0 : Exa Z h0 x0 "java/lang/Long") (EB : Exa Z h0 b "[Ljava/lang/Object;") (MM : own_Mir Z "[Ljava/lang/Object;" mr) (SE : Sta Z Z.heap "java/util/ImmutableCollections" "EMPTY" "Ljava/lang/Object;" (.ref em)) (NA : ∃ c t, Z.vm.findClass "java/util/ArrayList" = some c ∧ Z.vm.findClass "java/util/ImmutableCollections$List12" = some t ∧ Z.vm.assignable c t = false) (NB : ∃ c t, Z.vm.findClass "java/util/ArrayList" = some c ∧ Z.vm.findClass "java/util/ImmutableCollections$ListN" = some t ∧ Z.vm.assignable c t = false) :
    own_Met l Z (⟨"java/util/List", "copyOf", "(Ljava/util/Collection;)Ljava/util/List;"⟩ : MethodName) jdk_40_method_48_code 1 (some (.object "java/util/List")) ({ frames := 7, cells := 2, slots := 3, locals := 88 } : Room) #[(.ref a)] h0 (fun v h L => ∃ y, v = some (.ref y) ∧ Fr n0 L ∧ Ext h0 h ∧ h0.size ≤ y ∧ own_L12 Z h y (.ref x0) (.ref em)) := by
  refine own_body (Ls := #[.val (.ref a)]) (plainFor_of_name own_pn_java_util_List) (fun m => by first | (simp [entryFrame, mkF, argsToLocals, Value.category]; done) | rfl) ?_
  intro p e s m below meth c s₁ hx hZ hby hml hown hnm hret hlk X0 e0
  have N0 := Fr.nil n0
  refine own_aloadN X0 hx (hb hby own_lk_0) rfl rfl ?_
  refine own_stat X0 hx hZ hown (own_w104 hw) (own_w105 hw) (own_w107 hw) (own_w106 hw) (by decide) e0 (hb hby own_lk_1) (by rw [hml]; rfl) own_pd__28Ljava_2futil_2fCollection_3b_29Ljava_2futil_2fList_3b rfl (W := 0) (Nat.le_of_ble_eq_true rfl) (own_lc1 l Z a0 hw a em b mr x0 k h0 n0 OX E F0 F VV EX0 EB MM SE NA NB) (by decide) (by decide) (by decide) (by decide) (argsL := [(.ref a)]) (rest := []) rfl rfl fun v183 T183 L183 X183 q183 => ?_
  obtain ⟨h183, e183⟩ : ∃ z, T183.heap = z := ⟨_, rfl⟩
  try dsimp only at q183
  rw [e183] at q183
  obtain ⟨y, rfl, M183, y1, y2, y3⟩ := q183
  have N183 := Fr.app N0 M183
  show own_Fin p e below _ (T183.setTop (mkF m 4 #[.val (.ref a)] [(.ref y)]))
  refine own_retA X183 hx hret rfl rfl rfl (hb hby own_lk_4) hlk (by decide) (by decide) ?_
  refine ⟨y, rfl, N183, ?_⟩
  rw [e183]
  exact ⟨y1, y2, y3⟩
set_option maxRecDepth 65536 in
set_option maxHeartbeats 40000000 in
theorem own_lc2 (l : Launch) (Z : State) (a0 : Array Value) (hw : ∀ d ∈ tables_1, d.before a0 Z = true) (a em b mr x0 x1 : Addr) (k : ClassId) (h0 : Heap) (n0 : Nat) (OX : Old Z n0 h0) (E : Exa Z h0 a "java/util/ArrayList") (F0 : Fld Z h0 a "java/util/ArrayList" "size" "I" (.int (2 : Int32))) (F : Fld Z h0 a "java/util/ArrayList" "elementData" "[Ljava/lang/Object;" (.ref b)) (VV : Arv Z h0 b k (.object "java/lang/Object") 10 [(.ref x0), (.ref x1), .null, .null, .null, .null, .null, .null, .null, .null] .null) (EX0 : Exa Z h0 x0 "java/lang/Long") (EX1 : Exa Z h0 x1 "java/lang/Long") (EB : Exa Z h0 b "[Ljava/lang/Object;") (MM : own_Mir Z "[Ljava/lang/Object;" mr) (SE : Sta Z Z.heap "java/util/ImmutableCollections" "EMPTY" "Ljava/lang/Object;" (.ref em)) (NA : ∃ c t, Z.vm.findClass "java/util/ArrayList" = some c ∧ Z.vm.findClass "java/util/ImmutableCollections$List12" = some t ∧ Z.vm.assignable c t = false) (NB : ∃ c t, Z.vm.findClass "java/util/ArrayList" = some c ∧ Z.vm.findClass "java/util/ImmutableCollections$ListN" = some t ∧ Z.vm.assignable c t = false) :
    own_Met l Z (⟨"java/util/ImmutableCollections", "listCopy", "(Ljava/util/Collection;)Ljava/util/List;"⟩ : MethodName) jdk_56_method_3_code 2 (some (.object "java/util/List")) ({ frames := 6, cells := 2, slots := 4, locals := 76 } : Room) #[(.ref a)] h0 (fun v h L => ∃ y, v = some (.ref y) ∧ Fr n0 L ∧ Ext h0 h ∧ h0.size ≤ y ∧ own_L12 Z h y (.ref x0) (.ref x1)) := by
  refine own_body (Ls := #[.val (.ref a), .unset]) (plainFor_of_name own_pn_java_util_ImmutableCollections) (fun m => by first | (simp [entryFrame, mkF, argsToLocals, Value.category]; done) | rfl) ?_
  intro p e s m below meth c s₁ hx hZ hby hml hown hnm hret hlk X0 e0
  have N0 := Fr.nil n0
  refine own_aloadN X0 hx (hb hby own_lc_0) rfl rfl ?_
  refine own_instNo X0 hx hZ hown (own_w108 hw) e0 E NA (hb hby own_lc_1) fun T184 X184 e184 => ?_
  refine own_ifNo X184 hx (hb hby own_lc_4) (by decide) ?_
  refine own_aloadN X184 hx (hb hby own_lc_7) rfl rfl ?_
  refine own_instNo X184 hx hZ hown (own_w113 hw) e184 E NB (hb hby own_lc_8) fun T185 X185 e185 => ?_
  refine own_ifYes X185 hx 31 (hb hby own_lc_11) (by decide) (by decide) (by decide) ?_
  refine own_aloadN X185 hx (hb hby own_lc_31) rfl rfl ?_
  refine own_intf X185 hx hZ hown (own_w114 hw) (own_w115 hw) (own_w116 hw) (own_w117 hw) (own_w118 hw) (own_w119 hw) (own_w120 hw) (own_w121 hw) (own_w122 hw) (own_w2 hw) (by decide) e185 E (hb hby own_lc_32) (by rw [hml]; rfl) own_pd__28_29Z rfl (W := 0) (Nat.le_of_ble_eq_true rfl) (own_ie2 l Z a0 hw a h0 n0 OX F0) (by decide) (by decide) (by decide) (by decide) (argsL := []) (rest := []) rfl rfl fun v186 T186 L186 X186 q186 => ?_
  obtain ⟨rfl, M186, e186⟩ := q186
  have N186 := Fr.app N0 M186
  show own_Fin p e below _ (T186.setTop (mkF m 37 #[.val (.ref a), .unset] [(.int (0 : Int32))]))
  refine own_ifYes X186 hx 44 (hb hby own_lc_37) (by decide) (by decide) (by decide) ?_
  refine own_aloadN X186 hx (hb hby own_lc_44) rfl rfl ?_
  refine own_intf X186 hx hZ hown (own_w123 hw) (own_w124 hw) (own_w125 hw) (own_w126 hw) (own_w127 hw) (own_w128 hw) (own_w129 hw) (own_w121 hw) (own_w130 hw) (own_w2 hw) (by decide) e186 E (hb hby own_lc_45) (by rw [hml]; rfl) own_pd__28_29_5bLjava_2flang_2fObject_3b rfl (W := 0) (Nat.le_of_ble_eq_true rfl) (own_ta2 l Z a0 hw a b mr x0 x1 k h0 n0 OX E F F0 VV EX0 EX1 EB MM) (by decide) (by decide) (by decide) (by decide) (argsL := []) (rest := []) rfl rfl fun v187 T187 L187 X187 q187 => ?_
  obtain ⟨h187, e187⟩ : ∃ z, T187.heap = z := ⟨_, rfl⟩
  try dsimp only at q187
  rw [e187] at q187
  obtain ⟨d, kd, rfl, M187, d1, d2, d3⟩ := q187
  have N187 := Fr.app N186 M187
  show own_Fin p e below _ (T187.setTop (mkF m 50 #[.val (.ref a), .unset] [(.ref d)]))
  have f188 := (OX.ext d1)
  refine own_stat X187 hx hZ hown (own_w153 hw) (own_w154 hw) (own_w155 hw) (own_w102 hw) (by decide) e187 (hb hby own_lc_50) (by rw [hml]; rfl) own_pd__28_5bLjava_2flang_2fObject_3b_29Ljava_2futil_2fList_3b rfl (W := 0) (Nat.le_of_ble_eq_true rfl) (own_lo2 l Z a0 hw d em x0 x1 kd h187 n0 f188 d3 SE) (by decide) (by decide) (by decide) (by decide) (argsL := [(.ref d)]) (rest := []) rfl rfl fun v189 T189 L189 X189 q189 => ?_
  obtain ⟨h189, e189⟩ : ∃ z, T189.heap = z := ⟨_, rfl⟩
  try dsimp only at q189
  rw [e189] at q189
  obtain ⟨y, rfl, M189, y1, y2, y3⟩ := q189
  have N189 := Fr.app N187 M189
  show own_Fin p e below _ (T189.setTop (mkF m 53 #[.val (.ref a), .unset] [(.ref y)]))
  refine own_retA X189 hx hret rfl rfl rfl (hb hby own_lc_53) hlk (by decide) (by decide) ?_
  refine ⟨y, rfl, N189, ?_⟩
  rw [e189]
  exact ⟨⟨Nat.le_trans d1.1 y1.1, fun a c q => y1.2 a c (d1.2 a c q)⟩, Nat.le_trans d1.1 y2, y3⟩
set_option maxRecDepth 65536 in
set_option maxHeartbeats 40000000 in
theorem own_lk2 (l : Launch) (Z : State) (a0 : Array Value) (hw : ∀ d ∈ tables_1, d.before a0 Z = true) (a em b mr x0 x1 : Addr) (k : ClassId) (h0 : Heap) (n0 : Nat) (OX : Old Z n0 h0) (E : Exa Z h0 a "java/util/ArrayList") (F0 : Fld Z h0 a "java/util/ArrayList" "size" "I" (.int (2 : Int32))) (F : Fld Z h0 a "java/util/ArrayList" "elementData" "[Ljava/lang/Object;" (.ref b)) (VV : Arv Z h0 b k (.object "java/lang/Object") 10 [(.ref x0), (.ref x1), .null, .null, .null, .null, .null, .null, .null, .null] .null) (EX0 : Exa Z h0 x0 "java/lang/Long") (EX1 : Exa Z h0 x1 "java/lang/Long") (EB : Exa Z h0 b "[Ljava/lang/Object;") (MM : own_Mir Z "[Ljava/lang/Object;" mr) (SE : Sta Z Z.heap "java/util/ImmutableCollections" "EMPTY" "Ljava/lang/Object;" (.ref em)) (NA : ∃ c t, Z.vm.findClass "java/util/ArrayList" = some c ∧ Z.vm.findClass "java/util/ImmutableCollections$List12" = some t ∧ Z.vm.assignable c t = false) (NB : ∃ c t, Z.vm.findClass "java/util/ArrayList" = some c ∧ Z.vm.findClass "java/util/ImmutableCollections$ListN" = some t ∧ Z.vm.assignable c t = false) :
    own_Met l Z (⟨"java/util/List", "copyOf", "(Ljava/util/Collection;)Ljava/util/List;"⟩ : MethodName) jdk_40_method_48_code 1 (some (.object "java/util/List")) ({ frames := 7, cells := 2, slots := 4, locals := 89 } : Room) #[(.ref a)] h0 (fun v h L => ∃ y, v = some (.ref y) ∧ Fr n0 L ∧ Ext h0 h ∧ h0.size ≤ y ∧ own_L12 Z h y (.ref x0) (.ref x1)) := by
  refine own_body (Ls := #[.val (.ref a)]) (plainFor_of_name own_pn_java_util_List) (fun m => by first | (simp [entryFrame, mkF, argsToLocals, Value.category]; done) | rfl) ?_
  intro p e s m below meth c s₁ hx hZ hby hml hown hnm hret hlk X0 e0
  have N0 := Fr.nil n0
  refine own_aloadN X0 hx (hb hby own_lk_0) rfl rfl ?_
  refine own_stat X0 hx hZ hown (own_w104 hw) (own_w105 hw) (own_w107 hw) (own_w106 hw) (by decide) e0 (hb hby own_lk_1) (by rw [hml]; rfl) own_pd__28Ljava_2futil_2fCollection_3b_29Ljava_2futil_2fList_3b rfl (W := 0) (Nat.le_of_ble_eq_true rfl) (own_lc2 l Z a0 hw a em b mr x0 x1 k h0 n0 OX E F0 F VV EX0 EX1 EB MM SE NA NB) (by decide) (by decide) (by decide) (by decide) (argsL := [(.ref a)]) (rest := []) rfl rfl fun v190 T190 L190 X190 q190 => ?_
  obtain ⟨h190, e190⟩ : ∃ z, T190.heap = z := ⟨_, rfl⟩
  try dsimp only at q190
  rw [e190] at q190
  obtain ⟨y, rfl, M190, y1, y2, y3⟩ := q190
  have N190 := Fr.app N0 M190
  show own_Fin p e below _ (T190.setTop (mkF m 4 #[.val (.ref a)] [(.ref y)]))
  refine own_retA X190 hx hret rfl rfl rfl (hb hby own_lk_4) hlk (by decide) (by decide) ?_
  refine ⟨y, rfl, N190, ?_⟩
  rw [e190]
  exact ⟨y1, y2, y3⟩
theorem own_sz_0 : decode jdk_44_method_3_code 0 = .ok (.aload_n 0, 1) := by decide +kernel
theorem own_sz_1 : decode jdk_44_method_3_code 1 = .ok (.getfield 24, 3) := by decide +kernel
theorem own_sz_4 : decode jdk_44_method_3_code 4 = .ok (.getstatic 19, 3) := by decide +kernel
theorem own_sz_7 : decode jdk_44_method_3_code 7 = .ok (.if_acmp .eq 7, 3) := by decide +kernel
theorem own_sz_10 : decode jdk_44_method_3_code 10 = .ok (.iconst 2, 1) := by decide +kernel
theorem own_sz_11 : decode jdk_44_method_3_code 11 = .ok (.goto 4, 3) := by decide +kernel
theorem own_sz_14 : decode jdk_44_method_3_code 14 = .ok (.iconst 1, 1) := by decide +kernel
theorem own_sz_15 : decode jdk_44_method_3_code 15 = .ok (.ireturn, 1) := by decide +kernel
set_option maxRecDepth 65536 in
set_option maxHeartbeats 40000000 in
theorem own_sz1 (l : Launch) (Z : State) (a0 : Array Value) (hw : ∀ d ∈ tables_1, d.before a0 Z = true) (a em : Addr) (h0 : Heap) (n0 : Nat) (OX : Old Z n0 h0) (F1 : Fld Z h0 a "java/util/ImmutableCollections$List12" "e1" "Ljava/lang/Object;" (.ref em)) (SE : Sta Z Z.heap "java/util/ImmutableCollections" "EMPTY" "Ljava/lang/Object;" (.ref em)) :
    own_Met l Z (⟨"java/util/ImmutableCollections$List12", "size", "()I"⟩ : MethodName) jdk_44_method_3_code 1 (some .int) ({ frames := 0, cells := 0, slots := 0, locals := 0 } : Room) #[(.ref a)] h0 (fun v h L => v = some (.int (1 : Int32)) ∧ Fr n0 L ∧ h = h0) := by
  refine own_body (Ls := #[.val (.ref a)]) (plainFor_of_name own_pn_java_util_ImmutableCollections_List12) (fun m => by first | (simp [entryFrame, mkF, argsToLocals, Value.category]; done) | rfl) ?_
  intro p e s m below meth c s₁ hx hZ hby hml hown hnm hret hlk X0 e0
  have N0 := Fr.nil n0
  refine own_aloadN X0 hx (hb hby own_sz_0) rfl rfl ?_
  refine own_getfield X0 hx hZ (host := "") hown (Or.inl (own_w184 hw)) Via.refl e0 F1 (hb hby own_sz_1) fun T191 X191 e191 => ?_
  refine own_getstatic X191 hx hZ hown (Or.inr (own_w183 hw)) Via.refl e191 (SE.ext OX.2) (hb hby own_sz_4) fun T192 X192 e192 => ?_
  refine own_acmpYes X192 hx 14 (hb hby own_sz_7) (by decide) (by decide) rfl rfl (Jvm.Free.XT.aa_eq_t rfl) ?_
  refine own_iconst X192 hx (1 : Int32) (hb hby own_sz_14) rfl ?_
  refine own_retI X192 hx hret (hb hby own_sz_15) hlk (by decide) (by decide) ?_
  exact ⟨rfl, N0, e192⟩
set_option maxRecDepth 65536 in
set_option maxHeartbeats 40000000 in
theorem own_sz2 (l : Launch) (Z : State) (a0 : Array Value) (hw : ∀ d ∈ tables_1, d.before a0 Z = true) (a em x1 : Addr) (h0 : Heap) (n0 : Nat) (OX : Old Z n0 h0) (F1 : Fld Z h0 a "java/util/ImmutableCollections$List12" "e1" "Ljava/lang/Object;" (.ref x1)) (SE : Sta Z Z.heap "java/util/ImmutableCollections" "EMPTY" "Ljava/lang/Object;" (.ref em)) (ne : x1 ≠ em) :
    own_Met l Z (⟨"java/util/ImmutableCollections$List12", "size", "()I"⟩ : MethodName) jdk_44_method_3_code 1 (some .int) ({ frames := 0, cells := 0, slots := 0, locals := 0 } : Room) #[(.ref a)] h0 (fun v h L => v = some (.int (2 : Int32)) ∧ Fr n0 L ∧ h = h0) := by
  refine own_body (Ls := #[.val (.ref a)]) (plainFor_of_name own_pn_java_util_ImmutableCollections_List12) (fun m => by first | (simp [entryFrame, mkF, argsToLocals, Value.category]; done) | rfl) ?_
  intro p e s m below meth c s₁ hx hZ hby hml hown hnm hret hlk X0 e0
  have N0 := Fr.nil n0
  refine own_aloadN X0 hx (hb hby own_sz_0) rfl rfl ?_
  refine own_getfield X0 hx hZ (host := "") hown (Or.inl (own_w184 hw)) Via.refl e0 F1 (hb hby own_sz_1) fun T193 X193 e193 => ?_
  refine own_getstatic X193 hx hZ hown (Or.inr (own_w183 hw)) Via.refl e193 (SE.ext OX.2) (hb hby own_sz_4) fun T194 X194 e194 => ?_
  refine own_acmpNo X194 hx (hb hby own_sz_7) rfl rfl (Jvm.Free.XT.aa_eq_f (fun q => ne (Value.ref.inj q))) ?_
  refine own_iconst X194 hx (2 : Int32) (hb hby own_sz_10) rfl ?_
  refine own_goto X194 hx 15 (hb hby own_sz_11) (by decide) (by decide) ?_
  refine own_retI X194 hx hret (hb hby own_sz_15) hlk (by decide) (by decide) ?_
  exact ⟨rfl, N0, e194⟩
theorem own_ge_0 : decode jdk_44_method_5_code 0 = .ok (.iload_n 1, 1) := by decide +kernel
theorem own_ge_1 : decode jdk_44_method_5_code 1 = .ok (.ifCond .ne 8, 3) := by decide +kernel
theorem own_ge_4 : decode jdk_44_method_5_code 4 = .ok (.aload_n 0, 1) := by decide +kernel
theorem own_ge_5 : decode jdk_44_method_5_code 5 = .ok (.getfield 13, 3) := by decide +kernel
theorem own_ge_8 : decode jdk_44_method_5_code 8 = .ok (.areturn, 1) := by decide +kernel
theorem own_ge_9 : decode jdk_44_method_5_code 9 = .ok (.iload_n 1, 1) := by decide +kernel
theorem own_ge_10 : decode jdk_44_method_5_code 10 = .ok (.iconst 1, 1) := by decide +kernel
theorem own_ge_11 : decode jdk_44_method_5_code 11 = .ok (.if_icmp .ne 18, 3) := by decide +kernel
theorem own_ge_14 : decode jdk_44_method_5_code 14 = .ok (.aload_n 0, 1) := by decide +kernel
theorem own_ge_15 : decode jdk_44_method_5_code 15 = .ok (.getfield 24, 3) := by decide +kernel
theorem own_ge_18 : decode jdk_44_method_5_code 18 = .ok (.getstatic 19, 3) := by decide +kernel
theorem own_ge_21 : decode jdk_44_method_5_code 21 = .ok (.if_acmp .eq 8, 3) := by decide +kernel
theorem own_ge_24 : decode jdk_44_method_5_code 24 = .ok (.aload_n 0, 1) := by decide +kernel
theorem own_ge_25 : decode jdk_44_method_5_code 25 = .ok (.getfield 24, 3) := by decide +kernel
theorem own_ge_28 : decode jdk_44_method_5_code 28 = .ok (.areturn, 1) := by decide +kernel
theorem own_ge_29 : decode jdk_44_method_5_code 29 = .ok (.aload_n 0, 1) := by decide +kernel
theorem own_ge_30 : decode jdk_44_method_5_code 30 = .ok (.iload_n 1, 1) := by decide +kernel
theorem own_ge_31 : decode jdk_44_method_5_code 31 = .ok (.invokevirtual 27, 3) := by decide +kernel
theorem own_ge_34 : decode jdk_44_method_5_code 34 = .ok (.athrow, 1) := by decide +kernel
set_option maxRecDepth 65536 in
set_option maxHeartbeats 40000000 in
theorem own_ge0 (l : Launch) (Z : State) (a0 : Array Value) (hw : ∀ d ∈ tables_1, d.before a0 Z = true) (a x0 : Addr) (h0 : Heap) (n0 : Nat) (OX : Old Z n0 h0) (F0 : Fld Z h0 a "java/util/ImmutableCollections$List12" "e0" "Ljava/lang/Object;" (.ref x0)) :
    own_Met l Z (⟨"java/util/ImmutableCollections$List12", "get", "(I)Ljava/lang/Object;"⟩ : MethodName) jdk_44_method_5_code 2 (some (.object "java/lang/Object")) ({ frames := 0, cells := 0, slots := 0, locals := 0 } : Room) #[(.ref a), (.int (0 : Int32))] h0 (fun v h L => v = some (.ref x0) ∧ Fr n0 L ∧ h = h0) := by
  refine own_body (Ls := #[.val (.ref a), .val (.int (0 : Int32))]) (plainFor_of_name own_pn_java_util_ImmutableCollections_List12) (fun m => by first | (simp [entryFrame, mkF, argsToLocals, Value.category]; done) | rfl) ?_
  intro p e s m below meth c s₁ hx hZ hby hml hown hnm hret hlk X0 e0
  have N0 := Fr.nil n0
  refine own_iloadN X0 hx (hb hby own_ge_0) rfl ?_
  refine own_ifNo X0 hx (hb hby own_ge_1) (by decide) ?_
  refine own_aloadN X0 hx (hb hby own_ge_4) rfl rfl ?_
  refine own_getfield X0 hx hZ (host := "") hown (Or.inl (own_w181 hw)) Via.refl e0 F0 (hb hby own_ge_5) fun T195 X195 e195 => ?_
  refine own_retA X195 hx hret rfl rfl rfl (hb hby own_ge_8) hlk (by decide) (by decide) ?_
  exact ⟨rfl, N0, e195⟩
set_option maxRecDepth 65536 in
set_option maxHeartbeats 40000000 in
theorem own_ge1 (l : Launch) (Z : State) (a0 : Array Value) (hw : ∀ d ∈ tables_1, d.before a0 Z = true) (a em x1 : Addr) (h0 : Heap) (n0 : Nat) (OX : Old Z n0 h0) (F1 : Fld Z h0 a "java/util/ImmutableCollections$List12" "e1" "Ljava/lang/Object;" (.ref x1)) (SE : Sta Z Z.heap "java/util/ImmutableCollections" "EMPTY" "Ljava/lang/Object;" (.ref em)) (ne : x1 ≠ em) :
    own_Met l Z (⟨"java/util/ImmutableCollections$List12", "get", "(I)Ljava/lang/Object;"⟩ : MethodName) jdk_44_method_5_code 2 (some (.object "java/lang/Object")) ({ frames := 0, cells := 0, slots := 0, locals := 0 } : Room) #[(.ref a), (.int (1 : Int32))] h0 (fun v h L => v = some (.ref x1) ∧ Fr n0 L ∧ h = h0) := by
  refine own_body (Ls := #[.val (.ref a), .val (.int (1 : Int32))]) (plainFor_of_name own_pn_java_util_ImmutableCollections_List12) (fun m => by first | (simp [entryFrame, mkF, argsToLocals, Value.category]; done) | rfl) ?_
  intro p e s m below meth c s₁ hx hZ hby hml hown hnm hret hlk X0 e0
  have N0 := Fr.nil n0
  refine own_iloadN X0 hx (hb hby own_ge_0) rfl ?_
  refine own_ifYes X0 hx 9 (hb hby own_ge_1) (by decide) (by decide) (by decide) ?_
  refine own_iloadN X0 hx (hb hby own_ge_9) rfl ?_
  refine own_iconst X0 hx (1 : Int32) (hb hby own_ge_10) rfl ?_
  refine own_icmpNo X0 hx (hb hby own_ge_11) (by decide) ?_
  refine own_aloadN X0 hx (hb hby own_ge_14) rfl rfl ?_
  refine own_getfield X0 hx hZ (host := "") hown (Or.inl (own_w184 hw)) Via.refl e0 F1 (hb hby own_ge_15) fun T196 X196 e196 => ?_
  refine own_getstatic X196 hx hZ hown (Or.inr (own_w183 hw)) Via.refl e196 (SE.ext OX.2) (hb hby own_ge_18) fun T197 X197 e197 => ?_
  refine own_acmpNo X197 hx (hb hby own_ge_21) rfl rfl (Jvm.Free.XT.aa_eq_f (fun q => ne (Value.ref.inj q))) ?_
  refine own_aloadN X197 hx (hb hby own_ge_24) rfl rfl ?_
  refine own_getfield X197 hx hZ (host := "") hown (Or.inl (own_w184 hw)) Via.refl e197 F1 (hb hby own_ge_25) fun T198 X198 e198 => ?_
  refine own_retA X198 hx hret rfl rfl rfl (hb hby own_ge_28) hlk (by decide) (by decide) ?_
  exact ⟨rfl, N0, e198⟩
theorem own_szN_0 : decode jdk_45_method_3_code 0 = .ok (.aload_n 0, 1) := by decide +kernel
theorem own_szN_1 : decode jdk_45_method_3_code 1 = .ok (.getfield 7, 3) := by decide +kernel
theorem own_szN_4 : decode jdk_45_method_3_code 4 = .ok (.arraylength, 1) := by decide +kernel
theorem own_szN_5 : decode jdk_45_method_3_code 5 = .ok (.ireturn, 1) := by decide +kernel
theorem own_pn_java_util_ImmutableCollections_ListN : plainName "java/util/ImmutableCollections$ListN" = true := by first | (simp [plainName, overriddenIn]; done) | decide +kernel
set_option maxRecDepth 65536 in
set_option maxHeartbeats 40000000 in
theorem own_szN (l : Launch) (Z : State) (a0 : Array Value) (hw : ∀ d ∈ tables_1, d.before a0 Z = true) (a en : Addr) (nl : Cell) (h0 : Heap) (n0 : Nat) (OX : Old Z n0 h0) (FN : Fld Z Z.heap a "java/util/ImmutableCollections$ListN" "elements" "[Ljava/lang/Object;" (.ref en)) (AN : Arr Z Z.heap en nl (.object "java/lang/Object")) (ln : nl.slots.size.toInt32 = (0 : Int32)) :
    own_Met l Z (⟨"java/util/ImmutableCollections$ListN", "size", "()I"⟩ : MethodName) jdk_45_method_3_code 1 (some .int) ({ frames := 0, cells := 0, slots := 0, locals := 0 } : Room) #[(.ref a)] h0 (fun v h L => v = some (.int (0 : Int32)) ∧ Fr n0 L ∧ h = h0) := by
  refine own_body (Ls := #[.val (.ref a)]) (plainFor_of_name own_pn_java_util_ImmutableCollections_ListN) (fun m => by first | (simp [entryFrame, mkF, argsToLocals, Value.category]; done) | rfl) ?_
  intro p e s m below meth c s₁ hx hZ hby hml hown hnm hret hlk X0 e0
  have N0 := Fr.nil n0
  refine own_aloadN X0 hx (hb hby own_szN_0) rfl rfl ?_
  refine own_getfield X0 hx hZ (host := "") hown (Or.inl (own_w282 hw)) Via.refl e0 (FN.ext OX.2) (hb hby own_szN_1) fun T199 X199 e199 => ?_
  refine own_arraylength X199 hx hZ e199 (AN.ext OX.2) ln (hb hby own_szN_4) ?_
  refine own_retI X199 hx hret (hb hby own_szN_5) hlk (by decide) (by decide) ?_
  exact ⟨rfl, N0, e199⟩
theorem own_tmi_0 : decode jdk_2729_method_1_code 0 = .ok (.aload_n 0, 1) := by decide +kernel
theorem own_tmi_1 : decode jdk_2729_method_1_code 1 = .ok (.invokespecial 1, 3) := by decide +kernel
theorem own_tmi_4 : decode jdk_2729_method_1_code 4 = .ok (.aload_n 0, 1) := by decide +kernel
theorem own_tmi_5 : decode jdk_2729_method_1_code 5 = .ok (.iconst 0, 1) := by decide +kernel
theorem own_tmi_6 : decode jdk_2729_method_1_code 6 = .ok (.putfield 7, 3) := by decide +kernel
theorem own_tmi_9 : decode jdk_2729_method_1_code 9 = .ok (.aload_n 0, 1) := by decide +kernel
theorem own_tmi_10 : decode jdk_2729_method_1_code 10 = .ok (.iconst 0, 1) := by decide +kernel
theorem own_tmi_11 : decode jdk_2729_method_1_code 11 = .ok (.putfield 13, 3) := by decide +kernel
theorem own_tmi_14 : decode jdk_2729_method_1_code 14 = .ok (.aload_n 0, 1) := by decide +kernel
theorem own_tmi_15 : decode jdk_2729_method_1_code 15 = .ok (.aconst_null, 1) := by decide +kernel
theorem own_tmi_16 : decode jdk_2729_method_1_code 16 = .ok (.putfield 16, 3) := by decide +kernel
theorem own_tmi_19 : decode jdk_2729_method_1_code 19 = .ok (.return_, 1) := by decide +kernel
theorem own_pn_java_util_TreeMap : plainName "java/util/TreeMap" = true := by first | (simp [plainName, overriddenIn]; done) | decide +kernel
theorem own_fd_Ljava_2futil_2fComparator_3b : parseFieldDescriptor "Ljava/util/Comparator;" = some (.object "java/util/Comparator") := by decide +kernel
set_option maxRecDepth 65536 in
set_option maxHeartbeats 40000000 in
theorem own_tmi (l : Launch) (Z : State) (a0 : Array Value) (hw : ∀ d ∈ tables_1, d.before a0 Z = true) (a : Addr) (u1 u2 u3 : Value) (h0 : Heap) (n0 : Nat) (OX : Old Z n0 h0) (E : Exa Z h0 a "java/util/TreeMap") (F1 : Fld Z h0 a "java/util/TreeMap" "size" "I" u1) (F2 : Fld Z h0 a "java/util/TreeMap" "modCount" "I" u2) (F3 : Fld Z h0 a "java/util/TreeMap" "comparator" "Ljava/util/Comparator;" u3) (g : n0 ≤ a) :
    own_Met l Z (⟨"java/util/TreeMap", "<init>", "()V"⟩ : MethodName) jdk_2729_method_1_code 1 none ({ frames := 2, cells := 0, slots := 0, locals := 24 } : Room) #[(.ref a)] h0 (fun v h L => v = none ∧ Fr n0 L ∧ Keep h0 h [a]) := by
  refine own_body (Ls := #[.val (.ref a)]) (plainFor_of_name own_pn_java_util_TreeMap) (fun m => by first | (simp [entryFrame, mkF, argsToLocals, Value.category]; done) | rfl) ?_
  intro p e s m below meth c s₁ hx hZ hby hml hown hnm hret hlk X0 e0
  have N0 := Fr.nil n0
  refine own_aloadN X0 hx (hb hby own_tmi_0) rfl rfl ?_
  refine own_spec X0 hx hZ rfl hown (own_w209 hw) (own_w210 hw) (own_w214 hw) (own_w213 hw) (by decide) e0 (hb hby own_tmi_1) (by rw [hml]; rfl) own_pd__28_29V rfl (W := 0) (Nat.le_of_ble_eq_true rfl) (own_abm l Z a0 hw a h0 n0 OX) (by decide) (by decide) (by decide) (by decide) (a := a) (argsL := []) (rest := []) rfl rfl fun v200 T200 L200 X200 q200 => ?_
  obtain ⟨rfl, M200, e200⟩ := q200
  have N200 := Fr.app N0 M200
  show own_Fin p e below _ (T200.setTop (mkF m 4 #[.val (.ref a)] []))
  refine own_aloadN X200 hx (hb hby own_tmi_4) rfl rfl ?_
  refine own_iconst X200 hx (0 : Int32) (hb hby own_tmi_5) rfl ?_
  refine own_putfield X200 hx hZ (host := "") hown (Or.inl (own_w216 hw)) Via.refl e200 F1 E (Or.inl (own_w217 hw)) (own_w204 hw) own_fd_I rfl rfl (hb hby own_tmi_6) fun T201 h201 X201 e201 W201 => ?_
  have N201 := Fr.snoc X201 N200 g
  refine own_aloadN X201 hx (hb hby own_tmi_9) rfl rfl ?_
  refine own_iconst X201 hx (0 : Int32) (hb hby own_tmi_10) rfl ?_
  have f202 := (F2.other W201 (Or.inr (slot_ne (Or.inl (own_w219 hw)) (Or.inl (own_w217 hw)) (by decide) own_fd_I own_fd_I)))
  have f203 := (E.wr W201)
  refine own_putfield X201 hx hZ (host := "") hown (Or.inl (own_w218 hw)) Via.refl e201 f202 f203 (Or.inl (own_w219 hw)) (own_w204 hw) own_fd_I rfl rfl (hb hby own_tmi_11) fun T204 h204 X204 e204 W204 => ?_
  have N204 := Fr.snoc X204 N201 g
  refine own_aloadN X204 hx (hb hby own_tmi_14) rfl rfl ?_
  refine own_aconst_null X204 hx (hb hby own_tmi_15) ?_
  have f205 := ((F3.other W201 (Or.inr (slot_ne (Or.inr (own_w221 hw)) (Or.inl (own_w217 hw)) (by decide) own_fd_Ljava_2futil_2fComparator_3b own_fd_I))).other W204 (Or.inr (slot_ne (Or.inr (own_w221 hw)) (Or.inl (own_w219 hw)) (by decide) own_fd_Ljava_2futil_2fComparator_3b own_fd_I)))
  have f206 := (f203.wr W204)
  refine own_putfield X204 hx hZ (host := "") hown (Or.inl (own_w220 hw)) Via.refl e204 f205 f206 (Or.inr ⟨(own_w221 hw), rfl, hnm⟩) (own_w204 hw) own_fd_Ljava_2futil_2fComparator_3b rfl rfl (hb hby own_tmi_16) fun T207 h207 X207 e207 W207 => ?_
  have N207 := Fr.snoc X207 N204 g
  refine own_retV X207 hx hret (hb hby own_tmi_19) hlk (by decide) (by decide) ?_
  refine ⟨rfl, N207, ?_⟩
  rw [e207]
  exact ((((Keep.refl h0 [a]).wr W201 (Or.inl (by simp))).wr W204 (Or.inl (by simp))).wr W207 (Or.inl (by simp)))
theorem own_gri_0 : decode prog_56_method_1_code 0 = .ok (.aload_n 0, 1) := by decide +kernel
theorem own_gri_1 : decode prog_56_method_1_code 1 = .ok (.invokespecial 1, 3) := by decide +kernel
theorem own_gri_4 : decode prog_56_method_1_code 4 = .ok (.aload_n 0, 1) := by decide +kernel
theorem own_gri_5 : decode prog_56_method_1_code 5 = .ok (.new 7, 3) := by decide +kernel
theorem own_gri_8 : decode prog_56_method_1_code 8 = .ok (.dup, 1) := by decide +kernel
theorem own_gri_9 : decode prog_56_method_1_code 9 = .ok (.invokespecial 9, 3) := by decide +kernel
theorem own_gri_12 : decode prog_56_method_1_code 12 = .ok (.putfield 10, 3) := by decide +kernel
theorem own_gri_15 : decode prog_56_method_1_code 15 = .ok (.aload_n 0, 1) := by decide +kernel
theorem own_gri_16 : decode prog_56_method_1_code 16 = .ok (.new 7, 3) := by decide +kernel
theorem own_gri_19 : decode prog_56_method_1_code 19 = .ok (.dup, 1) := by decide +kernel
theorem own_gri_20 : decode prog_56_method_1_code 20 = .ok (.invokespecial 9, 3) := by decide +kernel
theorem own_gri_23 : decode prog_56_method_1_code 23 = .ok (.putfield 16, 3) := by decide +kernel
theorem own_gri_26 : decode prog_56_method_1_code 26 = .ok (.aload_n 0, 1) := by decide +kernel
theorem own_gri_27 : decode prog_56_method_1_code 27 = .ok (.invokestatic 19, 3) := by decide +kernel
theorem own_gri_30 : decode prog_56_method_1_code 30 = .ok (.putfield 25, 3) := by decide +kernel
theorem own_gri_33 : decode prog_56_method_1_code 33 = .ok (.aload_n 0, 1) := by decide +kernel
theorem own_gri_34 : decode prog_56_method_1_code 34 = .ok (.aload_n 1, 1) := by decide +kernel
theorem own_gri_35 : decode prog_56_method_1_code 35 = .ok (.putfield 29, 3) := by decide +kernel
theorem own_gri_38 : decode prog_56_method_1_code 38 = .ok (.return_, 1) := by decide +kernel
theorem own_pn_com_example_regent_regent_controller_Group : plainName "com/example/regent/regent/controller/Group" = true := by first | (simp [plainName, overriddenIn]; done) | decide +kernel
theorem own_fd_Ljava_2futil_2fNavigableMap_3b : parseFieldDescriptor "Ljava/util/NavigableMap;" = some (.object "java/util/NavigableMap") := by decide +kernel
theorem own_fd_Ljava_2futil_2fList_3b : parseFieldDescriptor "Ljava/util/List;" = some (.object "java/util/List") := by decide +kernel
theorem own_fd_Ljava_2flang_2fString_3b : parseFieldDescriptor "Ljava/lang/String;" = some (.object "java/lang/String") := by decide +kernel
theorem own_fd_Ljava_2flang_2fLong_3b : parseFieldDescriptor "Ljava/lang/Long;" = some (.object "java/lang/Long") := by decide +kernel
set_option maxRecDepth 65536 in
set_option maxHeartbeats 40000000 in
theorem own_gri (l : Launch) (Z : State) (a0 : Array Value) (hw : ∀ d ∈ tables_1, d.before a0 Z = true) (a sg el : Addr) (h0 : Heap) (n0 : Nat) (OX : Old Z n0 h0) (E : Exa Z h0 a "com/example/regent/regent/controller/Group") (g : n0 ≤ a) (F_registerCodes : Fld Z h0 a "com/example/regent/regent/controller/Group" "registerCodes" "Ljava/util/NavigableMap;" .null) (F_brokers : Fld Z h0 a "com/example/regent/regent/controller/Group" "brokers" "Ljava/util/NavigableMap;" .null) (F_syncStateSet : Fld Z h0 a "com/example/regent/regent/controller/Group" "syncStateSet" "Ljava/util/List;" .null) (F_name : Fld Z h0 a "com/example/regent/regent/controller/Group" "name" "Ljava/lang/String;" .null) (F_master : Fld Z h0 a "com/example/regent/regent/controller/Group" "master" "Ljava/lang/Long;" .null) (F_masterEpoch : Fld Z h0 a "com/example/regent/regent/controller/Group" "masterEpoch" "I" (.int (0 : Int32))) (F_syncStateSetEpoch : Fld Z h0 a "com/example/regent/regent/controller/Group" "syncStateSetEpoch" "I" (.int (0 : Int32))) (SL : Sta Z Z.heap "java/util/ImmutableCollections" "EMPTY_LIST" "Ljava/util/ImmutableCollections$ListN;" (.ref el)) :
    own_Met l Z (⟨"com/example/regent/regent/controller/Group", "<init>", "(Ljava/lang/String;)V"⟩ : MethodName) prog_56_method_1_code 2 none ({ frames := 3, cells := 2, slots := 18, locals := 38 } : Room) #[(.ref a), (.ref sg)] h0 (fun v h L => v = none ∧ Fr n0 L ∧ Keep h0 h [a] ∧ Exa Z h a "com/example/regent/regent/controller/Group" ∧ Fld Z h a "com/example/regent/regent/controller/Group" "master" "Ljava/lang/Long;" .null ∧ Fld Z h a "com/example/regent/regent/controller/Group" "masterEpoch" "I" (.int (0 : Int32)) ∧ Fld Z h a "com/example/regent/regent/controller/Group" "syncStateSet" "Ljava/util/List;" (.ref el) ∧ Fld Z h a "com/example/regent/regent/controller/Group" "syncStateSetEpoch" "I" (.int (0 : Int32))) := by
  refine own_body (Ls := #[.val (.ref a), .val (.ref sg)]) (plainFor_of_name own_pn_com_example_regent_regent_controller_Group) (fun m => by first | (simp [entryFrame, mkF, argsToLocals, Value.category]; done) | rfl) ?_
  intro p e s m below meth c s₁ hx hZ hby hml hown hnm hret hlk X0 e0
  have N0 := Fr.nil n0
  refine own_aloadN X0 hx (hb hby own_gri_0) rfl rfl ?_
  refine own_initO X0 hx hZ hown (own_w202 hw) (own_w19 hw) (own_w20 hw) e0 (by rw [hml]; rfl) (hb hby own_gri_1) (by decide) 0 (Nat.le_of_ble_eq_true rfl) (by decide) fun T208 X208 e208 => ?_
  refine own_aloadN X208 hx (hb hby own_gri_4) rfl rfl ?_
  refine own_new X208 hx hZ hown (own_w203 hw) (own_w204 hw) (own_w205 hw) e208 (hb hby own_gri_5) (by decide) (by decide) fun T209 h209 b209 X209 e209 g209 E209 A209 D209 => ?_
  have f210 : n0 ≤ b209 := Nat.le_trans (own_old OX) (Nat.le_of_eq g209.symm)
  have f211 : h0.size ≤ b209 := Nat.le_trans (Keep.refl h0 []).1 (Nat.le_of_eq g209.symm)
  have f212 : Fld Z h209 b209 "java/util/TreeMap" "size" "I" (.int (0 : Int32)) := D209 (Or.inl (own_w217 hw)) own_fd_I
  have f213 : Fld Z h209 b209 "java/util/TreeMap" "modCount" "I" (.int (0 : Int32)) := D209 (Or.inl (own_w219 hw)) own_fd_I
  have f214 : Fld Z h209 b209 "java/util/TreeMap" "comparator" "Ljava/util/Comparator;" .null := D209 (Or.inr (own_w221 hw)) own_fd_Ljava_2futil_2fComparator_3b
  refine own_dup X209 hx (hb hby own_gri_8) rfl ?_
  have f215 := (OX.ext E209)
  refine own_spec X209 hx hZ rfl hown (own_w206 hw) (own_w207 hw) (own_w208 hw) (own_w205 hw) (by decide) e209 (hb hby own_gri_9) (by rw [hml]; rfl) own_pd__28_29V rfl (W := 2) (Nat.le_of_ble_eq_true rfl) (own_tmi l Z a0 hw b209 _ _ _ h209 n0 f215 A209 f212 f213 f214 f210) (by decide) (by decide) (by decide) (by decide) (a := b209) (argsL := []) (rest := [(.ref b209), (.ref a)]) rfl rfl fun v216 T216 L216 X216 q216 => ?_
  obtain ⟨h216, e216⟩ : ∃ z, T216.heap = z := ⟨_, rfl⟩
  try dsimp only at q216
  rw [e216] at q216
  obtain ⟨rfl, M216, K216⟩ := q216
  have N216 := Fr.app N0 M216
  show own_Fin p e below _ (T216.setTop (mkF m 12 #[.val (.ref a), .val (.ref sg)] [(.ref b209), (.ref a)]))
  have f217 := ((E.ext E209).keep K216)
  have f218 := (A209.keep K216)
  have f219 := ne_exa f217 f218 (by decide)
  have f220 := ((F_registerCodes.ext E209).keep K216 (ninS f219 nin0))
  refine own_putfield X216 hx hZ (host := "") hown (Or.inl (own_w222 hw)) Via.refl e216 f220 f217 (Or.inr ⟨(own_w223 hw), rfl, hnm⟩) (own_w197 hw) own_fd_Ljava_2futil_2fNavigableMap_3b rfl rfl (hb hby own_gri_12) fun T221 h221 X221 e221 W221 => ?_
  have N221 := Fr.snoc X221 N216 g
  refine own_aloadN X221 hx (hb hby own_gri_15) rfl rfl ?_
  refine own_new X221 hx hZ hown (own_w203 hw) (own_w204 hw) (own_w205 hw) e221 (hb hby own_gri_16) (by decide) (by decide) fun T222 h222 b222 X222 e222 g222 E222 A222 D222 => ?_
  have f223 := (f218.wr W221)
  have f224 := Nat.ne_of_lt (Nat.lt_of_lt_of_le f223.lt (Nat.le_of_eq g222.symm))
  have f225 := ((f215.keep K216 (allS f210 all0)).wr W221 g)
  have f226 : n0 ≤ b222 := Nat.le_trans (own_old f225) (Nat.le_of_eq g222.symm)
  have f227 : h0.size ≤ b222 := Nat.le_trans (And.intro (Nat.le_trans (Nat.le_trans E209.1 K216.1) (Nat.le_of_eq W221.size.symm)) True.intro).1 (Nat.le_of_eq g222.symm)
  have f228 : Fld Z h222 b222 "java/util/TreeMap" "size" "I" (.int (0 : Int32)) := D222 (Or.inl (own_w217 hw)) own_fd_I
  have f229 : Fld Z h222 b222 "java/util/TreeMap" "modCount" "I" (.int (0 : Int32)) := D222 (Or.inl (own_w219 hw)) own_fd_I
  have f230 : Fld Z h222 b222 "java/util/TreeMap" "comparator" "Ljava/util/Comparator;" .null := D222 (Or.inr (own_w221 hw)) own_fd_Ljava_2futil_2fComparator_3b
  refine own_dup X222 hx (hb hby own_gri_19) rfl ?_
  have f231 := (f225.ext E222)
  refine own_spec X222 hx hZ rfl hown (own_w206 hw) (own_w207 hw) (own_w208 hw) (own_w205 hw) (by decide) e222 (hb hby own_gri_20) (by rw [hml]; rfl) own_pd__28_29V rfl (W := 2) (Nat.le_of_ble_eq_true rfl) (own_tmi l Z a0 hw b222 _ _ _ h222 n0 f231 A222 f228 f229 f230 f226) (by decide) (by decide) (by decide) (by decide) (a := b222) (argsL := []) (rest := [(.ref b222), (.ref a)]) rfl rfl fun v232 T232 L232 X232 q232 => ?_
  obtain ⟨h232, e232⟩ : ∃ z, T232.heap = z := ⟨_, rfl⟩
  try dsimp only at q232
  rw [e232] at q232
  obtain ⟨rfl, M232, K232⟩ := q232
  have N232 := Fr.app N221 M232
  show own_Fin p e below _ (T232.setTop (mkF m 23 #[.val (.ref a), .val (.ref sg)] [(.ref b222), (.ref a)]))
  have f233 := (((f217.wr W221).ext E222).keep K232)
  have f234 := (A222.keep K232)
  have f235 := ne_exa f233 f234 (by decide)
  have f236 := (((((F_brokers.ext E209).keep K216 (ninS f219 nin0)).other W221 (Or.inr (slot_ne (Or.inr (own_w225 hw)) (Or.inr (own_w223 hw)) (by decide) own_fd_Ljava_2futil_2fNavigableMap_3b own_fd_Ljava_2futil_2fNavigableMap_3b))).ext E222).keep K232 (ninS f235 nin0))
  refine own_putfield X232 hx hZ (host := "") hown (Or.inl (own_w224 hw)) Via.refl e232 f236 f233 (Or.inr ⟨(own_w225 hw), rfl, hnm⟩) (own_w197 hw) own_fd_Ljava_2futil_2fNavigableMap_3b rfl rfl (hb hby own_gri_23) fun T237 h237 X237 e237 W237 => ?_
  have N237 := Fr.snoc X237 N232 g
  refine own_aloadN X237 hx (hb hby own_gri_26) rfl rfl ?_
  have f238 := ((f231.keep K232 (allS f226 all0)).wr W237 g)
  refine own_stat X237 hx hZ hown (own_w226 hw) (own_w227 hw) (own_w228 hw) (own_w102 hw) (by decide) e237 (hb hby own_gri_27) (by rw [hml]; rfl) own_pd__28_29Ljava_2futil_2fList_3b rfl (W := 1) (Nat.le_of_ble_eq_true rfl) (own_lof l Z a0 hw el h237 n0 f238 SL) (by decide) (by decide) (by decide) (by decide) (argsL := []) (rest := [(.ref a)]) rfl rfl fun v239 T239 L239 X239 q239 => ?_
  obtain ⟨rfl, M239, e239⟩ := q239
  have N239 := Fr.app N237 M239
  show own_Fin p e below _ (T239.setTop (mkF m 30 #[.val (.ref a), .val (.ref sg)] [(.ref el), (.ref a)]))
  have f240 := ((((((F_syncStateSet.ext E209).keep K216 (ninS f219 nin0)).other W221 (Or.inr (slot_ne (Or.inl (own_w231 hw)) (Or.inr (own_w223 hw)) (by decide) own_fd_Ljava_2futil_2fList_3b own_fd_Ljava_2futil_2fNavigableMap_3b))).ext E222).keep K232 (ninS f235 nin0)).other W237 (Or.inr (slot_ne (Or.inl (own_w231 hw)) (Or.inr (own_w225 hw)) (by decide) own_fd_Ljava_2futil_2fList_3b own_fd_Ljava_2futil_2fNavigableMap_3b)))
  have f241 := (f233.wr W237)
  refine own_putfield X239 hx hZ (host := "") hown (Or.inl (own_w230 hw)) Via.refl e239 f240 f241 (Or.inl (own_w231 hw)) (own_w197 hw) own_fd_Ljava_2futil_2fList_3b rfl rfl (hb hby own_gri_30) fun T242 h242 X242 e242 W242 => ?_
  have N242 := Fr.snoc X242 N239 g
  refine own_aloadN X242 hx (hb hby own_gri_33) rfl rfl ?_
  refine own_aloadN X242 hx (hb hby own_gri_34) rfl rfl ?_
  have f243 := (((((((F_name.ext E209).keep K216 (ninS f219 nin0)).other W221 (Or.inr (slot_ne (Or.inr (own_w233 hw)) (Or.inr (own_w223 hw)) (by decide) own_fd_Ljava_2flang_2fString_3b own_fd_Ljava_2futil_2fNavigableMap_3b))).ext E222).keep K232 (ninS f235 nin0)).other W237 (Or.inr (slot_ne (Or.inr (own_w233 hw)) (Or.inr (own_w225 hw)) (by decide) own_fd_Ljava_2flang_2fString_3b own_fd_Ljava_2futil_2fNavigableMap_3b))).other W242 (Or.inr (slot_ne (Or.inr (own_w233 hw)) (Or.inl (own_w231 hw)) (by decide) own_fd_Ljava_2flang_2fString_3b own_fd_Ljava_2futil_2fList_3b)))
  have f244 := (f241.wr W242)
  refine own_putfield X242 hx hZ (host := "") hown (Or.inl (own_w232 hw)) Via.refl e242 f243 f244 (Or.inr ⟨(own_w233 hw), rfl, hnm⟩) (own_w197 hw) own_fd_Ljava_2flang_2fString_3b rfl rfl (hb hby own_gri_35) fun T245 h245 X245 e245 W245 => ?_
  have N245 := Fr.snoc X245 N242 g
  refine own_retV X245 hx hret (hb hby own_gri_38) hlk (by decide) (by decide) ?_
  refine ⟨rfl, N245, ?_⟩
  rw [e245]
  exact ⟨(((((((((Keep.refl h0 [a]).ext E209).trans K216 (allS (Or.inr f211) all0)).wr W221 (Or.inl (by simp))).ext E222).trans K232 (allS (Or.inr f227) all0)).wr W237 (Or.inl (by simp))).wr W242 (Or.inl (by simp))).wr W245 (Or.inl (by simp))), (f244.wr W245), ((((((((F_master.ext E209).keep K216 (ninS f219 nin0)).other W221 (Or.inr (slot_ne (Or.inl (own_w236 hw)) (Or.inr (own_w223 hw)) (by decide) own_fd_Ljava_2flang_2fLong_3b own_fd_Ljava_2futil_2fNavigableMap_3b))).ext E222).keep K232 (ninS f235 nin0)).other W237 (Or.inr (slot_ne (Or.inl (own_w236 hw)) (Or.inr (own_w225 hw)) (by decide) own_fd_Ljava_2flang_2fLong_3b own_fd_Ljava_2futil_2fNavigableMap_3b))).other W242 (Or.inr (slot_ne (Or.inl (own_w236 hw)) (Or.inl (own_w231 hw)) (by decide) own_fd_Ljava_2flang_2fLong_3b own_fd_Ljava_2futil_2fList_3b))).other W245 (Or.inr (slot_ne (Or.inl (own_w236 hw)) (Or.inr (own_w233 hw)) (by decide) own_fd_Ljava_2flang_2fLong_3b own_fd_Ljava_2flang_2fString_3b))), ((((((((F_masterEpoch.ext E209).keep K216 (ninS f219 nin0)).other W221 (Or.inr (slot_ne (Or.inl (own_w238 hw)) (Or.inr (own_w223 hw)) (by decide) own_fd_I own_fd_Ljava_2futil_2fNavigableMap_3b))).ext E222).keep K232 (ninS f235 nin0)).other W237 (Or.inr (slot_ne (Or.inl (own_w238 hw)) (Or.inr (own_w225 hw)) (by decide) own_fd_I own_fd_Ljava_2futil_2fNavigableMap_3b))).other W242 (Or.inr (slot_ne (Or.inl (own_w238 hw)) (Or.inl (own_w231 hw)) (by decide) own_fd_I own_fd_Ljava_2futil_2fList_3b))).other W245 (Or.inr (slot_ne (Or.inl (own_w238 hw)) (Or.inr (own_w233 hw)) (by decide) own_fd_I own_fd_Ljava_2flang_2fString_3b))), ((f240.same W242).other W245 (Or.inr (slot_ne (Or.inl (own_w231 hw)) (Or.inr (own_w233 hw)) (by decide) own_fd_Ljava_2futil_2fList_3b own_fd_Ljava_2flang_2fString_3b))), ((((((((F_syncStateSetEpoch.ext E209).keep K216 (ninS f219 nin0)).other W221 (Or.inr (slot_ne (Or.inl (own_w241 hw)) (Or.inr (own_w223 hw)) (by decide) own_fd_I own_fd_Ljava_2futil_2fNavigableMap_3b))).ext E222).keep K232 (ninS f235 nin0)).other W237 (Or.inr (slot_ne (Or.inl (own_w241 hw)) (Or.inr (own_w225 hw)) (by decide) own_fd_I own_fd_Ljava_2futil_2fNavigableMap_3b))).other W242 (Or.inr (slot_ne (Or.inl (own_w241 hw)) (Or.inl (own_w231 hw)) (by decide) own_fd_I own_fd_Ljava_2futil_2fList_3b))).other W245 (Or.inr (slot_ne (Or.inl (own_w241 hw)) (Or.inr (own_w233 hw)) (by decide) own_fd_I own_fd_Ljava_2flang_2fString_3b)))⟩
theorem own_ei_0 : decode prog_53_method_1_code 0 = .ok (.aload_n 0, 1) := by decide +kernel
theorem own_ei_1 : decode prog_53_method_1_code 1 = .ok (.invokespecial 1, 3) := by decide +kernel
theorem own_ei_4 : decode prog_53_method_1_code 4 = .ok (.aload 4, 2) := by decide +kernel
theorem own_ei_6 : decode prog_53_method_1_code 6 = .ok (.invokestatic 7, 3) := by decide +kernel
theorem own_ei_9 : decode prog_53_method_1_code 9 = .ok (.astore 4, 2) := by decide +kernel
theorem own_ei_11 : decode prog_53_method_1_code 11 = .ok (.aload_n 0, 1) := by decide +kernel
theorem own_ei_12 : decode prog_53_method_1_code 12 = .ok (.aload_n 1, 1) := by decide +kernel
theorem own_ei_13 : decode prog_53_method_1_code 13 = .ok (.putfield 13, 3) := by decide +kernel
theorem own_ei_16 : decode prog_53_method_1_code 16 = .ok (.aload_n 0, 1) := by decide +kernel
theorem own_ei_17 : decode prog_53_method_1_code 17 = .ok (.aload_n 2, 1) := by decide +kernel
theorem own_ei_18 : decode prog_53_method_1_code 18 = .ok (.putfield 19, 3) := by decide +kernel
theorem own_ei_21 : decode prog_53_method_1_code 21 = .ok (.aload_n 0, 1) := by decide +kernel
theorem own_ei_22 : decode prog_53_method_1_code 22 = .ok (.iload_n 3, 1) := by decide +kernel
theorem own_ei_23 : decode prog_53_method_1_code 23 = .ok (.putfield 23, 3) := by decide +kernel
theorem own_ei_26 : decode prog_53_method_1_code 26 = .ok (.aload_n 0, 1) := by decide +kernel
theorem own_ei_27 : decode prog_53_method_1_code 27 = .ok (.aload 4, 2) := by decide +kernel
theorem own_ei_29 : decode prog_53_method_1_code 29 = .ok (.putfield 27, 3) := by decide +kernel
theorem own_ei_32 : decode prog_53_method_1_code 32 = .ok (.aload_n 0, 1) := by decide +kernel
theorem own_ei_33 : decode prog_53_method_1_code 33 = .ok (.iload 5, 2) := by decide +kernel
theorem own_ei_35 : decode prog_53_method_1_code 35 = .ok (.putfield 31, 3) := by decide +kernel
theorem own_ei_38 : decode prog_53_method_1_code 38 = .ok (.return_, 1) := by decide +kernel
theorem own_pn_com_example_regent_regent_controller_Event_MasterChanged : plainName "com/example/regent/regent/controller/Event$MasterChanged" = true := by first | (simp [plainName, overriddenIn]; done) | decide +kernel
set_option maxRecDepth 65536 in
set_option maxHeartbeats 40000000 in
theorem own_ei00 (l : Launch) (Z : State) (a0 : Array Value) (hw : ∀ d ∈ tables_1, d.before a0 Z = true) (o sg : Addr) (ep sp : Int32) (a el : Addr) (h0 : Heap) (n0 : Nat) (OX : Old Z n0 h0) (EO : Exa Z h0 o "com/example/regent/regent/controller/Event$MasterChanged") (g : n0 ≤ o) (F_group : Fld Z h0 o "com/example/regent/regent/controller/Event$MasterChanged" "group" "Ljava/lang/String;" .null) (F_master : Fld Z h0 o "com/example/regent/regent/controller/Event$MasterChanged" "master" "Ljava/lang/Long;" .null) (F_masterEpoch : Fld Z h0 o "com/example/regent/regent/controller/Event$MasterChanged" "masterEpoch" "I" (.int (0 : Int32))) (F_syncStateSet : Fld Z h0 o "com/example/regent/regent/controller/Event$MasterChanged" "syncStateSet" "Ljava/util/List;" .null) (F_syncStateSetEpoch : Fld Z h0 o "com/example/regent/regent/controller/Event$MasterChanged" "syncStateSetEpoch" "I" (.int (0 : Int32))) (E : Exa Z h0 a "java/util/ArrayList") (F0 : Fld Z h0 a "java/util/ArrayList" "size" "I" (.int (0 : Int32))) (SL : Sta Z Z.heap "java/util/ImmutableCollections" "EMPTY_LIST" "Ljava/util/ImmutableCollections$ListN;" (.ref el)) (NA : ∃ c t, Z.vm.findClass "java/util/ArrayList" = some c ∧ Z.vm.findClass "java/util/ImmutableCollections$List12" = some t ∧ Z.vm.assignable c t = false) (NB : ∃ c t, Z.vm.findClass "java/util/ArrayList" = some c ∧ Z.vm.findClass "java/util/ImmutableCollections$ListN" = some t ∧ Z.vm.assignable c t = false) :
    own_Met l Z (⟨"com/example/regent/regent/controller/Event$MasterChanged", "<init>", "(Ljava/lang/String;Ljava/lang/Long;ILjava/util/List;I)V"⟩ : MethodName) prog_53_method_1_code 6 none ({ frames := 3, cells := 0, slots := 0, locals := 37 } : Room) #[(.ref o), (.ref sg), .null, (.int ep), (.ref a), (.int sp)] h0 (fun v h L => v = none ∧ Fr n0 L ∧ Keep h0 h [o] ∧ Exa Z h o "com/example/regent/regent/controller/Event$MasterChanged" ∧ Fld Z h o "com/example/regent/regent/controller/Event$MasterChanged" "master" "Ljava/lang/Long;" .null ∧ Fld Z h o "com/example/regent/regent/controller/Event$MasterChanged" "masterEpoch" "I" (.int ep) ∧ Fld Z h o "com/example/regent/regent/controller/Event$MasterChanged" "syncStateSet" "Ljava/util/List;" (.ref el) ∧ Fld Z h o "com/example/regent/regent/controller/Event$MasterChanged" "syncStateSetEpoch" "I" (.int sp)) := by
  refine own_body (Ls := #[.val (.ref o), .val (.ref sg), .val .null, .val (.int ep), .val (.ref a), .val (.int sp)]) (plainFor_of_name own_pn_com_example_regent_regent_controller_Event_MasterChanged) (fun m => by first | (simp [entryFrame, mkF, argsToLocals, Value.category]; done) | rfl) ?_
  intro p e s m below meth c s₁ hx hZ hby hml hown hnm hret hlk X0 e0
  have N0 := Fr.nil n0
  refine own_aloadN X0 hx (hb hby own_ei_0) rfl rfl ?_
  refine own_spec X0 hx hZ rfl hown (own_w94 hw) (own_w95 hw) (own_w98 hw) (own_w97 hw) (by decide) e0 (hb hby own_ei_1) (by rw [hml]; rfl) own_pd__28_29V rfl (W := 0) (Nat.le_of_ble_eq_true rfl) (own_rec l Z a0 hw o h0 n0 OX) (by decide) (by decide) (by decide) (by decide) (a := o) (argsL := []) (rest := []) rfl rfl fun v246 T246 L246 X246 q246 => ?_
  obtain ⟨rfl, M246, e246⟩ := q246
  have N246 := Fr.app N0 M246
  show own_Fin p e below _ (T246.setTop (mkF m 4 #[.val (.ref o), .val (.ref sg), .val .null, .val (.int ep), .val (.ref a), .val (.int sp)] []))
  refine own_aload X246 hx (hb hby own_ei_4) rfl rfl ?_
  refine own_stat X246 hx hZ hown (own_w100 hw) (own_w101 hw) (own_w103 hw) (own_w102 hw) (by decide) e246 (hb hby own_ei_6) (by rw [hml]; rfl) own_pd__28Ljava_2futil_2fCollection_3b_29Ljava_2futil_2fList_3b rfl (W := 0) (Nat.le_of_ble_eq_true rfl) (own_lk0 l Z a0 hw a el h0 n0 OX E F0 SL NA NB) (by decide) (by decide) (by decide) (by decide) (argsL := [(.ref a)]) (rest := []) rfl rfl fun v247 T247 L247 X247 q247 => ?_
  obtain ⟨rfl, M247, e247⟩ := q247
  have N247 := Fr.app N246 M247
  show own_Fin p e below _ (T247.setTop (mkF m 9 #[.val (.ref o), .val (.ref sg), .val .null, .val (.int ep), .val (.ref a), .val (.int sp)] [(.ref el)]))
  refine own_astore X247 hx (l' := #[.val (.ref o), .val (.ref sg), .val .null, .val (.int ep), .val (.ref el), .val (.int sp)]) (hb hby own_ei_9) rfl rfl ?_
  refine own_aloadN X247 hx (hb hby own_ei_11) rfl rfl ?_
  refine own_aloadN X247 hx (hb hby own_ei_12) rfl rfl ?_
  refine own_putfield X247 hx hZ (host := "") hown (Or.inl (own_w186 hw)) Via.refl e247 F_group EO (Or.inr ⟨(own_w187 hw), rfl, hnm⟩) (own_w81 hw) own_fd_Ljava_2flang_2fString_3b rfl rfl (hb hby own_ei_13) fun T248 h248 X248 e248 W248 => ?_
  have N248 := Fr.snoc X248 N247 g
  refine own_aloadN X248 hx (hb hby own_ei_16) rfl rfl ?_
  refine own_aloadN X248 hx (hb hby own_ei_17) rfl rfl ?_
  have f249 := (F_master.other W248 (Or.inr (slot_ne (Or.inr (own_w189 hw)) (Or.inr (own_w187 hw)) (by decide) own_fd_Ljava_2flang_2fLong_3b own_fd_Ljava_2flang_2fString_3b)))
  have f250 := (EO.wr W248)
  refine own_putfield X248 hx hZ (host := "") hown (Or.inl (own_w188 hw)) Via.refl e248 f249 f250 (Or.inr ⟨(own_w189 hw), rfl, hnm⟩) (own_w81 hw) own_fd_Ljava_2flang_2fLong_3b rfl rfl (hb hby own_ei_18) fun T251 h251 X251 e251 W251 => ?_
  have N251 := Fr.snoc X251 N248 g
  refine own_aloadN X251 hx (hb hby own_ei_21) rfl rfl ?_
  refine own_iloadN X251 hx (hb hby own_ei_22) rfl ?_
  have f252 := ((F_masterEpoch.other W248 (Or.inr (slot_ne (Or.inr (own_w191 hw)) (Or.inr (own_w187 hw)) (by decide) own_fd_I own_fd_Ljava_2flang_2fString_3b))).other W251 (Or.inr (slot_ne (Or.inr (own_w191 hw)) (Or.inr (own_w189 hw)) (by decide) own_fd_I own_fd_Ljava_2flang_2fLong_3b)))
  have f253 := (f250.wr W251)
  refine own_putfield X251 hx hZ (host := "") hown (Or.inl (own_w190 hw)) Via.refl e251 f252 f253 (Or.inr ⟨(own_w191 hw), rfl, hnm⟩) (own_w81 hw) own_fd_I rfl rfl (hb hby own_ei_23) fun T254 h254 X254 e254 W254 => ?_
  have N254 := Fr.snoc X254 N251 g
  refine own_aloadN X254 hx (hb hby own_ei_26) rfl rfl ?_
  refine own_aload X254 hx (hb hby own_ei_27) rfl rfl ?_
  have f255 := (((F_syncStateSet.other W248 (Or.inr (slot_ne (Or.inr (own_w193 hw)) (Or.inr (own_w187 hw)) (by decide) own_fd_Ljava_2futil_2fList_3b own_fd_Ljava_2flang_2fString_3b))).other W251 (Or.inr (slot_ne (Or.inr (own_w193 hw)) (Or.inr (own_w189 hw)) (by decide) own_fd_Ljava_2futil_2fList_3b own_fd_Ljava_2flang_2fLong_3b))).other W254 (Or.inr (slot_ne (Or.inr (own_w193 hw)) (Or.inr (own_w191 hw)) (by decide) own_fd_Ljava_2futil_2fList_3b own_fd_I)))
  have f256 := (f253.wr W254)
  refine own_putfield X254 hx hZ (host := "") hown (Or.inl (own_w192 hw)) Via.refl e254 f255 f256 (Or.inr ⟨(own_w193 hw), rfl, hnm⟩) (own_w81 hw) own_fd_Ljava_2futil_2fList_3b rfl rfl (hb hby own_ei_29) fun T257 h257 X257 e257 W257 => ?_
  have N257 := Fr.snoc X257 N254 g
  refine own_aloadN X257 hx (hb hby own_ei_32) rfl rfl ?_
  refine own_iload X257 hx (hb hby own_ei_33) rfl ?_
  have f258 := ((((F_syncStateSetEpoch.other W248 (Or.inr (slot_ne (Or.inr (own_w195 hw)) (Or.inr (own_w187 hw)) (by decide) own_fd_I own_fd_Ljava_2flang_2fString_3b))).other W251 (Or.inr (slot_ne (Or.inr (own_w195 hw)) (Or.inr (own_w189 hw)) (by decide) own_fd_I own_fd_Ljava_2flang_2fLong_3b))).other W254 (Or.inr (slot_ne (Or.inr (own_w195 hw)) (Or.inr (own_w191 hw)) (by decide) own_fd_I own_fd_I))).other W257 (Or.inr (slot_ne (Or.inr (own_w195 hw)) (Or.inr (own_w193 hw)) (by decide) own_fd_I own_fd_Ljava_2futil_2fList_3b)))
  have f259 := (f256.wr W257)
  refine own_putfield X257 hx hZ (host := "") hown (Or.inl (own_w194 hw)) Via.refl e257 f258 f259 (Or.inr ⟨(own_w195 hw), rfl, hnm⟩) (own_w81 hw) own_fd_I rfl rfl (hb hby own_ei_35) fun T260 h260 X260 e260 W260 => ?_
  have N260 := Fr.snoc X260 N257 g
  refine own_retV X260 hx hret (hb hby own_ei_38) hlk (by decide) (by decide) ?_
  refine ⟨rfl, N260, ?_⟩
  rw [e260]
  exact ⟨((((((Keep.refl h0 [o]).wr W248 (Or.inl (by simp))).wr W251 (Or.inl (by simp))).wr W254 (Or.inl (by simp))).wr W257 (Or.inl (by simp))).wr W260 (Or.inl (by simp))), (f259.wr W260), ((((f249.same W251).other W254 (Or.inr (slot_ne (Or.inr (own_w189 hw)) (Or.inr (own_w191 hw)) (by decide) own_fd_Ljava_2flang_2fLong_3b own_fd_I))).other W257 (Or.inr (slot_ne (Or.inr (own_w189 hw)) (Or.inr (own_w193 hw)) (by decide) own_fd_Ljava_2flang_2fLong_3b own_fd_Ljava_2futil_2fList_3b))).other W260 (Or.inr (slot_ne (Or.inr (own_w189 hw)) (Or.inr (own_w195 hw)) (by decide) own_fd_Ljava_2flang_2fLong_3b own_fd_I))), (((f252.same W254).other W257 (Or.inr (slot_ne (Or.inr (own_w191 hw)) (Or.inr (own_w193 hw)) (by decide) own_fd_I own_fd_Ljava_2futil_2fList_3b))).other W260 (Or.inr (slot_ne (Or.inr (own_w191 hw)) (Or.inr (own_w195 hw)) (by decide) own_fd_I own_fd_I))), ((f255.same W257).other W260 (Or.inr (slot_ne (Or.inr (own_w193 hw)) (Or.inr (own_w195 hw)) (by decide) own_fd_Ljava_2futil_2fList_3b own_fd_I))), (f258.same W260)⟩
set_option maxRecDepth 65536 in
set_option maxHeartbeats 40000000 in
theorem own_ei01 (l : Launch) (Z : State) (a0 : Array Value) (hw : ∀ d ∈ tables_1, d.before a0 Z = true) (o sg : Addr) (ep sp : Int32) (a em b mr x0 : Addr) (k : ClassId) (h0 : Heap) (n0 : Nat) (OX : Old Z n0 h0) (EO : Exa Z h0 o "com/example/regent/regent/controller/Event$MasterChanged") (g : n0 ≤ o) (F_group : Fld Z h0 o "com/example/regent/regent/controller/Event$MasterChanged" "group" "Ljava/lang/String;" .null) (F_master : Fld Z h0 o "com/example/regent/regent/controller/Event$MasterChanged" "master" "Ljava/lang/Long;" .null) (F_masterEpoch : Fld Z h0 o "com/example/regent/regent/controller/Event$MasterChanged" "masterEpoch" "I" (.int (0 : Int32))) (F_syncStateSet : Fld Z h0 o "com/example/regent/regent/controller/Event$MasterChanged" "syncStateSet" "Ljava/util/List;" .null) (F_syncStateSetEpoch : Fld Z h0 o "com/example/regent/regent/controller/Event$MasterChanged" "syncStateSetEpoch" "I" (.int (0 : Int32))) (E : Exa Z h0 a "java/util/ArrayList") (F0 : Fld Z h0 a "java/util/ArrayList" "size" "I" (.int (1 : Int32))) (F : Fld Z h0 a "java/util/ArrayList" "elementData" "[Ljava/lang/Object;" (.ref b)) (VV : Arv Z h0 b k (.object "java/lang/Object") 10 [(.ref x0), .null, .null, .null, .null, .null, .null, .null, .null, .null] .null) (EX0 : Exa Z h0 x0 "java/lang/Long") (EB : Exa Z h0 b "[Ljava/lang/Object;") (MM : own_Mir Z "[Ljava/lang/Object;" mr) (SE : Sta Z Z.heap "java/util/ImmutableCollections" "EMPTY" "Ljava/lang/Object;" (.ref em)) (NA : ∃ c t, Z.vm.findClass "java/util/ArrayList" = some c ∧ Z.vm.findClass "java/util/ImmutableCollections$List12" = some t ∧ Z.vm.assignable c t = false) (NB : ∃ c t, Z.vm.findClass "java/util/ArrayList" = some c ∧ Z.vm.findClass "java/util/ImmutableCollections$ListN" = some t ∧ Z.vm.assignable c t = false) :
    own_Met l Z (⟨"com/example/regent/regent/controller/Event$MasterChanged", "<init>", "(Ljava/lang/String;Ljava/lang/Long;ILjava/util/List;I)V"⟩ : MethodName) prog_53_method_1_code 6 none ({ frames := 8, cells := 2, slots := 3, locals := 100 } : Room) #[(.ref o), (.ref sg), .null, (.int ep), (.ref a), (.int sp)] h0 (fun v h L => v = none ∧ Fr n0 L ∧ Keep h0 h [o] ∧ ∃ y, h0.size ≤ y ∧ own_L12 Z h y (.ref x0) (.ref em) ∧ Exa Z h o "com/example/regent/regent/controller/Event$MasterChanged" ∧ Fld Z h o "com/example/regent/regent/controller/Event$MasterChanged" "master" "Ljava/lang/Long;" .null ∧ Fld Z h o "com/example/regent/regent/controller/Event$MasterChanged" "masterEpoch" "I" (.int ep) ∧ Fld Z h o "com/example/regent/regent/controller/Event$MasterChanged" "syncStateSet" "Ljava/util/List;" (.ref y) ∧ Fld Z h o "com/example/regent/regent/controller/Event$MasterChanged" "syncStateSetEpoch" "I" (.int sp)) := by
  refine own_body (Ls := #[.val (.ref o), .val (.ref sg), .val .null, .val (.int ep), .val (.ref a), .val (.int sp)]) (plainFor_of_name own_pn_com_example_regent_regent_controller_Event_MasterChanged) (fun m => by first | (simp [entryFrame, mkF, argsToLocals, Value.category]; done) | rfl) ?_
  intro p e s m below meth c s₁ hx hZ hby hml hown hnm hret hlk X0 e0
  have N0 := Fr.nil n0
  refine own_aloadN X0 hx (hb hby own_ei_0) rfl rfl ?_
  refine own_spec X0 hx hZ rfl hown (own_w94 hw) (own_w95 hw) (own_w98 hw) (own_w97 hw) (by decide) e0 (hb hby own_ei_1) (by rw [hml]; rfl) own_pd__28_29V rfl (W := 0) (Nat.le_of_ble_eq_true rfl) (own_rec l Z a0 hw o h0 n0 OX) (by decide) (by decide) (by decide) (by decide) (a := o) (argsL := []) (rest := []) rfl rfl fun v261 T261 L261 X261 q261 => ?_
  obtain ⟨rfl, M261, e261⟩ := q261
  have N261 := Fr.app N0 M261
  show own_Fin p e below _ (T261.setTop (mkF m 4 #[.val (.ref o), .val (.ref sg), .val .null, .val (.int ep), .val (.ref a), .val (.int sp)] []))
  refine own_aload X261 hx (hb hby own_ei_4) rfl rfl ?_
  refine own_stat X261 hx hZ hown (own_w100 hw) (own_w101 hw) (own_w103 hw) (own_w102 hw) (by decide) e261 (hb hby own_ei_6) (by rw [hml]; rfl) own_pd__28Ljava_2futil_2fCollection_3b_29Ljava_2futil_2fList_3b rfl (W := 0) (Nat.le_of_ble_eq_true rfl) (own_lk1 l Z a0 hw a em b mr x0 k h0 n0 OX E F0 F VV EX0 EB MM SE NA NB) (by decide) (by decide) (by decide) (by decide) (argsL := [(.ref a)]) (rest := []) rfl rfl fun v262 T262 L262 X262 q262 => ?_
  obtain ⟨h262, e262⟩ : ∃ z, T262.heap = z := ⟨_, rfl⟩
  try dsimp only at q262
  rw [e262] at q262
  obtain ⟨y, rfl, M262, y1, y2, y3⟩ := q262
  have N262 := Fr.app N261 M262
  have f263 : n0 ≤ y := Nat.le_trans (own_old OX) y2
  have f264 : h0.size ≤ y := Nat.le_trans (Keep.refl h0 []).1 y2
  show own_Fin p e below _ (T262.setTop (mkF m 9 #[.val (.ref o), .val (.ref sg), .val .null, .val (.int ep), .val (.ref a), .val (.int sp)] [(.ref y)]))
  refine own_astore X262 hx (l' := #[.val (.ref o), .val (.ref sg), .val .null, .val (.int ep), .val (.ref y), .val (.int sp)]) (hb hby own_ei_9) rfl rfl ?_
  refine own_aloadN X262 hx (hb hby own_ei_11) rfl rfl ?_
  refine own_aloadN X262 hx (hb hby own_ei_12) rfl rfl ?_
  have f265 := (F_group.ext y1)
  have f266 := (EO.ext y1)
  refine own_putfield X262 hx hZ (host := "") hown (Or.inl (own_w186 hw)) Via.refl e262 f265 f266 (Or.inr ⟨(own_w187 hw), rfl, hnm⟩) (own_w81 hw) own_fd_Ljava_2flang_2fString_3b rfl rfl (hb hby own_ei_13) fun T267 h267 X267 e267 W267 => ?_
  have N267 := Fr.snoc X267 N262 g
  refine own_aloadN X267 hx (hb hby own_ei_16) rfl rfl ?_
  refine own_aloadN X267 hx (hb hby own_ei_17) rfl rfl ?_
  have f268 := ((F_master.ext y1).other W267 (Or.inr (slot_ne (Or.inr (own_w189 hw)) (Or.inr (own_w187 hw)) (by decide) own_fd_Ljava_2flang_2fLong_3b own_fd_Ljava_2flang_2fString_3b)))
  have f269 := (f266.wr W267)
  refine own_putfield X267 hx hZ (host := "") hown (Or.inl (own_w188 hw)) Via.refl e267 f268 f269 (Or.inr ⟨(own_w189 hw), rfl, hnm⟩) (own_w81 hw) own_fd_Ljava_2flang_2fLong_3b rfl rfl (hb hby own_ei_18) fun T270 h270 X270 e270 W270 => ?_
  have N270 := Fr.snoc X270 N267 g
  refine own_aloadN X270 hx (hb hby own_ei_21) rfl rfl ?_
  refine own_iloadN X270 hx (hb hby own_ei_22) rfl ?_
  have f271 := (((F_masterEpoch.ext y1).other W267 (Or.inr (slot_ne (Or.inr (own_w191 hw)) (Or.inr (own_w187 hw)) (by decide) own_fd_I own_fd_Ljava_2flang_2fString_3b))).other W270 (Or.inr (slot_ne (Or.inr (own_w191 hw)) (Or.inr (own_w189 hw)) (by decide) own_fd_I own_fd_Ljava_2flang_2fLong_3b)))
  have f272 := (f269.wr W270)
  refine own_putfield X270 hx hZ (host := "") hown (Or.inl (own_w190 hw)) Via.refl e270 f271 f272 (Or.inr ⟨(own_w191 hw), rfl, hnm⟩) (own_w81 hw) own_fd_I rfl rfl (hb hby own_ei_23) fun T273 h273 X273 e273 W273 => ?_
  have N273 := Fr.snoc X273 N270 g
  refine own_aloadN X273 hx (hb hby own_ei_26) rfl rfl ?_
  refine own_aload X273 hx (hb hby own_ei_27) rfl rfl ?_
  have f274 := ((((F_syncStateSet.ext y1).other W267 (Or.inr (slot_ne (Or.inr (own_w193 hw)) (Or.inr (own_w187 hw)) (by decide) own_fd_Ljava_2futil_2fList_3b own_fd_Ljava_2flang_2fString_3b))).other W270 (Or.inr (slot_ne (Or.inr (own_w193 hw)) (Or.inr (own_w189 hw)) (by decide) own_fd_Ljava_2futil_2fList_3b own_fd_Ljava_2flang_2fLong_3b))).other W273 (Or.inr (slot_ne (Or.inr (own_w193 hw)) (Or.inr (own_w191 hw)) (by decide) own_fd_Ljava_2futil_2fList_3b own_fd_I)))
  have f275 := (f272.wr W273)
  refine own_putfield X273 hx hZ (host := "") hown (Or.inl (own_w192 hw)) Via.refl e273 f274 f275 (Or.inr ⟨(own_w193 hw), rfl, hnm⟩) (own_w81 hw) own_fd_Ljava_2futil_2fList_3b rfl rfl (hb hby own_ei_29) fun T276 h276 X276 e276 W276 => ?_
  have N276 := Fr.snoc X276 N273 g
  refine own_aloadN X276 hx (hb hby own_ei_32) rfl rfl ?_
  refine own_iload X276 hx (hb hby own_ei_33) rfl ?_
  have f277 := (((((F_syncStateSetEpoch.ext y1).other W267 (Or.inr (slot_ne (Or.inr (own_w195 hw)) (Or.inr (own_w187 hw)) (by decide) own_fd_I own_fd_Ljava_2flang_2fString_3b))).other W270 (Or.inr (slot_ne (Or.inr (own_w195 hw)) (Or.inr (own_w189 hw)) (by decide) own_fd_I own_fd_Ljava_2flang_2fLong_3b))).other W273 (Or.inr (slot_ne (Or.inr (own_w195 hw)) (Or.inr (own_w191 hw)) (by decide) own_fd_I own_fd_I))).other W276 (Or.inr (slot_ne (Or.inr (own_w195 hw)) (Or.inr (own_w193 hw)) (by decide) own_fd_I own_fd_Ljava_2futil_2fList_3b)))
  have f278 := (f275.wr W276)
  refine own_putfield X276 hx hZ (host := "") hown (Or.inl (own_w194 hw)) Via.refl e276 f277 f278 (Or.inr ⟨(own_w195 hw), rfl, hnm⟩) (own_w81 hw) own_fd_I rfl rfl (hb hby own_ei_35) fun T279 h279 X279 e279 W279 => ?_
  have N279 := Fr.snoc X279 N276 g
  have f280 := (((((y3.1.wr W267).wr W270).wr W273).wr W276).wr W279)
  have f281 := (f278.wr W279)
  have f282 := ne_exa f280 f281 (by decide)
  refine own_retV X279 hx hret (hb hby own_ei_38) hlk (by decide) (by decide) ?_
  refine ⟨rfl, N279, ?_⟩
  rw [e279]
  exact ⟨(((((((Keep.refl h0 [o]).ext y1).wr W267 (Or.inl (by simp))).wr W270 (Or.inl (by simp))).wr W273 (Or.inl (by simp))).wr W276 (Or.inl (by simp))).wr W279 (Or.inl (by simp))), y, y2, ⟨(((((y3.1.wr W267).wr W270).wr W273).wr W276).wr W279), (((((y3.2.1.other W267 (Or.inl f282)).other W270 (Or.inl f282)).other W273 (Or.inl f282)).other W276 (Or.inl f282)).other W279 (Or.inl f282)), (((((y3.2.2.other W267 (Or.inl f282)).other W270 (Or.inl f282)).other W273 (Or.inl f282)).other W276 (Or.inl f282)).other W279 (Or.inl f282))⟩, (f278.wr W279), ((((f268.same W270).other W273 (Or.inr (slot_ne (Or.inr (own_w189 hw)) (Or.inr (own_w191 hw)) (by decide) own_fd_Ljava_2flang_2fLong_3b own_fd_I))).other W276 (Or.inr (slot_ne (Or.inr (own_w189 hw)) (Or.inr (own_w193 hw)) (by decide) own_fd_Ljava_2flang_2fLong_3b own_fd_Ljava_2futil_2fList_3b))).other W279 (Or.inr (slot_ne (Or.inr (own_w189 hw)) (Or.inr (own_w195 hw)) (by decide) own_fd_Ljava_2flang_2fLong_3b own_fd_I))), (((f271.same W273).other W276 (Or.inr (slot_ne (Or.inr (own_w191 hw)) (Or.inr (own_w193 hw)) (by decide) own_fd_I own_fd_Ljava_2futil_2fList_3b))).other W279 (Or.inr (slot_ne (Or.inr (own_w191 hw)) (Or.inr (own_w195 hw)) (by decide) own_fd_I own_fd_I))), ((f274.same W276).other W279 (Or.inr (slot_ne (Or.inr (own_w193 hw)) (Or.inr (own_w195 hw)) (by decide) own_fd_Ljava_2futil_2fList_3b own_fd_I))), (f277.same W279)⟩
set_option maxRecDepth 65536 in
set_option maxHeartbeats 40000000 in
theorem own_ei02 (l : Launch) (Z : State) (a0 : Array Value) (hw : ∀ d ∈ tables_1, d.before a0 Z = true) (o sg : Addr) (ep sp : Int32) (a em b mr x0 x1 : Addr) (k : ClassId) (h0 : Heap) (n0 : Nat) (OX : Old Z n0 h0) (EO : Exa Z h0 o "com/example/regent/regent/controller/Event$MasterChanged") (g : n0 ≤ o) (F_group : Fld Z h0 o "com/example/regent/regent/controller/Event$MasterChanged" "group" "Ljava/lang/String;" .null) (F_master : Fld Z h0 o "com/example/regent/regent/controller/Event$MasterChanged" "master" "Ljava/lang/Long;" .null) (F_masterEpoch : Fld Z h0 o "com/example/regent/regent/controller/Event$MasterChanged" "masterEpoch" "I" (.int (0 : Int32))) (F_syncStateSet : Fld Z h0 o "com/example/regent/regent/controller/Event$MasterChanged" "syncStateSet" "Ljava/util/List;" .null) (F_syncStateSetEpoch : Fld Z h0 o "com/example/regent/regent/controller/Event$MasterChanged" "syncStateSetEpoch" "I" (.int (0 : Int32))) (E : Exa Z h0 a "java/util/ArrayList") (F0 : Fld Z h0 a "java/util/ArrayList" "size" "I" (.int (2 : Int32))) (F : Fld Z h0 a "java/util/ArrayList" "elementData" "[Ljava/lang/Object;" (.ref b)) (VV : Arv Z h0 b k (.object "java/lang/Object") 10 [(.ref x0), (.ref x1), .null, .null, .null, .null, .null, .null, .null, .null] .null) (EX0 : Exa Z h0 x0 "java/lang/Long") (EX1 : Exa Z h0 x1 "java/lang/Long") (EB : Exa Z h0 b "[Ljava/lang/Object;") (MM : own_Mir Z "[Ljava/lang/Object;" mr) (SE : Sta Z Z.heap "java/util/ImmutableCollections" "EMPTY" "Ljava/lang/Object;" (.ref em)) (NA : ∃ c t, Z.vm.findClass "java/util/ArrayList" = some c ∧ Z.vm.findClass "java/util/ImmutableCollections$List12" = some t ∧ Z.vm.assignable c t = false) (NB : ∃ c t, Z.vm.findClass "java/util/ArrayList" = some c ∧ Z.vm.findClass "java/util/ImmutableCollections$ListN" = some t ∧ Z.vm.assignable c t = false) :
    own_Met l Z (⟨"com/example/regent/regent/controller/Event$MasterChanged", "<init>", "(Ljava/lang/String;Ljava/lang/Long;ILjava/util/List;I)V"⟩ : MethodName) prog_53_method_1_code 6 none ({ frames := 8, cells := 2, slots := 4, locals := 101 } : Room) #[(.ref o), (.ref sg), .null, (.int ep), (.ref a), (.int sp)] h0 (fun v h L => v = none ∧ Fr n0 L ∧ Keep h0 h [o] ∧ ∃ y, h0.size ≤ y ∧ own_L12 Z h y (.ref x0) (.ref x1) ∧ Exa Z h o "com/example/regent/regent/controller/Event$MasterChanged" ∧ Fld Z h o "com/example/regent/regent/controller/Event$MasterChanged" "master" "Ljava/lang/Long;" .null ∧ Fld Z h o "com/example/regent/regent/controller/Event$MasterChanged" "masterEpoch" "I" (.int ep) ∧ Fld Z h o "com/example/regent/regent/controller/Event$MasterChanged" "syncStateSet" "Ljava/util/List;" (.ref y) ∧ Fld Z h o "com/example/regent/regent/controller/Event$MasterChanged" "syncStateSetEpoch" "I" (.int sp)) := by
  refine own_body (Ls := #[.val (.ref o), .val (.ref sg), .val .null, .val (.int ep), .val (.ref a), .val (.int sp)]) (plainFor_of_name own_pn_com_example_regent_regent_controller_Event_MasterChanged) (fun m => by first | (simp [entryFrame, mkF, argsToLocals, Value.category]; done) | rfl) ?_
  intro p e s m below meth c s₁ hx hZ hby hml hown hnm hret hlk X0 e0
  have N0 := Fr.nil n0
  refine own_aloadN X0 hx (hb hby own_ei_0) rfl rfl ?_
  refine own_spec X0 hx hZ rfl hown (own_w94 hw) (own_w95 hw) (own_w98 hw) (own_w97 hw) (by decide) e0 (hb hby own_ei_1) (by rw [hml]; rfl) own_pd__28_29V rfl (W := 0) (Nat.le_of_ble_eq_true rfl) (own_rec l Z a0 hw o h0 n0 OX) (by decide) (by decide) (by decide) (by decide) (a := o) (argsL := []) (rest := []) rfl rfl fun v283 T283 L283 X283 q283 => ?_
  obtain ⟨rfl, M283, e283⟩ := q283
  have N283 := Fr.app N0 M283
  show own_Fin p e below _ (T283.setTop (mkF m 4 #[.val (.ref o), .val (.ref sg), .val .null, .val (.int ep), .val (.ref a), .val (.int sp)] []))
  refine own_aload X283 hx (hb hby own_ei_4) rfl rfl ?_
  refine own_stat X283 hx hZ hown (own_w100 hw) (own_w101 hw) (own_w103 hw) (own_w102 hw) (by decide) e283 (hb hby own_ei_6) (by rw [hml]; rfl) own_pd__28Ljava_2futil_2fCollection_3b_29Ljava_2futil_2fList_3b rfl (W := 0) (Nat.le_of_ble_eq_true rfl) (own_lk2 l Z a0 hw a em b mr x0 x1 k h0 n0 OX E F0 F VV EX0 EX1 EB MM SE NA NB) (by decide) (by decide) (by decide) (by decide) (argsL := [(.ref a)]) (rest := []) rfl rfl fun v284 T284 L284 X284 q284 => ?_
  obtain ⟨h284, e284⟩ : ∃ z, T284.heap = z := ⟨_, rfl⟩
  try dsimp only at q284
  rw [e284] at q284
  obtain ⟨y, rfl, M284, y1, y2, y3⟩ := q284
  have N284 := Fr.app N283 M284
  have f285 : n0 ≤ y := Nat.le_trans (own_old OX) y2
  have f286 : h0.size ≤ y := Nat.le_trans (Keep.refl h0 []).1 y2
  show own_Fin p e below _ (T284.setTop (mkF m 9 #[.val (.ref o), .val (.ref sg), .val .null, .val (.int ep), .val (.ref a), .val (.int sp)] [(.ref y)]))
  refine own_astore X284 hx (l' := #[.val (.ref o), .val (.ref sg), .val .null, .val (.int ep), .val (.ref y), .val (.int sp)]) (hb hby own_ei_9) rfl rfl ?_
  refine own_aloadN X284 hx (hb hby own_ei_11) rfl rfl ?_
  refine own_aloadN X284 hx (hb hby own_ei_12) rfl rfl ?_
  have f287 := (F_group.ext y1)
  have f288 := (EO.ext y1)
  refine own_putfield X284 hx hZ (host := "") hown (Or.inl (own_w186 hw)) Via.refl e284 f287 f288 (Or.inr ⟨(own_w187 hw), rfl, hnm⟩) (own_w81 hw) own_fd_Ljava_2flang_2fString_3b rfl rfl (hb hby own_ei_13) fun T289 h289 X289 e289 W289 => ?_
  have N289 := Fr.snoc X289 N284 g
  refine own_aloadN X289 hx (hb hby own_ei_16) rfl rfl ?_
  refine own_aloadN X289 hx (hb hby own_ei_17) rfl rfl ?_
  have f290 := ((F_master.ext y1).other W289 (Or.inr (slot_ne (Or.inr (own_w189 hw)) (Or.inr (own_w187 hw)) (by decide) own_fd_Ljava_2flang_2fLong_3b own_fd_Ljava_2flang_2fString_3b)))
  have f291 := (f288.wr W289)
  refine own_putfield X289 hx hZ (host := "") hown (Or.inl (own_w188 hw)) Via.refl e289 f290 f291 (Or.inr ⟨(own_w189 hw), rfl, hnm⟩) (own_w81 hw) own_fd_Ljava_2flang_2fLong_3b rfl rfl (hb hby own_ei_18) fun T292 h292 X292 e292 W292 => ?_
  have N292 := Fr.snoc X292 N289 g
  refine own_aloadN X292 hx (hb hby own_ei_21) rfl rfl ?_
  refine own_iloadN X292 hx (hb hby own_ei_22) rfl ?_
  have f293 := (((F_masterEpoch.ext y1).other W289 (Or.inr (slot_ne (Or.inr (own_w191 hw)) (Or.inr (own_w187 hw)) (by decide) own_fd_I own_fd_Ljava_2flang_2fString_3b))).other W292 (Or.inr (slot_ne (Or.inr (own_w191 hw)) (Or.inr (own_w189 hw)) (by decide) own_fd_I own_fd_Ljava_2flang_2fLong_3b)))
  have f294 := (f291.wr W292)
  refine own_putfield X292 hx hZ (host := "") hown (Or.inl (own_w190 hw)) Via.refl e292 f293 f294 (Or.inr ⟨(own_w191 hw), rfl, hnm⟩) (own_w81 hw) own_fd_I rfl rfl (hb hby own_ei_23) fun T295 h295 X295 e295 W295 => ?_
  have N295 := Fr.snoc X295 N292 g
  refine own_aloadN X295 hx (hb hby own_ei_26) rfl rfl ?_
  refine own_aload X295 hx (hb hby own_ei_27) rfl rfl ?_
  have f296 := ((((F_syncStateSet.ext y1).other W289 (Or.inr (slot_ne (Or.inr (own_w193 hw)) (Or.inr (own_w187 hw)) (by decide) own_fd_Ljava_2futil_2fList_3b own_fd_Ljava_2flang_2fString_3b))).other W292 (Or.inr (slot_ne (Or.inr (own_w193 hw)) (Or.inr (own_w189 hw)) (by decide) own_fd_Ljava_2futil_2fList_3b own_fd_Ljava_2flang_2fLong_3b))).other W295 (Or.inr (slot_ne (Or.inr (own_w193 hw)) (Or.inr (own_w191 hw)) (by decide) own_fd_Ljava_2futil_2fList_3b own_fd_I)))
  have f297 := (f294.wr W295)
  refine own_putfield X295 hx hZ (host := "") hown (Or.inl (own_w192 hw)) Via.refl e295 f296 f297 (Or.inr ⟨(own_w193 hw), rfl, hnm⟩) (own_w81 hw) own_fd_Ljava_2futil_2fList_3b rfl rfl (hb hby own_ei_29) fun T298 h298 X298 e298 W298 => ?_
  have N298 := Fr.snoc X298 N295 g
  refine own_aloadN X298 hx (hb hby own_ei_32) rfl rfl ?_
  refine own_iload X298 hx (hb hby own_ei_33) rfl ?_
  have f299 := (((((F_syncStateSetEpoch.ext y1).other W289 (Or.inr (slot_ne (Or.inr (own_w195 hw)) (Or.inr (own_w187 hw)) (by decide) own_fd_I own_fd_Ljava_2flang_2fString_3b))).other W292 (Or.inr (slot_ne (Or.inr (own_w195 hw)) (Or.inr (own_w189 hw)) (by decide) own_fd_I own_fd_Ljava_2flang_2fLong_3b))).other W295 (Or.inr (slot_ne (Or.inr (own_w195 hw)) (Or.inr (own_w191 hw)) (by decide) own_fd_I own_fd_I))).other W298 (Or.inr (slot_ne (Or.inr (own_w195 hw)) (Or.inr (own_w193 hw)) (by decide) own_fd_I own_fd_Ljava_2futil_2fList_3b)))
  have f300 := (f297.wr W298)
  refine own_putfield X298 hx hZ (host := "") hown (Or.inl (own_w194 hw)) Via.refl e298 f299 f300 (Or.inr ⟨(own_w195 hw), rfl, hnm⟩) (own_w81 hw) own_fd_I rfl rfl (hb hby own_ei_35) fun T301 h301 X301 e301 W301 => ?_
  have N301 := Fr.snoc X301 N298 g
  have f302 := (((((y3.1.wr W289).wr W292).wr W295).wr W298).wr W301)
  have f303 := (f300.wr W301)
  have f304 := ne_exa f302 f303 (by decide)
  refine own_retV X301 hx hret (hb hby own_ei_38) hlk (by decide) (by decide) ?_
  refine ⟨rfl, N301, ?_⟩
  rw [e301]
  exact ⟨(((((((Keep.refl h0 [o]).ext y1).wr W289 (Or.inl (by simp))).wr W292 (Or.inl (by simp))).wr W295 (Or.inl (by simp))).wr W298 (Or.inl (by simp))).wr W301 (Or.inl (by simp))), y, y2, ⟨(((((y3.1.wr W289).wr W292).wr W295).wr W298).wr W301), (((((y3.2.1.other W289 (Or.inl f304)).other W292 (Or.inl f304)).other W295 (Or.inl f304)).other W298 (Or.inl f304)).other W301 (Or.inl f304)), (((((y3.2.2.other W289 (Or.inl f304)).other W292 (Or.inl f304)).other W295 (Or.inl f304)).other W298 (Or.inl f304)).other W301 (Or.inl f304))⟩, (f300.wr W301), ((((f290.same W292).other W295 (Or.inr (slot_ne (Or.inr (own_w189 hw)) (Or.inr (own_w191 hw)) (by decide) own_fd_Ljava_2flang_2fLong_3b own_fd_I))).other W298 (Or.inr (slot_ne (Or.inr (own_w189 hw)) (Or.inr (own_w193 hw)) (by decide) own_fd_Ljava_2flang_2fLong_3b own_fd_Ljava_2futil_2fList_3b))).other W301 (Or.inr (slot_ne (Or.inr (own_w189 hw)) (Or.inr (own_w195 hw)) (by decide) own_fd_Ljava_2flang_2fLong_3b own_fd_I))), (((f293.same W295).other W298 (Or.inr (slot_ne (Or.inr (own_w191 hw)) (Or.inr (own_w193 hw)) (by decide) own_fd_I own_fd_Ljava_2futil_2fList_3b))).other W301 (Or.inr (slot_ne (Or.inr (own_w191 hw)) (Or.inr (own_w195 hw)) (by decide) own_fd_I own_fd_I))), ((f296.same W298).other W301 (Or.inr (slot_ne (Or.inr (own_w193 hw)) (Or.inr (own_w195 hw)) (by decide) own_fd_Ljava_2futil_2fList_3b own_fd_I))), (f299.same W301)⟩
theorem own_ap_0 : decode prog_53_method_2_code 0 = .ok (.aload_n 1, 1) := by decide +kernel
theorem own_ap_1 : decode prog_53_method_2_code 1 = .ok (.aload_n 0, 1) := by decide +kernel
theorem own_ap_2 : decode prog_53_method_2_code 2 = .ok (.getfield 19, 3) := by decide +kernel
theorem own_ap_5 : decode prog_53_method_2_code 5 = .ok (.putfield 34, 3) := by decide +kernel
theorem own_ap_8 : decode prog_53_method_2_code 8 = .ok (.aload_n 1, 1) := by decide +kernel
theorem own_ap_9 : decode prog_53_method_2_code 9 = .ok (.aload_n 0, 1) := by decide +kernel
theorem own_ap_10 : decode prog_53_method_2_code 10 = .ok (.getfield 23, 3) := by decide +kernel
theorem own_ap_13 : decode prog_53_method_2_code 13 = .ok (.putfield 37, 3) := by decide +kernel
theorem own_ap_16 : decode prog_53_method_2_code 16 = .ok (.aload_n 1, 1) := by decide +kernel
theorem own_ap_17 : decode prog_53_method_2_code 17 = .ok (.aload_n 0, 1) := by decide +kernel
theorem own_ap_18 : decode prog_53_method_2_code 18 = .ok (.getfield 27, 3) := by decide +kernel
theorem own_ap_21 : decode prog_53_method_2_code 21 = .ok (.putfield 38, 3) := by decide +kernel
theorem own_ap_24 : decode prog_53_method_2_code 24 = .ok (.aload_n 1, 1) := by decide +kernel
theorem own_ap_25 : decode prog_53_method_2_code 25 = .ok (.aload_n 0, 1) := by decide +kernel
theorem own_ap_26 : decode prog_53_method_2_code 26 = .ok (.getfield 31, 3) := by decide +kernel
theorem own_ap_29 : decode prog_53_method_2_code 29 = .ok (.putfield 39, 3) := by decide +kernel
theorem own_ap_32 : decode prog_53_method_2_code 32 = .ok (.return_, 1) := by decide +kernel
set_option maxRecDepth 65536 in
set_option maxHeartbeats 40000000 in
theorem own_ap0 (l : Launch) (Z : State) (a0 : Array Value) (hw : ∀ d ∈ tables_1, d.before a0 Z = true) (o gr y : Addr) (ep sp : Int32) (u_master u_masterEpoch u_syncStateSet u_syncStateSetEpoch : Value) (h0 : Heap) (n0 : Nat) (OX : Old Z n0 h0) (EO : Exa Z h0 o "com/example/regent/regent/controller/Event$MasterChanged") (EG : Exa Z h0 gr "com/example/regent/regent/controller/Group") (g : n0 ≤ gr) (P_master : Fld Z h0 o "com/example/regent/regent/controller/Event$MasterChanged" "master" "Ljava/lang/Long;" .null) (P_masterEpoch : Fld Z h0 o "com/example/regent/regent/controller/Event$MasterChanged" "masterEpoch" "I" (.int ep)) (P_syncStateSet : Fld Z h0 o "com/example/regent/regent/controller/Event$MasterChanged" "syncStateSet" "Ljava/util/List;" (.ref y)) (P_syncStateSetEpoch : Fld Z h0 o "com/example/regent/regent/controller/Event$MasterChanged" "syncStateSetEpoch" "I" (.int sp)) (F_master : Fld Z h0 gr "com/example/regent/regent/controller/Group" "master" "Ljava/lang/Long;" u_master) (F_masterEpoch : Fld Z h0 gr "com/example/regent/regent/controller/Group" "masterEpoch" "I" u_masterEpoch) (F_syncStateSet : Fld Z h0 gr "com/example/regent/regent/controller/Group" "syncStateSet" "Ljava/util/List;" u_syncStateSet) (F_syncStateSetEpoch : Fld Z h0 gr "com/example/regent/regent/controller/Group" "syncStateSetEpoch" "I" u_syncStateSetEpoch) :
    own_Met l Z (⟨"com/example/regent/regent/controller/Event$MasterChanged", "applyTo", "(Lcom/example/regent/regent/controller/Group;)V"⟩ : MethodName) prog_53_method_2_code 2 none ({ frames := 0, cells := 0, slots := 0, locals := 0 } : Room) #[(.ref o), (.ref gr)] h0 (fun v h L => v = none ∧ Fr n0 L ∧ Keep h0 h [gr] ∧ Exa Z h gr "com/example/regent/regent/controller/Group" ∧ Fld Z h gr "com/example/regent/regent/controller/Group" "master" "Ljava/lang/Long;" .null ∧ Fld Z h gr "com/example/regent/regent/controller/Group" "masterEpoch" "I" (.int ep) ∧ Fld Z h gr "com/example/regent/regent/controller/Group" "syncStateSet" "Ljava/util/List;" (.ref y) ∧ Fld Z h gr "com/example/regent/regent/controller/Group" "syncStateSetEpoch" "I" (.int sp)) := by
  refine own_body (Ls := #[.val (.ref o), .val (.ref gr)]) (plainFor_of_name own_pn_com_example_regent_regent_controller_Event_MasterChanged) (fun m => by first | (simp [entryFrame, mkF, argsToLocals, Value.category]; done) | rfl) ?_
  intro p e s m below meth c s₁ hx hZ hby hml hown hnm hret hlk X0 e0
  have N0 := Fr.nil n0
  refine own_aloadN X0 hx (hb hby own_ap_0) rfl rfl ?_
  refine own_aloadN X0 hx (hb hby own_ap_1) rfl rfl ?_
  refine own_getfield X0 hx hZ (host := "") hown (Or.inl (own_w188 hw)) Via.refl e0 P_master (hb hby own_ap_2) fun T305 X305 e305 => ?_
  refine own_putfield X305 hx hZ (host := "") hown (Or.inl (own_w247 hw)) Via.refl e305 F_master EG (Or.inl (own_w236 hw)) (own_w197 hw) own_fd_Ljava_2flang_2fLong_3b rfl rfl (hb hby own_ap_5) fun T306 h306 X306 e306 W306 => ?_
  have N306 := Fr.snoc X306 N0 g
  refine own_aloadN X306 hx (hb hby own_ap_8) rfl rfl ?_
  refine own_aloadN X306 hx (hb hby own_ap_9) rfl rfl ?_
  have f307 := (EO.wr W306)
  have f308 := (EG.wr W306)
  have f309 := ne_exa f307 f308 (by decide)
  have f310 := (P_masterEpoch.other W306 (Or.inl f309))
  refine own_getfield X306 hx hZ (host := "") hown (Or.inl (own_w190 hw)) Via.refl e306 f310 (hb hby own_ap_10) fun T311 X311 e311 => ?_
  have f312 := (F_masterEpoch.other W306 (Or.inr (slot_ne (Or.inl (own_w238 hw)) (Or.inl (own_w236 hw)) (by decide) own_fd_I own_fd_Ljava_2flang_2fLong_3b)))
  refine own_putfield X311 hx hZ (host := "") hown (Or.inl (own_w248 hw)) Via.refl e311 f312 f308 (Or.inl (own_w238 hw)) (own_w197 hw) own_fd_I rfl rfl (hb hby own_ap_13) fun T313 h313 X313 e313 W313 => ?_
  have N313 := Fr.snoc X313 N306 g
  refine own_aloadN X313 hx (hb hby own_ap_16) rfl rfl ?_
  refine own_aloadN X313 hx (hb hby own_ap_17) rfl rfl ?_
  have f314 := ((P_syncStateSet.other W306 (Or.inl f309)).other W313 (Or.inl f309))
  refine own_getfield X313 hx hZ (host := "") hown (Or.inl (own_w192 hw)) Via.refl e313 f314 (hb hby own_ap_18) fun T315 X315 e315 => ?_
  have f316 := ((F_syncStateSet.other W306 (Or.inr (slot_ne (Or.inl (own_w231 hw)) (Or.inl (own_w236 hw)) (by decide) own_fd_Ljava_2futil_2fList_3b own_fd_Ljava_2flang_2fLong_3b))).other W313 (Or.inr (slot_ne (Or.inl (own_w231 hw)) (Or.inl (own_w238 hw)) (by decide) own_fd_Ljava_2futil_2fList_3b own_fd_I)))
  have f317 := (f308.wr W313)
  refine own_putfield X315 hx hZ (host := "") hown (Or.inl (own_w249 hw)) Via.refl e315 f316 f317 (Or.inl (own_w231 hw)) (own_w197 hw) own_fd_Ljava_2futil_2fList_3b rfl rfl (hb hby own_ap_21) fun T318 h318 X318 e318 W318 => ?_
  have N318 := Fr.snoc X318 N313 g
  refine own_aloadN X318 hx (hb hby own_ap_24) rfl rfl ?_
  refine own_aloadN X318 hx (hb hby own_ap_25) rfl rfl ?_
  have f319 := (((P_syncStateSetEpoch.other W306 (Or.inl f309)).other W313 (Or.inl f309)).other W318 (Or.inl f309))
  refine own_getfield X318 hx hZ (host := "") hown (Or.inl (own_w194 hw)) Via.refl e318 f319 (hb hby own_ap_26) fun T320 X320 e320 => ?_
  have f321 := (((F_syncStateSetEpoch.other W306 (Or.inr (slot_ne (Or.inl (own_w241 hw)) (Or.inl (own_w236 hw)) (by decide) own_fd_I own_fd_Ljava_2flang_2fLong_3b))).other W313 (Or.inr (slot_ne (Or.inl (own_w241 hw)) (Or.inl (own_w238 hw)) (by decide) own_fd_I own_fd_I))).other W318 (Or.inr (slot_ne (Or.inl (own_w241 hw)) (Or.inl (own_w231 hw)) (by decide) own_fd_I own_fd_Ljava_2futil_2fList_3b)))
  have f322 := (f317.wr W318)
  refine own_putfield X320 hx hZ (host := "") hown (Or.inl (own_w250 hw)) Via.refl e320 f321 f322 (Or.inl (own_w241 hw)) (own_w197 hw) own_fd_I rfl rfl (hb hby own_ap_29) fun T323 h323 X323 e323 W323 => ?_
  have N323 := Fr.snoc X323 N318 g
  refine own_retV X323 hx hret (hb hby own_ap_32) hlk (by decide) (by decide) ?_
  refine ⟨rfl, N323, ?_⟩
  rw [e323]
  exact ⟨(((((Keep.refl h0 [gr]).wr W306 (Or.inl (by simp))).wr W313 (Or.inl (by simp))).wr W318 (Or.inl (by simp))).wr W323 (Or.inl (by simp))), (f322.wr W323), ((((F_master.same W306).other W313 (Or.inr (slot_ne (Or.inl (own_w236 hw)) (Or.inl (own_w238 hw)) (by decide) own_fd_Ljava_2flang_2fLong_3b own_fd_I))).other W318 (Or.inr (slot_ne (Or.inl (own_w236 hw)) (Or.inl (own_w231 hw)) (by decide) own_fd_Ljava_2flang_2fLong_3b own_fd_Ljava_2futil_2fList_3b))).other W323 (Or.inr (slot_ne (Or.inl (own_w236 hw)) (Or.inl (own_w241 hw)) (by decide) own_fd_Ljava_2flang_2fLong_3b own_fd_I))), (((f312.same W313).other W318 (Or.inr (slot_ne (Or.inl (own_w238 hw)) (Or.inl (own_w231 hw)) (by decide) own_fd_I own_fd_Ljava_2futil_2fList_3b))).other W323 (Or.inr (slot_ne (Or.inl (own_w238 hw)) (Or.inl (own_w241 hw)) (by decide) own_fd_I own_fd_I))), ((f316.same W318).other W323 (Or.inr (slot_ne (Or.inl (own_w231 hw)) (Or.inl (own_w241 hw)) (by decide) own_fd_Ljava_2futil_2fList_3b own_fd_I))), (f321.same W323)⟩
set_option maxRecDepth 65536 in
set_option maxHeartbeats 40000000 in
theorem own_ei10 (l : Launch) (Z : State) (a0 : Array Value) (hw : ∀ d ∈ tables_1, d.before a0 Z = true) (o sg ms : Addr) (ep sp : Int32) (a el : Addr) (h0 : Heap) (n0 : Nat) (OX : Old Z n0 h0) (EO : Exa Z h0 o "com/example/regent/regent/controller/Event$MasterChanged") (g : n0 ≤ o) (F_group : Fld Z h0 o "com/example/regent/regent/controller/Event$MasterChanged" "group" "Ljava/lang/String;" .null) (F_master : Fld Z h0 o "com/example/regent/regent/controller/Event$MasterChanged" "master" "Ljava/lang/Long;" .null) (F_masterEpoch : Fld Z h0 o "com/example/regent/regent/controller/Event$MasterChanged" "masterEpoch" "I" (.int (0 : Int32))) (F_syncStateSet : Fld Z h0 o "com/example/regent/regent/controller/Event$MasterChanged" "syncStateSet" "Ljava/util/List;" .null) (F_syncStateSetEpoch : Fld Z h0 o "com/example/regent/regent/controller/Event$MasterChanged" "syncStateSetEpoch" "I" (.int (0 : Int32))) (E : Exa Z h0 a "java/util/ArrayList") (F0 : Fld Z h0 a "java/util/ArrayList" "size" "I" (.int (0 : Int32))) (SL : Sta Z Z.heap "java/util/ImmutableCollections" "EMPTY_LIST" "Ljava/util/ImmutableCollections$ListN;" (.ref el)) (NA : ∃ c t, Z.vm.findClass "java/util/ArrayList" = some c ∧ Z.vm.findClass "java/util/ImmutableCollections$List12" = some t ∧ Z.vm.assignable c t = false) (NB : ∃ c t, Z.vm.findClass "java/util/ArrayList" = some c ∧ Z.vm.findClass "java/util/ImmutableCollections$ListN" = some t ∧ Z.vm.assignable c t = false) :
    own_Met l Z (⟨"com/example/regent/regent/controller/Event$MasterChanged", "<init>", "(Ljava/lang/String;Ljava/lang/Long;ILjava/util/List;I)V"⟩ : MethodName) prog_53_method_1_code 6 none ({ frames := 3, cells := 0, slots := 0, locals := 37 } : Room) #[(.ref o), (.ref sg), (.ref ms), (.int ep), (.ref a), (.int sp)] h0 (fun v h L => v = none ∧ Fr n0 L ∧ Keep h0 h [o] ∧ Exa Z h o "com/example/regent/regent/controller/Event$MasterChanged" ∧ Fld Z h o "com/example/regent/regent/controller/Event$MasterChanged" "master" "Ljava/lang/Long;" (.ref ms) ∧ Fld Z h o "com/example/regent/regent/controller/Event$MasterChanged" "masterEpoch" "I" (.int ep) ∧ Fld Z h o "com/example/regent/regent/controller/Event$MasterChanged" "syncStateSet" "Ljava/util/List;" (.ref el) ∧ Fld Z h o "com/example/regent/regent/controller/Event$MasterChanged" "syncStateSetEpoch" "I" (.int sp)) := by
  refine own_body (Ls := #[.val (.ref o), .val (.ref sg), .val (.ref ms), .val (.int ep), .val (.ref a), .val (.int sp)]) (plainFor_of_name own_pn_com_example_regent_regent_controller_Event_MasterChanged) (fun m => by first | (simp [entryFrame, mkF, argsToLocals, Value.category]; done) | rfl) ?_
  intro p e s m below meth c s₁ hx hZ hby hml hown hnm hret hlk X0 e0
  have N0 := Fr.nil n0
  refine own_aloadN X0 hx (hb hby own_ei_0) rfl rfl ?_
  refine own_spec X0 hx hZ rfl hown (own_w94 hw) (own_w95 hw) (own_w98 hw) (own_w97 hw) (by decide) e0 (hb hby own_ei_1) (by rw [hml]; rfl) own_pd__28_29V rfl (W := 0) (Nat.le_of_ble_eq_true rfl) (own_rec l Z a0 hw o h0 n0 OX) (by decide) (by decide) (by decide) (by decide) (a := o) (argsL := []) (rest := []) rfl rfl fun v324 T324 L324 X324 q324 => ?_
  obtain ⟨rfl, M324, e324⟩ := q324
  have N324 := Fr.app N0 M324
  show own_Fin p e below _ (T324.setTop (mkF m 4 #[.val (.ref o), .val (.ref sg), .val (.ref ms), .val (.int ep), .val (.ref a), .val (.int sp)] []))
  refine own_aload X324 hx (hb hby own_ei_4) rfl rfl ?_
  refine own_stat X324 hx hZ hown (own_w100 hw) (own_w101 hw) (own_w103 hw) (own_w102 hw) (by decide) e324 (hb hby own_ei_6) (by rw [hml]; rfl) own_pd__28Ljava_2futil_2fCollection_3b_29Ljava_2futil_2fList_3b rfl (W := 0) (Nat.le_of_ble_eq_true rfl) (own_lk0 l Z a0 hw a el h0 n0 OX E F0 SL NA NB) (by decide) (by decide) (by decide) (by decide) (argsL := [(.ref a)]) (rest := []) rfl rfl fun v325 T325 L325 X325 q325 => ?_
  obtain ⟨rfl, M325, e325⟩ := q325
  have N325 := Fr.app N324 M325
  show own_Fin p e below _ (T325.setTop (mkF m 9 #[.val (.ref o), .val (.ref sg), .val (.ref ms), .val (.int ep), .val (.ref a), .val (.int sp)] [(.ref el)]))
  refine own_astore X325 hx (l' := #[.val (.ref o), .val (.ref sg), .val (.ref ms), .val (.int ep), .val (.ref el), .val (.int sp)]) (hb hby own_ei_9) rfl rfl ?_
  refine own_aloadN X325 hx (hb hby own_ei_11) rfl rfl ?_
  refine own_aloadN X325 hx (hb hby own_ei_12) rfl rfl ?_
  refine own_putfield X325 hx hZ (host := "") hown (Or.inl (own_w186 hw)) Via.refl e325 F_group EO (Or.inr ⟨(own_w187 hw), rfl, hnm⟩) (own_w81 hw) own_fd_Ljava_2flang_2fString_3b rfl rfl (hb hby own_ei_13) fun T326 h326 X326 e326 W326 => ?_
  have N326 := Fr.snoc X326 N325 g
  refine own_aloadN X326 hx (hb hby own_ei_16) rfl rfl ?_
  refine own_aloadN X326 hx (hb hby own_ei_17) rfl rfl ?_
  have f327 := (F_master.other W326 (Or.inr (slot_ne (Or.inr (own_w189 hw)) (Or.inr (own_w187 hw)) (by decide) own_fd_Ljava_2flang_2fLong_3b own_fd_Ljava_2flang_2fString_3b)))
  have f328 := (EO.wr W326)
  refine own_putfield X326 hx hZ (host := "") hown (Or.inl (own_w188 hw)) Via.refl e326 f327 f328 (Or.inr ⟨(own_w189 hw), rfl, hnm⟩) (own_w81 hw) own_fd_Ljava_2flang_2fLong_3b rfl rfl (hb hby own_ei_18) fun T329 h329 X329 e329 W329 => ?_
  have N329 := Fr.snoc X329 N326 g
  refine own_aloadN X329 hx (hb hby own_ei_21) rfl rfl ?_
  refine own_iloadN X329 hx (hb hby own_ei_22) rfl ?_
  have f330 := ((F_masterEpoch.other W326 (Or.inr (slot_ne (Or.inr (own_w191 hw)) (Or.inr (own_w187 hw)) (by decide) own_fd_I own_fd_Ljava_2flang_2fString_3b))).other W329 (Or.inr (slot_ne (Or.inr (own_w191 hw)) (Or.inr (own_w189 hw)) (by decide) own_fd_I own_fd_Ljava_2flang_2fLong_3b)))
  have f331 := (f328.wr W329)
  refine own_putfield X329 hx hZ (host := "") hown (Or.inl (own_w190 hw)) Via.refl e329 f330 f331 (Or.inr ⟨(own_w191 hw), rfl, hnm⟩) (own_w81 hw) own_fd_I rfl rfl (hb hby own_ei_23) fun T332 h332 X332 e332 W332 => ?_
  have N332 := Fr.snoc X332 N329 g
  refine own_aloadN X332 hx (hb hby own_ei_26) rfl rfl ?_
  refine own_aload X332 hx (hb hby own_ei_27) rfl rfl ?_
  have f333 := (((F_syncStateSet.other W326 (Or.inr (slot_ne (Or.inr (own_w193 hw)) (Or.inr (own_w187 hw)) (by decide) own_fd_Ljava_2futil_2fList_3b own_fd_Ljava_2flang_2fString_3b))).other W329 (Or.inr (slot_ne (Or.inr (own_w193 hw)) (Or.inr (own_w189 hw)) (by decide) own_fd_Ljava_2futil_2fList_3b own_fd_Ljava_2flang_2fLong_3b))).other W332 (Or.inr (slot_ne (Or.inr (own_w193 hw)) (Or.inr (own_w191 hw)) (by decide) own_fd_Ljava_2futil_2fList_3b own_fd_I)))
  have f334 := (f331.wr W332)
  refine own_putfield X332 hx hZ (host := "") hown (Or.inl (own_w192 hw)) Via.refl e332 f333 f334 (Or.inr ⟨(own_w193 hw), rfl, hnm⟩) (own_w81 hw) own_fd_Ljava_2futil_2fList_3b rfl rfl (hb hby own_ei_29) fun T335 h335 X335 e335 W335 => ?_
  have N335 := Fr.snoc X335 N332 g
  refine own_aloadN X335 hx (hb hby own_ei_32) rfl rfl ?_
  refine own_iload X335 hx (hb hby own_ei_33) rfl ?_
  have f336 := ((((F_syncStateSetEpoch.other W326 (Or.inr (slot_ne (Or.inr (own_w195 hw)) (Or.inr (own_w187 hw)) (by decide) own_fd_I own_fd_Ljava_2flang_2fString_3b))).other W329 (Or.inr (slot_ne (Or.inr (own_w195 hw)) (Or.inr (own_w189 hw)) (by decide) own_fd_I own_fd_Ljava_2flang_2fLong_3b))).other W332 (Or.inr (slot_ne (Or.inr (own_w195 hw)) (Or.inr (own_w191 hw)) (by decide) own_fd_I own_fd_I))).other W335 (Or.inr (slot_ne (Or.inr (own_w195 hw)) (Or.inr (own_w193 hw)) (by decide) own_fd_I own_fd_Ljava_2futil_2fList_3b)))
  have f337 := (f334.wr W335)
  refine own_putfield X335 hx hZ (host := "") hown (Or.inl (own_w194 hw)) Via.refl e335 f336 f337 (Or.inr ⟨(own_w195 hw), rfl, hnm⟩) (own_w81 hw) own_fd_I rfl rfl (hb hby own_ei_35) fun T338 h338 X338 e338 W338 => ?_
  have N338 := Fr.snoc X338 N335 g
  refine own_retV X338 hx hret (hb hby own_ei_38) hlk (by decide) (by decide) ?_
  refine ⟨rfl, N338, ?_⟩
  rw [e338]
  exact ⟨((((((Keep.refl h0 [o]).wr W326 (Or.inl (by simp))).wr W329 (Or.inl (by simp))).wr W332 (Or.inl (by simp))).wr W335 (Or.inl (by simp))).wr W338 (Or.inl (by simp))), (f337.wr W338), ((((f327.same W329).other W332 (Or.inr (slot_ne (Or.inr (own_w189 hw)) (Or.inr (own_w191 hw)) (by decide) own_fd_Ljava_2flang_2fLong_3b own_fd_I))).other W335 (Or.inr (slot_ne (Or.inr (own_w189 hw)) (Or.inr (own_w193 hw)) (by decide) own_fd_Ljava_2flang_2fLong_3b own_fd_Ljava_2futil_2fList_3b))).other W338 (Or.inr (slot_ne (Or.inr (own_w189 hw)) (Or.inr (own_w195 hw)) (by decide) own_fd_Ljava_2flang_2fLong_3b own_fd_I))), (((f330.same W332).other W335 (Or.inr (slot_ne (Or.inr (own_w191 hw)) (Or.inr (own_w193 hw)) (by decide) own_fd_I own_fd_Ljava_2futil_2fList_3b))).other W338 (Or.inr (slot_ne (Or.inr (own_w191 hw)) (Or.inr (own_w195 hw)) (by decide) own_fd_I own_fd_I))), ((f333.same W335).other W338 (Or.inr (slot_ne (Or.inr (own_w193 hw)) (Or.inr (own_w195 hw)) (by decide) own_fd_Ljava_2futil_2fList_3b own_fd_I))), (f336.same W338)⟩
set_option maxRecDepth 65536 in
set_option maxHeartbeats 40000000 in
theorem own_ei11 (l : Launch) (Z : State) (a0 : Array Value) (hw : ∀ d ∈ tables_1, d.before a0 Z = true) (o sg ms : Addr) (ep sp : Int32) (a em b mr x0 : Addr) (k : ClassId) (h0 : Heap) (n0 : Nat) (OX : Old Z n0 h0) (EO : Exa Z h0 o "com/example/regent/regent/controller/Event$MasterChanged") (g : n0 ≤ o) (F_group : Fld Z h0 o "com/example/regent/regent/controller/Event$MasterChanged" "group" "Ljava/lang/String;" .null) (F_master : Fld Z h0 o "com/example/regent/regent/controller/Event$MasterChanged" "master" "Ljava/lang/Long;" .null) (F_masterEpoch : Fld Z h0 o "com/example/regent/regent/controller/Event$MasterChanged" "masterEpoch" "I" (.int (0 : Int32))) (F_syncStateSet : Fld Z h0 o "com/example/regent/regent/controller/Event$MasterChanged" "syncStateSet" "Ljava/util/List;" .null) (F_syncStateSetEpoch : Fld Z h0 o "com/example/regent/regent/controller/Event$MasterChanged" "syncStateSetEpoch" "I" (.int (0 : Int32))) (E : Exa Z h0 a "java/util/ArrayList") (F0 : Fld Z h0 a "java/util/ArrayList" "size" "I" (.int (1 : Int32))) (F : Fld Z h0 a "java/util/ArrayList" "elementData" "[Ljava/lang/Object;" (.ref b)) (VV : Arv Z h0 b k (.object "java/lang/Object") 10 [(.ref x0), .null, .null, .null, .null, .null, .null, .null, .null, .null] .null) (EX0 : Exa Z h0 x0 "java/lang/Long") (EB : Exa Z h0 b "[Ljava/lang/Object;") (MM : own_Mir Z "[Ljava/lang/Object;" mr) (SE : Sta Z Z.heap "java/util/ImmutableCollections" "EMPTY" "Ljava/lang/Object;" (.ref em)) (NA : ∃ c t, Z.vm.findClass "java/util/ArrayList" = some c ∧ Z.vm.findClass "java/util/ImmutableCollections$List12" = some t ∧ Z.vm.assignable c t = false) (NB : ∃ c t, Z.vm.findClass "java/util/ArrayList" = some c ∧ Z.vm.findClass "java/util/ImmutableCollections$ListN" = some t ∧ Z.vm.assignable c t = false) :
    own_Met l Z (⟨"com/example/regent/regent/controller/Event$MasterChanged", "<init>", "(Ljava/lang/String;Ljava/lang/Long;ILjava/util/List;I)V"⟩ : MethodName) prog_53_method_1_code 6 none ({ frames := 8, cells := 2, slots := 3, locals := 100 } : Room) #[(.ref o), (.ref sg), (.ref ms), (.int ep), (.ref a), (.int sp)] h0 (fun v h L => v = none ∧ Fr n0 L ∧ Keep h0 h [o] ∧ ∃ y, h0.size ≤ y ∧ own_L12 Z h y (.ref x0) (.ref em) ∧ Exa Z h o "com/example/regent/regent/controller/Event$MasterChanged" ∧ Fld Z h o "com/example/regent/regent/controller/Event$MasterChanged" "master" "Ljava/lang/Long;" (.ref ms) ∧ Fld Z h o "com/example/regent/regent/controller/Event$MasterChanged" "masterEpoch" "I" (.int ep) ∧ Fld Z h o "com/example/regent/regent/controller/Event$MasterChanged" "syncStateSet" "Ljava/util/List;" (.ref y) ∧ Fld Z h o "com/example/regent/regent/controller/Event$MasterChanged" "syncStateSetEpoch" "I" (.int sp)) := by
  refine own_body (Ls := #[.val (.ref o), .val (.ref sg), .val (.ref ms), .val (.int ep), .val (.ref a), .val (.int sp)]) (plainFor_of_name own_pn_com_example_regent_regent_controller_Event_MasterChanged) (fun m => by first | (simp [entryFrame, mkF, argsToLocals, Value.category]; done) | rfl) ?_
  intro p e s m below meth c s₁ hx hZ hby hml hown hnm hret hlk X0 e0
  have N0 := Fr.nil n0
  refine own_aloadN X0 hx (hb hby own_ei_0) rfl rfl ?_
  refine own_spec X0 hx hZ rfl hown (own_w94 hw) (own_w95 hw) (own_w98 hw) (own_w97 hw) (by decide) e0 (hb hby own_ei_1) (by rw [hml]; rfl) own_pd__28_29V rfl (W := 0) (Nat.le_of_ble_eq_true rfl) (own_rec l Z a0 hw o h0 n0 OX) (by decide) (by decide) (by decide) (by decide) (a := o) (argsL := []) (rest := []) rfl rfl fun v339 T339 L339 X339 q339 => ?_
  obtain ⟨rfl, M339, e339⟩ := q339
  have N339 := Fr.app N0 M339
  show own_Fin p e below _ (T339.setTop (mkF m 4 #[.val (.ref o), .val (.ref sg), .val (.ref ms), .val (.int ep), .val (.ref a), .val (.int sp)] []))
  refine own_aload X339 hx (hb hby own_ei_4) rfl rfl ?_
  refine own_stat X339 hx hZ hown (own_w100 hw) (own_w101 hw) (own_w103 hw) (own_w102 hw) (by decide) e339 (hb hby own_ei_6) (by rw [hml]; rfl) own_pd__28Ljava_2futil_2fCollection_3b_29Ljava_2futil_2fList_3b rfl (W := 0) (Nat.le_of_ble_eq_true rfl) (own_lk1 l Z a0 hw a em b mr x0 k h0 n0 OX E F0 F VV EX0 EB MM SE NA NB) (by decide) (by decide) (by decide) (by decide) (argsL := [(.ref a)]) (rest := []) rfl rfl fun v340 T340 L340 X340 q340 => ?_
  obtain ⟨h340, e340⟩ : ∃ z, T340.heap = z := ⟨_, rfl⟩
  try dsimp only at q340
  rw [e340] at q340
  obtain ⟨y, rfl, M340, y1, y2, y3⟩ := q340
  have N340 := Fr.app N339 M340
  have f341 : n0 ≤ y := Nat.le_trans (own_old OX) y2
  have f342 : h0.size ≤ y := Nat.le_trans (Keep.refl h0 []).1 y2
  show own_Fin p e below _ (T340.setTop (mkF m 9 #[.val (.ref o), .val (.ref sg), .val (.ref ms), .val (.int ep), .val (.ref a), .val (.int sp)] [(.ref y)]))
  refine own_astore X340 hx (l' := #[.val (.ref o), .val (.ref sg), .val (.ref ms), .val (.int ep), .val (.ref y), .val (.int sp)]) (hb hby own_ei_9) rfl rfl ?_
  refine own_aloadN X340 hx (hb hby own_ei_11) rfl rfl ?_
  refine own_aloadN X340 hx (hb hby own_ei_12) rfl rfl ?_
  have f343 := (F_group.ext y1)
  have f344 := (EO.ext y1)
  refine own_putfield X340 hx hZ (host := "") hown (Or.inl (own_w186 hw)) Via.refl e340 f343 f344 (Or.inr ⟨(own_w187 hw), rfl, hnm⟩) (own_w81 hw) own_fd_Ljava_2flang_2fString_3b rfl rfl (hb hby own_ei_13) fun T345 h345 X345 e345 W345 => ?_
  have N345 := Fr.snoc X345 N340 g
  refine own_aloadN X345 hx (hb hby own_ei_16) rfl rfl ?_
  refine own_aloadN X345 hx (hb hby own_ei_17) rfl rfl ?_
  have f346 := ((F_master.ext y1).other W345 (Or.inr (slot_ne (Or.inr (own_w189 hw)) (Or.inr (own_w187 hw)) (by decide) own_fd_Ljava_2flang_2fLong_3b own_fd_Ljava_2flang_2fString_3b)))
  have f347 := (f344.wr W345)
  refine own_putfield X345 hx hZ (host := "") hown (Or.inl (own_w188 hw)) Via.refl e345 f346 f347 (Or.inr ⟨(own_w189 hw), rfl, hnm⟩) (own_w81 hw) own_fd_Ljava_2flang_2fLong_3b rfl rfl (hb hby own_ei_18) fun T348 h348 X348 e348 W348 => ?_
  have N348 := Fr.snoc X348 N345 g
  refine own_aloadN X348 hx (hb hby own_ei_21) rfl rfl ?_
  refine own_iloadN X348 hx (hb hby own_ei_22) rfl ?_
  have f349 := (((F_masterEpoch.ext y1).other W345 (Or.inr (slot_ne (Or.inr (own_w191 hw)) (Or.inr (own_w187 hw)) (by decide) own_fd_I own_fd_Ljava_2flang_2fString_3b))).other W348 (Or.inr (slot_ne (Or.inr (own_w191 hw)) (Or.inr (own_w189 hw)) (by decide) own_fd_I own_fd_Ljava_2flang_2fLong_3b)))
  have f350 := (f347.wr W348)
  refine own_putfield X348 hx hZ (host := "") hown (Or.inl (own_w190 hw)) Via.refl e348 f349 f350 (Or.inr ⟨(own_w191 hw), rfl, hnm⟩) (own_w81 hw) own_fd_I rfl rfl (hb hby own_ei_23) fun T351 h351 X351 e351 W351 => ?_
  have N351 := Fr.snoc X351 N348 g
  refine own_aloadN X351 hx (hb hby own_ei_26) rfl rfl ?_
  refine own_aload X351 hx (hb hby own_ei_27) rfl rfl ?_
  have f352 := ((((F_syncStateSet.ext y1).other W345 (Or.inr (slot_ne (Or.inr (own_w193 hw)) (Or.inr (own_w187 hw)) (by decide) own_fd_Ljava_2futil_2fList_3b own_fd_Ljava_2flang_2fString_3b))).other W348 (Or.inr (slot_ne (Or.inr (own_w193 hw)) (Or.inr (own_w189 hw)) (by decide) own_fd_Ljava_2futil_2fList_3b own_fd_Ljava_2flang_2fLong_3b))).other W351 (Or.inr (slot_ne (Or.inr (own_w193 hw)) (Or.inr (own_w191 hw)) (by decide) own_fd_Ljava_2futil_2fList_3b own_fd_I)))
  have f353 := (f350.wr W351)
  refine own_putfield X351 hx hZ (host := "") hown (Or.inl (own_w192 hw)) Via.refl e351 f352 f353 (Or.inr ⟨(own_w193 hw), rfl, hnm⟩) (own_w81 hw) own_fd_Ljava_2futil_2fList_3b rfl rfl (hb hby own_ei_29) fun T354 h354 X354 e354 W354 => ?_
  have N354 := Fr.snoc X354 N351 g
  refine own_aloadN X354 hx (hb hby own_ei_32) rfl rfl ?_
  refine own_iload X354 hx (hb hby own_ei_33) rfl ?_
  have f355 := (((((F_syncStateSetEpoch.ext y1).other W345 (Or.inr (slot_ne (Or.inr (own_w195 hw)) (Or.inr (own_w187 hw)) (by decide) own_fd_I own_fd_Ljava_2flang_2fString_3b))).other W348 (Or.inr (slot_ne (Or.inr (own_w195 hw)) (Or.inr (own_w189 hw)) (by decide) own_fd_I own_fd_Ljava_2flang_2fLong_3b))).other W351 (Or.inr (slot_ne (Or.inr (own_w195 hw)) (Or.inr (own_w191 hw)) (by decide) own_fd_I own_fd_I))).other W354 (Or.inr (slot_ne (Or.inr (own_w195 hw)) (Or.inr (own_w193 hw)) (by decide) own_fd_I own_fd_Ljava_2futil_2fList_3b)))
  have f356 := (f353.wr W354)
  refine own_putfield X354 hx hZ (host := "") hown (Or.inl (own_w194 hw)) Via.refl e354 f355 f356 (Or.inr ⟨(own_w195 hw), rfl, hnm⟩) (own_w81 hw) own_fd_I rfl rfl (hb hby own_ei_35) fun T357 h357 X357 e357 W357 => ?_
  have N357 := Fr.snoc X357 N354 g
  have f358 := (((((y3.1.wr W345).wr W348).wr W351).wr W354).wr W357)
  have f359 := (f356.wr W357)
  have f360 := ne_exa f358 f359 (by decide)
  refine own_retV X357 hx hret (hb hby own_ei_38) hlk (by decide) (by decide) ?_
  refine ⟨rfl, N357, ?_⟩
  rw [e357]
  exact ⟨(((((((Keep.refl h0 [o]).ext y1).wr W345 (Or.inl (by simp))).wr W348 (Or.inl (by simp))).wr W351 (Or.inl (by simp))).wr W354 (Or.inl (by simp))).wr W357 (Or.inl (by simp))), y, y2, ⟨(((((y3.1.wr W345).wr W348).wr W351).wr W354).wr W357), (((((y3.2.1.other W345 (Or.inl f360)).other W348 (Or.inl f360)).other W351 (Or.inl f360)).other W354 (Or.inl f360)).other W357 (Or.inl f360)), (((((y3.2.2.other W345 (Or.inl f360)).other W348 (Or.inl f360)).other W351 (Or.inl f360)).other W354 (Or.inl f360)).other W357 (Or.inl f360))⟩, (f356.wr W357), ((((f346.same W348).other W351 (Or.inr (slot_ne (Or.inr (own_w189 hw)) (Or.inr (own_w191 hw)) (by decide) own_fd_Ljava_2flang_2fLong_3b own_fd_I))).other W354 (Or.inr (slot_ne (Or.inr (own_w189 hw)) (Or.inr (own_w193 hw)) (by decide) own_fd_Ljava_2flang_2fLong_3b own_fd_Ljava_2futil_2fList_3b))).other W357 (Or.inr (slot_ne (Or.inr (own_w189 hw)) (Or.inr (own_w195 hw)) (by decide) own_fd_Ljava_2flang_2fLong_3b own_fd_I))), (((f349.same W351).other W354 (Or.inr (slot_ne (Or.inr (own_w191 hw)) (Or.inr (own_w193 hw)) (by decide) own_fd_I own_fd_Ljava_2futil_2fList_3b))).other W357 (Or.inr (slot_ne (Or.inr (own_w191 hw)) (Or.inr (own_w195 hw)) (by decide) own_fd_I own_fd_I))), ((f352.same W354).other W357 (Or.inr (slot_ne (Or.inr (own_w193 hw)) (Or.inr (own_w195 hw)) (by decide) own_fd_Ljava_2futil_2fList_3b own_fd_I))), (f355.same W357)⟩
set_option maxRecDepth 65536 in
set_option maxHeartbeats 40000000 in
theorem own_ei12 (l : Launch) (Z : State) (a0 : Array Value) (hw : ∀ d ∈ tables_1, d.before a0 Z = true) (o sg ms : Addr) (ep sp : Int32) (a em b mr x0 x1 : Addr) (k : ClassId) (h0 : Heap) (n0 : Nat) (OX : Old Z n0 h0) (EO : Exa Z h0 o "com/example/regent/regent/controller/Event$MasterChanged") (g : n0 ≤ o) (F_group : Fld Z h0 o "com/example/regent/regent/controller/Event$MasterChanged" "group" "Ljava/lang/String;" .null) (F_master : Fld Z h0 o "com/example/regent/regent/controller/Event$MasterChanged" "master" "Ljava/lang/Long;" .null) (F_masterEpoch : Fld Z h0 o "com/example/regent/regent/controller/Event$MasterChanged" "masterEpoch" "I" (.int (0 : Int32))) (F_syncStateSet : Fld Z h0 o "com/example/regent/regent/controller/Event$MasterChanged" "syncStateSet" "Ljava/util/List;" .null) (F_syncStateSetEpoch : Fld Z h0 o "com/example/regent/regent/controller/Event$MasterChanged" "syncStateSetEpoch" "I" (.int (0 : Int32))) (E : Exa Z h0 a "java/util/ArrayList") (F0 : Fld Z h0 a "java/util/ArrayList" "size" "I" (.int (2 : Int32))) (F : Fld Z h0 a "java/util/ArrayList" "elementData" "[Ljava/lang/Object;" (.ref b)) (VV : Arv Z h0 b k (.object "java/lang/Object") 10 [(.ref x0), (.ref x1), .null, .null, .null, .null, .null, .null, .null, .null] .null) (EX0 : Exa Z h0 x0 "java/lang/Long") (EX1 : Exa Z h0 x1 "java/lang/Long") (EB : Exa Z h0 b "[Ljava/lang/Object;") (MM : own_Mir Z "[Ljava/lang/Object;" mr) (SE : Sta Z Z.heap "java/util/ImmutableCollections" "EMPTY" "Ljava/lang/Object;" (.ref em)) (NA : ∃ c t, Z.vm.findClass "java/util/ArrayList" = some c ∧ Z.vm.findClass "java/util/ImmutableCollections$List12" = some t ∧ Z.vm.assignable c t = false) (NB : ∃ c t, Z.vm.findClass "java/util/ArrayList" = some c ∧ Z.vm.findClass "java/util/ImmutableCollections$ListN" = some t ∧ Z.vm.assignable c t = false) :
    own_Met l Z (⟨"com/example/regent/regent/controller/Event$MasterChanged", "<init>", "(Ljava/lang/String;Ljava/lang/Long;ILjava/util/List;I)V"⟩ : MethodName) prog_53_method_1_code 6 none ({ frames := 8, cells := 2, slots := 4, locals := 101 } : Room) #[(.ref o), (.ref sg), (.ref ms), (.int ep), (.ref a), (.int sp)] h0 (fun v h L => v = none ∧ Fr n0 L ∧ Keep h0 h [o] ∧ ∃ y, h0.size ≤ y ∧ own_L12 Z h y (.ref x0) (.ref x1) ∧ Exa Z h o "com/example/regent/regent/controller/Event$MasterChanged" ∧ Fld Z h o "com/example/regent/regent/controller/Event$MasterChanged" "master" "Ljava/lang/Long;" (.ref ms) ∧ Fld Z h o "com/example/regent/regent/controller/Event$MasterChanged" "masterEpoch" "I" (.int ep) ∧ Fld Z h o "com/example/regent/regent/controller/Event$MasterChanged" "syncStateSet" "Ljava/util/List;" (.ref y) ∧ Fld Z h o "com/example/regent/regent/controller/Event$MasterChanged" "syncStateSetEpoch" "I" (.int sp)) := by
  refine own_body (Ls := #[.val (.ref o), .val (.ref sg), .val (.ref ms), .val (.int ep), .val (.ref a), .val (.int sp)]) (plainFor_of_name own_pn_com_example_regent_regent_controller_Event_MasterChanged) (fun m => by first | (simp [entryFrame, mkF, argsToLocals, Value.category]; done) | rfl) ?_
  intro p e s m below meth c s₁ hx hZ hby hml hown hnm hret hlk X0 e0
  have N0 := Fr.nil n0
  refine own_aloadN X0 hx (hb hby own_ei_0) rfl rfl ?_
  refine own_spec X0 hx hZ rfl hown (own_w94 hw) (own_w95 hw) (own_w98 hw) (own_w97 hw) (by decide) e0 (hb hby own_ei_1) (by rw [hml]; rfl) own_pd__28_29V rfl (W := 0) (Nat.le_of_ble_eq_true rfl) (own_rec l Z a0 hw o h0 n0 OX) (by decide) (by decide) (by decide) (by decide) (a := o) (argsL := []) (rest := []) rfl rfl fun v361 T361 L361 X361 q361 => ?_
  obtain ⟨rfl, M361, e361⟩ := q361
  have N361 := Fr.app N0 M361
  show own_Fin p e below _ (T361.setTop (mkF m 4 #[.val (.ref o), .val (.ref sg), .val (.ref ms), .val (.int ep), .val (.ref a), .val (.int sp)] []))
  refine own_aload X361 hx (hb hby own_ei_4) rfl rfl ?_
  refine own_stat X361 hx hZ hown (own_w100 hw) (own_w101 hw) (own_w103 hw) (own_w102 hw) (by decide) e361 (hb hby own_ei_6) (by rw [hml]; rfl) own_pd__28Ljava_2futil_2fCollection_3b_29Ljava_2futil_2fList_3b rfl (W := 0) (Nat.le_of_ble_eq_true rfl) (own_lk2 l Z a0 hw a em b mr x0 x1 k h0 n0 OX E F0 F VV EX0 EX1 EB MM SE NA NB) (by decide) (by decide) (by decide) (by decide) (argsL := [(.ref a)]) (rest := []) rfl rfl fun v362 T362 L362 X362 q362 => ?_
  obtain ⟨h362, e362⟩ : ∃ z, T362.heap = z := ⟨_, rfl⟩
  try dsimp only at q362
  rw [e362] at q362
  obtain ⟨y, rfl, M362, y1, y2, y3⟩ := q362
  have N362 := Fr.app N361 M362
  have f363 : n0 ≤ y := Nat.le_trans (own_old OX) y2
  have f364 : h0.size ≤ y := Nat.le_trans (Keep.refl h0 []).1 y2
  show own_Fin p e below _ (T362.setTop (mkF m 9 #[.val (.ref o), .val (.ref sg), .val (.ref ms), .val (.int ep), .val (.ref a), .val (.int sp)] [(.ref y)]))
  refine own_astore X362 hx (l' := #[.val (.ref o), .val (.ref sg), .val (.ref ms), .val (.int ep), .val (.ref y), .val (.int sp)]) (hb hby own_ei_9) rfl rfl ?_
  refine own_aloadN X362 hx (hb hby own_ei_11) rfl rfl ?_
  refine own_aloadN X362 hx (hb hby own_ei_12) rfl rfl ?_
  have f365 := (F_group.ext y1)
  have f366 := (EO.ext y1)
  refine own_putfield X362 hx hZ (host := "") hown (Or.inl (own_w186 hw)) Via.refl e362 f365 f366 (Or.inr ⟨(own_w187 hw), rfl, hnm⟩) (own_w81 hw) own_fd_Ljava_2flang_2fString_3b rfl rfl (hb hby own_ei_13) fun T367 h367 X367 e367 W367 => ?_
  have N367 := Fr.snoc X367 N362 g
  refine own_aloadN X367 hx (hb hby own_ei_16) rfl rfl ?_
  refine own_aloadN X367 hx (hb hby own_ei_17) rfl rfl ?_
  have f368 := ((F_master.ext y1).other W367 (Or.inr (slot_ne (Or.inr (own_w189 hw)) (Or.inr (own_w187 hw)) (by decide) own_fd_Ljava_2flang_2fLong_3b own_fd_Ljava_2flang_2fString_3b)))
  have f369 := (f366.wr W367)
  refine own_putfield X367 hx hZ (host := "") hown (Or.inl (own_w188 hw)) Via.refl e367 f368 f369 (Or.inr ⟨(own_w189 hw), rfl, hnm⟩) (own_w81 hw) own_fd_Ljava_2flang_2fLong_3b rfl rfl (hb hby own_ei_18) fun T370 h370 X370 e370 W370 => ?_
  have N370 := Fr.snoc X370 N367 g
  refine own_aloadN X370 hx (hb hby own_ei_21) rfl rfl ?_
  refine own_iloadN X370 hx (hb hby own_ei_22) rfl ?_
  have f371 := (((F_masterEpoch.ext y1).other W367 (Or.inr (slot_ne (Or.inr (own_w191 hw)) (Or.inr (own_w187 hw)) (by decide) own_fd_I own_fd_Ljava_2flang_2fString_3b))).other W370 (Or.inr (slot_ne (Or.inr (own_w191 hw)) (Or.inr (own_w189 hw)) (by decide) own_fd_I own_fd_Ljava_2flang_2fLong_3b)))
  have f372 := (f369.wr W370)
  refine own_putfield X370 hx hZ (host := "") hown (Or.inl (own_w190 hw)) Via.refl e370 f371 f372 (Or.inr ⟨(own_w191 hw), rfl, hnm⟩) (own_w81 hw) own_fd_I rfl rfl (hb hby own_ei_23) fun T373 h373 X373 e373 W373 => ?_
  have N373 := Fr.snoc X373 N370 g
  refine own_aloadN X373 hx (hb hby own_ei_26) rfl rfl ?_
  refine own_aload X373 hx (hb hby own_ei_27) rfl rfl ?_
  have f374 := ((((F_syncStateSet.ext y1).other W367 (Or.inr (slot_ne (Or.inr (own_w193 hw)) (Or.inr (own_w187 hw)) (by decide) own_fd_Ljava_2futil_2fList_3b own_fd_Ljava_2flang_2fString_3b))).other W370 (Or.inr (slot_ne (Or.inr (own_w193 hw)) (Or.inr (own_w189 hw)) (by decide) own_fd_Ljava_2futil_2fList_3b own_fd_Ljava_2flang_2fLong_3b))).other W373 (Or.inr (slot_ne (Or.inr (own_w193 hw)) (Or.inr (own_w191 hw)) (by decide) own_fd_Ljava_2futil_2fList_3b own_fd_I)))
  have f375 := (f372.wr W373)
  refine own_putfield X373 hx hZ (host := "") hown (Or.inl (own_w192 hw)) Via.refl e373 f374 f375 (Or.inr ⟨(own_w193 hw), rfl, hnm⟩) (own_w81 hw) own_fd_Ljava_2futil_2fList_3b rfl rfl (hb hby own_ei_29) fun T376 h376 X376 e376 W376 => ?_
  have N376 := Fr.snoc X376 N373 g
  refine own_aloadN X376 hx (hb hby own_ei_32) rfl rfl ?_
  refine own_iload X376 hx (hb hby own_ei_33) rfl ?_
  have f377 := (((((F_syncStateSetEpoch.ext y1).other W367 (Or.inr (slot_ne (Or.inr (own_w195 hw)) (Or.inr (own_w187 hw)) (by decide) own_fd_I own_fd_Ljava_2flang_2fString_3b))).other W370 (Or.inr (slot_ne (Or.inr (own_w195 hw)) (Or.inr (own_w189 hw)) (by decide) own_fd_I own_fd_Ljava_2flang_2fLong_3b))).other W373 (Or.inr (slot_ne (Or.inr (own_w195 hw)) (Or.inr (own_w191 hw)) (by decide) own_fd_I own_fd_I))).other W376 (Or.inr (slot_ne (Or.inr (own_w195 hw)) (Or.inr (own_w193 hw)) (by decide) own_fd_I own_fd_Ljava_2futil_2fList_3b)))
  have f378 := (f375.wr W376)
  refine own_putfield X376 hx hZ (host := "") hown (Or.inl (own_w194 hw)) Via.refl e376 f377 f378 (Or.inr ⟨(own_w195 hw), rfl, hnm⟩) (own_w81 hw) own_fd_I rfl rfl (hb hby own_ei_35) fun T379 h379 X379 e379 W379 => ?_
  have N379 := Fr.snoc X379 N376 g
  have f380 := (((((y3.1.wr W367).wr W370).wr W373).wr W376).wr W379)
  have f381 := (f378.wr W379)
  have f382 := ne_exa f380 f381 (by decide)
  refine own_retV X379 hx hret (hb hby own_ei_38) hlk (by decide) (by decide) ?_
  refine ⟨rfl, N379, ?_⟩
  rw [e379]
  exact ⟨(((((((Keep.refl h0 [o]).ext y1).wr W367 (Or.inl (by simp))).wr W370 (Or.inl (by simp))).wr W373 (Or.inl (by simp))).wr W376 (Or.inl (by simp))).wr W379 (Or.inl (by simp))), y, y2, ⟨(((((y3.1.wr W367).wr W370).wr W373).wr W376).wr W379), (((((y3.2.1.other W367 (Or.inl f382)).other W370 (Or.inl f382)).other W373 (Or.inl f382)).other W376 (Or.inl f382)).other W379 (Or.inl f382)), (((((y3.2.2.other W367 (Or.inl f382)).other W370 (Or.inl f382)).other W373 (Or.inl f382)).other W376 (Or.inl f382)).other W379 (Or.inl f382))⟩, (f378.wr W379), ((((f368.same W370).other W373 (Or.inr (slot_ne (Or.inr (own_w189 hw)) (Or.inr (own_w191 hw)) (by decide) own_fd_Ljava_2flang_2fLong_3b own_fd_I))).other W376 (Or.inr (slot_ne (Or.inr (own_w189 hw)) (Or.inr (own_w193 hw)) (by decide) own_fd_Ljava_2flang_2fLong_3b own_fd_Ljava_2futil_2fList_3b))).other W379 (Or.inr (slot_ne (Or.inr (own_w189 hw)) (Or.inr (own_w195 hw)) (by decide) own_fd_Ljava_2flang_2fLong_3b own_fd_I))), (((f371.same W373).other W376 (Or.inr (slot_ne (Or.inr (own_w191 hw)) (Or.inr (own_w193 hw)) (by decide) own_fd_I own_fd_Ljava_2futil_2fList_3b))).other W379 (Or.inr (slot_ne (Or.inr (own_w191 hw)) (Or.inr (own_w195 hw)) (by decide) own_fd_I own_fd_I))), ((f374.same W376).other W379 (Or.inr (slot_ne (Or.inr (own_w193 hw)) (Or.inr (own_w195 hw)) (by decide) own_fd_Ljava_2futil_2fList_3b own_fd_I))), (f377.same W379)⟩
set_option maxRecDepth 65536 in
set_option maxHeartbeats 40000000 in
theorem own_ap1 (l : Launch) (Z : State) (a0 : Array Value) (hw : ∀ d ∈ tables_1, d.before a0 Z = true) (o gr y ms : Addr) (ep sp : Int32) (u_master u_masterEpoch u_syncStateSet u_syncStateSetEpoch : Value) (h0 : Heap) (n0 : Nat) (OX : Old Z n0 h0) (EO : Exa Z h0 o "com/example/regent/regent/controller/Event$MasterChanged") (EG : Exa Z h0 gr "com/example/regent/regent/controller/Group") (g : n0 ≤ gr) (P_master : Fld Z h0 o "com/example/regent/regent/controller/Event$MasterChanged" "master" "Ljava/lang/Long;" (.ref ms)) (P_masterEpoch : Fld Z h0 o "com/example/regent/regent/controller/Event$MasterChanged" "masterEpoch" "I" (.int ep)) (P_syncStateSet : Fld Z h0 o "com/example/regent/regent/controller/Event$MasterChanged" "syncStateSet" "Ljava/util/List;" (.ref y)) (P_syncStateSetEpoch : Fld Z h0 o "com/example/regent/regent/controller/Event$MasterChanged" "syncStateSetEpoch" "I" (.int sp)) (F_master : Fld Z h0 gr "com/example/regent/regent/controller/Group" "master" "Ljava/lang/Long;" u_master) (F_masterEpoch : Fld Z h0 gr "com/example/regent/regent/controller/Group" "masterEpoch" "I" u_masterEpoch) (F_syncStateSet : Fld Z h0 gr "com/example/regent/regent/controller/Group" "syncStateSet" "Ljava/util/List;" u_syncStateSet) (F_syncStateSetEpoch : Fld Z h0 gr "com/example/regent/regent/controller/Group" "syncStateSetEpoch" "I" u_syncStateSetEpoch) :
    own_Met l Z (⟨"com/example/regent/regent/controller/Event$MasterChanged", "applyTo", "(Lcom/example/regent/regent/controller/Group;)V"⟩ : MethodName) prog_53_method_2_code 2 none ({ frames := 0, cells := 0, slots := 0, locals := 0 } : Room) #[(.ref o), (.ref gr)] h0 (fun v h L => v = none ∧ Fr n0 L ∧ Keep h0 h [gr] ∧ Exa Z h gr "com/example/regent/regent/controller/Group" ∧ Fld Z h gr "com/example/regent/regent/controller/Group" "master" "Ljava/lang/Long;" (.ref ms) ∧ Fld Z h gr "com/example/regent/regent/controller/Group" "masterEpoch" "I" (.int ep) ∧ Fld Z h gr "com/example/regent/regent/controller/Group" "syncStateSet" "Ljava/util/List;" (.ref y) ∧ Fld Z h gr "com/example/regent/regent/controller/Group" "syncStateSetEpoch" "I" (.int sp)) := by
  refine own_body (Ls := #[.val (.ref o), .val (.ref gr)]) (plainFor_of_name own_pn_com_example_regent_regent_controller_Event_MasterChanged) (fun m => by first | (simp [entryFrame, mkF, argsToLocals, Value.category]; done) | rfl) ?_
  intro p e s m below meth c s₁ hx hZ hby hml hown hnm hret hlk X0 e0
  have N0 := Fr.nil n0
  refine own_aloadN X0 hx (hb hby own_ap_0) rfl rfl ?_
  refine own_aloadN X0 hx (hb hby own_ap_1) rfl rfl ?_
  refine own_getfield X0 hx hZ (host := "") hown (Or.inl (own_w188 hw)) Via.refl e0 P_master (hb hby own_ap_2) fun T383 X383 e383 => ?_
  refine own_putfield X383 hx hZ (host := "") hown (Or.inl (own_w247 hw)) Via.refl e383 F_master EG (Or.inl (own_w236 hw)) (own_w197 hw) own_fd_Ljava_2flang_2fLong_3b rfl rfl (hb hby own_ap_5) fun T384 h384 X384 e384 W384 => ?_
  have N384 := Fr.snoc X384 N0 g
  refine own_aloadN X384 hx (hb hby own_ap_8) rfl rfl ?_
  refine own_aloadN X384 hx (hb hby own_ap_9) rfl rfl ?_
  have f385 := (EO.wr W384)
  have f386 := (EG.wr W384)
  have f387 := ne_exa f385 f386 (by decide)
  have f388 := (P_masterEpoch.other W384 (Or.inl f387))
  refine own_getfield X384 hx hZ (host := "") hown (Or.inl (own_w190 hw)) Via.refl e384 f388 (hb hby own_ap_10) fun T389 X389 e389 => ?_
  have f390 := (F_masterEpoch.other W384 (Or.inr (slot_ne (Or.inl (own_w238 hw)) (Or.inl (own_w236 hw)) (by decide) own_fd_I own_fd_Ljava_2flang_2fLong_3b)))
  refine own_putfield X389 hx hZ (host := "") hown (Or.inl (own_w248 hw)) Via.refl e389 f390 f386 (Or.inl (own_w238 hw)) (own_w197 hw) own_fd_I rfl rfl (hb hby own_ap_13) fun T391 h391 X391 e391 W391 => ?_
  have N391 := Fr.snoc X391 N384 g
  refine own_aloadN X391 hx (hb hby own_ap_16) rfl rfl ?_
  refine own_aloadN X391 hx (hb hby own_ap_17) rfl rfl ?_
  have f392 := ((P_syncStateSet.other W384 (Or.inl f387)).other W391 (Or.inl f387))
  refine own_getfield X391 hx hZ (host := "") hown (Or.inl (own_w192 hw)) Via.refl e391 f392 (hb hby own_ap_18) fun T393 X393 e393 => ?_
  have f394 := ((F_syncStateSet.other W384 (Or.inr (slot_ne (Or.inl (own_w231 hw)) (Or.inl (own_w236 hw)) (by decide) own_fd_Ljava_2futil_2fList_3b own_fd_Ljava_2flang_2fLong_3b))).other W391 (Or.inr (slot_ne (Or.inl (own_w231 hw)) (Or.inl (own_w238 hw)) (by decide) own_fd_Ljava_2futil_2fList_3b own_fd_I)))
  have f395 := (f386.wr W391)
  refine own_putfield X393 hx hZ (host := "") hown (Or.inl (own_w249 hw)) Via.refl e393 f394 f395 (Or.inl (own_w231 hw)) (own_w197 hw) own_fd_Ljava_2futil_2fList_3b rfl rfl (hb hby own_ap_21) fun T396 h396 X396 e396 W396 => ?_
  have N396 := Fr.snoc X396 N391 g
  refine own_aloadN X396 hx (hb hby own_ap_24) rfl rfl ?_
  refine own_aloadN X396 hx (hb hby own_ap_25) rfl rfl ?_
  have f397 := (((P_syncStateSetEpoch.other W384 (Or.inl f387)).other W391 (Or.inl f387)).other W396 (Or.inl f387))
  refine own_getfield X396 hx hZ (host := "") hown (Or.inl (own_w194 hw)) Via.refl e396 f397 (hb hby own_ap_26) fun T398 X398 e398 => ?_
  have f399 := (((F_syncStateSetEpoch.other W384 (Or.inr (slot_ne (Or.inl (own_w241 hw)) (Or.inl (own_w236 hw)) (by decide) own_fd_I own_fd_Ljava_2flang_2fLong_3b))).other W391 (Or.inr (slot_ne (Or.inl (own_w241 hw)) (Or.inl (own_w238 hw)) (by decide) own_fd_I own_fd_I))).other W396 (Or.inr (slot_ne (Or.inl (own_w241 hw)) (Or.inl (own_w231 hw)) (by decide) own_fd_I own_fd_Ljava_2futil_2fList_3b)))
  have f400 := (f395.wr W396)
  refine own_putfield X398 hx hZ (host := "") hown (Or.inl (own_w250 hw)) Via.refl e398 f399 f400 (Or.inl (own_w241 hw)) (own_w197 hw) own_fd_I rfl rfl (hb hby own_ap_29) fun T401 h401 X401 e401 W401 => ?_
  have N401 := Fr.snoc X401 N396 g
  refine own_retV X401 hx hret (hb hby own_ap_32) hlk (by decide) (by decide) ?_
  refine ⟨rfl, N401, ?_⟩
  rw [e401]
  exact ⟨(((((Keep.refl h0 [gr]).wr W384 (Or.inl (by simp))).wr W391 (Or.inl (by simp))).wr W396 (Or.inl (by simp))).wr W401 (Or.inl (by simp))), (f400.wr W401), ((((F_master.same W384).other W391 (Or.inr (slot_ne (Or.inl (own_w236 hw)) (Or.inl (own_w238 hw)) (by decide) own_fd_Ljava_2flang_2fLong_3b own_fd_I))).other W396 (Or.inr (slot_ne (Or.inl (own_w236 hw)) (Or.inl (own_w231 hw)) (by decide) own_fd_Ljava_2flang_2fLong_3b own_fd_Ljava_2futil_2fList_3b))).other W401 (Or.inr (slot_ne (Or.inl (own_w236 hw)) (Or.inl (own_w241 hw)) (by decide) own_fd_Ljava_2flang_2fLong_3b own_fd_I))), (((f390.same W391).other W396 (Or.inr (slot_ne (Or.inl (own_w238 hw)) (Or.inl (own_w231 hw)) (by decide) own_fd_I own_fd_Ljava_2futil_2fList_3b))).other W401 (Or.inr (slot_ne (Or.inl (own_w238 hw)) (Or.inl (own_w241 hw)) (by decide) own_fd_I own_fd_I))), ((f394.same W396).other W401 (Or.inr (slot_ne (Or.inl (own_w231 hw)) (Or.inl (own_w241 hw)) (by decide) own_fd_Ljava_2futil_2fList_3b own_fd_I))), (f399.same W401)⟩
theorem own_pn_com_example_regent_regent_controller_MasterChangedApplyToPinLaw : plainName "com/example/regent/regent/controller/MasterChangedApplyToPinLaw" = true := by first | (simp [plainName, overriddenIn]; done) | decide +kernel
theorem own_pd__28J_29Ljava_2flang_2fLong_3b : parseMethodDescriptor "(J)Ljava/lang/Long;" = some ⟨[.long], some (.object "java/lang/Long")⟩ := by decide +kernel
theorem own_pd__28Ljava_2flang_2fObject_3b_29Z : parseMethodDescriptor "(Ljava/lang/Object;)Z" = some ⟨[(.object "java/lang/Object")], some .boolean⟩ := by decide +kernel
theorem own_pd__28Ljava_2flang_2fString_3bLjava_2flang_2fLong_3bILjava_2futil_2fList_3bI_29V : parseMethodDescriptor "(Ljava/lang/String;Ljava/lang/Long;ILjava/util/List;I)V" = some ⟨[(.object "java/lang/String"), (.object "java/lang/Long"), .int, (.object "java/util/List"), .int], none⟩ := by decide +kernel
theorem own_pd__28Ljava_2flang_2fString_3b_29V : parseMethodDescriptor "(Ljava/lang/String;)V" = some ⟨[(.object "java/lang/String")], none⟩ := by decide +kernel
theorem own_pd__28Lcom_2fexample_2fregent_2fregent_2fcontroller_2fGroup_3b_29V : parseMethodDescriptor "(Lcom/example/regent/regent/controller/Group;)V" = some ⟨[(.object "com/example/regent/regent/controller/Group")], none⟩ := by decide +kernel
theorem own_pd__28_29J : parseMethodDescriptor "()J" = some ⟨[], some .long⟩ := by decide +kernel
theorem own_pd__28_29I : parseMethodDescriptor "()I" = some ⟨[], some .int⟩ := by decide +kernel
theorem own_pd__28I_29Ljava_2flang_2fObject_3b : parseMethodDescriptor "(I)Ljava/lang/Object;" = some ⟨[.int], some (.object "java/lang/Object")⟩ := by decide +kernel
set_option maxRecDepth 65536 in
set_option maxHeartbeats 40000000 in
theorem own_law00 (l : Launch) (Z : State) (a0 : Array Value) (hw : ∀ d ∈ tables_1, d.before a0 Z = true) (m0 qa qb : Int64) (ep sp fl : Int32) (dc ca em el en mr : Addr) (dl cc nl : Cell) (h0 : Heap) (n0 : Nat) (OX : Old Z n0 h0) (hfl : fl &&& (1 : Int32) = 0) (hnn : Jvm.Free.XT.ushr fl (1 : Int32) % (3 : Int32) = (0 : Int32)) (S : Sta Z Z.heap "java/util/ArrayList" "DEFAULTCAPACITY_EMPTY_ELEMENTDATA" "[Ljava/lang/Object;" (.ref dc)) (A : Arr Z Z.heap dc dl (.object "java/lang/Object")) (hl : dl.slots.size.toInt32 = (0 : Int32)) (SC : Sta Z Z.heap "java/lang/Long$LongCache" "cache" "[Ljava/lang/Long;" (.ref ca)) (BC : Bxs Z ca cc "java/lang/Long" "J" 256 fun j => .long (j - 128).toInt64) (SE : Sta Z Z.heap "java/util/ImmutableCollections" "EMPTY" "Ljava/lang/Object;" (.ref em)) (EEM : Exa Z Z.heap em "java/lang/Object") (SL : Sta Z Z.heap "java/util/ImmutableCollections" "EMPTY_LIST" "Ljava/util/ImmutableCollections$ListN;" (.ref el)) (EEL : Exa Z Z.heap el "java/util/ImmutableCollections$ListN") (FN : Fld Z Z.heap el "java/util/ImmutableCollections$ListN" "elements" "[Ljava/lang/Object;" (.ref en)) (AN : Arr Z Z.heap en nl (.object "java/lang/Object")) (ln : nl.slots.size.toInt32 = (0 : Int32)) (MM : own_Mir Z "[Ljava/lang/Object;" mr) (NA : ∃ c t, Z.vm.findClass "java/util/ArrayList" = some c ∧ Z.vm.findClass "java/util/ImmutableCollections$List12" = some t ∧ Z.vm.assignable c t = false) (NB : ∃ c t, Z.vm.findClass "java/util/ArrayList" = some c ∧ Z.vm.findClass "java/util/ImmutableCollections$ListN" = some t ∧ Z.vm.assignable c t = false) (wS : ∀ a ∈ Bundle.stringAtoms, a.before a0 Z = true) :
    own_MetW l Z x code maxLocals ret room_1 #[(.long m0), (.int ep), (.int sp), (.long qa), (.long qb), (.int fl)] h0 (fun v h L => v = some (.int 1) ∧ Fr n0 L) := by
  refine own_bodyW (Ls := #[.val (.long m0), .second, .val (.int ep), .val (.int sp), .val (.long qa), .second, .val (.long qb), .second, .val (.int fl), .unset, .unset, .unset, .unset, .unset, .unset, .unset, .unset, .unset, .unset, .unset]) (plainFor_of_name own_pn_com_example_regent_regent_controller_MasterChangedApplyToPinLaw) (fun m => by first | (simp [entryFrame, mkF, argsToLocals, Value.category, maxLocals]; done) | rfl) ?_
  intro p e s m below meth c s₁ hx hZ hby hml hown hnm hret hlk X0 e0
  have N0 := Fr.nil n0
  refine own_iload X0 hx (hb hby at_0) rfl ?_
  refine own_iconst X0 hx (1 : Int32) (hb hby at_2) rfl ?_
  refine own_iand X0 hx (hb hby at_3) ?_
  refine own_ifYes X0 hx 11 (hb hby at_4) (by decide) (by decide) (Jvm.Free.XT.i0_eq_t hfl) ?_
  refine own_iconst X0 hx (0 : Int32) (hb hby at_11) rfl ?_
  refine own_istore X0 hx (l' := #[.val (.long m0), .second, .val (.int ep), .val (.int sp), .val (.long qa), .second, .val (.long qb), .second, .val (.int fl), .val (.int (0 : Int32)), .unset, .unset, .unset, .unset, .unset, .unset, .unset, .unset, .unset, .unset]) (hb hby at_12) rfl ?_
  refine own_iload X0 hx (hb hby at_14) rfl ?_
  refine own_iconst X0 hx (1 : Int32) (hb hby at_16) rfl ?_
  refine own_iushr X0 hx (hb hby at_17) ?_
  refine own_iconst X0 hx (3 : Int32) (hb hby at_18) rfl ?_
  refine own_irem X0 hx (hb hby at_19) (by decide) ?_
  rw [hnn]
  show own_Fin p e below _ (s₁.setTop (mkF m 20 #[.val (.long m0), .second, .val (.int ep), .val (.int sp), .val (.long qa), .second, .val (.long qb), .second, .val (.int fl), .val (.int (0 : Int32)), .unset, .unset, .unset, .unset, .unset, .unset, .unset, .unset, .unset, .unset] [(.int (0 : Int32))]))
  refine own_istore X0 hx (l' := #[.val (.long m0), .second, .val (.int ep), .val (.int sp), .val (.long qa), .second, .val (.long qb), .second, .val (.int fl), .val (.int (0 : Int32)), .val (.int (0 : Int32)), .unset, .unset, .unset, .unset, .unset, .unset, .unset, .unset, .unset]) (hb hby at_20) rfl ?_
  refine own_new X0 hx hZ hown (own_w0 hw) (own_w1 hw) (own_w2 hw) e0 (hb hby at_22) (by decide) (by decide) fun T402 h402 b402 X402 e402 g402 E402 A402 D402 => ?_
  have f403 : n0 ≤ b402 := Nat.le_trans (own_old OX) (Nat.le_of_eq g402.symm)
  have f404 : Fld Z h402 b402 "java/util/AbstractList" "modCount" "I" (.int (0 : Int32)) := D402 (Or.inl (own_w22 hw)) own_fd_I
  have f405 : Fld Z h402 b402 "java/util/ArrayList" "elementData" "[Ljava/lang/Object;" .null := D402 (Or.inl (own_w25 hw)) own_fd__5bLjava_2flang_2fObject_3b
  have f406 : Fld Z h402 b402 "java/util/ArrayList" "size" "I" (.int (0 : Int32)) := D402 (Or.inl (own_w54 hw)) own_fd_I
  refine own_dup X402 hx (hb hby at_25) rfl ?_
  have f407 := (OX.ext E402)
  refine own_spec X402 hx hZ rfl hown (own_w3 hw) (own_w4 hw) (own_w5 hw) (own_w2 hw) (by decide) e402 (hb hby at_26) (by rw [hml]; rfl) own_pd__28_29V rfl (W := 1) (Nat.le_of_ble_eq_true rfl) (own_ali l Z a0 hw b402 dc _ _ h402 n0 f407 A402 f404 f405 f403 S) (by decide) (by decide) (by decide) (by decide) (a := b402) (argsL := []) (rest := [(.ref b402)]) rfl rfl fun v408 T408 L408 X408 q408 => ?_
  obtain ⟨h408, e408⟩ : ∃ z, T408.heap = z := ⟨_, rfl⟩
  try dsimp only at q408
  rw [e408] at q408
  obtain ⟨rfl, M408, j408, W408, U408⟩ := q408
  have N408 := Fr.app N0 M408
  have f409 := (f405.other W408 (Or.inr (slot_ne (Or.inl (own_w25 hw)) (Or.inl (own_w22 hw)) (by decide) own_fd__5bLjava_2flang_2fObject_3b own_fd_I)))
  show own_Fin p e below _ (T408.setTop (mkF m 29 #[.val (.long m0), .second, .val (.int ep), .val (.int sp), .val (.long qa), .second, .val (.long qb), .second, .val (.int fl), .val (.int (0 : Int32)), .val (.int (0 : Int32)), .unset, .unset, .unset, .unset, .unset, .unset, .unset, .unset, .unset] [(.ref b402)]))
  refine own_astore X408 hx (l' := #[.val (.long m0), .second, .val (.int ep), .val (.int sp), .val (.long qa), .second, .val (.long qb), .second, .val (.int fl), .val (.int (0 : Int32)), .val (.int (0 : Int32)), .val (.ref b402), .unset, .unset, .unset, .unset, .unset, .unset, .unset, .unset]) (hb hby at_29) rfl rfl ?_
  refine own_iload X408 hx (hb hby at_31) rfl ?_
  refine own_iconst X408 hx (1 : Int32) (hb hby at_33) rfl ?_
  refine own_icmpYes X408 hx 48 (hb hby at_34) (by decide) (by decide) (by decide) ?_
  refine own_iload X408 hx (hb hby at_48) rfl ?_
  refine own_iconst X408 hx (2 : Int32) (hb hby at_50) rfl ?_
  refine own_icmpYes X408 hx 65 (hb hby at_51) (by decide) (by decide) (by decide) ?_
  refine own_iload X408 hx (hb hby at_65) rfl ?_
  refine own_ifYes X408 hx 77 (hb hby at_67) (by decide) (by decide) (by decide) ?_
  refine own_aconst_null X408 hx (hb hby at_77) ?_
  refine own_astore X408 hx (l' := #[.val (.long m0), .second, .val (.int ep), .val (.int sp), .val (.long qa), .second, .val (.long qb), .second, .val (.int fl), .val (.int (0 : Int32)), .val (.int (0 : Int32)), .val (.ref b402), .val .null, .unset, .unset, .unset, .unset, .unset, .unset, .unset]) (hb hby at_78) rfl rfl ?_
  refine own_new X408 hx hZ hown (own_w80 hw) (own_w81 hw) (own_w82 hw) e408 (hb hby at_80) (by decide) (by decide) fun T410 h410 b410 X410 e410 g410 E410 A410 D410 => ?_
  have f411 := ((f407.wr W408 f403).wr U408 f403)
  have f412 : n0 ≤ b410 := Nat.le_trans (own_old f411) (Nat.le_of_eq g410.symm)
  have f413 : Fld Z h410 b410 "com/example/regent/regent/controller/Event$MasterChanged" "group" "Ljava/lang/String;" .null := D410 (Or.inr (own_w187 hw)) own_fd_Ljava_2flang_2fString_3b
  have f414 : Fld Z h410 b410 "com/example/regent/regent/controller/Event$MasterChanged" "master" "Ljava/lang/Long;" .null := D410 (Or.inr (own_w189 hw)) own_fd_Ljava_2flang_2fLong_3b
  have f415 : Fld Z h410 b410 "com/example/regent/regent/controller/Event$MasterChanged" "masterEpoch" "I" (.int (0 : Int32)) := D410 (Or.inr (own_w191 hw)) own_fd_I
  have f416 : Fld Z h410 b410 "com/example/regent/regent/controller/Event$MasterChanged" "syncStateSet" "Ljava/util/List;" .null := D410 (Or.inr (own_w193 hw)) own_fd_Ljava_2futil_2fList_3b
  have f417 : Fld Z h410 b410 "com/example/regent/regent/controller/Event$MasterChanged" "syncStateSetEpoch" "I" (.int (0 : Int32)) := D410 (Or.inr (own_w195 hw)) own_fd_I
  refine own_dup X410 hx (hb hby at_83) rfl ?_
  refine own_ldcS (s := s) (vm0 := s.vm) X410 hx hZ hown (own_w83 hw) wS e410 ((State.WarmedH.refl s).since 0) (Nat.zero_le _) (hb hby at_84) 4 (by decide) (by decide) (by decide) (by decide) fun sg418 vm418 T418 h418 k418 X418 e418 E418 hS418 hk418 hZ418 ho418 => ?_
  refine own_aload X418 hx (hb hby at_86) rfl rfl ?_
  refine own_iloadN X418 hx (hb hby at_88) rfl ?_
  refine own_aload X418 hx (hb hby at_89) rfl rfl ?_
  refine own_iloadN X418 hx (hb hby at_91) rfl ?_
  have f419 := ((((A402.wr W408).wr U408).ext E410).ext E418)
  have f420 := ((((f406.other W408 (Or.inr (slot_ne (Or.inl (own_w54 hw)) (Or.inl (own_w22 hw)) (by decide) own_fd_I own_fd_I))).other U408 (Or.inr (slot_ne (Or.inl (own_w54 hw)) (Or.inl (own_w25 hw)) (by decide) own_fd_I own_fd__5bLjava_2flang_2fObject_3b))).ext E410).ext E418)
  have f421 := ((f411.ext E410).ext E418)
  have f422 := (A410.ext E418)
  have f423 := (f413.ext E418)
  have f424 := (f414.ext E418)
  have f425 := (f415.ext E418)
  have f426 := (f416.ext E418)
  have f427 := (f417.ext E418)
  refine own_spec X418 hx hZ418 rfl ho418 (own_w91 hw) (own_w92 hw) (own_w93 hw) (own_w82 hw) (by decide) e418 (hb hby at_92) (by rw [hml]; rfl) own_pd__28Ljava_2flang_2fString_3bLjava_2flang_2fLong_3bILjava_2futil_2fList_3bI_29V rfl (W := 1) (Nat.le_of_ble_eq_true rfl) (own_ei00 l Z a0 hw b410 sg418 ep sp b402 el h418 n0 f421 f422 f412 f423 f424 f425 f426 f427 f419 f420 SL NA NB) (by decide) (by decide) (by decide) (by decide) (a := b410) (argsL := [(.ref sg418), .null, (.int ep), (.ref b402), (.int sp)]) (rest := [(.ref b410)]) rfl rfl fun v428 T428 L428 X428 q428 => ?_
  obtain ⟨h428, e428⟩ : ∃ z, T428.heap = z := ⟨_, rfl⟩
  try dsimp only at q428
  rw [e428] at q428
  obtain ⟨rfl, M428, K428, p428, q428, r428, s428, t428⟩ := q428
  have N428 := Fr.app N408 M428
  show own_Fin p e below _ (T428.setTop (mkF m 95 #[.val (.long m0), .second, .val (.int ep), .val (.int sp), .val (.long qa), .second, .val (.long qb), .second, .val (.int fl), .val (.int (0 : Int32)), .val (.int (0 : Int32)), .val (.ref b402), .val .null, .unset, .unset, .unset, .unset, .unset, .unset, .unset] [(.ref b410)]))
  refine own_astore X428 hx (l' := #[.val (.long m0), .second, .val (.int ep), .val (.int sp), .val (.long qa), .second, .val (.long qb), .second, .val (.int fl), .val (.int (0 : Int32)), .val (.int (0 : Int32)), .val (.ref b402), .val .null, .val (.ref b410), .unset, .unset, .unset, .unset, .unset, .unset]) (hb hby at_95) rfl rfl ?_
  refine own_new X428 hx hZ418 ho418 (own_w196 hw) (own_w197 hw) (own_w198 hw) e428 (hb hby at_97) (by decide) (by decide) fun T429 h429 b429 X429 e429 g429 E429 A429 D429 => ?_
  have f430 := (f421.keep K428 (allS f412 all0))
  have f431 : n0 ≤ b429 := Nat.le_trans (own_old f430) (Nat.le_of_eq g429.symm)
  have f432 : Fld Z h429 b429 "com/example/regent/regent/controller/Group" "registerCodes" "Ljava/util/NavigableMap;" .null := D429 (Or.inr (own_w223 hw)) own_fd_Ljava_2futil_2fNavigableMap_3b
  have f433 : Fld Z h429 b429 "com/example/regent/regent/controller/Group" "brokers" "Ljava/util/NavigableMap;" .null := D429 (Or.inr (own_w225 hw)) own_fd_Ljava_2futil_2fNavigableMap_3b
  have f434 : Fld Z h429 b429 "com/example/regent/regent/controller/Group" "syncStateSet" "Ljava/util/List;" .null := D429 (Or.inl (own_w231 hw)) own_fd_Ljava_2futil_2fList_3b
  have f435 : Fld Z h429 b429 "com/example/regent/regent/controller/Group" "name" "Ljava/lang/String;" .null := D429 (Or.inr (own_w233 hw)) own_fd_Ljava_2flang_2fString_3b
  have f436 : Fld Z h429 b429 "com/example/regent/regent/controller/Group" "master" "Ljava/lang/Long;" .null := D429 (Or.inl (own_w236 hw)) own_fd_Ljava_2flang_2fLong_3b
  have f437 : Fld Z h429 b429 "com/example/regent/regent/controller/Group" "masterEpoch" "I" (.int (0 : Int32)) := D429 (Or.inl (own_w238 hw)) own_fd_I
  have f438 : Fld Z h429 b429 "com/example/regent/regent/controller/Group" "syncStateSetEpoch" "I" (.int (0 : Int32)) := D429 (Or.inl (own_w241 hw)) own_fd_I
  refine own_dup X429 hx (hb hby at_100) rfl ?_
  refine own_ldcS (s := s) (vm0 := vm418) X429 hx hZ418 ho418 (own_w83 hw) wS e429 hS418 (Nat.le_trans hk418 (Nat.le_trans (Nat.le_trans (Nat.le_refl _) K428.1) E429.1)) (hb hby at_101) 4 (by decide) (by decide) (by decide) (by decide) fun sg439 vm439 T439 h439 k439 X439 e439 E439 hS439 hk439 hZ439 ho439 => ?_
  have f440 := ((f430.ext E429).ext E439)
  have f441 := (A429.ext E439)
  have f442 := (f432.ext E439)
  have f443 := (f433.ext E439)
  have f444 := (f434.ext E439)
  have f445 := (f435.ext E439)
  have f446 := (f436.ext E439)
  have f447 := (f437.ext E439)
  have f448 := (f438.ext E439)
  refine own_spec X439 hx hZ439 rfl ho439 (own_w199 hw) (own_w200 hw) (own_w201 hw) (own_w198 hw) (by decide) e439 (hb hby at_103) (by rw [hml]; rfl) own_pd__28Ljava_2flang_2fString_3b_29V rfl (W := 1) (Nat.le_of_ble_eq_true rfl) (own_gri l Z a0 hw b429 sg439 el h439 n0 f440 f441 f431 f442 f443 f444 f445 f446 f447 f448 SL) (by decide) (by decide) (by decide) (by decide) (a := b429) (argsL := [(.ref sg439)]) (rest := [(.ref b429)]) rfl rfl fun v449 T449 L449 X449 q449 => ?_
  obtain ⟨h449, e449⟩ : ∃ z, T449.heap = z := ⟨_, rfl⟩
  try dsimp only at q449
  rw [e449] at q449
  obtain ⟨rfl, M449, K449, p449, q449, r449, s449, t449⟩ := q449
  have N449 := Fr.app N428 M449
  show own_Fin p e below _ (T449.setTop (mkF m 106 #[.val (.long m0), .second, .val (.int ep), .val (.int sp), .val (.long qa), .second, .val (.long qb), .second, .val (.int fl), .val (.int (0 : Int32)), .val (.int (0 : Int32)), .val (.ref b402), .val .null, .val (.ref b410), .unset, .unset, .unset, .unset, .unset, .unset] [(.ref b429)]))
  refine own_astore X449 hx (l' := #[.val (.long m0), .second, .val (.int ep), .val (.int sp), .val (.long qa), .second, .val (.long qb), .second, .val (.int fl), .val (.int (0 : Int32)), .val (.int (0 : Int32)), .val (.ref b402), .val .null, .val (.ref b410), .val (.ref b429), .unset, .unset, .unset, .unset, .unset]) (hb hby at_106) rfl rfl ?_
  refine own_new X449 hx hZ439 ho439 (own_w0 hw) (own_w1 hw) (own_w2 hw) e449 (hb hby at_108) (by decide) (by decide) fun T450 h450 b450 X450 e450 g450 E450 A450 D450 => ?_
  have f451 := ((((f419.keep K428).ext E429).ext E439).keep K449)
  have f452 := Nat.ne_of_lt (Nat.lt_of_lt_of_le f451.lt (Nat.le_of_eq g450.symm))
  have f453 := (f440.keep K449 (allS f431 all0))
  have f454 : n0 ≤ b450 := Nat.le_trans (own_old f453) (Nat.le_of_eq g450.symm)
  have f455 : Fld Z h450 b450 "java/util/AbstractList" "modCount" "I" (.int (0 : Int32)) := D450 (Or.inl (own_w22 hw)) own_fd_I
  have f456 : Fld Z h450 b450 "java/util/ArrayList" "elementData" "[Ljava/lang/Object;" .null := D450 (Or.inl (own_w25 hw)) own_fd__5bLjava_2flang_2fObject_3b
  have f457 : Fld Z h450 b450 "java/util/ArrayList" "size" "I" (.int (0 : Int32)) := D450 (Or.inl (own_w54 hw)) own_fd_I
  refine own_dup X450 hx (hb hby at_111) rfl ?_
  have f458 := (f453.ext E450)
  refine own_spec X450 hx hZ439 rfl ho439 (own_w3 hw) (own_w4 hw) (own_w5 hw) (own_w2 hw) (by decide) e450 (hb hby at_112) (by rw [hml]; rfl) own_pd__28_29V rfl (W := 1) (Nat.le_of_ble_eq_true rfl) (own_ali l Z a0 hw b450 dc _ _ h450 n0 f458 A450 f455 f456 f454 S) (by decide) (by decide) (by decide) (by decide) (a := b450) (argsL := []) (rest := [(.ref b450)]) rfl rfl fun v459 T459 L459 X459 q459 => ?_
  obtain ⟨h459, e459⟩ : ∃ z, T459.heap = z := ⟨_, rfl⟩
  try dsimp only at q459
  rw [e459] at q459
  obtain ⟨rfl, M459, j459, W459, U459⟩ := q459
  have N459 := Fr.app N449 M459
  have f460 := (f456.other W459 (Or.inr (slot_ne (Or.inl (own_w25 hw)) (Or.inl (own_w22 hw)) (by decide) own_fd__5bLjava_2flang_2fObject_3b own_fd_I)))
  show own_Fin p e below _ (T459.setTop (mkF m 115 #[.val (.long m0), .second, .val (.int ep), .val (.int sp), .val (.long qa), .second, .val (.long qb), .second, .val (.int fl), .val (.int (0 : Int32)), .val (.int (0 : Int32)), .val (.ref b402), .val .null, .val (.ref b410), .val (.ref b429), .unset, .unset, .unset, .unset, .unset] [(.ref b450)]))
  refine own_astore X459 hx (l' := #[.val (.long m0), .second, .val (.int ep), .val (.int sp), .val (.long qa), .second, .val (.long qb), .second, .val (.int fl), .val (.int (0 : Int32)), .val (.int (0 : Int32)), .val (.ref b402), .val .null, .val (.ref b410), .val (.ref b429), .val (.ref b450), .unset, .unset, .unset, .unset]) (hb hby at_115) rfl rfl ?_
  refine own_aload X459 hx (hb hby at_117) rfl rfl ?_
  refine own_lload X459 hx (hb hby at_119) rfl ?_
  refine own_ldc2J X459 hx hZ439 ho439 (own_w234 hw) (hb hby at_121) ?_
  refine own_lxor X459 hx (hb hby at_124) ?_
  have f461 := ((f458.wr W459 f454).wr U459 f454)
  refine own_stat X459 hx hZ439 ho439 (own_w26 hw) (own_w27 hw) (own_w29 hw) (own_w28 hw) (by decide) e459 (hb hby at_125) (by rw [hml]; rfl) own_pd__28J_29Ljava_2flang_2fLong_3b rfl (W := 1) (Nat.le_of_ble_eq_true rfl) (own_lvo l Z a0 hw (qa ^^^ (-1 : Int64)) ca cc h459 n0 f461 SC BC) (by decide) (by decide) (by decide) (by decide) (argsL := [(.long (qa ^^^ (-1 : Int64)))]) (rest := [(.ref b450)]) rfl rfl fun v462 T462 L462 X462 q462 => ?_
  obtain ⟨h462, e462⟩ : ∃ z, T462.heap = z := ⟨_, rfl⟩
  try dsimp only at q462
  rw [e462] at q462
  obtain ⟨x462, rfl, M462, E462, P462, F462⟩ := q462
  have N462 := Fr.app N459 M462
  show own_Fin p e below _ (T462.setTop (mkF m 128 #[.val (.long m0), .second, .val (.int ep), .val (.int sp), .val (.long qa), .second, .val (.long qb), .second, .val (.int fl), .val (.int (0 : Int32)), .val (.int (0 : Int32)), .val (.ref b402), .val .null, .val (.ref b410), .val (.ref b429), .val (.ref b450), .unset, .unset, .unset, .unset] [(.ref x462), (.ref b450)]))
  have f463 := (f461.ext E462)
  have f464 := (((A450.wr W459).wr U459).ext E462)
  have f465 := ((f460.same U459).ext E462)
  have f466 := (((f457.other W459 (Or.inr (slot_ne (Or.inl (own_w54 hw)) (Or.inl (own_w22 hw)) (by decide) own_fd_I own_fd_I))).other U459 (Or.inr (slot_ne (Or.inl (own_w54 hw)) (Or.inl (own_w25 hw)) (by decide) own_fd_I own_fd__5bLjava_2flang_2fObject_3b))).ext E462)
  have f467 := (((f455.same W459).other U459 (Or.inr (slot_ne (Or.inl (own_w22 hw)) (Or.inl (own_w25 hw)) (by decide) own_fd_I own_fd__5bLjava_2flang_2fObject_3b))).ext E462)
  refine own_virt X462 hx hZ439 ho439 (own_w46 hw) (own_w47 hw) (own_w49 hw) (own_w49 hw) (own_w48 hw) (own_w50 hw) (own_w2 hw) (by decide) e462 f464 (hb hby at_128) (by rw [hml]; rfl) own_pd__28Ljava_2flang_2fObject_3b_29Z rfl (W := 0) (Nat.le_of_ble_eq_true rfl) (own_ad1 l Z a0 hw b450 x462 dc dl (0 : Int32) h462 n0 f463 f464 f465 f454 f466 f467 P462 S A hl) (by decide) (by decide) (by decide) (by decide) (argsL := [(.ref x462)]) (rest := []) rfl rfl fun v468 T468 L468 X468 q468 => ?_
  obtain ⟨h468, e468⟩ : ∃ z, T468.heap = z := ⟨_, rfl⟩
  try dsimp only at q468
  rw [e468] at q468
  obtain ⟨rfl, M468, K468, p468, q468, r468, b468, k468, g468, s468, t468, u468, o468⟩ := q468
  have N468 := Fr.app N462 M468
  have f469 : n0 ≤ b468 := Nat.le_trans (own_old f463) g468
  show own_Fin p e below _ (T468.setTop (mkF m 131 #[.val (.long m0), .second, .val (.int ep), .val (.int sp), .val (.long qa), .second, .val (.long qb), .second, .val (.int fl), .val (.int (0 : Int32)), .val (.int (0 : Int32)), .val (.ref b402), .val .null, .val (.ref b410), .val (.ref b429), .val (.ref b450), .unset, .unset, .unset, .unset] [(.int (1 : Int32))]))
  refine own_pop X468 hx (hb hby at_131) rfl ?_
  refine own_aload X468 hx (hb hby at_132) rfl rfl ?_
  refine own_lloadN X468 hx (hb hby at_134) rfl ?_
  refine own_ldc2J X468 hx hZ439 ho439 (own_w234 hw) (hb hby at_135) ?_
  refine own_lxor X468 hx (hb hby at_138) ?_
  have f470 := (f463.keep K468 (allS f454 all0))
  refine own_stat X468 hx hZ439 ho439 (own_w26 hw) (own_w27 hw) (own_w29 hw) (own_w28 hw) (by decide) e468 (hb hby at_139) (by rw [hml]; rfl) own_pd__28J_29Ljava_2flang_2fLong_3b rfl (W := 1) (Nat.le_of_ble_eq_true rfl) (own_lvo l Z a0 hw (m0 ^^^ (-1 : Int64)) ca cc h468 n0 f470 SC BC) (by decide) (by decide) (by decide) (by decide) (argsL := [(.long (m0 ^^^ (-1 : Int64)))]) (rest := [(.ref b429)]) rfl rfl fun v471 T471 L471 X471 q471 => ?_
  obtain ⟨h471, e471⟩ : ∃ z, T471.heap = z := ⟨_, rfl⟩
  try dsimp only at q471
  rw [e471] at q471
  obtain ⟨x471, rfl, M471, E471, P471, F471⟩ := q471
  have N471 := Fr.app N468 M471
  show own_Fin p e below _ (T471.setTop (mkF m 142 #[.val (.long m0), .second, .val (.int ep), .val (.int sp), .val (.long qa), .second, .val (.long qb), .second, .val (.int fl), .val (.int (0 : Int32)), .val (.int (0 : Int32)), .val (.ref b402), .val .null, .val (.ref b410), .val (.ref b429), .val (.ref b450), .unset, .unset, .unset, .unset] [(.ref x471), (.ref b429)]))
  have f472 := ((((((p449.ext E450).wr W459).wr U459).ext E462).keep K468).ext E471)
  have f473 := (p468.ext E471)
  have f474 := ne_exa f472 f473 (by decide)
  have f475 := ((((((q449.ext E450).other W459 (Or.inl f474)).other U459 (Or.inl f474)).ext E462).keep K468 (ninS f474 nin0)).ext E471)
  refine own_putfield X471 hx hZ439 (host := "") ho439 (Or.inl (own_w235 hw)) Via.refl e471 f475 f472 (Or.inl (own_w236 hw)) (own_w197 hw) own_fd_Ljava_2flang_2fLong_3b rfl rfl (hb hby at_142) fun T476 h476 X476 e476 W476 => ?_
  have N476 := Fr.snoc X476 N471 f431
  refine own_aload X476 hx (hb hby at_145) rfl rfl ?_
  refine own_iloadN X476 hx (hb hby at_147) rfl ?_
  refine own_iconst X476 hx (-1 : Int32) (hb hby at_148) rfl ?_
  refine own_ixor X476 hx (hb hby at_149) ?_
  have f477 := (((((((r449.ext E450).other W459 (Or.inl f474)).other U459 (Or.inl f474)).ext E462).keep K468 (ninS f474 nin0)).ext E471).other W476 (Or.inr (slot_ne (Or.inl (own_w238 hw)) (Or.inl (own_w236 hw)) (by decide) own_fd_I own_fd_Ljava_2flang_2fLong_3b)))
  have f478 := (f472.wr W476)
  refine own_putfield X476 hx hZ439 (host := "") ho439 (Or.inl (own_w237 hw)) Via.refl e476 f477 f478 (Or.inl (own_w238 hw)) (own_w197 hw) own_fd_I rfl rfl (hb hby at_150) fun T479 h479 X479 e479 W479 => ?_
  have N479 := Fr.snoc X479 N476 f431
  refine own_aload X479 hx (hb hby at_153) rfl rfl ?_
  refine own_aload X479 hx (hb hby at_155) rfl rfl ?_
  have f480 := ((((((((s449.ext E450).other W459 (Or.inl f474)).other U459 (Or.inl f474)).ext E462).keep K468 (ninS f474 nin0)).ext E471).other W476 (Or.inr (slot_ne (Or.inl (own_w231 hw)) (Or.inl (own_w236 hw)) (by decide) own_fd_Ljava_2futil_2fList_3b own_fd_Ljava_2flang_2fLong_3b))).other W479 (Or.inr (slot_ne (Or.inl (own_w231 hw)) (Or.inl (own_w238 hw)) (by decide) own_fd_Ljava_2futil_2fList_3b own_fd_I)))
  have f481 := (f478.wr W479)
  refine own_putfield X479 hx hZ439 (host := "") ho439 (Or.inl (own_w239 hw)) Via.refl e479 f480 f481 (Or.inl (own_w231 hw)) (own_w197 hw) own_fd_Ljava_2futil_2fList_3b rfl rfl (hb hby at_157) fun T482 h482 X482 e482 W482 => ?_
  have N482 := Fr.snoc X482 N479 f431
  refine own_aload X482 hx (hb hby at_160) rfl rfl ?_
  refine own_iloadN X482 hx (hb hby at_162) rfl ?_
  refine own_iconst X482 hx (-1 : Int32) (hb hby at_163) rfl ?_
  refine own_ixor X482 hx (hb hby at_164) ?_
  have f483 := (((((((((t449.ext E450).other W459 (Or.inl f474)).other U459 (Or.inl f474)).ext E462).keep K468 (ninS f474 nin0)).ext E471).other W476 (Or.inr (slot_ne (Or.inl (own_w241 hw)) (Or.inl (own_w236 hw)) (by decide) own_fd_I own_fd_Ljava_2flang_2fLong_3b))).other W479 (Or.inr (slot_ne (Or.inl (own_w241 hw)) (Or.inl (own_w238 hw)) (by decide) own_fd_I own_fd_I))).other W482 (Or.inr (slot_ne (Or.inl (own_w241 hw)) (Or.inl (own_w231 hw)) (by decide) own_fd_I own_fd_Ljava_2futil_2fList_3b)))
  have f484 := (f481.wr W482)
  refine own_putfield X482 hx hZ439 (host := "") ho439 (Or.inl (own_w240 hw)) Via.refl e482 f483 f484 (Or.inl (own_w241 hw)) (own_w197 hw) own_fd_I rfl rfl (hb hby at_165) fun T485 h485 X485 e485 W485 => ?_
  have N485 := Fr.snoc X485 N482 f431
  refine own_aload X485 hx (hb hby at_168) rfl rfl ?_
  refine own_aload X485 hx (hb hby at_170) rfl rfl ?_
  have f486 := (((((f470.ext E471).wr W476 f431).wr W479 f431).wr W482 f431).wr W485 f431)
  have f487 := (((((((((((((p428.ext E429).ext E439).keep K449).ext E450).wr W459).wr U459).ext E462).keep K468).ext E471).wr W476).wr W479).wr W482).wr W485)
  have f488 := (f484.wr W485)
  have f489 := ne_exa f487 f488 (by decide)
  have f490 := ((((f473.wr W476).wr W479).wr W482).wr W485)
  have f491 := ne_exa f487 f490 (by decide)
  have f492 := (((((((((((((q428.ext E429).ext E439).keep K449 (ninS f489 nin0)).ext E450).other W459 (Or.inl f491)).other U459 (Or.inl f491)).ext E462).keep K468 (ninS f491 nin0)).ext E471).other W476 (Or.inl f489)).other W479 (Or.inl f489)).other W482 (Or.inl f489)).other W485 (Or.inl f489))
  have f493 := (((((((((((((r428.ext E429).ext E439).keep K449 (ninS f489 nin0)).ext E450).other W459 (Or.inl f491)).other U459 (Or.inl f491)).ext E462).keep K468 (ninS f491 nin0)).ext E471).other W476 (Or.inl f489)).other W479 (Or.inl f489)).other W482 (Or.inl f489)).other W485 (Or.inl f489))
  have f494 := (((((((((((((s428.ext E429).ext E439).keep K449 (ninS f489 nin0)).ext E450).other W459 (Or.inl f491)).other U459 (Or.inl f491)).ext E462).keep K468 (ninS f491 nin0)).ext E471).other W476 (Or.inl f489)).other W479 (Or.inl f489)).other W482 (Or.inl f489)).other W485 (Or.inl f489))
  have f495 := (((((((((((((t428.ext E429).ext E439).keep K449 (ninS f489 nin0)).ext E450).other W459 (Or.inl f491)).other U459 (Or.inl f491)).ext E462).keep K468 (ninS f491 nin0)).ext E471).other W476 (Or.inl f489)).other W479 (Or.inl f489)).other W482 (Or.inl f489)).other W485 (Or.inl f489))
  have f496 := ((((f475.same W476).other W479 (Or.inr (slot_ne (Or.inl (own_w236 hw)) (Or.inl (own_w238 hw)) (by decide) own_fd_Ljava_2flang_2fLong_3b own_fd_I))).other W482 (Or.inr (slot_ne (Or.inl (own_w236 hw)) (Or.inl (own_w231 hw)) (by decide) own_fd_Ljava_2flang_2fLong_3b own_fd_Ljava_2futil_2fList_3b))).other W485 (Or.inr (slot_ne (Or.inl (own_w236 hw)) (Or.inl (own_w241 hw)) (by decide) own_fd_Ljava_2flang_2fLong_3b own_fd_I)))
  have f497 := (((f477.same W479).other W482 (Or.inr (slot_ne (Or.inl (own_w238 hw)) (Or.inl (own_w231 hw)) (by decide) own_fd_I own_fd_Ljava_2futil_2fList_3b))).other W485 (Or.inr (slot_ne (Or.inl (own_w238 hw)) (Or.inl (own_w241 hw)) (by decide) own_fd_I own_fd_I)))
  have f498 := ((f480.same W482).other W485 (Or.inr (slot_ne (Or.inl (own_w231 hw)) (Or.inl (own_w241 hw)) (by decide) own_fd_Ljava_2futil_2fList_3b own_fd_I)))
  refine own_virt X485 hx hZ439 ho439 (own_w242 hw) (own_w243 hw) (own_w245 hw) (own_w245 hw) (own_w244 hw) (own_w246 hw) (own_w82 hw) (by decide) e485 f487 (hb hby at_172) (by rw [hml]; rfl) own_pd__28Lcom_2fexample_2fregent_2fregent_2fcontroller_2fGroup_3b_29V rfl (W := 0) (Nat.le_of_ble_eq_true rfl) (own_ap0 l Z a0 hw b410 b429 el ep sp _ _ _ _ h485 n0 f486 f487 f488 f431 f492 f493 f494 f495 f496 f497 f498 (f483.same W485)) (by decide) (by decide) (by decide) (by decide) (argsL := [(.ref b429)]) (rest := []) rfl rfl fun v499 T499 L499 X499 q499 => ?_
  obtain ⟨h499, e499⟩ : ∃ z, T499.heap = z := ⟨_, rfl⟩
  try dsimp only at q499
  rw [e499] at q499
  obtain ⟨rfl, M499, K499, p499, q499, r499, s499, t499⟩ := q499
  have N499 := Fr.app N485 M499
  show own_Fin p e below _ (T499.setTop (mkF m 175 #[.val (.long m0), .second, .val (.int ep), .val (.int sp), .val (.long qa), .second, .val (.long qb), .second, .val (.int fl), .val (.int (0 : Int32)), .val (.int (0 : Int32)), .val (.ref b402), .val .null, .val (.ref b410), .val (.ref b429), .val (.ref b450), .unset, .unset, .unset, .unset] []))
  refine own_iload X499 hx (hb hby at_175) rfl ?_
  refine own_ifYes X499 hx 211 (hb hby at_177) (by decide) (by decide) (by decide) ?_
  refine own_aload X499 hx (hb hby at_211) rfl rfl ?_
  refine own_getfield X499 hx hZ439 (host := "") ho439 (Or.inl (own_w235 hw)) Via.refl e499 q499 (hb hby at_213) fun T500 X500 e500 => ?_
  refine own_ifnonnullNo X500 hx (hb hby at_216) ?_
  refine own_iconst X500 hx (1 : Int32) (hb hby at_219) rfl ?_
  refine own_goto X500 hx 224 (hb hby at_220) (by decide) (by decide) ?_
  refine own_istore X500 hx (l' := #[.val (.long m0), .second, .val (.int ep), .val (.int sp), .val (.long qa), .second, .val (.long qb), .second, .val (.int fl), .val (.int (0 : Int32)), .val (.int (0 : Int32)), .val (.ref b402), .val .null, .val (.ref b410), .val (.ref b429), .val (.ref b450), .val (.int (1 : Int32)), .unset, .unset, .unset]) (hb hby at_224) rfl ?_
  refine own_aload X500 hx (hb hby at_226) rfl rfl ?_
  refine own_getfield X500 hx hZ439 (host := "") ho439 (Or.inl (own_w237 hw)) Via.refl e500 r499 (hb hby at_228) fun T501 X501 e501 => ?_
  refine own_iloadN X501 hx (hb hby at_231) rfl ?_
  refine own_icmpNo X501 hx (hb hby at_232) (Jvm.Free.XT.ii_ne_f rfl) ?_
  refine own_aload X501 hx (hb hby at_235) rfl rfl ?_
  refine own_getfield X501 hx hZ439 (host := "") ho439 (Or.inl (own_w240 hw)) Via.refl e501 t499 (hb hby at_237) fun T502 X502 e502 => ?_
  refine own_iloadN X502 hx (hb hby at_240) rfl ?_
  refine own_icmpNo X502 hx (hb hby at_241) (Jvm.Free.XT.ii_ne_f rfl) ?_
  refine own_iconst X502 hx (1 : Int32) (hb hby at_244) rfl ?_
  refine own_goto X502 hx 249 (hb hby at_245) (by decide) (by decide) ?_
  refine own_istore X502 hx (l' := #[.val (.long m0), .second, .val (.int ep), .val (.int sp), .val (.long qa), .second, .val (.long qb), .second, .val (.int fl), .val (.int (0 : Int32)), .val (.int (0 : Int32)), .val (.ref b402), .val .null, .val (.ref b410), .val (.ref b429), .val (.ref b450), .val (.int (1 : Int32)), .val (.int (1 : Int32)), .unset, .unset]) (hb hby at_249) rfl ?_
  refine own_aload X502 hx (hb hby at_251) rfl rfl ?_
  refine own_getfield X502 hx hZ439 (host := "") ho439 (Or.inl (own_w239 hw)) Via.refl e502 s499 (hb hby at_253) fun T503 X503 e503 => ?_
  refine own_astore X503 hx (l' := #[.val (.long m0), .second, .val (.int ep), .val (.int sp), .val (.long qa), .second, .val (.long qb), .second, .val (.int fl), .val (.int (0 : Int32)), .val (.int (0 : Int32)), .val (.ref b402), .val .null, .val (.ref b410), .val (.ref b429), .val (.ref b450), .val (.int (1 : Int32)), .val (.int (1 : Int32)), .val (.ref el), .unset]) (hb hby at_256) rfl rfl ?_
  refine own_aload X503 hx (hb hby at_258) rfl rfl ?_
  refine own_ifnullNo X503 hx (hb hby at_260) ?_
  refine own_aload X503 hx (hb hby at_263) rfl rfl ?_
  have f504 := (f486.keep K499 (allS f431 all0))
  refine own_intf X503 hx hZ439 ho439 (own_w256 hw) (own_w257 hw) (own_w258 hw) (own_w275 hw) (own_w276 hw) (own_w277 hw) (own_w278 hw) (own_w279 hw) (own_w281 hw) (own_w280 hw) (by decide) e503 (EEL.ext f504.2) (hb hby at_265) (by rw [hml]; rfl) own_pd__28_29I rfl (W := 0) (Nat.le_of_ble_eq_true rfl) (own_szN l Z a0 hw el en nl h499 n0 f504 FN AN ln) (by decide) (by decide) (by decide) (by decide) (argsL := []) (rest := []) rfl rfl fun v505 T505 L505 X505 q505 => ?_
  obtain ⟨rfl, M505, e505⟩ := q505
  have N505 := Fr.app N499 M505
  show own_Fin p e below _ (T505.setTop (mkF m 270 #[.val (.long m0), .second, .val (.int ep), .val (.int sp), .val (.long qa), .second, .val (.long qb), .second, .val (.int fl), .val (.int (0 : Int32)), .val (.int (0 : Int32)), .val (.ref b402), .val .null, .val (.ref b410), .val (.ref b429), .val (.ref b450), .val (.int (1 : Int32)), .val (.int (1 : Int32)), .val (.ref el), .unset] [(.int (0 : Int32))]))
  refine own_iload X505 hx (hb hby at_270) rfl ?_
  refine own_icmpNo X505 hx (hb hby at_272) (by decide) ?_
  refine own_iconst X505 hx (1 : Int32) (hb hby at_275) rfl ?_
  refine own_goto X505 hx 280 (hb hby at_276) (by decide) (by decide) ?_
  refine own_istore X505 hx (l' := #[.val (.long m0), .second, .val (.int ep), .val (.int sp), .val (.long qa), .second, .val (.long qb), .second, .val (.int fl), .val (.int (0 : Int32)), .val (.int (0 : Int32)), .val (.ref b402), .val .null, .val (.ref b410), .val (.ref b429), .val (.ref b450), .val (.int (1 : Int32)), .val (.int (1 : Int32)), .val (.ref el), .val (.int (1 : Int32))]) (hb hby at_280) rfl ?_
  refine own_iload X505 hx (hb hby at_282) rfl ?_
  refine own_ifNo X505 hx (hb hby at_284) (by decide) ?_
  refine own_iload X505 hx (hb hby at_287) rfl ?_
  refine own_iconst X505 hx (1 : Int32) (hb hby at_289) rfl ?_
  refine own_icmpYes X505 hx 320 (hb hby at_290) (by decide) (by decide) (by decide) ?_
  refine own_iload X505 hx (hb hby at_320) rfl ?_
  refine own_ifNo X505 hx (hb hby at_322) (by decide) ?_
  refine own_iload X505 hx (hb hby at_325) rfl ?_
  refine own_iconst X505 hx (2 : Int32) (hb hby at_327) rfl ?_
  refine own_icmpYes X505 hx 358 (hb hby at_328) (by decide) (by decide) (by decide) ?_
  refine own_iload X505 hx (hb hby at_358) rfl ?_
  refine own_ifNo X505 hx (hb hby at_360) (by decide) ?_
  refine own_iload X505 hx (hb hby at_363) rfl ?_
  refine own_ifNo X505 hx (hb hby at_365) (by decide) ?_
  refine own_iload X505 hx (hb hby at_368) rfl ?_
  refine own_ifNo X505 hx (hb hby at_370) (by decide) ?_
  refine own_iconst X505 hx (1 : Int32) (hb hby at_373) rfl ?_
  refine own_goto X505 hx 378 (hb hby at_374) (by decide) (by decide) ?_
  refine own_retNW (s := s) X505 hx hS439 (by rw [e505]; exact Nat.le_trans hk439 (Nat.le_trans (Nat.le_trans (Nat.le_trans (Nat.le_trans (Nat.le_trans (Nat.le_trans (Nat.le_trans (Nat.le_trans (Nat.le_trans (Nat.le_trans (Nat.le_trans (Nat.le_trans (Nat.le_refl _) K449.1) E450.1) (Nat.le_of_eq W459.size.symm)) (Nat.le_of_eq U459.size.symm)) E462.1) K468.1) E471.1) (Nat.le_of_eq W476.size.symm)) (Nat.le_of_eq W479.size.symm)) (Nat.le_of_eq W482.size.symm)) (Nat.le_of_eq W485.size.symm)) K499.1)) (t := .boolean) hret (by simp) (hb hby at_378) hlk (by decide) (by decide) ?_
  exact ⟨rfl, N505⟩
set_option maxRecDepth 65536 in
set_option maxHeartbeats 40000000 in
theorem own_law01 (l : Launch) (Z : State) (a0 : Array Value) (hw : ∀ d ∈ tables_1, d.before a0 Z = true) (m0 qa qb : Int64) (ep sp fl : Int32) (dc ca em el en mr : Addr) (dl cc nl : Cell) (h0 : Heap) (n0 : Nat) (OX : Old Z n0 h0) (hfl : fl &&& (1 : Int32) = 0) (hnn : Jvm.Free.XT.ushr fl (1 : Int32) % (3 : Int32) = (1 : Int32)) (S : Sta Z Z.heap "java/util/ArrayList" "DEFAULTCAPACITY_EMPTY_ELEMENTDATA" "[Ljava/lang/Object;" (.ref dc)) (A : Arr Z Z.heap dc dl (.object "java/lang/Object")) (hl : dl.slots.size.toInt32 = (0 : Int32)) (SC : Sta Z Z.heap "java/lang/Long$LongCache" "cache" "[Ljava/lang/Long;" (.ref ca)) (BC : Bxs Z ca cc "java/lang/Long" "J" 256 fun j => .long (j - 128).toInt64) (SE : Sta Z Z.heap "java/util/ImmutableCollections" "EMPTY" "Ljava/lang/Object;" (.ref em)) (EEM : Exa Z Z.heap em "java/lang/Object") (SL : Sta Z Z.heap "java/util/ImmutableCollections" "EMPTY_LIST" "Ljava/util/ImmutableCollections$ListN;" (.ref el)) (EEL : Exa Z Z.heap el "java/util/ImmutableCollections$ListN") (FN : Fld Z Z.heap el "java/util/ImmutableCollections$ListN" "elements" "[Ljava/lang/Object;" (.ref en)) (AN : Arr Z Z.heap en nl (.object "java/lang/Object")) (ln : nl.slots.size.toInt32 = (0 : Int32)) (MM : own_Mir Z "[Ljava/lang/Object;" mr) (NA : ∃ c t, Z.vm.findClass "java/util/ArrayList" = some c ∧ Z.vm.findClass "java/util/ImmutableCollections$List12" = some t ∧ Z.vm.assignable c t = false) (NB : ∃ c t, Z.vm.findClass "java/util/ArrayList" = some c ∧ Z.vm.findClass "java/util/ImmutableCollections$ListN" = some t ∧ Z.vm.assignable c t = false) (wS : ∀ a ∈ Bundle.stringAtoms, a.before a0 Z = true) :
    own_MetW l Z x code maxLocals ret room_1 #[(.long m0), (.int ep), (.int sp), (.long qa), (.long qb), (.int fl)] h0 (fun v h L => v = some (.int 1) ∧ Fr n0 L) := by
  refine own_bodyW (Ls := #[.val (.long m0), .second, .val (.int ep), .val (.int sp), .val (.long qa), .second, .val (.long qb), .second, .val (.int fl), .unset, .unset, .unset, .unset, .unset, .unset, .unset, .unset, .unset, .unset, .unset]) (plainFor_of_name own_pn_com_example_regent_regent_controller_MasterChangedApplyToPinLaw) (fun m => by first | (simp [entryFrame, mkF, argsToLocals, Value.category, maxLocals]; done) | rfl) ?_
  intro p e s m below meth c s₁ hx hZ hby hml hown hnm hret hlk X0 e0
  have N0 := Fr.nil n0
  refine own_iload X0 hx (hb hby at_0) rfl ?_
  refine own_iconst X0 hx (1 : Int32) (hb hby at_2) rfl ?_
  refine own_iand X0 hx (hb hby at_3) ?_
  refine own_ifYes X0 hx 11 (hb hby at_4) (by decide) (by decide) (Jvm.Free.XT.i0_eq_t hfl) ?_
  refine own_iconst X0 hx (0 : Int32) (hb hby at_11) rfl ?_
  refine own_istore X0 hx (l' := #[.val (.long m0), .second, .val (.int ep), .val (.int sp), .val (.long qa), .second, .val (.long qb), .second, .val (.int fl), .val (.int (0 : Int32)), .unset, .unset, .unset, .unset, .unset, .unset, .unset, .unset, .unset, .unset]) (hb hby at_12) rfl ?_
  refine own_iload X0 hx (hb hby at_14) rfl ?_
  refine own_iconst X0 hx (1 : Int32) (hb hby at_16) rfl ?_
  refine own_iushr X0 hx (hb hby at_17) ?_
  refine own_iconst X0 hx (3 : Int32) (hb hby at_18) rfl ?_
  refine own_irem X0 hx (hb hby at_19) (by decide) ?_
  rw [hnn]
  show own_Fin p e below _ (s₁.setTop (mkF m 20 #[.val (.long m0), .second, .val (.int ep), .val (.int sp), .val (.long qa), .second, .val (.long qb), .second, .val (.int fl), .val (.int (0 : Int32)), .unset, .unset, .unset, .unset, .unset, .unset, .unset, .unset, .unset, .unset] [(.int (1 : Int32))]))
  refine own_istore X0 hx (l' := #[.val (.long m0), .second, .val (.int ep), .val (.int sp), .val (.long qa), .second, .val (.long qb), .second, .val (.int fl), .val (.int (0 : Int32)), .val (.int (1 : Int32)), .unset, .unset, .unset, .unset, .unset, .unset, .unset, .unset, .unset]) (hb hby at_20) rfl ?_
  refine own_new X0 hx hZ hown (own_w0 hw) (own_w1 hw) (own_w2 hw) e0 (hb hby at_22) (by decide) (by decide) fun T506 h506 b506 X506 e506 g506 E506 A506 D506 => ?_
  have f507 : n0 ≤ b506 := Nat.le_trans (own_old OX) (Nat.le_of_eq g506.symm)
  have f508 : Fld Z h506 b506 "java/util/AbstractList" "modCount" "I" (.int (0 : Int32)) := D506 (Or.inl (own_w22 hw)) own_fd_I
  have f509 : Fld Z h506 b506 "java/util/ArrayList" "elementData" "[Ljava/lang/Object;" .null := D506 (Or.inl (own_w25 hw)) own_fd__5bLjava_2flang_2fObject_3b
  have f510 : Fld Z h506 b506 "java/util/ArrayList" "size" "I" (.int (0 : Int32)) := D506 (Or.inl (own_w54 hw)) own_fd_I
  refine own_dup X506 hx (hb hby at_25) rfl ?_
  have f511 := (OX.ext E506)
  refine own_spec X506 hx hZ rfl hown (own_w3 hw) (own_w4 hw) (own_w5 hw) (own_w2 hw) (by decide) e506 (hb hby at_26) (by rw [hml]; rfl) own_pd__28_29V rfl (W := 1) (Nat.le_of_ble_eq_true rfl) (own_ali l Z a0 hw b506 dc _ _ h506 n0 f511 A506 f508 f509 f507 S) (by decide) (by decide) (by decide) (by decide) (a := b506) (argsL := []) (rest := [(.ref b506)]) rfl rfl fun v512 T512 L512 X512 q512 => ?_
  obtain ⟨h512, e512⟩ : ∃ z, T512.heap = z := ⟨_, rfl⟩
  try dsimp only at q512
  rw [e512] at q512
  obtain ⟨rfl, M512, j512, W512, U512⟩ := q512
  have N512 := Fr.app N0 M512
  have f513 := (f509.other W512 (Or.inr (slot_ne (Or.inl (own_w25 hw)) (Or.inl (own_w22 hw)) (by decide) own_fd__5bLjava_2flang_2fObject_3b own_fd_I)))
  show own_Fin p e below _ (T512.setTop (mkF m 29 #[.val (.long m0), .second, .val (.int ep), .val (.int sp), .val (.long qa), .second, .val (.long qb), .second, .val (.int fl), .val (.int (0 : Int32)), .val (.int (1 : Int32)), .unset, .unset, .unset, .unset, .unset, .unset, .unset, .unset, .unset] [(.ref b506)]))
  refine own_astore X512 hx (l' := #[.val (.long m0), .second, .val (.int ep), .val (.int sp), .val (.long qa), .second, .val (.long qb), .second, .val (.int fl), .val (.int (0 : Int32)), .val (.int (1 : Int32)), .val (.ref b506), .unset, .unset, .unset, .unset, .unset, .unset, .unset, .unset]) (hb hby at_29) rfl rfl ?_
  refine own_iload X512 hx (hb hby at_31) rfl ?_
  refine own_iconst X512 hx (1 : Int32) (hb hby at_33) rfl ?_
  refine own_icmpNo X512 hx (hb hby at_34) (by decide) ?_
  refine own_aload X512 hx (hb hby at_37) rfl rfl ?_
  refine own_lload X512 hx (hb hby at_39) rfl ?_
  have f514 := ((f511.wr W512 f507).wr U512 f507)
  refine own_stat X512 hx hZ hown (own_w26 hw) (own_w27 hw) (own_w29 hw) (own_w28 hw) (by decide) e512 (hb hby at_41) (by rw [hml]; rfl) own_pd__28J_29Ljava_2flang_2fLong_3b rfl (W := 1) (Nat.le_of_ble_eq_true rfl) (own_lvo l Z a0 hw qa ca cc h512 n0 f514 SC BC) (by decide) (by decide) (by decide) (by decide) (argsL := [(.long qa)]) (rest := [(.ref b506)]) rfl rfl fun v515 T515 L515 X515 q515 => ?_
  obtain ⟨h515, e515⟩ : ∃ z, T515.heap = z := ⟨_, rfl⟩
  try dsimp only at q515
  rw [e515] at q515
  obtain ⟨x515, rfl, M515, E515, P515, F515⟩ := q515
  have N515 := Fr.app N512 M515
  show own_Fin p e below _ (T515.setTop (mkF m 44 #[.val (.long m0), .second, .val (.int ep), .val (.int sp), .val (.long qa), .second, .val (.long qb), .second, .val (.int fl), .val (.int (0 : Int32)), .val (.int (1 : Int32)), .val (.ref b506), .unset, .unset, .unset, .unset, .unset, .unset, .unset, .unset] [(.ref x515), (.ref b506)]))
  have f516 := (f514.ext E515)
  have f517 := (((A506.wr W512).wr U512).ext E515)
  have f518 := ((f513.same U512).ext E515)
  have f519 := (((f510.other W512 (Or.inr (slot_ne (Or.inl (own_w54 hw)) (Or.inl (own_w22 hw)) (by decide) own_fd_I own_fd_I))).other U512 (Or.inr (slot_ne (Or.inl (own_w54 hw)) (Or.inl (own_w25 hw)) (by decide) own_fd_I own_fd__5bLjava_2flang_2fObject_3b))).ext E515)
  have f520 := (((f508.same W512).other U512 (Or.inr (slot_ne (Or.inl (own_w22 hw)) (Or.inl (own_w25 hw)) (by decide) own_fd_I own_fd__5bLjava_2flang_2fObject_3b))).ext E515)
  refine own_virt X515 hx hZ hown (own_w46 hw) (own_w47 hw) (own_w49 hw) (own_w49 hw) (own_w48 hw) (own_w50 hw) (own_w2 hw) (by decide) e515 f517 (hb hby at_44) (by rw [hml]; rfl) own_pd__28Ljava_2flang_2fObject_3b_29Z rfl (W := 0) (Nat.le_of_ble_eq_true rfl) (own_ad1 l Z a0 hw b506 x515 dc dl (0 : Int32) h515 n0 f516 f517 f518 f507 f519 f520 P515 S A hl) (by decide) (by decide) (by decide) (by decide) (argsL := [(.ref x515)]) (rest := []) rfl rfl fun v521 T521 L521 X521 q521 => ?_
  obtain ⟨h521, e521⟩ : ∃ z, T521.heap = z := ⟨_, rfl⟩
  try dsimp only at q521
  rw [e521] at q521
  obtain ⟨rfl, M521, K521, p521, q521, r521, b521, k521, g521, s521, t521, u521, o521⟩ := q521
  have N521 := Fr.app N515 M521
  have f522 : n0 ≤ b521 := Nat.le_trans (own_old f516) g521
  show own_Fin p e below _ (T521.setTop (mkF m 47 #[.val (.long m0), .second, .val (.int ep), .val (.int sp), .val (.long qa), .second, .val (.long qb), .second, .val (.int fl), .val (.int (0 : Int32)), .val (.int (1 : Int32)), .val (.ref b506), .unset, .unset, .unset, .unset, .unset, .unset, .unset, .unset] [(.int (1 : Int32))]))
  refine own_pop X521 hx (hb hby at_47) rfl ?_
  refine own_iload X521 hx (hb hby at_48) rfl ?_
  refine own_iconst X521 hx (2 : Int32) (hb hby at_50) rfl ?_
  refine own_icmpYes X521 hx 65 (hb hby at_51) (by decide) (by decide) (by decide) ?_
  refine own_iload X521 hx (hb hby at_65) rfl ?_
  refine own_ifYes X521 hx 77 (hb hby at_67) (by decide) (by decide) (by decide) ?_
  refine own_aconst_null X521 hx (hb hby at_77) ?_
  refine own_astore X521 hx (l' := #[.val (.long m0), .second, .val (.int ep), .val (.int sp), .val (.long qa), .second, .val (.long qb), .second, .val (.int fl), .val (.int (0 : Int32)), .val (.int (1 : Int32)), .val (.ref b506), .val .null, .unset, .unset, .unset, .unset, .unset, .unset, .unset]) (hb hby at_78) rfl rfl ?_
  refine own_new X521 hx hZ hown (own_w80 hw) (own_w81 hw) (own_w82 hw) e521 (hb hby at_80) (by decide) (by decide) fun T523 h523 b523 X523 e523 g523 E523 A523 D523 => ?_
  have f524 := (f516.keep K521 (allS f507 all0))
  have f525 : n0 ≤ b523 := Nat.le_trans (own_old f524) (Nat.le_of_eq g523.symm)
  have f526 : Fld Z h523 b523 "com/example/regent/regent/controller/Event$MasterChanged" "group" "Ljava/lang/String;" .null := D523 (Or.inr (own_w187 hw)) own_fd_Ljava_2flang_2fString_3b
  have f527 : Fld Z h523 b523 "com/example/regent/regent/controller/Event$MasterChanged" "master" "Ljava/lang/Long;" .null := D523 (Or.inr (own_w189 hw)) own_fd_Ljava_2flang_2fLong_3b
  have f528 : Fld Z h523 b523 "com/example/regent/regent/controller/Event$MasterChanged" "masterEpoch" "I" (.int (0 : Int32)) := D523 (Or.inr (own_w191 hw)) own_fd_I
  have f529 : Fld Z h523 b523 "com/example/regent/regent/controller/Event$MasterChanged" "syncStateSet" "Ljava/util/List;" .null := D523 (Or.inr (own_w193 hw)) own_fd_Ljava_2futil_2fList_3b
  have f530 : Fld Z h523 b523 "com/example/regent/regent/controller/Event$MasterChanged" "syncStateSetEpoch" "I" (.int (0 : Int32)) := D523 (Or.inr (own_w195 hw)) own_fd_I
  refine own_dup X523 hx (hb hby at_83) rfl ?_
  refine own_ldcS (s := s) (vm0 := s.vm) X523 hx hZ hown (own_w83 hw) wS e523 ((State.WarmedH.refl s).since 0) (Nat.zero_le _) (hb hby at_84) 4 (by decide) (by decide) (by decide) (by decide) fun sg531 vm531 T531 h531 k531 X531 e531 E531 hS531 hk531 hZ531 ho531 => ?_
  refine own_aload X531 hx (hb hby at_86) rfl rfl ?_
  refine own_iloadN X531 hx (hb hby at_88) rfl ?_
  refine own_aload X531 hx (hb hby at_89) rfl rfl ?_
  refine own_iloadN X531 hx (hb hby at_91) rfl ?_
  have f532 := ((p521.ext E523).ext E531)
  have f533 := ((q521.ext E523).ext E531)
  have f534 := ((s521.ext E523).ext E531)
  have f535 := ((t521.ext E523).ext E531)
  have f536 := (((P515.keep K521).ext E523).ext E531)
  have f537 := ((u521.ext E523).ext E531)
  have f538 := ((f524.ext E523).ext E531)
  have f539 := (A523.ext E531)
  have f540 := (f526.ext E531)
  have f541 := (f527.ext E531)
  have f542 := (f528.ext E531)
  have f543 := (f529.ext E531)
  have f544 := (f530.ext E531)
  refine own_spec X531 hx hZ531 rfl ho531 (own_w91 hw) (own_w92 hw) (own_w93 hw) (own_w82 hw) (by decide) e531 (hb hby at_92) (by rw [hml]; rfl) own_pd__28Ljava_2flang_2fString_3bLjava_2flang_2fLong_3bILjava_2futil_2fList_3bI_29V rfl (W := 1) (Nat.le_of_ble_eq_true rfl) (own_ei01 l Z a0 hw b523 sg531 ep sp b506 em b521 mr x515 k521 h531 n0 f538 f539 f525 f540 f541 f542 f543 f544 f532 f533 f534 f535 f536 f537 MM SE NA NB) (by decide) (by decide) (by decide) (by decide) (a := b523) (argsL := [(.ref sg531), .null, (.int ep), (.ref b506), (.int sp)]) (rest := [(.ref b523)]) rfl rfl fun v545 T545 L545 X545 q545 => ?_
  obtain ⟨h545, e545⟩ : ∃ z, T545.heap = z := ⟨_, rfl⟩
  try dsimp only at q545
  rw [e545] at q545
  obtain ⟨rfl, M545, K545, y545, g545, ⟨u545, v545, z545⟩, p545, q545, r545, s545, t545⟩ := q545
  have N545 := Fr.app N521 M545
  have f546 : n0 ≤ y545 := Nat.le_trans (own_old f538) g545
  show own_Fin p e below _ (T545.setTop (mkF m 95 #[.val (.long m0), .second, .val (.int ep), .val (.int sp), .val (.long qa), .second, .val (.long qb), .second, .val (.int fl), .val (.int (0 : Int32)), .val (.int (1 : Int32)), .val (.ref b506), .val .null, .unset, .unset, .unset, .unset, .unset, .unset, .unset] [(.ref b523)]))
  refine own_astore X545 hx (l' := #[.val (.long m0), .second, .val (.int ep), .val (.int sp), .val (.long qa), .second, .val (.long qb), .second, .val (.int fl), .val (.int (0 : Int32)), .val (.int (1 : Int32)), .val (.ref b506), .val .null, .val (.ref b523), .unset, .unset, .unset, .unset, .unset, .unset]) (hb hby at_95) rfl rfl ?_
  refine own_new X545 hx hZ531 ho531 (own_w196 hw) (own_w197 hw) (own_w198 hw) e545 (hb hby at_97) (by decide) (by decide) fun T547 h547 b547 X547 e547 g547 E547 A547 D547 => ?_
  have f548 := (f538.keep K545 (allS f525 all0))
  have f549 : n0 ≤ b547 := Nat.le_trans (own_old f548) (Nat.le_of_eq g547.symm)
  have f550 : Fld Z h547 b547 "com/example/regent/regent/controller/Group" "registerCodes" "Ljava/util/NavigableMap;" .null := D547 (Or.inr (own_w223 hw)) own_fd_Ljava_2futil_2fNavigableMap_3b
  have f551 : Fld Z h547 b547 "com/example/regent/regent/controller/Group" "brokers" "Ljava/util/NavigableMap;" .null := D547 (Or.inr (own_w225 hw)) own_fd_Ljava_2futil_2fNavigableMap_3b
  have f552 : Fld Z h547 b547 "com/example/regent/regent/controller/Group" "syncStateSet" "Ljava/util/List;" .null := D547 (Or.inl (own_w231 hw)) own_fd_Ljava_2futil_2fList_3b
  have f553 : Fld Z h547 b547 "com/example/regent/regent/controller/Group" "name" "Ljava/lang/String;" .null := D547 (Or.inr (own_w233 hw)) own_fd_Ljava_2flang_2fString_3b
  have f554 : Fld Z h547 b547 "com/example/regent/regent/controller/Group" "master" "Ljava/lang/Long;" .null := D547 (Or.inl (own_w236 hw)) own_fd_Ljava_2flang_2fLong_3b
  have f555 : Fld Z h547 b547 "com/example/regent/regent/controller/Group" "masterEpoch" "I" (.int (0 : Int32)) := D547 (Or.inl (own_w238 hw)) own_fd_I
  have f556 : Fld Z h547 b547 "com/example/regent/regent/controller/Group" "syncStateSetEpoch" "I" (.int (0 : Int32)) := D547 (Or.inl (own_w241 hw)) own_fd_I
  refine own_dup X547 hx (hb hby at_100) rfl ?_
  refine own_ldcS (s := s) (vm0 := vm531) X547 hx hZ531 ho531 (own_w83 hw) wS e547 hS531 (Nat.le_trans hk531 (Nat.le_trans (Nat.le_trans (Nat.le_refl _) K545.1) E547.1)) (hb hby at_101) 4 (by decide) (by decide) (by decide) (by decide) fun sg557 vm557 T557 h557 k557 X557 e557 E557 hS557 hk557 hZ557 ho557 => ?_
  have f558 := ((f548.ext E547).ext E557)
  have f559 := (A547.ext E557)
  have f560 := (f550.ext E557)
  have f561 := (f551.ext E557)
  have f562 := (f552.ext E557)
  have f563 := (f553.ext E557)
  have f564 := (f554.ext E557)
  have f565 := (f555.ext E557)
  have f566 := (f556.ext E557)
  refine own_spec X557 hx hZ557 rfl ho557 (own_w199 hw) (own_w200 hw) (own_w201 hw) (own_w198 hw) (by decide) e557 (hb hby at_103) (by rw [hml]; rfl) own_pd__28Ljava_2flang_2fString_3b_29V rfl (W := 1) (Nat.le_of_ble_eq_true rfl) (own_gri l Z a0 hw b547 sg557 el h557 n0 f558 f559 f549 f560 f561 f562 f563 f564 f565 f566 SL) (by decide) (by decide) (by decide) (by decide) (a := b547) (argsL := [(.ref sg557)]) (rest := [(.ref b547)]) rfl rfl fun v567 T567 L567 X567 q567 => ?_
  obtain ⟨h567, e567⟩ : ∃ z, T567.heap = z := ⟨_, rfl⟩
  try dsimp only at q567
  rw [e567] at q567
  obtain ⟨rfl, M567, K567, p567, q567, r567, s567, t567⟩ := q567
  have N567 := Fr.app N545 M567
  show own_Fin p e below _ (T567.setTop (mkF m 106 #[.val (.long m0), .second, .val (.int ep), .val (.int sp), .val (.long qa), .second, .val (.long qb), .second, .val (.int fl), .val (.int (0 : Int32)), .val (.int (1 : Int32)), .val (.ref b506), .val .null, .val (.ref b523), .unset, .unset, .unset, .unset, .unset, .unset] [(.ref b547)]))
  refine own_astore X567 hx (l' := #[.val (.long m0), .second, .val (.int ep), .val (.int sp), .val (.long qa), .second, .val (.long qb), .second, .val (.int fl), .val (.int (0 : Int32)), .val (.int (1 : Int32)), .val (.ref b506), .val .null, .val (.ref b523), .val (.ref b547), .unset, .unset, .unset, .unset, .unset]) (hb hby at_106) rfl rfl ?_
  refine own_new X567 hx hZ557 ho557 (own_w0 hw) (own_w1 hw) (own_w2 hw) e567 (hb hby at_108) (by decide) (by decide) fun T568 h568 b568 X568 e568 g568 E568 A568 D568 => ?_
  have f569 := ((((f532.keep K545).ext E547).ext E557).keep K567)
  have f570 := Nat.ne_of_lt (Nat.lt_of_lt_of_le f569.lt (Nat.le_of_eq g568.symm))
  have f571 := (f558.keep K567 (allS f549 all0))
  have f572 : n0 ≤ b568 := Nat.le_trans (own_old f571) (Nat.le_of_eq g568.symm)
  have f573 : Fld Z h568 b568 "java/util/AbstractList" "modCount" "I" (.int (0 : Int32)) := D568 (Or.inl (own_w22 hw)) own_fd_I
  have f574 : Fld Z h568 b568 "java/util/ArrayList" "elementData" "[Ljava/lang/Object;" .null := D568 (Or.inl (own_w25 hw)) own_fd__5bLjava_2flang_2fObject_3b
  have f575 : Fld Z h568 b568 "java/util/ArrayList" "size" "I" (.int (0 : Int32)) := D568 (Or.inl (own_w54 hw)) own_fd_I
  refine own_dup X568 hx (hb hby at_111) rfl ?_
  have f576 := (f571.ext E568)
  refine own_spec X568 hx hZ557 rfl ho557 (own_w3 hw) (own_w4 hw) (own_w5 hw) (own_w2 hw) (by decide) e568 (hb hby at_112) (by rw [hml]; rfl) own_pd__28_29V rfl (W := 1) (Nat.le_of_ble_eq_true rfl) (own_ali l Z a0 hw b568 dc _ _ h568 n0 f576 A568 f573 f574 f572 S) (by decide) (by decide) (by decide) (by decide) (a := b568) (argsL := []) (rest := [(.ref b568)]) rfl rfl fun v577 T577 L577 X577 q577 => ?_
  obtain ⟨h577, e577⟩ : ∃ z, T577.heap = z := ⟨_, rfl⟩
  try dsimp only at q577
  rw [e577] at q577
  obtain ⟨rfl, M577, j577, W577, U577⟩ := q577
  have N577 := Fr.app N567 M577
  have f578 := (f574.other W577 (Or.inr (slot_ne (Or.inl (own_w25 hw)) (Or.inl (own_w22 hw)) (by decide) own_fd__5bLjava_2flang_2fObject_3b own_fd_I)))
  show own_Fin p e below _ (T577.setTop (mkF m 115 #[.val (.long m0), .second, .val (.int ep), .val (.int sp), .val (.long qa), .second, .val (.long qb), .second, .val (.int fl), .val (.int (0 : Int32)), .val (.int (1 : Int32)), .val (.ref b506), .val .null, .val (.ref b523), .val (.ref b547), .unset, .unset, .unset, .unset, .unset] [(.ref b568)]))
  refine own_astore X577 hx (l' := #[.val (.long m0), .second, .val (.int ep), .val (.int sp), .val (.long qa), .second, .val (.long qb), .second, .val (.int fl), .val (.int (0 : Int32)), .val (.int (1 : Int32)), .val (.ref b506), .val .null, .val (.ref b523), .val (.ref b547), .val (.ref b568), .unset, .unset, .unset, .unset]) (hb hby at_115) rfl rfl ?_
  refine own_aload X577 hx (hb hby at_117) rfl rfl ?_
  refine own_lload X577 hx (hb hby at_119) rfl ?_
  refine own_ldc2J X577 hx hZ557 ho557 (own_w234 hw) (hb hby at_121) ?_
  refine own_lxor X577 hx (hb hby at_124) ?_
  have f579 := ((f576.wr W577 f572).wr U577 f572)
  refine own_stat X577 hx hZ557 ho557 (own_w26 hw) (own_w27 hw) (own_w29 hw) (own_w28 hw) (by decide) e577 (hb hby at_125) (by rw [hml]; rfl) own_pd__28J_29Ljava_2flang_2fLong_3b rfl (W := 1) (Nat.le_of_ble_eq_true rfl) (own_lvo l Z a0 hw (qa ^^^ (-1 : Int64)) ca cc h577 n0 f579 SC BC) (by decide) (by decide) (by decide) (by decide) (argsL := [(.long (qa ^^^ (-1 : Int64)))]) (rest := [(.ref b568)]) rfl rfl fun v580 T580 L580 X580 q580 => ?_
  obtain ⟨h580, e580⟩ : ∃ z, T580.heap = z := ⟨_, rfl⟩
  try dsimp only at q580
  rw [e580] at q580
  obtain ⟨x580, rfl, M580, E580, P580, F580⟩ := q580
  have N580 := Fr.app N577 M580
  show own_Fin p e below _ (T580.setTop (mkF m 128 #[.val (.long m0), .second, .val (.int ep), .val (.int sp), .val (.long qa), .second, .val (.long qb), .second, .val (.int fl), .val (.int (0 : Int32)), .val (.int (1 : Int32)), .val (.ref b506), .val .null, .val (.ref b523), .val (.ref b547), .val (.ref b568), .unset, .unset, .unset, .unset] [(.ref x580), (.ref b568)]))
  have f581 := (f579.ext E580)
  have f582 := (((A568.wr W577).wr U577).ext E580)
  have f583 := ((f578.same U577).ext E580)
  have f584 := (((f575.other W577 (Or.inr (slot_ne (Or.inl (own_w54 hw)) (Or.inl (own_w22 hw)) (by decide) own_fd_I own_fd_I))).other U577 (Or.inr (slot_ne (Or.inl (own_w54 hw)) (Or.inl (own_w25 hw)) (by decide) own_fd_I own_fd__5bLjava_2flang_2fObject_3b))).ext E580)
  have f585 := (((f573.same W577).other U577 (Or.inr (slot_ne (Or.inl (own_w22 hw)) (Or.inl (own_w25 hw)) (by decide) own_fd_I own_fd__5bLjava_2flang_2fObject_3b))).ext E580)
  refine own_virt X580 hx hZ557 ho557 (own_w46 hw) (own_w47 hw) (own_w49 hw) (own_w49 hw) (own_w48 hw) (own_w50 hw) (own_w2 hw) (by decide) e580 f582 (hb hby at_128) (by rw [hml]; rfl) own_pd__28Ljava_2flang_2fObject_3b_29Z rfl (W := 0) (Nat.le_of_ble_eq_true rfl) (own_ad1 l Z a0 hw b568 x580 dc dl (0 : Int32) h580 n0 f581 f582 f583 f572 f584 f585 P580 S A hl) (by decide) (by decide) (by decide) (by decide) (argsL := [(.ref x580)]) (rest := []) rfl rfl fun v586 T586 L586 X586 q586 => ?_
  obtain ⟨h586, e586⟩ : ∃ z, T586.heap = z := ⟨_, rfl⟩
  try dsimp only at q586
  rw [e586] at q586
  obtain ⟨rfl, M586, K586, p586, q586, r586, b586, k586, g586, s586, t586, u586, o586⟩ := q586
  have N586 := Fr.app N580 M586
  have f587 := ((((((((f537.keep K545).ext E547).ext E557).keep K567).ext E568).wr W577).wr U577).ext E580)
  have f588 := Nat.ne_of_lt (Nat.lt_of_lt_of_le f587.lt g586)
  have f589 : n0 ≤ b586 := Nat.le_trans (own_old f581) g586
  show own_Fin p e below _ (T586.setTop (mkF m 131 #[.val (.long m0), .second, .val (.int ep), .val (.int sp), .val (.long qa), .second, .val (.long qb), .second, .val (.int fl), .val (.int (0 : Int32)), .val (.int (1 : Int32)), .val (.ref b506), .val .null, .val (.ref b523), .val (.ref b547), .val (.ref b568), .unset, .unset, .unset, .unset] [(.int (1 : Int32))]))
  refine own_pop X586 hx (hb hby at_131) rfl ?_
  refine own_aload X586 hx (hb hby at_132) rfl rfl ?_
  refine own_lloadN X586 hx (hb hby at_134) rfl ?_
  refine own_ldc2J X586 hx hZ557 ho557 (own_w234 hw) (hb hby at_135) ?_
  refine own_lxor X586 hx (hb hby at_138) ?_
  have f590 := (f581.keep K586 (allS f572 all0))
  refine own_stat X586 hx hZ557 ho557 (own_w26 hw) (own_w27 hw) (own_w29 hw) (own_w28 hw) (by decide) e586 (hb hby at_139) (by rw [hml]; rfl) own_pd__28J_29Ljava_2flang_2fLong_3b rfl (W := 1) (Nat.le_of_ble_eq_true rfl) (own_lvo l Z a0 hw (m0 ^^^ (-1 : Int64)) ca cc h586 n0 f590 SC BC) (by decide) (by decide) (by decide) (by decide) (argsL := [(.long (m0 ^^^ (-1 : Int64)))]) (rest := [(.ref b547)]) rfl rfl fun v591 T591 L591 X591 q591 => ?_
  obtain ⟨h591, e591⟩ : ∃ z, T591.heap = z := ⟨_, rfl⟩
  try dsimp only at q591
  rw [e591] at q591
  obtain ⟨x591, rfl, M591, E591, P591, F591⟩ := q591
  have N591 := Fr.app N586 M591
  show own_Fin p e below _ (T591.setTop (mkF m 142 #[.val (.long m0), .second, .val (.int ep), .val (.int sp), .val (.long qa), .second, .val (.long qb), .second, .val (.int fl), .val (.int (0 : Int32)), .val (.int (1 : Int32)), .val (.ref b506), .val .null, .val (.ref b523), .val (.ref b547), .val (.ref b568), .unset, .unset, .unset, .unset] [(.ref x591), (.ref b547)]))
  have f592 := ((((((p567.ext E568).wr W577).wr U577).ext E580).keep K586).ext E591)
  have f593 := (p586.ext E591)
  have f594 := ne_exa f592 f593 (by decide)
  have f595 := ((((((q567.ext E568).other W577 (Or.inl f594)).other U577 (Or.inl f594)).ext E580).keep K586 (ninS f594 nin0)).ext E591)
  refine own_putfield X591 hx hZ557 (host := "") ho557 (Or.inl (own_w235 hw)) Via.refl e591 f595 f592 (Or.inl (own_w236 hw)) (own_w197 hw) own_fd_Ljava_2flang_2fLong_3b rfl rfl (hb hby at_142) fun T596 h596 X596 e596 W596 => ?_
  have N596 := Fr.snoc X596 N591 f549
  refine own_aload X596 hx (hb hby at_145) rfl rfl ?_
  refine own_iloadN X596 hx (hb hby at_147) rfl ?_
  refine own_iconst X596 hx (-1 : Int32) (hb hby at_148) rfl ?_
  refine own_ixor X596 hx (hb hby at_149) ?_
  have f597 := (((((((r567.ext E568).other W577 (Or.inl f594)).other U577 (Or.inl f594)).ext E580).keep K586 (ninS f594 nin0)).ext E591).other W596 (Or.inr (slot_ne (Or.inl (own_w238 hw)) (Or.inl (own_w236 hw)) (by decide) own_fd_I own_fd_Ljava_2flang_2fLong_3b)))
  have f598 := (f592.wr W596)
  refine own_putfield X596 hx hZ557 (host := "") ho557 (Or.inl (own_w237 hw)) Via.refl e596 f597 f598 (Or.inl (own_w238 hw)) (own_w197 hw) own_fd_I rfl rfl (hb hby at_150) fun T599 h599 X599 e599 W599 => ?_
  have N599 := Fr.snoc X599 N596 f549
  refine own_aload X599 hx (hb hby at_153) rfl rfl ?_
  refine own_aload X599 hx (hb hby at_155) rfl rfl ?_
  have f600 := ((((((((s567.ext E568).other W577 (Or.inl f594)).other U577 (Or.inl f594)).ext E580).keep K586 (ninS f594 nin0)).ext E591).other W596 (Or.inr (slot_ne (Or.inl (own_w231 hw)) (Or.inl (own_w236 hw)) (by decide) own_fd_Ljava_2futil_2fList_3b own_fd_Ljava_2flang_2fLong_3b))).other W599 (Or.inr (slot_ne (Or.inl (own_w231 hw)) (Or.inl (own_w238 hw)) (by decide) own_fd_Ljava_2futil_2fList_3b own_fd_I)))
  have f601 := (f598.wr W599)
  refine own_putfield X599 hx hZ557 (host := "") ho557 (Or.inl (own_w239 hw)) Via.refl e599 f600 f601 (Or.inl (own_w231 hw)) (own_w197 hw) own_fd_Ljava_2futil_2fList_3b rfl rfl (hb hby at_157) fun T602 h602 X602 e602 W602 => ?_
  have N602 := Fr.snoc X602 N599 f549
  refine own_aload X602 hx (hb hby at_160) rfl rfl ?_
  refine own_iloadN X602 hx (hb hby at_162) rfl ?_
  refine own_iconst X602 hx (-1 : Int32) (hb hby at_163) rfl ?_
  refine own_ixor X602 hx (hb hby at_164) ?_
  have f603 := (((((((((t567.ext E568).other W577 (Or.inl f594)).other U577 (Or.inl f594)).ext E580).keep K586 (ninS f594 nin0)).ext E591).other W596 (Or.inr (slot_ne (Or.inl (own_w241 hw)) (Or.inl (own_w236 hw)) (by decide) own_fd_I own_fd_Ljava_2flang_2fLong_3b))).other W599 (Or.inr (slot_ne (Or.inl (own_w241 hw)) (Or.inl (own_w238 hw)) (by decide) own_fd_I own_fd_I))).other W602 (Or.inr (slot_ne (Or.inl (own_w241 hw)) (Or.inl (own_w231 hw)) (by decide) own_fd_I own_fd_Ljava_2futil_2fList_3b)))
  have f604 := (f601.wr W602)
  refine own_putfield X602 hx hZ557 (host := "") ho557 (Or.inl (own_w240 hw)) Via.refl e602 f603 f604 (Or.inl (own_w241 hw)) (own_w197 hw) own_fd_I rfl rfl (hb hby at_165) fun T605 h605 X605 e605 W605 => ?_
  have N605 := Fr.snoc X605 N602 f549
  refine own_aload X605 hx (hb hby at_168) rfl rfl ?_
  refine own_aload X605 hx (hb hby at_170) rfl rfl ?_
  have f606 := (((((f590.ext E591).wr W596 f549).wr W599 f549).wr W602 f549).wr W605 f549)
  have f607 := (((((((((((((p545.ext E547).ext E557).keep K567).ext E568).wr W577).wr U577).ext E580).keep K586).ext E591).wr W596).wr W599).wr W602).wr W605)
  have f608 := (f604.wr W605)
  have f609 := ne_exa f607 f608 (by decide)
  have f610 := ((((f593.wr W596).wr W599).wr W602).wr W605)
  have f611 := ne_exa f607 f610 (by decide)
  have f612 := (((((((((((((q545.ext E547).ext E557).keep K567 (ninS f609 nin0)).ext E568).other W577 (Or.inl f611)).other U577 (Or.inl f611)).ext E580).keep K586 (ninS f611 nin0)).ext E591).other W596 (Or.inl f609)).other W599 (Or.inl f609)).other W602 (Or.inl f609)).other W605 (Or.inl f609))
  have f613 := (((((((((((((r545.ext E547).ext E557).keep K567 (ninS f609 nin0)).ext E568).other W577 (Or.inl f611)).other U577 (Or.inl f611)).ext E580).keep K586 (ninS f611 nin0)).ext E591).other W596 (Or.inl f609)).other W599 (Or.inl f609)).other W602 (Or.inl f609)).other W605 (Or.inl f609))
  have f614 := (((((((((((((s545.ext E547).ext E557).keep K567 (ninS f609 nin0)).ext E568).other W577 (Or.inl f611)).other U577 (Or.inl f611)).ext E580).keep K586 (ninS f611 nin0)).ext E591).other W596 (Or.inl f609)).other W599 (Or.inl f609)).other W602 (Or.inl f609)).other W605 (Or.inl f609))
  have f615 := (((((((((((((t545.ext E547).ext E557).keep K567 (ninS f609 nin0)).ext E568).other W577 (Or.inl f611)).other U577 (Or.inl f611)).ext E580).keep K586 (ninS f611 nin0)).ext E591).other W596 (Or.inl f609)).other W599 (Or.inl f609)).other W602 (Or.inl f609)).other W605 (Or.inl f609))
  have f616 := ((((f595.same W596).other W599 (Or.inr (slot_ne (Or.inl (own_w236 hw)) (Or.inl (own_w238 hw)) (by decide) own_fd_Ljava_2flang_2fLong_3b own_fd_I))).other W602 (Or.inr (slot_ne (Or.inl (own_w236 hw)) (Or.inl (own_w231 hw)) (by decide) own_fd_Ljava_2flang_2fLong_3b own_fd_Ljava_2futil_2fList_3b))).other W605 (Or.inr (slot_ne (Or.inl (own_w236 hw)) (Or.inl (own_w241 hw)) (by decide) own_fd_Ljava_2flang_2fLong_3b own_fd_I)))
  have f617 := (((f597.same W599).other W602 (Or.inr (slot_ne (Or.inl (own_w238 hw)) (Or.inl (own_w231 hw)) (by decide) own_fd_I own_fd_Ljava_2futil_2fList_3b))).other W605 (Or.inr (slot_ne (Or.inl (own_w238 hw)) (Or.inl (own_w241 hw)) (by decide) own_fd_I own_fd_I)))
  have f618 := ((f600.same W602).other W605 (Or.inr (slot_ne (Or.inl (own_w231 hw)) (Or.inl (own_w241 hw)) (by decide) own_fd_Ljava_2futil_2fList_3b own_fd_I)))
  refine own_virt X605 hx hZ557 ho557 (own_w242 hw) (own_w243 hw) (own_w245 hw) (own_w245 hw) (own_w244 hw) (own_w246 hw) (own_w82 hw) (by decide) e605 f607 (hb hby at_172) (by rw [hml]; rfl) own_pd__28Lcom_2fexample_2fregent_2fregent_2fcontroller_2fGroup_3b_29V rfl (W := 0) (Nat.le_of_ble_eq_true rfl) (own_ap0 l Z a0 hw b523 b547 y545 ep sp _ _ _ _ h605 n0 f606 f607 f608 f549 f612 f613 f614 f615 f616 f617 f618 (f603.same W605)) (by decide) (by decide) (by decide) (by decide) (argsL := [(.ref b547)]) (rest := []) rfl rfl fun v619 T619 L619 X619 q619 => ?_
  obtain ⟨h619, e619⟩ : ∃ z, T619.heap = z := ⟨_, rfl⟩
  try dsimp only at q619
  rw [e619] at q619
  obtain ⟨rfl, M619, K619, p619, q619, r619, s619, t619⟩ := q619
  have N619 := Fr.app N605 M619
  show own_Fin p e below _ (T619.setTop (mkF m 175 #[.val (.long m0), .second, .val (.int ep), .val (.int sp), .val (.long qa), .second, .val (.long qb), .second, .val (.int fl), .val (.int (0 : Int32)), .val (.int (1 : Int32)), .val (.ref b506), .val .null, .val (.ref b523), .val (.ref b547), .val (.ref b568), .unset, .unset, .unset, .unset] []))
  refine own_iload X619 hx (hb hby at_175) rfl ?_
  refine own_ifYes X619 hx 211 (hb hby at_177) (by decide) (by decide) (by decide) ?_
  refine own_aload X619 hx (hb hby at_211) rfl rfl ?_
  refine own_getfield X619 hx hZ557 (host := "") ho557 (Or.inl (own_w235 hw)) Via.refl e619 q619 (hb hby at_213) fun T620 X620 e620 => ?_
  refine own_ifnonnullNo X620 hx (hb hby at_216) ?_
  refine own_iconst X620 hx (1 : Int32) (hb hby at_219) rfl ?_
  refine own_goto X620 hx 224 (hb hby at_220) (by decide) (by decide) ?_
  refine own_istore X620 hx (l' := #[.val (.long m0), .second, .val (.int ep), .val (.int sp), .val (.long qa), .second, .val (.long qb), .second, .val (.int fl), .val (.int (0 : Int32)), .val (.int (1 : Int32)), .val (.ref b506), .val .null, .val (.ref b523), .val (.ref b547), .val (.ref b568), .val (.int (1 : Int32)), .unset, .unset, .unset]) (hb hby at_224) rfl ?_
  refine own_aload X620 hx (hb hby at_226) rfl rfl ?_
  refine own_getfield X620 hx hZ557 (host := "") ho557 (Or.inl (own_w237 hw)) Via.refl e620 r619 (hb hby at_228) fun T621 X621 e621 => ?_
  refine own_iloadN X621 hx (hb hby at_231) rfl ?_
  refine own_icmpNo X621 hx (hb hby at_232) (Jvm.Free.XT.ii_ne_f rfl) ?_
  refine own_aload X621 hx (hb hby at_235) rfl rfl ?_
  refine own_getfield X621 hx hZ557 (host := "") ho557 (Or.inl (own_w240 hw)) Via.refl e621 t619 (hb hby at_237) fun T622 X622 e622 => ?_
  refine own_iloadN X622 hx (hb hby at_240) rfl ?_
  refine own_icmpNo X622 hx (hb hby at_241) (Jvm.Free.XT.ii_ne_f rfl) ?_
  refine own_iconst X622 hx (1 : Int32) (hb hby at_244) rfl ?_
  refine own_goto X622 hx 249 (hb hby at_245) (by decide) (by decide) ?_
  refine own_istore X622 hx (l' := #[.val (.long m0), .second, .val (.int ep), .val (.int sp), .val (.long qa), .second, .val (.long qb), .second, .val (.int fl), .val (.int (0 : Int32)), .val (.int (1 : Int32)), .val (.ref b506), .val .null, .val (.ref b523), .val (.ref b547), .val (.ref b568), .val (.int (1 : Int32)), .val (.int (1 : Int32)), .unset, .unset]) (hb hby at_249) rfl ?_
  refine own_aload X622 hx (hb hby at_251) rfl rfl ?_
  refine own_getfield X622 hx hZ557 (host := "") ho557 (Or.inl (own_w239 hw)) Via.refl e622 s619 (hb hby at_253) fun T623 X623 e623 => ?_
  refine own_astore X623 hx (l' := #[.val (.long m0), .second, .val (.int ep), .val (.int sp), .val (.long qa), .second, .val (.long qb), .second, .val (.int fl), .val (.int (0 : Int32)), .val (.int (1 : Int32)), .val (.ref b506), .val .null, .val (.ref b523), .val (.ref b547), .val (.ref b568), .val (.int (1 : Int32)), .val (.int (1 : Int32)), .val (.ref y545), .unset]) (hb hby at_256) rfl rfl ?_
  refine own_aload X623 hx (hb hby at_258) rfl rfl ?_
  refine own_ifnullNo X623 hx (hb hby at_260) ?_
  refine own_aload X623 hx (hb hby at_263) rfl rfl ?_
  have f624 := (f606.keep K619 (allS f549 all0))
  have f625 := ((((((((((((((u545.ext E547).ext E557).keep K567).ext E568).wr W577).wr U577).ext E580).keep K586).ext E591).wr W596).wr W599).wr W602).wr W605).keep K619)
  have f626 := ne_exa f625 p619 (by decide)
  have f627 := (f610.keep K619)
  have f628 := ne_exa f625 f627 (by decide)
  have f629 := ((((((((((((((z545.ext E547).ext E557).keep K567 (ninS f626 nin0)).ext E568).other W577 (Or.inl f628)).other U577 (Or.inl f628)).ext E580).keep K586 (ninS f628 nin0)).ext E591).other W596 (Or.inl f626)).other W599 (Or.inl f626)).other W602 (Or.inl f626)).other W605 (Or.inl f626)).keep K619 (ninS f626 nin0))
  refine own_intf X623 hx hZ557 ho557 (own_w256 hw) (own_w257 hw) (own_w258 hw) (own_w259 hw) (own_w260 hw) (own_w261 hw) (own_w262 hw) (own_w263 hw) (own_w264 hw) (own_w158 hw) (by decide) e623 f625 (hb hby at_265) (by rw [hml]; rfl) own_pd__28_29I rfl (W := 0) (Nat.le_of_ble_eq_true rfl) (own_sz1 l Z a0 hw y545 em h619 n0 f624 f629 SE) (by decide) (by decide) (by decide) (by decide) (argsL := []) (rest := []) rfl rfl fun v630 T630 L630 X630 q630 => ?_
  obtain ⟨rfl, M630, e630⟩ := q630
  have N630 := Fr.app N619 M630
  show own_Fin p e below _ (T630.setTop (mkF m 270 #[.val (.long m0), .second, .val (.int ep), .val (.int sp), .val (.long qa), .second, .val (.long qb), .second, .val (.int fl), .val (.int (0 : Int32)), .val (.int (1 : Int32)), .val (.ref b506), .val .null, .val (.ref b523), .val (.ref b547), .val (.ref b568), .val (.int (1 : Int32)), .val (.int (1 : Int32)), .val (.ref y545), .unset] [(.int (1 : Int32))]))
  refine own_iload X630 hx (hb hby at_270) rfl ?_
  refine own_icmpNo X630 hx (hb hby at_272) (by decide) ?_
  refine own_iconst X630 hx (1 : Int32) (hb hby at_275) rfl ?_
  refine own_goto X630 hx 280 (hb hby at_276) (by decide) (by decide) ?_
  refine own_istore X630 hx (l' := #[.val (.long m0), .second, .val (.int ep), .val (.int sp), .val (.long qa), .second, .val (.long qb), .second, .val (.int fl), .val (.int (0 : Int32)), .val (.int (1 : Int32)), .val (.ref b506), .val .null, .val (.ref b523), .val (.ref b547), .val (.ref b568), .val (.int (1 : Int32)), .val (.int (1 : Int32)), .val (.ref y545), .val (.int (1 : Int32))]) (hb hby at_280) rfl ?_
  refine own_iload X630 hx (hb hby at_282) rfl ?_
  refine own_ifNo X630 hx (hb hby at_284) (by decide) ?_
  refine own_iload X630 hx (hb hby at_287) rfl ?_
  refine own_iconst X630 hx (1 : Int32) (hb hby at_289) rfl ?_
  refine own_icmpNo X630 hx (hb hby at_290) (by decide) ?_
  refine own_aload X630 hx (hb hby at_293) rfl rfl ?_
  refine own_iconst X630 hx (0 : Int32) (hb hby at_295) rfl ?_
  have f631 := ((((((((((((((v545.ext E547).ext E557).keep K567 (ninS f626 nin0)).ext E568).other W577 (Or.inl f628)).other U577 (Or.inl f628)).ext E580).keep K586 (ninS f628 nin0)).ext E591).other W596 (Or.inl f626)).other W599 (Or.inl f626)).other W602 (Or.inl f626)).other W605 (Or.inl f626)).keep K619 (ninS f626 nin0))
  refine own_intf X630 hx hZ557 ho557 (own_w265 hw) (own_w266 hw) (own_w267 hw) (own_w268 hw) (own_w269 hw) (own_w270 hw) (own_w271 hw) (own_w263 hw) (own_w272 hw) (own_w158 hw) (by decide) e630 f625 (hb hby at_296) (by rw [hml]; rfl) own_pd__28I_29Ljava_2flang_2fObject_3b rfl (W := 0) (Nat.le_of_ble_eq_true rfl) (own_ge0 l Z a0 hw y545 x515 h619 n0 f624 f631) (by decide) (by decide) (by decide) (by decide) (argsL := [(.int (0 : Int32))]) (rest := []) rfl rfl fun v632 T632 L632 X632 q632 => ?_
  obtain ⟨rfl, M632, e632⟩ := q632
  have N632 := Fr.app N630 M632
  show own_Fin p e below _ (T632.setTop (mkF m 301 #[.val (.long m0), .second, .val (.int ep), .val (.int sp), .val (.long qa), .second, .val (.long qb), .second, .val (.int fl), .val (.int (0 : Int32)), .val (.int (1 : Int32)), .val (.ref b506), .val .null, .val (.ref b523), .val (.ref b547), .val (.ref b568), .val (.int (1 : Int32)), .val (.int (1 : Int32)), .val (.ref y545), .val (.int (1 : Int32))] [(.ref x515)]))
  have f634 := (((((((((((((((f536.keep K545).ext E547).ext E557).keep K567).ext E568).wr W577).wr U577).ext E580).keep K586).ext E591).wr W596).wr W599).wr W602).wr W605).keep K619)
  refine own_checkcast X632 hx hZ557 ho557 (own_w273 hw) e632 (Ins.self f634) (hb hby at_301) fun T633 X633 e633 => ?_
  have f635 := (((((((((((f569.ext E568).wr W577).wr U577).ext E580).keep K586).ext E591).wr W596).wr W599).wr W602).wr W605).keep K619)
  have f636 := ne_exa f634 f635 (by decide)
  have f637 := (f607.keep K619)
  have f638 := ne_exa f634 f637 (by decide)
  have f639 := ne_exa f634 p619 (by decide)
  have f640 := ne_exa f634 f627 (by decide)
  have f641 := ((((((((((((((((((F515.keep K521 (ninS f636 nin0)).ext E523).ext E531).keep K545 (ninS f638 nin0)).ext E547).ext E557).keep K567 (ninS f639 nin0)).ext E568).other W577 (Or.inl f640)).other U577 (Or.inl f640)).ext E580).keep K586 (ninS f640 nin0)).ext E591).other W596 (Or.inl f639)).other W599 (Or.inl f639)).other W602 (Or.inl f639)).other W605 (Or.inl f639)).keep K619 (ninS f639 nin0))
  refine own_virt X633 hx hZ557 ho557 (own_w251 hw) (own_w252 hw) (own_w254 hw) (own_w254 hw) (own_w253 hw) (own_w255 hw) (own_w28 hw) (by decide) e633 f634 (hb hby at_304) (by rw [hml]; rfl) own_pd__28_29J rfl (W := 0) (Nat.le_of_ble_eq_true rfl) (own_lv l Z a0 hw x515 qa h619 n0 f624 f641) (by decide) (by decide) (by decide) (by decide) (argsL := []) (rest := []) rfl rfl fun v642 T642 L642 X642 q642 => ?_
  obtain ⟨rfl, M642, e642⟩ := q642
  have N642 := Fr.app N632 M642
  show own_Fin p e below _ (T642.setTop (mkF m 307 #[.val (.long m0), .second, .val (.int ep), .val (.int sp), .val (.long qa), .second, .val (.long qb), .second, .val (.int fl), .val (.int (0 : Int32)), .val (.int (1 : Int32)), .val (.ref b506), .val .null, .val (.ref b523), .val (.ref b547), .val (.ref b568), .val (.int (1 : Int32)), .val (.int (1 : Int32)), .val (.ref y545), .val (.int (1 : Int32))] [(.long qa)]))
  refine own_lload X642 hx (hb hby at_307) rfl ?_
  refine own_lcmp X642 hx (hb hby at_309) ?_
  refine own_ifNo X642 hx (hb hby at_310) (Jvm.Free.XT.ll_ne_f rfl) ?_
  refine own_iconst X642 hx (1 : Int32) (hb hby at_313) rfl ?_
  refine own_goto X642 hx 318 (hb hby at_314) (by decide) (by decide) ?_
  refine own_istore X642 hx (l' := #[.val (.long m0), .second, .val (.int ep), .val (.int sp), .val (.long qa), .second, .val (.long qb), .second, .val (.int fl), .val (.int (0 : Int32)), .val (.int (1 : Int32)), .val (.ref b506), .val .null, .val (.ref b523), .val (.ref b547), .val (.ref b568), .val (.int (1 : Int32)), .val (.int (1 : Int32)), .val (.ref y545), .val (.int (1 : Int32))]) (hb hby at_318) rfl ?_
  refine own_iload X642 hx (hb hby at_320) rfl ?_
  refine own_ifNo X642 hx (hb hby at_322) (by decide) ?_
  refine own_iload X642 hx (hb hby at_325) rfl ?_
  refine own_iconst X642 hx (2 : Int32) (hb hby at_327) rfl ?_
  refine own_icmpYes X642 hx 358 (hb hby at_328) (by decide) (by decide) (by decide) ?_
  refine own_iload X642 hx (hb hby at_358) rfl ?_
  refine own_ifNo X642 hx (hb hby at_360) (by decide) ?_
  refine own_iload X642 hx (hb hby at_363) rfl ?_
  refine own_ifNo X642 hx (hb hby at_365) (by decide) ?_
  refine own_iload X642 hx (hb hby at_368) rfl ?_
  refine own_ifNo X642 hx (hb hby at_370) (by decide) ?_
  refine own_iconst X642 hx (1 : Int32) (hb hby at_373) rfl ?_
  refine own_goto X642 hx 378 (hb hby at_374) (by decide) (by decide) ?_
  refine own_retNW (s := s) X642 hx hS557 (by rw [e642]; exact Nat.le_trans hk557 (Nat.le_trans (Nat.le_trans (Nat.le_trans (Nat.le_trans (Nat.le_trans (Nat.le_trans (Nat.le_trans (Nat.le_trans (Nat.le_trans (Nat.le_trans (Nat.le_trans (Nat.le_trans (Nat.le_refl _) K567.1) E568.1) (Nat.le_of_eq W577.size.symm)) (Nat.le_of_eq U577.size.symm)) E580.1) K586.1) E591.1) (Nat.le_of_eq W596.size.symm)) (Nat.le_of_eq W599.size.symm)) (Nat.le_of_eq W602.size.symm)) (Nat.le_of_eq W605.size.symm)) K619.1)) (t := .boolean) hret (by simp) (hb hby at_378) hlk (by decide) (by decide) ?_
  exact ⟨rfl, N642⟩
set_option maxRecDepth 65536 in
set_option maxHeartbeats 40000000 in
theorem own_law02 (l : Launch) (Z : State) (a0 : Array Value) (hw : ∀ d ∈ tables_1, d.before a0 Z = true) (m0 qa qb : Int64) (ep sp fl : Int32) (dc ca em el en mr : Addr) (dl cc nl : Cell) (h0 : Heap) (n0 : Nat) (OX : Old Z n0 h0) (hfl : fl &&& (1 : Int32) = 0) (hnn : Jvm.Free.XT.ushr fl (1 : Int32) % (3 : Int32) = (2 : Int32)) (S : Sta Z Z.heap "java/util/ArrayList" "DEFAULTCAPACITY_EMPTY_ELEMENTDATA" "[Ljava/lang/Object;" (.ref dc)) (A : Arr Z Z.heap dc dl (.object "java/lang/Object")) (hl : dl.slots.size.toInt32 = (0 : Int32)) (SC : Sta Z Z.heap "java/lang/Long$LongCache" "cache" "[Ljava/lang/Long;" (.ref ca)) (BC : Bxs Z ca cc "java/lang/Long" "J" 256 fun j => .long (j - 128).toInt64) (SE : Sta Z Z.heap "java/util/ImmutableCollections" "EMPTY" "Ljava/lang/Object;" (.ref em)) (EEM : Exa Z Z.heap em "java/lang/Object") (SL : Sta Z Z.heap "java/util/ImmutableCollections" "EMPTY_LIST" "Ljava/util/ImmutableCollections$ListN;" (.ref el)) (EEL : Exa Z Z.heap el "java/util/ImmutableCollections$ListN") (FN : Fld Z Z.heap el "java/util/ImmutableCollections$ListN" "elements" "[Ljava/lang/Object;" (.ref en)) (AN : Arr Z Z.heap en nl (.object "java/lang/Object")) (ln : nl.slots.size.toInt32 = (0 : Int32)) (MM : own_Mir Z "[Ljava/lang/Object;" mr) (NA : ∃ c t, Z.vm.findClass "java/util/ArrayList" = some c ∧ Z.vm.findClass "java/util/ImmutableCollections$List12" = some t ∧ Z.vm.assignable c t = false) (NB : ∃ c t, Z.vm.findClass "java/util/ArrayList" = some c ∧ Z.vm.findClass "java/util/ImmutableCollections$ListN" = some t ∧ Z.vm.assignable c t = false) (wS : ∀ a ∈ Bundle.stringAtoms, a.before a0 Z = true) :
    own_MetW l Z x code maxLocals ret room_1 #[(.long m0), (.int ep), (.int sp), (.long qa), (.long qb), (.int fl)] h0 (fun v h L => v = some (.int 1) ∧ Fr n0 L) := by
  refine own_bodyW (Ls := #[.val (.long m0), .second, .val (.int ep), .val (.int sp), .val (.long qa), .second, .val (.long qb), .second, .val (.int fl), .unset, .unset, .unset, .unset, .unset, .unset, .unset, .unset, .unset, .unset, .unset]) (plainFor_of_name own_pn_com_example_regent_regent_controller_MasterChangedApplyToPinLaw) (fun m => by first | (simp [entryFrame, mkF, argsToLocals, Value.category, maxLocals]; done) | rfl) ?_
  intro p e s m below meth c s₁ hx hZ hby hml hown hnm hret hlk X0 e0
  have N0 := Fr.nil n0
  refine own_iload X0 hx (hb hby at_0) rfl ?_
  refine own_iconst X0 hx (1 : Int32) (hb hby at_2) rfl ?_
  refine own_iand X0 hx (hb hby at_3) ?_
  refine own_ifYes X0 hx 11 (hb hby at_4) (by decide) (by decide) (Jvm.Free.XT.i0_eq_t hfl) ?_
  refine own_iconst X0 hx (0 : Int32) (hb hby at_11) rfl ?_
  refine own_istore X0 hx (l' := #[.val (.long m0), .second, .val (.int ep), .val (.int sp), .val (.long qa), .second, .val (.long qb), .second, .val (.int fl), .val (.int (0 : Int32)), .unset, .unset, .unset, .unset, .unset, .unset, .unset, .unset, .unset, .unset]) (hb hby at_12) rfl ?_
  refine own_iload X0 hx (hb hby at_14) rfl ?_
  refine own_iconst X0 hx (1 : Int32) (hb hby at_16) rfl ?_
  refine own_iushr X0 hx (hb hby at_17) ?_
  refine own_iconst X0 hx (3 : Int32) (hb hby at_18) rfl ?_
  refine own_irem X0 hx (hb hby at_19) (by decide) ?_
  rw [hnn]
  show own_Fin p e below _ (s₁.setTop (mkF m 20 #[.val (.long m0), .second, .val (.int ep), .val (.int sp), .val (.long qa), .second, .val (.long qb), .second, .val (.int fl), .val (.int (0 : Int32)), .unset, .unset, .unset, .unset, .unset, .unset, .unset, .unset, .unset, .unset] [(.int (2 : Int32))]))
  refine own_istore X0 hx (l' := #[.val (.long m0), .second, .val (.int ep), .val (.int sp), .val (.long qa), .second, .val (.long qb), .second, .val (.int fl), .val (.int (0 : Int32)), .val (.int (2 : Int32)), .unset, .unset, .unset, .unset, .unset, .unset, .unset, .unset, .unset]) (hb hby at_20) rfl ?_
  refine own_new X0 hx hZ hown (own_w0 hw) (own_w1 hw) (own_w2 hw) e0 (hb hby at_22) (by decide) (by decide) fun T643 h643 b643 X643 e643 g643 E643 A643 D643 => ?_
  have f644 : n0 ≤ b643 := Nat.le_trans (own_old OX) (Nat.le_of_eq g643.symm)
  have f645 : Fld Z h643 b643 "java/util/AbstractList" "modCount" "I" (.int (0 : Int32)) := D643 (Or.inl (own_w22 hw)) own_fd_I
  have f646 : Fld Z h643 b643 "java/util/ArrayList" "elementData" "[Ljava/lang/Object;" .null := D643 (Or.inl (own_w25 hw)) own_fd__5bLjava_2flang_2fObject_3b
  have f647 : Fld Z h643 b643 "java/util/ArrayList" "size" "I" (.int (0 : Int32)) := D643 (Or.inl (own_w54 hw)) own_fd_I
  refine own_dup X643 hx (hb hby at_25) rfl ?_
  have f648 := (OX.ext E643)
  refine own_spec X643 hx hZ rfl hown (own_w3 hw) (own_w4 hw) (own_w5 hw) (own_w2 hw) (by decide) e643 (hb hby at_26) (by rw [hml]; rfl) own_pd__28_29V rfl (W := 1) (Nat.le_of_ble_eq_true rfl) (own_ali l Z a0 hw b643 dc _ _ h643 n0 f648 A643 f645 f646 f644 S) (by decide) (by decide) (by decide) (by decide) (a := b643) (argsL := []) (rest := [(.ref b643)]) rfl rfl fun v649 T649 L649 X649 q649 => ?_
  obtain ⟨h649, e649⟩ : ∃ z, T649.heap = z := ⟨_, rfl⟩
  try dsimp only at q649
  rw [e649] at q649
  obtain ⟨rfl, M649, j649, W649, U649⟩ := q649
  have N649 := Fr.app N0 M649
  have f650 := (f646.other W649 (Or.inr (slot_ne (Or.inl (own_w25 hw)) (Or.inl (own_w22 hw)) (by decide) own_fd__5bLjava_2flang_2fObject_3b own_fd_I)))
  show own_Fin p e below _ (T649.setTop (mkF m 29 #[.val (.long m0), .second, .val (.int ep), .val (.int sp), .val (.long qa), .second, .val (.long qb), .second, .val (.int fl), .val (.int (0 : Int32)), .val (.int (2 : Int32)), .unset, .unset, .unset, .unset, .unset, .unset, .unset, .unset, .unset] [(.ref b643)]))
  refine own_astore X649 hx (l' := #[.val (.long m0), .second, .val (.int ep), .val (.int sp), .val (.long qa), .second, .val (.long qb), .second, .val (.int fl), .val (.int (0 : Int32)), .val (.int (2 : Int32)), .val (.ref b643), .unset, .unset, .unset, .unset, .unset, .unset, .unset, .unset]) (hb hby at_29) rfl rfl ?_
  refine own_iload X649 hx (hb hby at_31) rfl ?_
  refine own_iconst X649 hx (1 : Int32) (hb hby at_33) rfl ?_
  refine own_icmpNo X649 hx (hb hby at_34) (by decide) ?_
  refine own_aload X649 hx (hb hby at_37) rfl rfl ?_
  refine own_lload X649 hx (hb hby at_39) rfl ?_
  have f651 := ((f648.wr W649 f644).wr U649 f644)
  refine own_stat X649 hx hZ hown (own_w26 hw) (own_w27 hw) (own_w29 hw) (own_w28 hw) (by decide) e649 (hb hby at_41) (by rw [hml]; rfl) own_pd__28J_29Ljava_2flang_2fLong_3b rfl (W := 1) (Nat.le_of_ble_eq_true rfl) (own_lvo l Z a0 hw qa ca cc h649 n0 f651 SC BC) (by decide) (by decide) (by decide) (by decide) (argsL := [(.long qa)]) (rest := [(.ref b643)]) rfl rfl fun v652 T652 L652 X652 q652 => ?_
  obtain ⟨h652, e652⟩ : ∃ z, T652.heap = z := ⟨_, rfl⟩
  try dsimp only at q652
  rw [e652] at q652
  obtain ⟨x652, rfl, M652, E652, P652, F652⟩ := q652
  have N652 := Fr.app N649 M652
  show own_Fin p e below _ (T652.setTop (mkF m 44 #[.val (.long m0), .second, .val (.int ep), .val (.int sp), .val (.long qa), .second, .val (.long qb), .second, .val (.int fl), .val (.int (0 : Int32)), .val (.int (2 : Int32)), .val (.ref b643), .unset, .unset, .unset, .unset, .unset, .unset, .unset, .unset] [(.ref x652), (.ref b643)]))
  have f653 := (f651.ext E652)
  have f654 := (((A643.wr W649).wr U649).ext E652)
  have f655 := ((f650.same U649).ext E652)
  have f656 := (((f647.other W649 (Or.inr (slot_ne (Or.inl (own_w54 hw)) (Or.inl (own_w22 hw)) (by decide) own_fd_I own_fd_I))).other U649 (Or.inr (slot_ne (Or.inl (own_w54 hw)) (Or.inl (own_w25 hw)) (by decide) own_fd_I own_fd__5bLjava_2flang_2fObject_3b))).ext E652)
  have f657 := (((f645.same W649).other U649 (Or.inr (slot_ne (Or.inl (own_w22 hw)) (Or.inl (own_w25 hw)) (by decide) own_fd_I own_fd__5bLjava_2flang_2fObject_3b))).ext E652)
  refine own_virt X652 hx hZ hown (own_w46 hw) (own_w47 hw) (own_w49 hw) (own_w49 hw) (own_w48 hw) (own_w50 hw) (own_w2 hw) (by decide) e652 f654 (hb hby at_44) (by rw [hml]; rfl) own_pd__28Ljava_2flang_2fObject_3b_29Z rfl (W := 0) (Nat.le_of_ble_eq_true rfl) (own_ad1 l Z a0 hw b643 x652 dc dl (0 : Int32) h652 n0 f653 f654 f655 f644 f656 f657 P652 S A hl) (by decide) (by decide) (by decide) (by decide) (argsL := [(.ref x652)]) (rest := []) rfl rfl fun v658 T658 L658 X658 q658 => ?_
  obtain ⟨h658, e658⟩ : ∃ z, T658.heap = z := ⟨_, rfl⟩
  try dsimp only at q658
  rw [e658] at q658
  obtain ⟨rfl, M658, K658, p658, q658, r658, b658, k658, g658, s658, t658, u658, o658⟩ := q658
  have N658 := Fr.app N652 M658
  have f659 : n0 ≤ b658 := Nat.le_trans (own_old f653) g658
  show own_Fin p e below _ (T658.setTop (mkF m 47 #[.val (.long m0), .second, .val (.int ep), .val (.int sp), .val (.long qa), .second, .val (.long qb), .second, .val (.int fl), .val (.int (0 : Int32)), .val (.int (2 : Int32)), .val (.ref b643), .unset, .unset, .unset, .unset, .unset, .unset, .unset, .unset] [(.int (1 : Int32))]))
  refine own_pop X658 hx (hb hby at_47) rfl ?_
  refine own_iload X658 hx (hb hby at_48) rfl ?_
  refine own_iconst X658 hx (2 : Int32) (hb hby at_50) rfl ?_
  refine own_icmpNo X658 hx (hb hby at_51) (by decide) ?_
  refine own_aload X658 hx (hb hby at_54) rfl rfl ?_
  refine own_lload X658 hx (hb hby at_56) rfl ?_
  have f660 := (f653.keep K658 (allS f644 all0))
  refine own_stat X658 hx hZ hown (own_w26 hw) (own_w27 hw) (own_w29 hw) (own_w28 hw) (by decide) e658 (hb hby at_58) (by rw [hml]; rfl) own_pd__28J_29Ljava_2flang_2fLong_3b rfl (W := 1) (Nat.le_of_ble_eq_true rfl) (own_lvo l Z a0 hw qb ca cc h658 n0 f660 SC BC) (by decide) (by decide) (by decide) (by decide) (argsL := [(.long qb)]) (rest := [(.ref b643)]) rfl rfl fun v661 T661 L661 X661 q661 => ?_
  obtain ⟨h661, e661⟩ : ∃ z, T661.heap = z := ⟨_, rfl⟩
  try dsimp only at q661
  rw [e661] at q661
  obtain ⟨x661, rfl, M661, E661, P661, F661⟩ := q661
  have N661 := Fr.app N658 M661
  show own_Fin p e below _ (T661.setTop (mkF m 61 #[.val (.long m0), .second, .val (.int ep), .val (.int sp), .val (.long qa), .second, .val (.long qb), .second, .val (.int fl), .val (.int (0 : Int32)), .val (.int (2 : Int32)), .val (.ref b643), .unset, .unset, .unset, .unset, .unset, .unset, .unset, .unset] [(.ref x661), (.ref b643)]))
  have f662 := (f660.ext E661)
  have f663 := (p658.ext E661)
  have f664 := (s658.ext E661)
  have f665 := (q658.ext E661)
  have f666 := (r658.ext E661)
  have f667 := (t658.ext E661)
  have f668 := (u658.ext E661)
  refine own_virt X661 hx hZ hown (own_w46 hw) (own_w47 hw) (own_w49 hw) (own_w49 hw) (own_w48 hw) (own_w50 hw) (own_w2 hw) (by decide) e661 f663 (hb hby at_61) (by rw [hml]; rfl) own_pd__28Ljava_2flang_2fObject_3b_29Z rfl (W := 0) (Nat.le_of_ble_eq_true rfl) (own_ad2 l Z a0 hw b643 x661 x652 b658 k658 ((0 : Int32) + (1 : Int32)) h661 n0 f662 f663 f644 f659 f664 f665 f666 P661 f667 f668 o658) (by decide) (by decide) (by decide) (by decide) (argsL := [(.ref x661)]) (rest := []) rfl rfl fun v669 T669 L669 X669 q669 => ?_
  obtain ⟨h669, e669⟩ : ∃ z, T669.heap = z := ⟨_, rfl⟩
  try dsimp only at q669
  rw [e669] at q669
  obtain ⟨rfl, M669, K669, p669, q669, r669, s669, t669, u669⟩ := q669
  have N669 := Fr.app N661 M669
  show own_Fin p e below _ (T669.setTop (mkF m 64 #[.val (.long m0), .second, .val (.int ep), .val (.int sp), .val (.long qa), .second, .val (.long qb), .second, .val (.int fl), .val (.int (0 : Int32)), .val (.int (2 : Int32)), .val (.ref b643), .unset, .unset, .unset, .unset, .unset, .unset, .unset, .unset] [(.int (1 : Int32))]))
  refine own_pop X669 hx (hb hby at_64) rfl ?_
  refine own_iload X669 hx (hb hby at_65) rfl ?_
  refine own_ifYes X669 hx 77 (hb hby at_67) (by decide) (by decide) (by decide) ?_
  refine own_aconst_null X669 hx (hb hby at_77) ?_
  refine own_astore X669 hx (l' := #[.val (.long m0), .second, .val (.int ep), .val (.int sp), .val (.long qa), .second, .val (.long qb), .second, .val (.int fl), .val (.int (0 : Int32)), .val (.int (2 : Int32)), .val (.ref b643), .val .null, .unset, .unset, .unset, .unset, .unset, .unset, .unset]) (hb hby at_78) rfl rfl ?_
  refine own_new X669 hx hZ hown (own_w80 hw) (own_w81 hw) (own_w82 hw) e669 (hb hby at_80) (by decide) (by decide) fun T670 h670 b670 X670 e670 g670 E670 A670 D670 => ?_
  have f671 := (f662.keep K669 (allS f644 (allS f659 all0)))
  have f672 : n0 ≤ b670 := Nat.le_trans (own_old f671) (Nat.le_of_eq g670.symm)
  have f673 : Fld Z h670 b670 "com/example/regent/regent/controller/Event$MasterChanged" "group" "Ljava/lang/String;" .null := D670 (Or.inr (own_w187 hw)) own_fd_Ljava_2flang_2fString_3b
  have f674 : Fld Z h670 b670 "com/example/regent/regent/controller/Event$MasterChanged" "master" "Ljava/lang/Long;" .null := D670 (Or.inr (own_w189 hw)) own_fd_Ljava_2flang_2fLong_3b
  have f675 : Fld Z h670 b670 "com/example/regent/regent/controller/Event$MasterChanged" "masterEpoch" "I" (.int (0 : Int32)) := D670 (Or.inr (own_w191 hw)) own_fd_I
  have f676 : Fld Z h670 b670 "com/example/regent/regent/controller/Event$MasterChanged" "syncStateSet" "Ljava/util/List;" .null := D670 (Or.inr (own_w193 hw)) own_fd_Ljava_2futil_2fList_3b
  have f677 : Fld Z h670 b670 "com/example/regent/regent/controller/Event$MasterChanged" "syncStateSetEpoch" "I" (.int (0 : Int32)) := D670 (Or.inr (own_w195 hw)) own_fd_I
  refine own_dup X670 hx (hb hby at_83) rfl ?_
  refine own_ldcS (s := s) (vm0 := s.vm) X670 hx hZ hown (own_w83 hw) wS e670 ((State.WarmedH.refl s).since 0) (Nat.zero_le _) (hb hby at_84) 4 (by decide) (by decide) (by decide) (by decide) fun sg678 vm678 T678 h678 k678 X678 e678 E678 hS678 hk678 hZ678 ho678 => ?_
  refine own_aload X678 hx (hb hby at_86) rfl rfl ?_
  refine own_iloadN X678 hx (hb hby at_88) rfl ?_
  refine own_aload X678 hx (hb hby at_89) rfl rfl ?_
  refine own_iloadN X678 hx (hb hby at_91) rfl ?_
  have f679 := ((p669.ext E670).ext E678)
  have f680 := ((q669.ext E670).ext E678)
  have f681 := ((s669.ext E670).ext E678)
  have f682 := ((t669.ext E670).ext E678)
  have f683 := (((((P652.keep K658).ext E661).keep K669).ext E670).ext E678)
  have f684 := (((P661.keep K669).ext E670).ext E678)
  have f685 := ((u669.ext E670).ext E678)
  have f686 := ((f671.ext E670).ext E678)
  have f687 := (A670.ext E678)
  have f688 := (f673.ext E678)
  have f689 := (f674.ext E678)
  have f690 := (f675.ext E678)
  have f691 := (f676.ext E678)
  have f692 := (f677.ext E678)
  refine own_spec X678 hx hZ678 rfl ho678 (own_w91 hw) (own_w92 hw) (own_w93 hw) (own_w82 hw) (by decide) e678 (hb hby at_92) (by rw [hml]; rfl) own_pd__28Ljava_2flang_2fString_3bLjava_2flang_2fLong_3bILjava_2futil_2fList_3bI_29V rfl (W := 1) (Nat.le_of_ble_eq_true rfl) (own_ei02 l Z a0 hw b670 sg678 ep sp b643 em b658 mr x652 x661 k658 h678 n0 f686 f687 f672 f688 f689 f690 f691 f692 f679 f680 f681 f682 f683 f684 f685 MM SE NA NB) (by decide) (by decide) (by decide) (by decide) (a := b670) (argsL := [(.ref sg678), .null, (.int ep), (.ref b643), (.int sp)]) (rest := [(.ref b670)]) rfl rfl fun v693 T693 L693 X693 q693 => ?_
  obtain ⟨h693, e693⟩ : ∃ z, T693.heap = z := ⟨_, rfl⟩
  try dsimp only at q693
  rw [e693] at q693
  obtain ⟨rfl, M693, K693, y693, g693, ⟨u693, v693, z693⟩, p693, q693, r693, s693, t693⟩ := q693
  have N693 := Fr.app N669 M693
  have f694 : n0 ≤ y693 := Nat.le_trans (own_old f686) g693
  show own_Fin p e below _ (T693.setTop (mkF m 95 #[.val (.long m0), .second, .val (.int ep), .val (.int sp), .val (.long qa), .second, .val (.long qb), .second, .val (.int fl), .val (.int (0 : Int32)), .val (.int (2 : Int32)), .val (.ref b643), .val .null, .unset, .unset, .unset, .unset, .unset, .unset, .unset] [(.ref b670)]))
  refine own_astore X693 hx (l' := #[.val (.long m0), .second, .val (.int ep), .val (.int sp), .val (.long qa), .second, .val (.long qb), .second, .val (.int fl), .val (.int (0 : Int32)), .val (.int (2 : Int32)), .val (.ref b643), .val .null, .val (.ref b670), .unset, .unset, .unset, .unset, .unset, .unset]) (hb hby at_95) rfl rfl ?_
  refine own_new X693 hx hZ678 ho678 (own_w196 hw) (own_w197 hw) (own_w198 hw) e693 (hb hby at_97) (by decide) (by decide) fun T695 h695 b695 X695 e695 g695 E695 A695 D695 => ?_
  have f696 := (f686.keep K693 (allS f672 all0))
  have f697 : n0 ≤ b695 := Nat.le_trans (own_old f696) (Nat.le_of_eq g695.symm)
  have f698 : Fld Z h695 b695 "com/example/regent/regent/controller/Group" "registerCodes" "Ljava/util/NavigableMap;" .null := D695 (Or.inr (own_w223 hw)) own_fd_Ljava_2futil_2fNavigableMap_3b
  have f699 : Fld Z h695 b695 "com/example/regent/regent/controller/Group" "brokers" "Ljava/util/NavigableMap;" .null := D695 (Or.inr (own_w225 hw)) own_fd_Ljava_2futil_2fNavigableMap_3b
  have f700 : Fld Z h695 b695 "com/example/regent/regent/controller/Group" "syncStateSet" "Ljava/util/List;" .null := D695 (Or.inl (own_w231 hw)) own_fd_Ljava_2futil_2fList_3b
  have f701 : Fld Z h695 b695 "com/example/regent/regent/controller/Group" "name" "Ljava/lang/String;" .null := D695 (Or.inr (own_w233 hw)) own_fd_Ljava_2flang_2fString_3b
  have f702 : Fld Z h695 b695 "com/example/regent/regent/controller/Group" "master" "Ljava/lang/Long;" .null := D695 (Or.inl (own_w236 hw)) own_fd_Ljava_2flang_2fLong_3b
  have f703 : Fld Z h695 b695 "com/example/regent/regent/controller/Group" "masterEpoch" "I" (.int (0 : Int32)) := D695 (Or.inl (own_w238 hw)) own_fd_I
  have f704 : Fld Z h695 b695 "com/example/regent/regent/controller/Group" "syncStateSetEpoch" "I" (.int (0 : Int32)) := D695 (Or.inl (own_w241 hw)) own_fd_I
  refine own_dup X695 hx (hb hby at_100) rfl ?_
  refine own_ldcS (s := s) (vm0 := vm678) X695 hx hZ678 ho678 (own_w83 hw) wS e695 hS678 (Nat.le_trans hk678 (Nat.le_trans (Nat.le_trans (Nat.le_refl _) K693.1) E695.1)) (hb hby at_101) 4 (by decide) (by decide) (by decide) (by decide) fun sg705 vm705 T705 h705 k705 X705 e705 E705 hS705 hk705 hZ705 ho705 => ?_
  have f706 := ((f696.ext E695).ext E705)
  have f707 := (A695.ext E705)
  have f708 := (f698.ext E705)
  have f709 := (f699.ext E705)
  have f710 := (f700.ext E705)
  have f711 := (f701.ext E705)
  have f712 := (f702.ext E705)
  have f713 := (f703.ext E705)
  have f714 := (f704.ext E705)
  refine own_spec X705 hx hZ705 rfl ho705 (own_w199 hw) (own_w200 hw) (own_w201 hw) (own_w198 hw) (by decide) e705 (hb hby at_103) (by rw [hml]; rfl) own_pd__28Ljava_2flang_2fString_3b_29V rfl (W := 1) (Nat.le_of_ble_eq_true rfl) (own_gri l Z a0 hw b695 sg705 el h705 n0 f706 f707 f697 f708 f709 f710 f711 f712 f713 f714 SL) (by decide) (by decide) (by decide) (by decide) (a := b695) (argsL := [(.ref sg705)]) (rest := [(.ref b695)]) rfl rfl fun v715 T715 L715 X715 q715 => ?_
  obtain ⟨h715, e715⟩ : ∃ z, T715.heap = z := ⟨_, rfl⟩
  try dsimp only at q715
  rw [e715] at q715
  obtain ⟨rfl, M715, K715, p715, q715, r715, s715, t715⟩ := q715
  have N715 := Fr.app N693 M715
  show own_Fin p e below _ (T715.setTop (mkF m 106 #[.val (.long m0), .second, .val (.int ep), .val (.int sp), .val (.long qa), .second, .val (.long qb), .second, .val (.int fl), .val (.int (0 : Int32)), .val (.int (2 : Int32)), .val (.ref b643), .val .null, .val (.ref b670), .unset, .unset, .unset, .unset, .unset, .unset] [(.ref b695)]))
  refine own_astore X715 hx (l' := #[.val (.long m0), .second, .val (.int ep), .val (.int sp), .val (.long qa), .second, .val (.long qb), .second, .val (.int fl), .val (.int (0 : Int32)), .val (.int (2 : Int32)), .val (.ref b643), .val .null, .val (.ref b670), .val (.ref b695), .unset, .unset, .unset, .unset, .unset]) (hb hby at_106) rfl rfl ?_
  refine own_new X715 hx hZ705 ho705 (own_w0 hw) (own_w1 hw) (own_w2 hw) e715 (hb hby at_108) (by decide) (by decide) fun T716 h716 b716 X716 e716 g716 E716 A716 D716 => ?_
  have f717 := ((((f679.keep K693).ext E695).ext E705).keep K715)
  have f718 := Nat.ne_of_lt (Nat.lt_of_lt_of_le f717.lt (Nat.le_of_eq g716.symm))
  have f719 := (f706.keep K715 (allS f697 all0))
  have f720 : n0 ≤ b716 := Nat.le_trans (own_old f719) (Nat.le_of_eq g716.symm)
  have f721 : Fld Z h716 b716 "java/util/AbstractList" "modCount" "I" (.int (0 : Int32)) := D716 (Or.inl (own_w22 hw)) own_fd_I
  have f722 : Fld Z h716 b716 "java/util/ArrayList" "elementData" "[Ljava/lang/Object;" .null := D716 (Or.inl (own_w25 hw)) own_fd__5bLjava_2flang_2fObject_3b
  have f723 : Fld Z h716 b716 "java/util/ArrayList" "size" "I" (.int (0 : Int32)) := D716 (Or.inl (own_w54 hw)) own_fd_I
  refine own_dup X716 hx (hb hby at_111) rfl ?_
  have f724 := (f719.ext E716)
  refine own_spec X716 hx hZ705 rfl ho705 (own_w3 hw) (own_w4 hw) (own_w5 hw) (own_w2 hw) (by decide) e716 (hb hby at_112) (by rw [hml]; rfl) own_pd__28_29V rfl (W := 1) (Nat.le_of_ble_eq_true rfl) (own_ali l Z a0 hw b716 dc _ _ h716 n0 f724 A716 f721 f722 f720 S) (by decide) (by decide) (by decide) (by decide) (a := b716) (argsL := []) (rest := [(.ref b716)]) rfl rfl fun v725 T725 L725 X725 q725 => ?_
  obtain ⟨h725, e725⟩ : ∃ z, T725.heap = z := ⟨_, rfl⟩
  try dsimp only at q725
  rw [e725] at q725
  obtain ⟨rfl, M725, j725, W725, U725⟩ := q725
  have N725 := Fr.app N715 M725
  have f726 := (f722.other W725 (Or.inr (slot_ne (Or.inl (own_w25 hw)) (Or.inl (own_w22 hw)) (by decide) own_fd__5bLjava_2flang_2fObject_3b own_fd_I)))
  show own_Fin p e below _ (T725.setTop (mkF m 115 #[.val (.long m0), .second, .val (.int ep), .val (.int sp), .val (.long qa), .second, .val (.long qb), .second, .val (.int fl), .val (.int (0 : Int32)), .val (.int (2 : Int32)), .val (.ref b643), .val .null, .val (.ref b670), .val (.ref b695), .unset, .unset, .unset, .unset, .unset] [(.ref b716)]))
  refine own_astore X725 hx (l' := #[.val (.long m0), .second, .val (.int ep), .val (.int sp), .val (.long qa), .second, .val (.long qb), .second, .val (.int fl), .val (.int (0 : Int32)), .val (.int (2 : Int32)), .val (.ref b643), .val .null, .val (.ref b670), .val (.ref b695), .val (.ref b716), .unset, .unset, .unset, .unset]) (hb hby at_115) rfl rfl ?_
  refine own_aload X725 hx (hb hby at_117) rfl rfl ?_
  refine own_lload X725 hx (hb hby at_119) rfl ?_
  refine own_ldc2J X725 hx hZ705 ho705 (own_w234 hw) (hb hby at_121) ?_
  refine own_lxor X725 hx (hb hby at_124) ?_
  have f727 := ((f724.wr W725 f720).wr U725 f720)
  refine own_stat X725 hx hZ705 ho705 (own_w26 hw) (own_w27 hw) (own_w29 hw) (own_w28 hw) (by decide) e725 (hb hby at_125) (by rw [hml]; rfl) own_pd__28J_29Ljava_2flang_2fLong_3b rfl (W := 1) (Nat.le_of_ble_eq_true rfl) (own_lvo l Z a0 hw (qa ^^^ (-1 : Int64)) ca cc h725 n0 f727 SC BC) (by decide) (by decide) (by decide) (by decide) (argsL := [(.long (qa ^^^ (-1 : Int64)))]) (rest := [(.ref b716)]) rfl rfl fun v728 T728 L728 X728 q728 => ?_
  obtain ⟨h728, e728⟩ : ∃ z, T728.heap = z := ⟨_, rfl⟩
  try dsimp only at q728
  rw [e728] at q728
  obtain ⟨x728, rfl, M728, E728, P728, F728⟩ := q728
  have N728 := Fr.app N725 M728
  show own_Fin p e below _ (T728.setTop (mkF m 128 #[.val (.long m0), .second, .val (.int ep), .val (.int sp), .val (.long qa), .second, .val (.long qb), .second, .val (.int fl), .val (.int (0 : Int32)), .val (.int (2 : Int32)), .val (.ref b643), .val .null, .val (.ref b670), .val (.ref b695), .val (.ref b716), .unset, .unset, .unset, .unset] [(.ref x728), (.ref b716)]))
  have f729 := (f727.ext E728)
  have f730 := (((A716.wr W725).wr U725).ext E728)
  have f731 := ((f726.same U725).ext E728)
  have f732 := (((f723.other W725 (Or.inr (slot_ne (Or.inl (own_w54 hw)) (Or.inl (own_w22 hw)) (by decide) own_fd_I own_fd_I))).other U725 (Or.inr (slot_ne (Or.inl (own_w54 hw)) (Or.inl (own_w25 hw)) (by decide) own_fd_I own_fd__5bLjava_2flang_2fObject_3b))).ext E728)
  have f733 := (((f721.same W725).other U725 (Or.inr (slot_ne (Or.inl (own_w22 hw)) (Or.inl (own_w25 hw)) (by decide) own_fd_I own_fd__5bLjava_2flang_2fObject_3b))).ext E728)
  refine own_virt X728 hx hZ705 ho705 (own_w46 hw) (own_w47 hw) (own_w49 hw) (own_w49 hw) (own_w48 hw) (own_w50 hw) (own_w2 hw) (by decide) e728 f730 (hb hby at_128) (by rw [hml]; rfl) own_pd__28Ljava_2flang_2fObject_3b_29Z rfl (W := 0) (Nat.le_of_ble_eq_true rfl) (own_ad1 l Z a0 hw b716 x728 dc dl (0 : Int32) h728 n0 f729 f730 f731 f720 f732 f733 P728 S A hl) (by decide) (by decide) (by decide) (by decide) (argsL := [(.ref x728)]) (rest := []) rfl rfl fun v734 T734 L734 X734 q734 => ?_
  obtain ⟨h734, e734⟩ : ∃ z, T734.heap = z := ⟨_, rfl⟩
  try dsimp only at q734
  rw [e734] at q734
  obtain ⟨rfl, M734, K734, p734, q734, r734, b734, k734, g734, s734, t734, u734, o734⟩ := q734
  have N734 := Fr.app N728 M734
  have f735 := ((((((((f685.keep K693).ext E695).ext E705).keep K715).ext E716).wr W725).wr U725).ext E728)
  have f736 := Nat.ne_of_lt (Nat.lt_of_lt_of_le f735.lt g734)
  have f737 : n0 ≤ b734 := Nat.le_trans (own_old f729) g734
  show own_Fin p e below _ (T734.setTop (mkF m 131 #[.val (.long m0), .second, .val (.int ep), .val (.int sp), .val (.long qa), .second, .val (.long qb), .second, .val (.int fl), .val (.int (0 : Int32)), .val (.int (2 : Int32)), .val (.ref b643), .val .null, .val (.ref b670), .val (.ref b695), .val (.ref b716), .unset, .unset, .unset, .unset] [(.int (1 : Int32))]))
  refine own_pop X734 hx (hb hby at_131) rfl ?_
  refine own_aload X734 hx (hb hby at_132) rfl rfl ?_
  refine own_lloadN X734 hx (hb hby at_134) rfl ?_
  refine own_ldc2J X734 hx hZ705 ho705 (own_w234 hw) (hb hby at_135) ?_
  refine own_lxor X734 hx (hb hby at_138) ?_
  have f738 := (f729.keep K734 (allS f720 all0))
  refine own_stat X734 hx hZ705 ho705 (own_w26 hw) (own_w27 hw) (own_w29 hw) (own_w28 hw) (by decide) e734 (hb hby at_139) (by rw [hml]; rfl) own_pd__28J_29Ljava_2flang_2fLong_3b rfl (W := 1) (Nat.le_of_ble_eq_true rfl) (own_lvo l Z a0 hw (m0 ^^^ (-1 : Int64)) ca cc h734 n0 f738 SC BC) (by decide) (by decide) (by decide) (by decide) (argsL := [(.long (m0 ^^^ (-1 : Int64)))]) (rest := [(.ref b695)]) rfl rfl fun v739 T739 L739 X739 q739 => ?_
  obtain ⟨h739, e739⟩ : ∃ z, T739.heap = z := ⟨_, rfl⟩
  try dsimp only at q739
  rw [e739] at q739
  obtain ⟨x739, rfl, M739, E739, P739, F739⟩ := q739
  have N739 := Fr.app N734 M739
  show own_Fin p e below _ (T739.setTop (mkF m 142 #[.val (.long m0), .second, .val (.int ep), .val (.int sp), .val (.long qa), .second, .val (.long qb), .second, .val (.int fl), .val (.int (0 : Int32)), .val (.int (2 : Int32)), .val (.ref b643), .val .null, .val (.ref b670), .val (.ref b695), .val (.ref b716), .unset, .unset, .unset, .unset] [(.ref x739), (.ref b695)]))
  have f740 := ((((((p715.ext E716).wr W725).wr U725).ext E728).keep K734).ext E739)
  have f741 := (p734.ext E739)
  have f742 := ne_exa f740 f741 (by decide)
  have f743 := ((((((q715.ext E716).other W725 (Or.inl f742)).other U725 (Or.inl f742)).ext E728).keep K734 (ninS f742 nin0)).ext E739)
  refine own_putfield X739 hx hZ705 (host := "") ho705 (Or.inl (own_w235 hw)) Via.refl e739 f743 f740 (Or.inl (own_w236 hw)) (own_w197 hw) own_fd_Ljava_2flang_2fLong_3b rfl rfl (hb hby at_142) fun T744 h744 X744 e744 W744 => ?_
  have N744 := Fr.snoc X744 N739 f697
  refine own_aload X744 hx (hb hby at_145) rfl rfl ?_
  refine own_iloadN X744 hx (hb hby at_147) rfl ?_
  refine own_iconst X744 hx (-1 : Int32) (hb hby at_148) rfl ?_
  refine own_ixor X744 hx (hb hby at_149) ?_
  have f745 := (((((((r715.ext E716).other W725 (Or.inl f742)).other U725 (Or.inl f742)).ext E728).keep K734 (ninS f742 nin0)).ext E739).other W744 (Or.inr (slot_ne (Or.inl (own_w238 hw)) (Or.inl (own_w236 hw)) (by decide) own_fd_I own_fd_Ljava_2flang_2fLong_3b)))
  have f746 := (f740.wr W744)
  refine own_putfield X744 hx hZ705 (host := "") ho705 (Or.inl (own_w237 hw)) Via.refl e744 f745 f746 (Or.inl (own_w238 hw)) (own_w197 hw) own_fd_I rfl rfl (hb hby at_150) fun T747 h747 X747 e747 W747 => ?_
  have N747 := Fr.snoc X747 N744 f697
  refine own_aload X747 hx (hb hby at_153) rfl rfl ?_
  refine own_aload X747 hx (hb hby at_155) rfl rfl ?_
  have f748 := ((((((((s715.ext E716).other W725 (Or.inl f742)).other U725 (Or.inl f742)).ext E728).keep K734 (ninS f742 nin0)).ext E739).other W744 (Or.inr (slot_ne (Or.inl (own_w231 hw)) (Or.inl (own_w236 hw)) (by decide) own_fd_Ljava_2futil_2fList_3b own_fd_Ljava_2flang_2fLong_3b))).other W747 (Or.inr (slot_ne (Or.inl (own_w231 hw)) (Or.inl (own_w238 hw)) (by decide) own_fd_Ljava_2futil_2fList_3b own_fd_I)))
  have f749 := (f746.wr W747)
  refine own_putfield X747 hx hZ705 (host := "") ho705 (Or.inl (own_w239 hw)) Via.refl e747 f748 f749 (Or.inl (own_w231 hw)) (own_w197 hw) own_fd_Ljava_2futil_2fList_3b rfl rfl (hb hby at_157) fun T750 h750 X750 e750 W750 => ?_
  have N750 := Fr.snoc X750 N747 f697
  refine own_aload X750 hx (hb hby at_160) rfl rfl ?_
  refine own_iloadN X750 hx (hb hby at_162) rfl ?_
  refine own_iconst X750 hx (-1 : Int32) (hb hby at_163) rfl ?_
  refine own_ixor X750 hx (hb hby at_164) ?_
  have f751 := (((((((((t715.ext E716).other W725 (Or.inl f742)).other U725 (Or.inl f742)).ext E728).keep K734 (ninS f742 nin0)).ext E739).other W744 (Or.inr (slot_ne (Or.inl (own_w241 hw)) (Or.inl (own_w236 hw)) (by decide) own_fd_I own_fd_Ljava_2flang_2fLong_3b))).other W747 (Or.inr (slot_ne (Or.inl (own_w241 hw)) (Or.inl (own_w238 hw)) (by decide) own_fd_I own_fd_I))).other W750 (Or.inr (slot_ne (Or.inl (own_w241 hw)) (Or.inl (own_w231 hw)) (by decide) own_fd_I own_fd_Ljava_2futil_2fList_3b)))
  have f752 := (f749.wr W750)
  refine own_putfield X750 hx hZ705 (host := "") ho705 (Or.inl (own_w240 hw)) Via.refl e750 f751 f752 (Or.inl (own_w241 hw)) (own_w197 hw) own_fd_I rfl rfl (hb hby at_165) fun T753 h753 X753 e753 W753 => ?_
  have N753 := Fr.snoc X753 N750 f697
  refine own_aload X753 hx (hb hby at_168) rfl rfl ?_
  refine own_aload X753 hx (hb hby at_170) rfl rfl ?_
  have f754 := (((((f738.ext E739).wr W744 f697).wr W747 f697).wr W750 f697).wr W753 f697)
  have f755 := (((((((((((((p693.ext E695).ext E705).keep K715).ext E716).wr W725).wr U725).ext E728).keep K734).ext E739).wr W744).wr W747).wr W750).wr W753)
  have f756 := (f752.wr W753)
  have f757 := ne_exa f755 f756 (by decide)
  have f758 := ((((f741.wr W744).wr W747).wr W750).wr W753)
  have f759 := ne_exa f755 f758 (by decide)
  have f760 := (((((((((((((q693.ext E695).ext E705).keep K715 (ninS f757 nin0)).ext E716).other W725 (Or.inl f759)).other U725 (Or.inl f759)).ext E728).keep K734 (ninS f759 nin0)).ext E739).other W744 (Or.inl f757)).other W747 (Or.inl f757)).other W750 (Or.inl f757)).other W753 (Or.inl f757))
  have f761 := (((((((((((((r693.ext E695).ext E705).keep K715 (ninS f757 nin0)).ext E716).other W725 (Or.inl f759)).other U725 (Or.inl f759)).ext E728).keep K734 (ninS f759 nin0)).ext E739).other W744 (Or.inl f757)).other W747 (Or.inl f757)).other W750 (Or.inl f757)).other W753 (Or.inl f757))
  have f762 := (((((((((((((s693.ext E695).ext E705).keep K715 (ninS f757 nin0)).ext E716).other W725 (Or.inl f759)).other U725 (Or.inl f759)).ext E728).keep K734 (ninS f759 nin0)).ext E739).other W744 (Or.inl f757)).other W747 (Or.inl f757)).other W750 (Or.inl f757)).other W753 (Or.inl f757))
  have f763 := (((((((((((((t693.ext E695).ext E705).keep K715 (ninS f757 nin0)).ext E716).other W725 (Or.inl f759)).other U725 (Or.inl f759)).ext E728).keep K734 (ninS f759 nin0)).ext E739).other W744 (Or.inl f757)).other W747 (Or.inl f757)).other W750 (Or.inl f757)).other W753 (Or.inl f757))
  have f764 := ((((f743.same W744).other W747 (Or.inr (slot_ne (Or.inl (own_w236 hw)) (Or.inl (own_w238 hw)) (by decide) own_fd_Ljava_2flang_2fLong_3b own_fd_I))).other W750 (Or.inr (slot_ne (Or.inl (own_w236 hw)) (Or.inl (own_w231 hw)) (by decide) own_fd_Ljava_2flang_2fLong_3b own_fd_Ljava_2futil_2fList_3b))).other W753 (Or.inr (slot_ne (Or.inl (own_w236 hw)) (Or.inl (own_w241 hw)) (by decide) own_fd_Ljava_2flang_2fLong_3b own_fd_I)))
  have f765 := (((f745.same W747).other W750 (Or.inr (slot_ne (Or.inl (own_w238 hw)) (Or.inl (own_w231 hw)) (by decide) own_fd_I own_fd_Ljava_2futil_2fList_3b))).other W753 (Or.inr (slot_ne (Or.inl (own_w238 hw)) (Or.inl (own_w241 hw)) (by decide) own_fd_I own_fd_I)))
  have f766 := ((f748.same W750).other W753 (Or.inr (slot_ne (Or.inl (own_w231 hw)) (Or.inl (own_w241 hw)) (by decide) own_fd_Ljava_2futil_2fList_3b own_fd_I)))
  refine own_virt X753 hx hZ705 ho705 (own_w242 hw) (own_w243 hw) (own_w245 hw) (own_w245 hw) (own_w244 hw) (own_w246 hw) (own_w82 hw) (by decide) e753 f755 (hb hby at_172) (by rw [hml]; rfl) own_pd__28Lcom_2fexample_2fregent_2fregent_2fcontroller_2fGroup_3b_29V rfl (W := 0) (Nat.le_of_ble_eq_true rfl) (own_ap0 l Z a0 hw b670 b695 y693 ep sp _ _ _ _ h753 n0 f754 f755 f756 f697 f760 f761 f762 f763 f764 f765 f766 (f751.same W753)) (by decide) (by decide) (by decide) (by decide) (argsL := [(.ref b695)]) (rest := []) rfl rfl fun v767 T767 L767 X767 q767 => ?_
  obtain ⟨h767, e767⟩ : ∃ z, T767.heap = z := ⟨_, rfl⟩
  try dsimp only at q767
  rw [e767] at q767
  obtain ⟨rfl, M767, K767, p767, q767, r767, s767, t767⟩ := q767
  have N767 := Fr.app N753 M767
  show own_Fin p e below _ (T767.setTop (mkF m 175 #[.val (.long m0), .second, .val (.int ep), .val (.int sp), .val (.long qa), .second, .val (.long qb), .second, .val (.int fl), .val (.int (0 : Int32)), .val (.int (2 : Int32)), .val (.ref b643), .val .null, .val (.ref b670), .val (.ref b695), .val (.ref b716), .unset, .unset, .unset, .unset] []))
  refine own_iload X767 hx (hb hby at_175) rfl ?_
  refine own_ifYes X767 hx 211 (hb hby at_177) (by decide) (by decide) (by decide) ?_
  refine own_aload X767 hx (hb hby at_211) rfl rfl ?_
  refine own_getfield X767 hx hZ705 (host := "") ho705 (Or.inl (own_w235 hw)) Via.refl e767 q767 (hb hby at_213) fun T768 X768 e768 => ?_
  refine own_ifnonnullNo X768 hx (hb hby at_216) ?_
  refine own_iconst X768 hx (1 : Int32) (hb hby at_219) rfl ?_
  refine own_goto X768 hx 224 (hb hby at_220) (by decide) (by decide) ?_
  refine own_istore X768 hx (l' := #[.val (.long m0), .second, .val (.int ep), .val (.int sp), .val (.long qa), .second, .val (.long qb), .second, .val (.int fl), .val (.int (0 : Int32)), .val (.int (2 : Int32)), .val (.ref b643), .val .null, .val (.ref b670), .val (.ref b695), .val (.ref b716), .val (.int (1 : Int32)), .unset, .unset, .unset]) (hb hby at_224) rfl ?_
  refine own_aload X768 hx (hb hby at_226) rfl rfl ?_
  refine own_getfield X768 hx hZ705 (host := "") ho705 (Or.inl (own_w237 hw)) Via.refl e768 r767 (hb hby at_228) fun T769 X769 e769 => ?_
  refine own_iloadN X769 hx (hb hby at_231) rfl ?_
  refine own_icmpNo X769 hx (hb hby at_232) (Jvm.Free.XT.ii_ne_f rfl) ?_
  refine own_aload X769 hx (hb hby at_235) rfl rfl ?_
  refine own_getfield X769 hx hZ705 (host := "") ho705 (Or.inl (own_w240 hw)) Via.refl e769 t767 (hb hby at_237) fun T770 X770 e770 => ?_
  refine own_iloadN X770 hx (hb hby at_240) rfl ?_
  refine own_icmpNo X770 hx (hb hby at_241) (Jvm.Free.XT.ii_ne_f rfl) ?_
  refine own_iconst X770 hx (1 : Int32) (hb hby at_244) rfl ?_
  refine own_goto X770 hx 249 (hb hby at_245) (by decide) (by decide) ?_
  refine own_istore X770 hx (l' := #[.val (.long m0), .second, .val (.int ep), .val (.int sp), .val (.long qa), .second, .val (.long qb), .second, .val (.int fl), .val (.int (0 : Int32)), .val (.int (2 : Int32)), .val (.ref b643), .val .null, .val (.ref b670), .val (.ref b695), .val (.ref b716), .val (.int (1 : Int32)), .val (.int (1 : Int32)), .unset, .unset]) (hb hby at_249) rfl ?_
  refine own_aload X770 hx (hb hby at_251) rfl rfl ?_
  refine own_getfield X770 hx hZ705 (host := "") ho705 (Or.inl (own_w239 hw)) Via.refl e770 s767 (hb hby at_253) fun T771 X771 e771 => ?_
  refine own_astore X771 hx (l' := #[.val (.long m0), .second, .val (.int ep), .val (.int sp), .val (.long qa), .second, .val (.long qb), .second, .val (.int fl), .val (.int (0 : Int32)), .val (.int (2 : Int32)), .val (.ref b643), .val .null, .val (.ref b670), .val (.ref b695), .val (.ref b716), .val (.int (1 : Int32)), .val (.int (1 : Int32)), .val (.ref y693), .unset]) (hb hby at_256) rfl rfl ?_
  refine own_aload X771 hx (hb hby at_258) rfl rfl ?_
  refine own_ifnullNo X771 hx (hb hby at_260) ?_
  refine own_aload X771 hx (hb hby at_263) rfl rfl ?_
  have f772 := (((((((((((((((f684.keep K693).ext E695).ext E705).keep K715).ext E716).wr W725).wr U725).ext E728).keep K734).ext E739).wr W744).wr W747).wr W750).wr W753).keep K767)
  have f773 := (f754.keep K767 (allS f697 all0))
  have f774 := ne_exa f772 (EEM.ext f773.2) (by decide)
  have f775 := ((((((((((((((u693.ext E695).ext E705).keep K715).ext E716).wr W725).wr U725).ext E728).keep K734).ext E739).wr W744).wr W747).wr W750).wr W753).keep K767)
  have f776 := ne_exa f775 p767 (by decide)
  have f777 := (f758.keep K767)
  have f778 := ne_exa f775 f777 (by decide)
  have f779 := ((((((((((((((z693.ext E695).ext E705).keep K715 (ninS f776 nin0)).ext E716).other W725 (Or.inl f778)).other U725 (Or.inl f778)).ext E728).keep K734 (ninS f778 nin0)).ext E739).other W744 (Or.inl f776)).other W747 (Or.inl f776)).other W750 (Or.inl f776)).other W753 (Or.inl f776)).keep K767 (ninS f776 nin0))
  refine own_intf X771 hx hZ705 ho705 (own_w256 hw) (own_w257 hw) (own_w258 hw) (own_w259 hw) (own_w260 hw) (own_w261 hw) (own_w262 hw) (own_w263 hw) (own_w264 hw) (own_w158 hw) (by decide) e771 f775 (hb hby at_265) (by rw [hml]; rfl) own_pd__28_29I rfl (W := 0) (Nat.le_of_ble_eq_true rfl) (own_sz2 l Z a0 hw y693 em x661 h767 n0 f773 f779 SE f774) (by decide) (by decide) (by decide) (by decide) (argsL := []) (rest := []) rfl rfl fun v780 T780 L780 X780 q780 => ?_
  obtain ⟨rfl, M780, e780⟩ := q780
  have N780 := Fr.app N767 M780
  show own_Fin p e below _ (T780.setTop (mkF m 270 #[.val (.long m0), .second, .val (.int ep), .val (.int sp), .val (.long qa), .second, .val (.long qb), .second, .val (.int fl), .val (.int (0 : Int32)), .val (.int (2 : Int32)), .val (.ref b643), .val .null, .val (.ref b670), .val (.ref b695), .val (.ref b716), .val (.int (1 : Int32)), .val (.int (1 : Int32)), .val (.ref y693), .unset] [(.int (2 : Int32))]))
  refine own_iload X780 hx (hb hby at_270) rfl ?_
  refine own_icmpNo X780 hx (hb hby at_272) (by decide) ?_
  refine own_iconst X780 hx (1 : Int32) (hb hby at_275) rfl ?_
  refine own_goto X780 hx 280 (hb hby at_276) (by decide) (by decide) ?_
  refine own_istore X780 hx (l' := #[.val (.long m0), .second, .val (.int ep), .val (.int sp), .val (.long qa), .second, .val (.long qb), .second, .val (.int fl), .val (.int (0 : Int32)), .val (.int (2 : Int32)), .val (.ref b643), .val .null, .val (.ref b670), .val (.ref b695), .val (.ref b716), .val (.int (1 : Int32)), .val (.int (1 : Int32)), .val (.ref y693), .val (.int (1 : Int32))]) (hb hby at_280) rfl ?_
  refine own_iload X780 hx (hb hby at_282) rfl ?_
  refine own_ifNo X780 hx (hb hby at_284) (by decide) ?_
  refine own_iload X780 hx (hb hby at_287) rfl ?_
  refine own_iconst X780 hx (1 : Int32) (hb hby at_289) rfl ?_
  refine own_icmpNo X780 hx (hb hby at_290) (by decide) ?_
  refine own_aload X780 hx (hb hby at_293) rfl rfl ?_
  refine own_iconst X780 hx (0 : Int32) (hb hby at_295) rfl ?_
  have f781 := ((((((((((((((v693.ext E695).ext E705).keep K715 (ninS f776 nin0)).ext E716).other W725 (Or.inl f778)).other U725 (Or.inl f778)).ext E728).keep K734 (ninS f778 nin0)).ext E739).other W744 (Or.inl f776)).other W747 (Or.inl f776)).other W750 (Or.inl f776)).other W753 (Or.inl f776)).keep K767 (ninS f776 nin0))
  refine own_intf X780 hx hZ705 ho705 (own_w265 hw) (own_w266 hw) (own_w267 hw) (own_w268 hw) (own_w269 hw) (own_w270 hw) (own_w271 hw) (own_w263 hw) (own_w272 hw) (own_w158 hw) (by decide) e780 f775 (hb hby at_296) (by rw [hml]; rfl) own_pd__28I_29Ljava_2flang_2fObject_3b rfl (W := 0) (Nat.le_of_ble_eq_true rfl) (own_ge0 l Z a0 hw y693 x652 h767 n0 f773 f781) (by decide) (by decide) (by decide) (by decide) (argsL := [(.int (0 : Int32))]) (rest := []) rfl rfl fun v782 T782 L782 X782 q782 => ?_
  obtain ⟨rfl, M782, e782⟩ := q782
  have N782 := Fr.app N780 M782
  show own_Fin p e below _ (T782.setTop (mkF m 301 #[.val (.long m0), .second, .val (.int ep), .val (.int sp), .val (.long qa), .second, .val (.long qb), .second, .val (.int fl), .val (.int (0 : Int32)), .val (.int (2 : Int32)), .val (.ref b643), .val .null, .val (.ref b670), .val (.ref b695), .val (.ref b716), .val (.int (1 : Int32)), .val (.int (1 : Int32)), .val (.ref y693), .val (.int (1 : Int32))] [(.ref x652)]))
  have f784 := (((((((((((((((f683.keep K693).ext E695).ext E705).keep K715).ext E716).wr W725).wr U725).ext E728).keep K734).ext E739).wr W744).wr W747).wr W750).wr W753).keep K767)
  refine own_checkcast X782 hx hZ705 ho705 (own_w273 hw) e782 (Ins.self f784) (hb hby at_301) fun T783 X783 e783 => ?_
  have f785 := (((((((((((f717.ext E716).wr W725).wr U725).ext E728).keep K734).ext E739).wr W744).wr W747).wr W750).wr W753).keep K767)
  have f786 := ne_exa f784 f785 (by decide)
  have f787 := (((((((f735.keep K734).ext E739).wr W744).wr W747).wr W750).wr W753).keep K767)
  have f788 := ne_exa f784 f787 (by decide)
  have f789 := (f755.keep K767)
  have f790 := ne_exa f784 f789 (by decide)
  have f791 := ne_exa f784 p767 (by decide)
  have f792 := ne_exa f784 f777 (by decide)
  have f793 := ((((((((((((((((((((F652.keep K658 (ninS f786 nin0)).ext E661).keep K669 (ninS f786 (ninS f788 nin0))).ext E670).ext E678).keep K693 (ninS f790 nin0)).ext E695).ext E705).keep K715 (ninS f791 nin0)).ext E716).other W725 (Or.inl f792)).other U725 (Or.inl f792)).ext E728).keep K734 (ninS f792 nin0)).ext E739).other W744 (Or.inl f791)).other W747 (Or.inl f791)).other W750 (Or.inl f791)).other W753 (Or.inl f791)).keep K767 (ninS f791 nin0))
  refine own_virt X783 hx hZ705 ho705 (own_w251 hw) (own_w252 hw) (own_w254 hw) (own_w254 hw) (own_w253 hw) (own_w255 hw) (own_w28 hw) (by decide) e783 f784 (hb hby at_304) (by rw [hml]; rfl) own_pd__28_29J rfl (W := 0) (Nat.le_of_ble_eq_true rfl) (own_lv l Z a0 hw x652 qa h767 n0 f773 f793) (by decide) (by decide) (by decide) (by decide) (argsL := []) (rest := []) rfl rfl fun v794 T794 L794 X794 q794 => ?_
  obtain ⟨rfl, M794, e794⟩ := q794
  have N794 := Fr.app N782 M794
  show own_Fin p e below _ (T794.setTop (mkF m 307 #[.val (.long m0), .second, .val (.int ep), .val (.int sp), .val (.long qa), .second, .val (.long qb), .second, .val (.int fl), .val (.int (0 : Int32)), .val (.int (2 : Int32)), .val (.ref b643), .val .null, .val (.ref b670), .val (.ref b695), .val (.ref b716), .val (.int (1 : Int32)), .val (.int (1 : Int32)), .val (.ref y693), .val (.int (1 : Int32))] [(.long qa)]))
  refine own_lload X794 hx (hb hby at_307) rfl ?_
  refine own_lcmp X794 hx (hb hby at_309) ?_
  refine own_ifNo X794 hx (hb hby at_310) (Jvm.Free.XT.ll_ne_f rfl) ?_
  refine own_iconst X794 hx (1 : Int32) (hb hby at_313) rfl ?_
  refine own_goto X794 hx 318 (hb hby at_314) (by decide) (by decide) ?_
  refine own_istore X794 hx (l' := #[.val (.long m0), .second, .val (.int ep), .val (.int sp), .val (.long qa), .second, .val (.long qb), .second, .val (.int fl), .val (.int (0 : Int32)), .val (.int (2 : Int32)), .val (.ref b643), .val .null, .val (.ref b670), .val (.ref b695), .val (.ref b716), .val (.int (1 : Int32)), .val (.int (1 : Int32)), .val (.ref y693), .val (.int (1 : Int32))]) (hb hby at_318) rfl ?_
  refine own_iload X794 hx (hb hby at_320) rfl ?_
  refine own_ifNo X794 hx (hb hby at_322) (by decide) ?_
  refine own_iload X794 hx (hb hby at_325) rfl ?_
  refine own_iconst X794 hx (2 : Int32) (hb hby at_327) rfl ?_
  refine own_icmpNo X794 hx (hb hby at_328) (by decide) ?_
  refine own_aload X794 hx (hb hby at_331) rfl rfl ?_
  refine own_iconst X794 hx (1 : Int32) (hb hby at_333) rfl ?_
  refine own_intf X794 hx hZ705 ho705 (own_w265 hw) (own_w266 hw) (own_w267 hw) (own_w268 hw) (own_w269 hw) (own_w270 hw) (own_w271 hw) (own_w263 hw) (own_w272 hw) (own_w158 hw) (by decide) e794 f775 (hb hby at_334) (by rw [hml]; rfl) own_pd__28I_29Ljava_2flang_2fObject_3b rfl (W := 0) (Nat.le_of_ble_eq_true rfl) (own_ge1 l Z a0 hw y693 em x661 h767 n0 f773 f779 SE f774) (by decide) (by decide) (by decide) (by decide) (argsL := [(.int (1 : Int32))]) (rest := []) rfl rfl fun v795 T795 L795 X795 q795 => ?_
  obtain ⟨rfl, M795, e795⟩ := q795
  have N795 := Fr.app N794 M795
  show own_Fin p e below _ (T795.setTop (mkF m 339 #[.val (.long m0), .second, .val (.int ep), .val (.int sp), .val (.long qa), .second, .val (.long qb), .second, .val (.int fl), .val (.int (0 : Int32)), .val (.int (2 : Int32)), .val (.ref b643), .val .null, .val (.ref b670), .val (.ref b695), .val (.ref b716), .val (.int (1 : Int32)), .val (.int (1 : Int32)), .val (.ref y693), .val (.int (1 : Int32))] [(.ref x661)]))
  refine own_checkcast X795 hx hZ705 ho705 (own_w273 hw) e795 (Ins.self f772) (hb hby at_339) fun T796 X796 e796 => ?_
  have f797 := ne_exa f772 f787 (by decide)
  have f798 := ne_exa f772 f785 (by decide)
  have f799 := ne_exa f772 f789 (by decide)
  have f800 := ne_exa f772 p767 (by decide)
  have f801 := ne_exa f772 f777 (by decide)
  have f802 := ((((((((((((((((((F661.keep K669 (ninS f798 (ninS f797 nin0))).ext E670).ext E678).keep K693 (ninS f799 nin0)).ext E695).ext E705).keep K715 (ninS f800 nin0)).ext E716).other W725 (Or.inl f801)).other U725 (Or.inl f801)).ext E728).keep K734 (ninS f801 nin0)).ext E739).other W744 (Or.inl f800)).other W747 (Or.inl f800)).other W750 (Or.inl f800)).other W753 (Or.inl f800)).keep K767 (ninS f800 nin0))
  refine own_virt X796 hx hZ705 ho705 (own_w251 hw) (own_w252 hw) (own_w254 hw) (own_w254 hw) (own_w253 hw) (own_w255 hw) (own_w28 hw) (by decide) e796 f772 (hb hby at_342) (by rw [hml]; rfl) own_pd__28_29J rfl (W := 0) (Nat.le_of_ble_eq_true rfl) (own_lv l Z a0 hw x661 qb h767 n0 f773 f802) (by decide) (by decide) (by decide) (by decide) (argsL := []) (rest := []) rfl rfl fun v803 T803 L803 X803 q803 => ?_
  obtain ⟨rfl, M803, e803⟩ := q803
  have N803 := Fr.app N795 M803
  show own_Fin p e below _ (T803.setTop (mkF m 345 #[.val (.long m0), .second, .val (.int ep), .val (.int sp), .val (.long qa), .second, .val (.long qb), .second, .val (.int fl), .val (.int (0 : Int32)), .val (.int (2 : Int32)), .val (.ref b643), .val .null, .val (.ref b670), .val (.ref b695), .val (.ref b716), .val (.int (1 : Int32)), .val (.int (1 : Int32)), .val (.ref y693), .val (.int (1 : Int32))] [(.long qb)]))
  refine own_lload X803 hx (hb hby at_345) rfl ?_
  refine own_lcmp X803 hx (hb hby at_347) ?_
  refine own_ifNo X803 hx (hb hby at_348) (Jvm.Free.XT.ll_ne_f rfl) ?_
  refine own_iconst X803 hx (1 : Int32) (hb hby at_351) rfl ?_
  refine own_goto X803 hx 356 (hb hby at_352) (by decide) (by decide) ?_
  refine own_istore X803 hx (l' := #[.val (.long m0), .second, .val (.int ep), .val (.int sp), .val (.long qa), .second, .val (.long qb), .second, .val (.int fl), .val (.int (0 : Int32)), .val (.int (2 : Int32)), .val (.ref b643), .val .null, .val (.ref b670), .val (.ref b695), .val (.ref b716), .val (.int (1 : Int32)), .val (.int (1 : Int32)), .val (.ref y693), .val (.int (1 : Int32))]) (hb hby at_356) rfl ?_
  refine own_iload X803 hx (hb hby at_358) rfl ?_
  refine own_ifNo X803 hx (hb hby at_360) (by decide) ?_
  refine own_iload X803 hx (hb hby at_363) rfl ?_
  refine own_ifNo X803 hx (hb hby at_365) (by decide) ?_
  refine own_iload X803 hx (hb hby at_368) rfl ?_
  refine own_ifNo X803 hx (hb hby at_370) (by decide) ?_
  refine own_iconst X803 hx (1 : Int32) (hb hby at_373) rfl ?_
  refine own_goto X803 hx 378 (hb hby at_374) (by decide) (by decide) ?_
  refine own_retNW (s := s) X803 hx hS705 (by rw [e803]; exact Nat.le_trans hk705 (Nat.le_trans (Nat.le_trans (Nat.le_trans (Nat.le_trans (Nat.le_trans (Nat.le_trans (Nat.le_trans (Nat.le_trans (Nat.le_trans (Nat.le_trans (Nat.le_trans (Nat.le_trans (Nat.le_refl _) K715.1) E716.1) (Nat.le_of_eq W725.size.symm)) (Nat.le_of_eq U725.size.symm)) E728.1) K734.1) E739.1) (Nat.le_of_eq W744.size.symm)) (Nat.le_of_eq W747.size.symm)) (Nat.le_of_eq W750.size.symm)) (Nat.le_of_eq W753.size.symm)) K767.1)) (t := .boolean) hret (by simp) (hb hby at_378) hlk (by decide) (by decide) ?_
  exact ⟨rfl, N803⟩
set_option maxRecDepth 65536 in
set_option maxHeartbeats 40000000 in
theorem own_law10 (l : Launch) (Z : State) (a0 : Array Value) (hw : ∀ d ∈ tables_1, d.before a0 Z = true) (m0 qa qb : Int64) (ep sp fl : Int32) (dc ca em el en mr : Addr) (dl cc nl : Cell) (h0 : Heap) (n0 : Nat) (OX : Old Z n0 h0) (hfl : fl &&& (1 : Int32) = 1) (hnn : Jvm.Free.XT.ushr fl (1 : Int32) % (3 : Int32) = (0 : Int32)) (S : Sta Z Z.heap "java/util/ArrayList" "DEFAULTCAPACITY_EMPTY_ELEMENTDATA" "[Ljava/lang/Object;" (.ref dc)) (A : Arr Z Z.heap dc dl (.object "java/lang/Object")) (hl : dl.slots.size.toInt32 = (0 : Int32)) (SC : Sta Z Z.heap "java/lang/Long$LongCache" "cache" "[Ljava/lang/Long;" (.ref ca)) (BC : Bxs Z ca cc "java/lang/Long" "J" 256 fun j => .long (j - 128).toInt64) (SE : Sta Z Z.heap "java/util/ImmutableCollections" "EMPTY" "Ljava/lang/Object;" (.ref em)) (EEM : Exa Z Z.heap em "java/lang/Object") (SL : Sta Z Z.heap "java/util/ImmutableCollections" "EMPTY_LIST" "Ljava/util/ImmutableCollections$ListN;" (.ref el)) (EEL : Exa Z Z.heap el "java/util/ImmutableCollections$ListN") (FN : Fld Z Z.heap el "java/util/ImmutableCollections$ListN" "elements" "[Ljava/lang/Object;" (.ref en)) (AN : Arr Z Z.heap en nl (.object "java/lang/Object")) (ln : nl.slots.size.toInt32 = (0 : Int32)) (MM : own_Mir Z "[Ljava/lang/Object;" mr) (NA : ∃ c t, Z.vm.findClass "java/util/ArrayList" = some c ∧ Z.vm.findClass "java/util/ImmutableCollections$List12" = some t ∧ Z.vm.assignable c t = false) (NB : ∃ c t, Z.vm.findClass "java/util/ArrayList" = some c ∧ Z.vm.findClass "java/util/ImmutableCollections$ListN" = some t ∧ Z.vm.assignable c t = false) (wS : ∀ a ∈ Bundle.stringAtoms, a.before a0 Z = true) :
    own_MetW l Z x code maxLocals ret room_1 #[(.long m0), (.int ep), (.int sp), (.long qa), (.long qb), (.int fl)] h0 (fun v h L => v = some (.int 1) ∧ Fr n0 L) := by
  refine own_bodyW (Ls := #[.val (.long m0), .second, .val (.int ep), .val (.int sp), .val (.long qa), .second, .val (.long qb), .second, .val (.int fl), .unset, .unset, .unset, .unset, .unset, .unset, .unset, .unset, .unset, .unset, .unset]) (plainFor_of_name own_pn_com_example_regent_regent_controller_MasterChangedApplyToPinLaw) (fun m => by first | (simp [entryFrame, mkF, argsToLocals, Value.category, maxLocals]; done) | rfl) ?_
  intro p e s m below meth c s₁ hx hZ hby hml hown hnm hret hlk X0 e0
  have N0 := Fr.nil n0
  refine own_iload X0 hx (hb hby at_0) rfl ?_
  refine own_iconst X0 hx (1 : Int32) (hb hby at_2) rfl ?_
  refine own_iand X0 hx (hb hby at_3) ?_
  refine own_ifNo X0 hx (hb hby at_4) (Jvm.Free.XT.i0_eq_f (by rw [hfl]; decide)) ?_
  refine own_iconst X0 hx (1 : Int32) (hb hby at_7) rfl ?_
  refine own_goto X0 hx 12 (hb hby at_8) (by decide) (by decide) ?_
  refine own_istore X0 hx (l' := #[.val (.long m0), .second, .val (.int ep), .val (.int sp), .val (.long qa), .second, .val (.long qb), .second, .val (.int fl), .val (.int (1 : Int32)), .unset, .unset, .unset, .unset, .unset, .unset, .unset, .unset, .unset, .unset]) (hb hby at_12) rfl ?_
  refine own_iload X0 hx (hb hby at_14) rfl ?_
  refine own_iconst X0 hx (1 : Int32) (hb hby at_16) rfl ?_
  refine own_iushr X0 hx (hb hby at_17) ?_
  refine own_iconst X0 hx (3 : Int32) (hb hby at_18) rfl ?_
  refine own_irem X0 hx (hb hby at_19) (by decide) ?_
  rw [hnn]
  show own_Fin p e below _ (s₁.setTop (mkF m 20 #[.val (.long m0), .second, .val (.int ep), .val (.int sp), .val (.long qa), .second, .val (.long qb), .second, .val (.int fl), .val (.int (1 : Int32)), .unset, .unset, .unset, .unset, .unset, .unset, .unset, .unset, .unset, .unset] [(.int (0 : Int32))]))
  refine own_istore X0 hx (l' := #[.val (.long m0), .second, .val (.int ep), .val (.int sp), .val (.long qa), .second, .val (.long qb), .second, .val (.int fl), .val (.int (1 : Int32)), .val (.int (0 : Int32)), .unset, .unset, .unset, .unset, .unset, .unset, .unset, .unset, .unset]) (hb hby at_20) rfl ?_
  refine own_new X0 hx hZ hown (own_w0 hw) (own_w1 hw) (own_w2 hw) e0 (hb hby at_22) (by decide) (by decide) fun T804 h804 b804 X804 e804 g804 E804 A804 D804 => ?_
  have f805 : n0 ≤ b804 := Nat.le_trans (own_old OX) (Nat.le_of_eq g804.symm)
  have f806 : Fld Z h804 b804 "java/util/AbstractList" "modCount" "I" (.int (0 : Int32)) := D804 (Or.inl (own_w22 hw)) own_fd_I
  have f807 : Fld Z h804 b804 "java/util/ArrayList" "elementData" "[Ljava/lang/Object;" .null := D804 (Or.inl (own_w25 hw)) own_fd__5bLjava_2flang_2fObject_3b
  have f808 : Fld Z h804 b804 "java/util/ArrayList" "size" "I" (.int (0 : Int32)) := D804 (Or.inl (own_w54 hw)) own_fd_I
  refine own_dup X804 hx (hb hby at_25) rfl ?_
  have f809 := (OX.ext E804)
  refine own_spec X804 hx hZ rfl hown (own_w3 hw) (own_w4 hw) (own_w5 hw) (own_w2 hw) (by decide) e804 (hb hby at_26) (by rw [hml]; rfl) own_pd__28_29V rfl (W := 1) (Nat.le_of_ble_eq_true rfl) (own_ali l Z a0 hw b804 dc _ _ h804 n0 f809 A804 f806 f807 f805 S) (by decide) (by decide) (by decide) (by decide) (a := b804) (argsL := []) (rest := [(.ref b804)]) rfl rfl fun v810 T810 L810 X810 q810 => ?_
  obtain ⟨h810, e810⟩ : ∃ z, T810.heap = z := ⟨_, rfl⟩
  try dsimp only at q810
  rw [e810] at q810
  obtain ⟨rfl, M810, j810, W810, U810⟩ := q810
  have N810 := Fr.app N0 M810
  have f811 := (f807.other W810 (Or.inr (slot_ne (Or.inl (own_w25 hw)) (Or.inl (own_w22 hw)) (by decide) own_fd__5bLjava_2flang_2fObject_3b own_fd_I)))
  show own_Fin p e below _ (T810.setTop (mkF m 29 #[.val (.long m0), .second, .val (.int ep), .val (.int sp), .val (.long qa), .second, .val (.long qb), .second, .val (.int fl), .val (.int (1 : Int32)), .val (.int (0 : Int32)), .unset, .unset, .unset, .unset, .unset, .unset, .unset, .unset, .unset] [(.ref b804)]))
  refine own_astore X810 hx (l' := #[.val (.long m0), .second, .val (.int ep), .val (.int sp), .val (.long qa), .second, .val (.long qb), .second, .val (.int fl), .val (.int (1 : Int32)), .val (.int (0 : Int32)), .val (.ref b804), .unset, .unset, .unset, .unset, .unset, .unset, .unset, .unset]) (hb hby at_29) rfl rfl ?_
  refine own_iload X810 hx (hb hby at_31) rfl ?_
  refine own_iconst X810 hx (1 : Int32) (hb hby at_33) rfl ?_
  refine own_icmpYes X810 hx 48 (hb hby at_34) (by decide) (by decide) (by decide) ?_
  refine own_iload X810 hx (hb hby at_48) rfl ?_
  refine own_iconst X810 hx (2 : Int32) (hb hby at_50) rfl ?_
  refine own_icmpYes X810 hx 65 (hb hby at_51) (by decide) (by decide) (by decide) ?_
  refine own_iload X810 hx (hb hby at_65) rfl ?_
  refine own_ifNo X810 hx (hb hby at_67) (by decide) ?_
  refine own_lloadN X810 hx (hb hby at_70) rfl ?_
  have f812 := ((f809.wr W810 f805).wr U810 f805)
  refine own_stat X810 hx hZ hown (own_w26 hw) (own_w27 hw) (own_w29 hw) (own_w28 hw) (by decide) e810 (hb hby at_71) (by rw [hml]; rfl) own_pd__28J_29Ljava_2flang_2fLong_3b rfl (W := 0) (Nat.le_of_ble_eq_true rfl) (own_lvo l Z a0 hw m0 ca cc h810 n0 f812 SC BC) (by decide) (by decide) (by decide) (by decide) (argsL := [(.long m0)]) (rest := []) rfl rfl fun v813 T813 L813 X813 q813 => ?_
  obtain ⟨h813, e813⟩ : ∃ z, T813.heap = z := ⟨_, rfl⟩
  try dsimp only at q813
  rw [e813] at q813
  obtain ⟨x813, rfl, M813, E813, P813, F813⟩ := q813
  have N813 := Fr.app N810 M813
  show own_Fin p e below _ (T813.setTop (mkF m 74 #[.val (.long m0), .second, .val (.int ep), .val (.int sp), .val (.long qa), .second, .val (.long qb), .second, .val (.int fl), .val (.int (1 : Int32)), .val (.int (0 : Int32)), .val (.ref b804), .unset, .unset, .unset, .unset, .unset, .unset, .unset, .unset] [(.ref x813)]))
  refine own_goto X813 hx 78 (hb hby at_74) (by decide) (by decide) ?_
  refine own_astore X813 hx (l' := #[.val (.long m0), .second, .val (.int ep), .val (.int sp), .val (.long qa), .second, .val (.long qb), .second, .val (.int fl), .val (.int (1 : Int32)), .val (.int (0 : Int32)), .val (.ref b804), .val (.ref x813), .unset, .unset, .unset, .unset, .unset, .unset, .unset]) (hb hby at_78) rfl rfl ?_
  refine own_new X813 hx hZ hown (own_w80 hw) (own_w81 hw) (own_w82 hw) e813 (hb hby at_80) (by decide) (by decide) fun T814 h814 b814 X814 e814 g814 E814 A814 D814 => ?_
  have f815 := (f812.ext E813)
  have f816 : n0 ≤ b814 := Nat.le_trans (own_old f815) (Nat.le_of_eq g814.symm)
  have f817 : Fld Z h814 b814 "com/example/regent/regent/controller/Event$MasterChanged" "group" "Ljava/lang/String;" .null := D814 (Or.inr (own_w187 hw)) own_fd_Ljava_2flang_2fString_3b
  have f818 : Fld Z h814 b814 "com/example/regent/regent/controller/Event$MasterChanged" "master" "Ljava/lang/Long;" .null := D814 (Or.inr (own_w189 hw)) own_fd_Ljava_2flang_2fLong_3b
  have f819 : Fld Z h814 b814 "com/example/regent/regent/controller/Event$MasterChanged" "masterEpoch" "I" (.int (0 : Int32)) := D814 (Or.inr (own_w191 hw)) own_fd_I
  have f820 : Fld Z h814 b814 "com/example/regent/regent/controller/Event$MasterChanged" "syncStateSet" "Ljava/util/List;" .null := D814 (Or.inr (own_w193 hw)) own_fd_Ljava_2futil_2fList_3b
  have f821 : Fld Z h814 b814 "com/example/regent/regent/controller/Event$MasterChanged" "syncStateSetEpoch" "I" (.int (0 : Int32)) := D814 (Or.inr (own_w195 hw)) own_fd_I
  refine own_dup X814 hx (hb hby at_83) rfl ?_
  refine own_ldcS (s := s) (vm0 := s.vm) X814 hx hZ hown (own_w83 hw) wS e814 ((State.WarmedH.refl s).since 0) (Nat.zero_le _) (hb hby at_84) 4 (by decide) (by decide) (by decide) (by decide) fun sg822 vm822 T822 h822 k822 X822 e822 E822 hS822 hk822 hZ822 ho822 => ?_
  refine own_aload X822 hx (hb hby at_86) rfl rfl ?_
  refine own_iloadN X822 hx (hb hby at_88) rfl ?_
  refine own_aload X822 hx (hb hby at_89) rfl rfl ?_
  refine own_iloadN X822 hx (hb hby at_91) rfl ?_
  have f823 := (((((A804.wr W810).wr U810).ext E813).ext E814).ext E822)
  have f824 := (((((f808.other W810 (Or.inr (slot_ne (Or.inl (own_w54 hw)) (Or.inl (own_w22 hw)) (by decide) own_fd_I own_fd_I))).other U810 (Or.inr (slot_ne (Or.inl (own_w54 hw)) (Or.inl (own_w25 hw)) (by decide) own_fd_I own_fd__5bLjava_2flang_2fObject_3b))).ext E813).ext E814).ext E822)
  have f825 := ((f815.ext E814).ext E822)
  have f826 := (A814.ext E822)
  have f827 := (f817.ext E822)
  have f828 := (f818.ext E822)
  have f829 := (f819.ext E822)
  have f830 := (f820.ext E822)
  have f831 := (f821.ext E822)
  refine own_spec X822 hx hZ822 rfl ho822 (own_w91 hw) (own_w92 hw) (own_w93 hw) (own_w82 hw) (by decide) e822 (hb hby at_92) (by rw [hml]; rfl) own_pd__28Ljava_2flang_2fString_3bLjava_2flang_2fLong_3bILjava_2futil_2fList_3bI_29V rfl (W := 1) (Nat.le_of_ble_eq_true rfl) (own_ei10 l Z a0 hw b814 sg822 x813 ep sp b804 el h822 n0 f825 f826 f816 f827 f828 f829 f830 f831 f823 f824 SL NA NB) (by decide) (by decide) (by decide) (by decide) (a := b814) (argsL := [(.ref sg822), (.ref x813), (.int ep), (.ref b804), (.int sp)]) (rest := [(.ref b814)]) rfl rfl fun v832 T832 L832 X832 q832 => ?_
  obtain ⟨h832, e832⟩ : ∃ z, T832.heap = z := ⟨_, rfl⟩
  try dsimp only at q832
  rw [e832] at q832
  obtain ⟨rfl, M832, K832, p832, q832, r832, s832, t832⟩ := q832
  have N832 := Fr.app N813 M832
  show own_Fin p e below _ (T832.setTop (mkF m 95 #[.val (.long m0), .second, .val (.int ep), .val (.int sp), .val (.long qa), .second, .val (.long qb), .second, .val (.int fl), .val (.int (1 : Int32)), .val (.int (0 : Int32)), .val (.ref b804), .val (.ref x813), .unset, .unset, .unset, .unset, .unset, .unset, .unset] [(.ref b814)]))
  refine own_astore X832 hx (l' := #[.val (.long m0), .second, .val (.int ep), .val (.int sp), .val (.long qa), .second, .val (.long qb), .second, .val (.int fl), .val (.int (1 : Int32)), .val (.int (0 : Int32)), .val (.ref b804), .val (.ref x813), .val (.ref b814), .unset, .unset, .unset, .unset, .unset, .unset]) (hb hby at_95) rfl rfl ?_
  refine own_new X832 hx hZ822 ho822 (own_w196 hw) (own_w197 hw) (own_w198 hw) e832 (hb hby at_97) (by decide) (by decide) fun T833 h833 b833 X833 e833 g833 E833 A833 D833 => ?_
  have f834 := (f825.keep K832 (allS f816 all0))
  have f835 : n0 ≤ b833 := Nat.le_trans (own_old f834) (Nat.le_of_eq g833.symm)
  have f836 : Fld Z h833 b833 "com/example/regent/regent/controller/Group" "registerCodes" "Ljava/util/NavigableMap;" .null := D833 (Or.inr (own_w223 hw)) own_fd_Ljava_2futil_2fNavigableMap_3b
  have f837 : Fld Z h833 b833 "com/example/regent/regent/controller/Group" "brokers" "Ljava/util/NavigableMap;" .null := D833 (Or.inr (own_w225 hw)) own_fd_Ljava_2futil_2fNavigableMap_3b
  have f838 : Fld Z h833 b833 "com/example/regent/regent/controller/Group" "syncStateSet" "Ljava/util/List;" .null := D833 (Or.inl (own_w231 hw)) own_fd_Ljava_2futil_2fList_3b
  have f839 : Fld Z h833 b833 "com/example/regent/regent/controller/Group" "name" "Ljava/lang/String;" .null := D833 (Or.inr (own_w233 hw)) own_fd_Ljava_2flang_2fString_3b
  have f840 : Fld Z h833 b833 "com/example/regent/regent/controller/Group" "master" "Ljava/lang/Long;" .null := D833 (Or.inl (own_w236 hw)) own_fd_Ljava_2flang_2fLong_3b
  have f841 : Fld Z h833 b833 "com/example/regent/regent/controller/Group" "masterEpoch" "I" (.int (0 : Int32)) := D833 (Or.inl (own_w238 hw)) own_fd_I
  have f842 : Fld Z h833 b833 "com/example/regent/regent/controller/Group" "syncStateSetEpoch" "I" (.int (0 : Int32)) := D833 (Or.inl (own_w241 hw)) own_fd_I
  refine own_dup X833 hx (hb hby at_100) rfl ?_
  refine own_ldcS (s := s) (vm0 := vm822) X833 hx hZ822 ho822 (own_w83 hw) wS e833 hS822 (Nat.le_trans hk822 (Nat.le_trans (Nat.le_trans (Nat.le_refl _) K832.1) E833.1)) (hb hby at_101) 4 (by decide) (by decide) (by decide) (by decide) fun sg843 vm843 T843 h843 k843 X843 e843 E843 hS843 hk843 hZ843 ho843 => ?_
  have f844 := ((f834.ext E833).ext E843)
  have f845 := (A833.ext E843)
  have f846 := (f836.ext E843)
  have f847 := (f837.ext E843)
  have f848 := (f838.ext E843)
  have f849 := (f839.ext E843)
  have f850 := (f840.ext E843)
  have f851 := (f841.ext E843)
  have f852 := (f842.ext E843)
  refine own_spec X843 hx hZ843 rfl ho843 (own_w199 hw) (own_w200 hw) (own_w201 hw) (own_w198 hw) (by decide) e843 (hb hby at_103) (by rw [hml]; rfl) own_pd__28Ljava_2flang_2fString_3b_29V rfl (W := 1) (Nat.le_of_ble_eq_true rfl) (own_gri l Z a0 hw b833 sg843 el h843 n0 f844 f845 f835 f846 f847 f848 f849 f850 f851 f852 SL) (by decide) (by decide) (by decide) (by decide) (a := b833) (argsL := [(.ref sg843)]) (rest := [(.ref b833)]) rfl rfl fun v853 T853 L853 X853 q853 => ?_
  obtain ⟨h853, e853⟩ : ∃ z, T853.heap = z := ⟨_, rfl⟩
  try dsimp only at q853
  rw [e853] at q853
  obtain ⟨rfl, M853, K853, p853, q853, r853, s853, t853⟩ := q853
  have N853 := Fr.app N832 M853
  show own_Fin p e below _ (T853.setTop (mkF m 106 #[.val (.long m0), .second, .val (.int ep), .val (.int sp), .val (.long qa), .second, .val (.long qb), .second, .val (.int fl), .val (.int (1 : Int32)), .val (.int (0 : Int32)), .val (.ref b804), .val (.ref x813), .val (.ref b814), .unset, .unset, .unset, .unset, .unset, .unset] [(.ref b833)]))
  refine own_astore X853 hx (l' := #[.val (.long m0), .second, .val (.int ep), .val (.int sp), .val (.long qa), .second, .val (.long qb), .second, .val (.int fl), .val (.int (1 : Int32)), .val (.int (0 : Int32)), .val (.ref b804), .val (.ref x813), .val (.ref b814), .val (.ref b833), .unset, .unset, .unset, .unset, .unset]) (hb hby at_106) rfl rfl ?_
  refine own_new X853 hx hZ843 ho843 (own_w0 hw) (own_w1 hw) (own_w2 hw) e853 (hb hby at_108) (by decide) (by decide) fun T854 h854 b854 X854 e854 g854 E854 A854 D854 => ?_
  have f855 := ((((f823.keep K832).ext E833).ext E843).keep K853)
  have f856 := Nat.ne_of_lt (Nat.lt_of_lt_of_le f855.lt (Nat.le_of_eq g854.symm))
  have f857 := (f844.keep K853 (allS f835 all0))
  have f858 : n0 ≤ b854 := Nat.le_trans (own_old f857) (Nat.le_of_eq g854.symm)
  have f859 : Fld Z h854 b854 "java/util/AbstractList" "modCount" "I" (.int (0 : Int32)) := D854 (Or.inl (own_w22 hw)) own_fd_I
  have f860 : Fld Z h854 b854 "java/util/ArrayList" "elementData" "[Ljava/lang/Object;" .null := D854 (Or.inl (own_w25 hw)) own_fd__5bLjava_2flang_2fObject_3b
  have f861 : Fld Z h854 b854 "java/util/ArrayList" "size" "I" (.int (0 : Int32)) := D854 (Or.inl (own_w54 hw)) own_fd_I
  refine own_dup X854 hx (hb hby at_111) rfl ?_
  have f862 := (f857.ext E854)
  refine own_spec X854 hx hZ843 rfl ho843 (own_w3 hw) (own_w4 hw) (own_w5 hw) (own_w2 hw) (by decide) e854 (hb hby at_112) (by rw [hml]; rfl) own_pd__28_29V rfl (W := 1) (Nat.le_of_ble_eq_true rfl) (own_ali l Z a0 hw b854 dc _ _ h854 n0 f862 A854 f859 f860 f858 S) (by decide) (by decide) (by decide) (by decide) (a := b854) (argsL := []) (rest := [(.ref b854)]) rfl rfl fun v863 T863 L863 X863 q863 => ?_
  obtain ⟨h863, e863⟩ : ∃ z, T863.heap = z := ⟨_, rfl⟩
  try dsimp only at q863
  rw [e863] at q863
  obtain ⟨rfl, M863, j863, W863, U863⟩ := q863
  have N863 := Fr.app N853 M863
  have f864 := (f860.other W863 (Or.inr (slot_ne (Or.inl (own_w25 hw)) (Or.inl (own_w22 hw)) (by decide) own_fd__5bLjava_2flang_2fObject_3b own_fd_I)))
  show own_Fin p e below _ (T863.setTop (mkF m 115 #[.val (.long m0), .second, .val (.int ep), .val (.int sp), .val (.long qa), .second, .val (.long qb), .second, .val (.int fl), .val (.int (1 : Int32)), .val (.int (0 : Int32)), .val (.ref b804), .val (.ref x813), .val (.ref b814), .val (.ref b833), .unset, .unset, .unset, .unset, .unset] [(.ref b854)]))
  refine own_astore X863 hx (l' := #[.val (.long m0), .second, .val (.int ep), .val (.int sp), .val (.long qa), .second, .val (.long qb), .second, .val (.int fl), .val (.int (1 : Int32)), .val (.int (0 : Int32)), .val (.ref b804), .val (.ref x813), .val (.ref b814), .val (.ref b833), .val (.ref b854), .unset, .unset, .unset, .unset]) (hb hby at_115) rfl rfl ?_
  refine own_aload X863 hx (hb hby at_117) rfl rfl ?_
  refine own_lload X863 hx (hb hby at_119) rfl ?_
  refine own_ldc2J X863 hx hZ843 ho843 (own_w234 hw) (hb hby at_121) ?_
  refine own_lxor X863 hx (hb hby at_124) ?_
  have f865 := ((f862.wr W863 f858).wr U863 f858)
  refine own_stat X863 hx hZ843 ho843 (own_w26 hw) (own_w27 hw) (own_w29 hw) (own_w28 hw) (by decide) e863 (hb hby at_125) (by rw [hml]; rfl) own_pd__28J_29Ljava_2flang_2fLong_3b rfl (W := 1) (Nat.le_of_ble_eq_true rfl) (own_lvo l Z a0 hw (qa ^^^ (-1 : Int64)) ca cc h863 n0 f865 SC BC) (by decide) (by decide) (by decide) (by decide) (argsL := [(.long (qa ^^^ (-1 : Int64)))]) (rest := [(.ref b854)]) rfl rfl fun v866 T866 L866 X866 q866 => ?_
  obtain ⟨h866, e866⟩ : ∃ z, T866.heap = z := ⟨_, rfl⟩
  try dsimp only at q866
  rw [e866] at q866
  obtain ⟨x866, rfl, M866, E866, P866, F866⟩ := q866
  have N866 := Fr.app N863 M866
  show own_Fin p e below _ (T866.setTop (mkF m 128 #[.val (.long m0), .second, .val (.int ep), .val (.int sp), .val (.long qa), .second, .val (.long qb), .second, .val (.int fl), .val (.int (1 : Int32)), .val (.int (0 : Int32)), .val (.ref b804), .val (.ref x813), .val (.ref b814), .val (.ref b833), .val (.ref b854), .unset, .unset, .unset, .unset] [(.ref x866), (.ref b854)]))
  have f867 := (f865.ext E866)
  have f868 := (((A854.wr W863).wr U863).ext E866)
  have f869 := ((f864.same U863).ext E866)
  have f870 := (((f861.other W863 (Or.inr (slot_ne (Or.inl (own_w54 hw)) (Or.inl (own_w22 hw)) (by decide) own_fd_I own_fd_I))).other U863 (Or.inr (slot_ne (Or.inl (own_w54 hw)) (Or.inl (own_w25 hw)) (by decide) own_fd_I own_fd__5bLjava_2flang_2fObject_3b))).ext E866)
  have f871 := (((f859.same W863).other U863 (Or.inr (slot_ne (Or.inl (own_w22 hw)) (Or.inl (own_w25 hw)) (by decide) own_fd_I own_fd__5bLjava_2flang_2fObject_3b))).ext E866)
  refine own_virt X866 hx hZ843 ho843 (own_w46 hw) (own_w47 hw) (own_w49 hw) (own_w49 hw) (own_w48 hw) (own_w50 hw) (own_w2 hw) (by decide) e866 f868 (hb hby at_128) (by rw [hml]; rfl) own_pd__28Ljava_2flang_2fObject_3b_29Z rfl (W := 0) (Nat.le_of_ble_eq_true rfl) (own_ad1 l Z a0 hw b854 x866 dc dl (0 : Int32) h866 n0 f867 f868 f869 f858 f870 f871 P866 S A hl) (by decide) (by decide) (by decide) (by decide) (argsL := [(.ref x866)]) (rest := []) rfl rfl fun v872 T872 L872 X872 q872 => ?_
  obtain ⟨h872, e872⟩ : ∃ z, T872.heap = z := ⟨_, rfl⟩
  try dsimp only at q872
  rw [e872] at q872
  obtain ⟨rfl, M872, K872, p872, q872, r872, b872, k872, g872, s872, t872, u872, o872⟩ := q872
  have N872 := Fr.app N866 M872
  have f873 : n0 ≤ b872 := Nat.le_trans (own_old f867) g872
  show own_Fin p e below _ (T872.setTop (mkF m 131 #[.val (.long m0), .second, .val (.int ep), .val (.int sp), .val (.long qa), .second, .val (.long qb), .second, .val (.int fl), .val (.int (1 : Int32)), .val (.int (0 : Int32)), .val (.ref b804), .val (.ref x813), .val (.ref b814), .val (.ref b833), .val (.ref b854), .unset, .unset, .unset, .unset] [(.int (1 : Int32))]))
  refine own_pop X872 hx (hb hby at_131) rfl ?_
  refine own_aload X872 hx (hb hby at_132) rfl rfl ?_
  refine own_lloadN X872 hx (hb hby at_134) rfl ?_
  refine own_ldc2J X872 hx hZ843 ho843 (own_w234 hw) (hb hby at_135) ?_
  refine own_lxor X872 hx (hb hby at_138) ?_
  have f874 := (f867.keep K872 (allS f858 all0))
  refine own_stat X872 hx hZ843 ho843 (own_w26 hw) (own_w27 hw) (own_w29 hw) (own_w28 hw) (by decide) e872 (hb hby at_139) (by rw [hml]; rfl) own_pd__28J_29Ljava_2flang_2fLong_3b rfl (W := 1) (Nat.le_of_ble_eq_true rfl) (own_lvo l Z a0 hw (m0 ^^^ (-1 : Int64)) ca cc h872 n0 f874 SC BC) (by decide) (by decide) (by decide) (by decide) (argsL := [(.long (m0 ^^^ (-1 : Int64)))]) (rest := [(.ref b833)]) rfl rfl fun v875 T875 L875 X875 q875 => ?_
  obtain ⟨h875, e875⟩ : ∃ z, T875.heap = z := ⟨_, rfl⟩
  try dsimp only at q875
  rw [e875] at q875
  obtain ⟨x875, rfl, M875, E875, P875, F875⟩ := q875
  have N875 := Fr.app N872 M875
  show own_Fin p e below _ (T875.setTop (mkF m 142 #[.val (.long m0), .second, .val (.int ep), .val (.int sp), .val (.long qa), .second, .val (.long qb), .second, .val (.int fl), .val (.int (1 : Int32)), .val (.int (0 : Int32)), .val (.ref b804), .val (.ref x813), .val (.ref b814), .val (.ref b833), .val (.ref b854), .unset, .unset, .unset, .unset] [(.ref x875), (.ref b833)]))
  have f876 := ((((((p853.ext E854).wr W863).wr U863).ext E866).keep K872).ext E875)
  have f877 := (p872.ext E875)
  have f878 := ne_exa f876 f877 (by decide)
  have f879 := ((((((q853.ext E854).other W863 (Or.inl f878)).other U863 (Or.inl f878)).ext E866).keep K872 (ninS f878 nin0)).ext E875)
  refine own_putfield X875 hx hZ843 (host := "") ho843 (Or.inl (own_w235 hw)) Via.refl e875 f879 f876 (Or.inl (own_w236 hw)) (own_w197 hw) own_fd_Ljava_2flang_2fLong_3b rfl rfl (hb hby at_142) fun T880 h880 X880 e880 W880 => ?_
  have N880 := Fr.snoc X880 N875 f835
  refine own_aload X880 hx (hb hby at_145) rfl rfl ?_
  refine own_iloadN X880 hx (hb hby at_147) rfl ?_
  refine own_iconst X880 hx (-1 : Int32) (hb hby at_148) rfl ?_
  refine own_ixor X880 hx (hb hby at_149) ?_
  have f881 := (((((((r853.ext E854).other W863 (Or.inl f878)).other U863 (Or.inl f878)).ext E866).keep K872 (ninS f878 nin0)).ext E875).other W880 (Or.inr (slot_ne (Or.inl (own_w238 hw)) (Or.inl (own_w236 hw)) (by decide) own_fd_I own_fd_Ljava_2flang_2fLong_3b)))
  have f882 := (f876.wr W880)
  refine own_putfield X880 hx hZ843 (host := "") ho843 (Or.inl (own_w237 hw)) Via.refl e880 f881 f882 (Or.inl (own_w238 hw)) (own_w197 hw) own_fd_I rfl rfl (hb hby at_150) fun T883 h883 X883 e883 W883 => ?_
  have N883 := Fr.snoc X883 N880 f835
  refine own_aload X883 hx (hb hby at_153) rfl rfl ?_
  refine own_aload X883 hx (hb hby at_155) rfl rfl ?_
  have f884 := ((((((((s853.ext E854).other W863 (Or.inl f878)).other U863 (Or.inl f878)).ext E866).keep K872 (ninS f878 nin0)).ext E875).other W880 (Or.inr (slot_ne (Or.inl (own_w231 hw)) (Or.inl (own_w236 hw)) (by decide) own_fd_Ljava_2futil_2fList_3b own_fd_Ljava_2flang_2fLong_3b))).other W883 (Or.inr (slot_ne (Or.inl (own_w231 hw)) (Or.inl (own_w238 hw)) (by decide) own_fd_Ljava_2futil_2fList_3b own_fd_I)))
  have f885 := (f882.wr W883)
  refine own_putfield X883 hx hZ843 (host := "") ho843 (Or.inl (own_w239 hw)) Via.refl e883 f884 f885 (Or.inl (own_w231 hw)) (own_w197 hw) own_fd_Ljava_2futil_2fList_3b rfl rfl (hb hby at_157) fun T886 h886 X886 e886 W886 => ?_
  have N886 := Fr.snoc X886 N883 f835
  refine own_aload X886 hx (hb hby at_160) rfl rfl ?_
  refine own_iloadN X886 hx (hb hby at_162) rfl ?_
  refine own_iconst X886 hx (-1 : Int32) (hb hby at_163) rfl ?_
  refine own_ixor X886 hx (hb hby at_164) ?_
  have f887 := (((((((((t853.ext E854).other W863 (Or.inl f878)).other U863 (Or.inl f878)).ext E866).keep K872 (ninS f878 nin0)).ext E875).other W880 (Or.inr (slot_ne (Or.inl (own_w241 hw)) (Or.inl (own_w236 hw)) (by decide) own_fd_I own_fd_Ljava_2flang_2fLong_3b))).other W883 (Or.inr (slot_ne (Or.inl (own_w241 hw)) (Or.inl (own_w238 hw)) (by decide) own_fd_I own_fd_I))).other W886 (Or.inr (slot_ne (Or.inl (own_w241 hw)) (Or.inl (own_w231 hw)) (by decide) own_fd_I own_fd_Ljava_2futil_2fList_3b)))
  have f888 := (f885.wr W886)
  refine own_putfield X886 hx hZ843 (host := "") ho843 (Or.inl (own_w240 hw)) Via.refl e886 f887 f888 (Or.inl (own_w241 hw)) (own_w197 hw) own_fd_I rfl rfl (hb hby at_165) fun T889 h889 X889 e889 W889 => ?_
  have N889 := Fr.snoc X889 N886 f835
  refine own_aload X889 hx (hb hby at_168) rfl rfl ?_
  refine own_aload X889 hx (hb hby at_170) rfl rfl ?_
  have f890 := (((((f874.ext E875).wr W880 f835).wr W883 f835).wr W886 f835).wr W889 f835)
  have f891 := (((((((((((((p832.ext E833).ext E843).keep K853).ext E854).wr W863).wr U863).ext E866).keep K872).ext E875).wr W880).wr W883).wr W886).wr W889)
  have f892 := (f888.wr W889)
  have f893 := ne_exa f891 f892 (by decide)
  have f894 := ((((f877.wr W880).wr W883).wr W886).wr W889)
  have f895 := ne_exa f891 f894 (by decide)
  have f896 := (((((((((((((q832.ext E833).ext E843).keep K853 (ninS f893 nin0)).ext E854).other W863 (Or.inl f895)).other U863 (Or.inl f895)).ext E866).keep K872 (ninS f895 nin0)).ext E875).other W880 (Or.inl f893)).other W883 (Or.inl f893)).other W886 (Or.inl f893)).other W889 (Or.inl f893))
  have f897 := (((((((((((((r832.ext E833).ext E843).keep K853 (ninS f893 nin0)).ext E854).other W863 (Or.inl f895)).other U863 (Or.inl f895)).ext E866).keep K872 (ninS f895 nin0)).ext E875).other W880 (Or.inl f893)).other W883 (Or.inl f893)).other W886 (Or.inl f893)).other W889 (Or.inl f893))
  have f898 := (((((((((((((s832.ext E833).ext E843).keep K853 (ninS f893 nin0)).ext E854).other W863 (Or.inl f895)).other U863 (Or.inl f895)).ext E866).keep K872 (ninS f895 nin0)).ext E875).other W880 (Or.inl f893)).other W883 (Or.inl f893)).other W886 (Or.inl f893)).other W889 (Or.inl f893))
  have f899 := (((((((((((((t832.ext E833).ext E843).keep K853 (ninS f893 nin0)).ext E854).other W863 (Or.inl f895)).other U863 (Or.inl f895)).ext E866).keep K872 (ninS f895 nin0)).ext E875).other W880 (Or.inl f893)).other W883 (Or.inl f893)).other W886 (Or.inl f893)).other W889 (Or.inl f893))
  have f900 := ((((f879.same W880).other W883 (Or.inr (slot_ne (Or.inl (own_w236 hw)) (Or.inl (own_w238 hw)) (by decide) own_fd_Ljava_2flang_2fLong_3b own_fd_I))).other W886 (Or.inr (slot_ne (Or.inl (own_w236 hw)) (Or.inl (own_w231 hw)) (by decide) own_fd_Ljava_2flang_2fLong_3b own_fd_Ljava_2futil_2fList_3b))).other W889 (Or.inr (slot_ne (Or.inl (own_w236 hw)) (Or.inl (own_w241 hw)) (by decide) own_fd_Ljava_2flang_2fLong_3b own_fd_I)))
  have f901 := (((f881.same W883).other W886 (Or.inr (slot_ne (Or.inl (own_w238 hw)) (Or.inl (own_w231 hw)) (by decide) own_fd_I own_fd_Ljava_2futil_2fList_3b))).other W889 (Or.inr (slot_ne (Or.inl (own_w238 hw)) (Or.inl (own_w241 hw)) (by decide) own_fd_I own_fd_I)))
  have f902 := ((f884.same W886).other W889 (Or.inr (slot_ne (Or.inl (own_w231 hw)) (Or.inl (own_w241 hw)) (by decide) own_fd_Ljava_2futil_2fList_3b own_fd_I)))
  refine own_virt X889 hx hZ843 ho843 (own_w242 hw) (own_w243 hw) (own_w245 hw) (own_w245 hw) (own_w244 hw) (own_w246 hw) (own_w82 hw) (by decide) e889 f891 (hb hby at_172) (by rw [hml]; rfl) own_pd__28Lcom_2fexample_2fregent_2fregent_2fcontroller_2fGroup_3b_29V rfl (W := 0) (Nat.le_of_ble_eq_true rfl) (own_ap1 l Z a0 hw b814 b833 el x813 ep sp _ _ _ _ h889 n0 f890 f891 f892 f835 f896 f897 f898 f899 f900 f901 f902 (f887.same W889)) (by decide) (by decide) (by decide) (by decide) (argsL := [(.ref b833)]) (rest := []) rfl rfl fun v903 T903 L903 X903 q903 => ?_
  obtain ⟨h903, e903⟩ : ∃ z, T903.heap = z := ⟨_, rfl⟩
  try dsimp only at q903
  rw [e903] at q903
  obtain ⟨rfl, M903, K903, p903, q903, r903, s903, t903⟩ := q903
  have N903 := Fr.app N889 M903
  show own_Fin p e below _ (T903.setTop (mkF m 175 #[.val (.long m0), .second, .val (.int ep), .val (.int sp), .val (.long qa), .second, .val (.long qb), .second, .val (.int fl), .val (.int (1 : Int32)), .val (.int (0 : Int32)), .val (.ref b804), .val (.ref x813), .val (.ref b814), .val (.ref b833), .val (.ref b854), .unset, .unset, .unset, .unset] []))
  refine own_iload X903 hx (hb hby at_175) rfl ?_
  refine own_ifNo X903 hx (hb hby at_177) (by decide) ?_
  refine own_aload X903 hx (hb hby at_180) rfl rfl ?_
  refine own_getfield X903 hx hZ843 (host := "") ho843 (Or.inl (own_w235 hw)) Via.refl e903 q903 (hb hby at_182) fun T904 X904 e904 => ?_
  refine own_ifnullNo X904 hx (hb hby at_185) ?_
  refine own_aload X904 hx (hb hby at_188) rfl rfl ?_
  refine own_getfield X904 hx hZ843 (host := "") ho843 (Or.inl (own_w235 hw)) Via.refl e904 q903 (hb hby at_190) fun T905 X905 e905 => ?_
  have f906 := (f890.keep K903 (allS f835 all0))
  have f907 := (((((((((((((((((P813.ext E814).ext E822).keep K832).ext E833).ext E843).keep K853).ext E854).wr W863).wr U863).ext E866).keep K872).ext E875).wr W880).wr W883).wr W886).wr W889).keep K903)
  have f908 := (f891.keep K903)
  have f909 := ne_exa f907 f908 (by decide)
  have f910 := ne_exa f907 p903 (by decide)
  have f911 := (f894.keep K903)
  have f912 := ne_exa f907 f911 (by decide)
  have f913 := (((((((((((((((((F813.ext E814).ext E822).keep K832 (ninS f909 nin0)).ext E833).ext E843).keep K853 (ninS f910 nin0)).ext E854).other W863 (Or.inl f912)).other U863 (Or.inl f912)).ext E866).keep K872 (ninS f912 nin0)).ext E875).other W880 (Or.inl f910)).other W883 (Or.inl f910)).other W886 (Or.inl f910)).other W889 (Or.inl f910)).keep K903 (ninS f910 nin0))
  refine own_virt X905 hx hZ843 ho843 (own_w251 hw) (own_w252 hw) (own_w254 hw) (own_w254 hw) (own_w253 hw) (own_w255 hw) (own_w28 hw) (by decide) e905 f907 (hb hby at_193) (by rw [hml]; rfl) own_pd__28_29J rfl (W := 0) (Nat.le_of_ble_eq_true rfl) (own_lv l Z a0 hw x813 m0 h903 n0 f906 f913) (by decide) (by decide) (by decide) (by decide) (argsL := []) (rest := []) rfl rfl fun v914 T914 L914 X914 q914 => ?_
  obtain ⟨rfl, M914, e914⟩ := q914
  have N914 := Fr.app N903 M914
  show own_Fin p e below _ (T914.setTop (mkF m 196 #[.val (.long m0), .second, .val (.int ep), .val (.int sp), .val (.long qa), .second, .val (.long qb), .second, .val (.int fl), .val (.int (1 : Int32)), .val (.int (0 : Int32)), .val (.ref b804), .val (.ref x813), .val (.ref b814), .val (.ref b833), .val (.ref b854), .unset, .unset, .unset, .unset] [(.long m0)]))
  refine own_lloadN X914 hx (hb hby at_196) rfl ?_
  refine own_lcmp X914 hx (hb hby at_197) ?_
  refine own_ifNo X914 hx (hb hby at_198) (Jvm.Free.XT.ll_ne_f rfl) ?_
  refine own_iconst X914 hx (1 : Int32) (hb hby at_201) rfl ?_
  refine own_goto X914 hx 206 (hb hby at_202) (by decide) (by decide) ?_
  refine own_istore X914 hx (l' := #[.val (.long m0), .second, .val (.int ep), .val (.int sp), .val (.long qa), .second, .val (.long qb), .second, .val (.int fl), .val (.int (1 : Int32)), .val (.int (0 : Int32)), .val (.ref b804), .val (.ref x813), .val (.ref b814), .val (.ref b833), .val (.ref b854), .val (.int (1 : Int32)), .unset, .unset, .unset]) (hb hby at_206) rfl ?_
  refine own_goto X914 hx 226 (hb hby at_208) (by decide) (by decide) ?_
  refine own_aload X914 hx (hb hby at_226) rfl rfl ?_
  refine own_getfield X914 hx hZ843 (host := "") ho843 (Or.inl (own_w237 hw)) Via.refl e914 r903 (hb hby at_228) fun T915 X915 e915 => ?_
  refine own_iloadN X915 hx (hb hby at_231) rfl ?_
  refine own_icmpNo X915 hx (hb hby at_232) (Jvm.Free.XT.ii_ne_f rfl) ?_
  refine own_aload X915 hx (hb hby at_235) rfl rfl ?_
  refine own_getfield X915 hx hZ843 (host := "") ho843 (Or.inl (own_w240 hw)) Via.refl e915 t903 (hb hby at_237) fun T916 X916 e916 => ?_
  refine own_iloadN X916 hx (hb hby at_240) rfl ?_
  refine own_icmpNo X916 hx (hb hby at_241) (Jvm.Free.XT.ii_ne_f rfl) ?_
  refine own_iconst X916 hx (1 : Int32) (hb hby at_244) rfl ?_
  refine own_goto X916 hx 249 (hb hby at_245) (by decide) (by decide) ?_
  refine own_istore X916 hx (l' := #[.val (.long m0), .second, .val (.int ep), .val (.int sp), .val (.long qa), .second, .val (.long qb), .second, .val (.int fl), .val (.int (1 : Int32)), .val (.int (0 : Int32)), .val (.ref b804), .val (.ref x813), .val (.ref b814), .val (.ref b833), .val (.ref b854), .val (.int (1 : Int32)), .val (.int (1 : Int32)), .unset, .unset]) (hb hby at_249) rfl ?_
  refine own_aload X916 hx (hb hby at_251) rfl rfl ?_
  refine own_getfield X916 hx hZ843 (host := "") ho843 (Or.inl (own_w239 hw)) Via.refl e916 s903 (hb hby at_253) fun T917 X917 e917 => ?_
  refine own_astore X917 hx (l' := #[.val (.long m0), .second, .val (.int ep), .val (.int sp), .val (.long qa), .second, .val (.long qb), .second, .val (.int fl), .val (.int (1 : Int32)), .val (.int (0 : Int32)), .val (.ref b804), .val (.ref x813), .val (.ref b814), .val (.ref b833), .val (.ref b854), .val (.int (1 : Int32)), .val (.int (1 : Int32)), .val (.ref el), .unset]) (hb hby at_256) rfl rfl ?_
  refine own_aload X917 hx (hb hby at_258) rfl rfl ?_
  refine own_ifnullNo X917 hx (hb hby at_260) ?_
  refine own_aload X917 hx (hb hby at_263) rfl rfl ?_
  refine own_intf X917 hx hZ843 ho843 (own_w256 hw) (own_w257 hw) (own_w258 hw) (own_w275 hw) (own_w276 hw) (own_w277 hw) (own_w278 hw) (own_w279 hw) (own_w281 hw) (own_w280 hw) (by decide) e917 (EEL.ext f906.2) (hb hby at_265) (by rw [hml]; rfl) own_pd__28_29I rfl (W := 0) (Nat.le_of_ble_eq_true rfl) (own_szN l Z a0 hw el en nl h903 n0 f906 FN AN ln) (by decide) (by decide) (by decide) (by decide) (argsL := []) (rest := []) rfl rfl fun v918 T918 L918 X918 q918 => ?_
  obtain ⟨rfl, M918, e918⟩ := q918
  have N918 := Fr.app N914 M918
  show own_Fin p e below _ (T918.setTop (mkF m 270 #[.val (.long m0), .second, .val (.int ep), .val (.int sp), .val (.long qa), .second, .val (.long qb), .second, .val (.int fl), .val (.int (1 : Int32)), .val (.int (0 : Int32)), .val (.ref b804), .val (.ref x813), .val (.ref b814), .val (.ref b833), .val (.ref b854), .val (.int (1 : Int32)), .val (.int (1 : Int32)), .val (.ref el), .unset] [(.int (0 : Int32))]))
  refine own_iload X918 hx (hb hby at_270) rfl ?_
  refine own_icmpNo X918 hx (hb hby at_272) (by decide) ?_
  refine own_iconst X918 hx (1 : Int32) (hb hby at_275) rfl ?_
  refine own_goto X918 hx 280 (hb hby at_276) (by decide) (by decide) ?_
  refine own_istore X918 hx (l' := #[.val (.long m0), .second, .val (.int ep), .val (.int sp), .val (.long qa), .second, .val (.long qb), .second, .val (.int fl), .val (.int (1 : Int32)), .val (.int (0 : Int32)), .val (.ref b804), .val (.ref x813), .val (.ref b814), .val (.ref b833), .val (.ref b854), .val (.int (1 : Int32)), .val (.int (1 : Int32)), .val (.ref el), .val (.int (1 : Int32))]) (hb hby at_280) rfl ?_
  refine own_iload X918 hx (hb hby at_282) rfl ?_
  refine own_ifNo X918 hx (hb hby at_284) (by decide) ?_
  refine own_iload X918 hx (hb hby at_287) rfl ?_
  refine own_iconst X918 hx (1 : Int32) (hb hby at_289) rfl ?_
  refine own_icmpYes X918 hx 320 (hb hby at_290) (by decide) (by decide) (by decide) ?_
  refine own_iload X918 hx (hb hby at_320) rfl ?_
  refine own_ifNo X918 hx (hb hby at_322) (by decide) ?_
  refine own_iload X918 hx (hb hby at_325) rfl ?_
  refine own_iconst X918 hx (2 : Int32) (hb hby at_327) rfl ?_
  refine own_icmpYes X918 hx 358 (hb hby at_328) (by decide) (by decide) (by decide) ?_
  refine own_iload X918 hx (hb hby at_358) rfl ?_
  refine own_ifNo X918 hx (hb hby at_360) (by decide) ?_
  refine own_iload X918 hx (hb hby at_363) rfl ?_
  refine own_ifNo X918 hx (hb hby at_365) (by decide) ?_
  refine own_iload X918 hx (hb hby at_368) rfl ?_
  refine own_ifNo X918 hx (hb hby at_370) (by decide) ?_
  refine own_iconst X918 hx (1 : Int32) (hb hby at_373) rfl ?_
  refine own_goto X918 hx 378 (hb hby at_374) (by decide) (by decide) ?_
  refine own_retNW (s := s) X918 hx hS843 (by rw [e918]; exact Nat.le_trans hk843 (Nat.le_trans (Nat.le_trans (Nat.le_trans (Nat.le_trans (Nat.le_trans (Nat.le_trans (Nat.le_trans (Nat.le_trans (Nat.le_trans (Nat.le_trans (Nat.le_trans (Nat.le_trans (Nat.le_refl _) K853.1) E854.1) (Nat.le_of_eq W863.size.symm)) (Nat.le_of_eq U863.size.symm)) E866.1) K872.1) E875.1) (Nat.le_of_eq W880.size.symm)) (Nat.le_of_eq W883.size.symm)) (Nat.le_of_eq W886.size.symm)) (Nat.le_of_eq W889.size.symm)) K903.1)) (t := .boolean) hret (by simp) (hb hby at_378) hlk (by decide) (by decide) ?_
  exact ⟨rfl, N918⟩
set_option maxRecDepth 65536 in
set_option maxHeartbeats 40000000 in
theorem own_law11 (l : Launch) (Z : State) (a0 : Array Value) (hw : ∀ d ∈ tables_1, d.before a0 Z = true) (m0 qa qb : Int64) (ep sp fl : Int32) (dc ca em el en mr : Addr) (dl cc nl : Cell) (h0 : Heap) (n0 : Nat) (OX : Old Z n0 h0) (hfl : fl &&& (1 : Int32) = 1) (hnn : Jvm.Free.XT.ushr fl (1 : Int32) % (3 : Int32) = (1 : Int32)) (S : Sta Z Z.heap "java/util/ArrayList" "DEFAULTCAPACITY_EMPTY_ELEMENTDATA" "[Ljava/lang/Object;" (.ref dc)) (A : Arr Z Z.heap dc dl (.object "java/lang/Object")) (hl : dl.slots.size.toInt32 = (0 : Int32)) (SC : Sta Z Z.heap "java/lang/Long$LongCache" "cache" "[Ljava/lang/Long;" (.ref ca)) (BC : Bxs Z ca cc "java/lang/Long" "J" 256 fun j => .long (j - 128).toInt64) (SE : Sta Z Z.heap "java/util/ImmutableCollections" "EMPTY" "Ljava/lang/Object;" (.ref em)) (EEM : Exa Z Z.heap em "java/lang/Object") (SL : Sta Z Z.heap "java/util/ImmutableCollections" "EMPTY_LIST" "Ljava/util/ImmutableCollections$ListN;" (.ref el)) (EEL : Exa Z Z.heap el "java/util/ImmutableCollections$ListN") (FN : Fld Z Z.heap el "java/util/ImmutableCollections$ListN" "elements" "[Ljava/lang/Object;" (.ref en)) (AN : Arr Z Z.heap en nl (.object "java/lang/Object")) (ln : nl.slots.size.toInt32 = (0 : Int32)) (MM : own_Mir Z "[Ljava/lang/Object;" mr) (NA : ∃ c t, Z.vm.findClass "java/util/ArrayList" = some c ∧ Z.vm.findClass "java/util/ImmutableCollections$List12" = some t ∧ Z.vm.assignable c t = false) (NB : ∃ c t, Z.vm.findClass "java/util/ArrayList" = some c ∧ Z.vm.findClass "java/util/ImmutableCollections$ListN" = some t ∧ Z.vm.assignable c t = false) (wS : ∀ a ∈ Bundle.stringAtoms, a.before a0 Z = true) :
    own_MetW l Z x code maxLocals ret room_1 #[(.long m0), (.int ep), (.int sp), (.long qa), (.long qb), (.int fl)] h0 (fun v h L => v = some (.int 1) ∧ Fr n0 L) := by
  refine own_bodyW (Ls := #[.val (.long m0), .second, .val (.int ep), .val (.int sp), .val (.long qa), .second, .val (.long qb), .second, .val (.int fl), .unset, .unset, .unset, .unset, .unset, .unset, .unset, .unset, .unset, .unset, .unset]) (plainFor_of_name own_pn_com_example_regent_regent_controller_MasterChangedApplyToPinLaw) (fun m => by first | (simp [entryFrame, mkF, argsToLocals, Value.category, maxLocals]; done) | rfl) ?_
  intro p e s m below meth c s₁ hx hZ hby hml hown hnm hret hlk X0 e0
  have N0 := Fr.nil n0
  refine own_iload X0 hx (hb hby at_0) rfl ?_
  refine own_iconst X0 hx (1 : Int32) (hb hby at_2) rfl ?_
  refine own_iand X0 hx (hb hby at_3) ?_
  refine own_ifNo X0 hx (hb hby at_4) (Jvm.Free.XT.i0_eq_f (by rw [hfl]; decide)) ?_
  refine own_iconst X0 hx (1 : Int32) (hb hby at_7) rfl ?_
  refine own_goto X0 hx 12 (hb hby at_8) (by decide) (by decide) ?_
  refine own_istore X0 hx (l' := #[.val (.long m0), .second, .val (.int ep), .val (.int sp), .val (.long qa), .second, .val (.long qb), .second, .val (.int fl), .val (.int (1 : Int32)), .unset, .unset, .unset, .unset, .unset, .unset, .unset, .unset, .unset, .unset]) (hb hby at_12) rfl ?_
  refine own_iload X0 hx (hb hby at_14) rfl ?_
  refine own_iconst X0 hx (1 : Int32) (hb hby at_16) rfl ?_
  refine own_iushr X0 hx (hb hby at_17) ?_
  refine own_iconst X0 hx (3 : Int32) (hb hby at_18) rfl ?_
  refine own_irem X0 hx (hb hby at_19) (by decide) ?_
  rw [hnn]
  show own_Fin p e below _ (s₁.setTop (mkF m 20 #[.val (.long m0), .second, .val (.int ep), .val (.int sp), .val (.long qa), .second, .val (.long qb), .second, .val (.int fl), .val (.int (1 : Int32)), .unset, .unset, .unset, .unset, .unset, .unset, .unset, .unset, .unset, .unset] [(.int (1 : Int32))]))
  refine own_istore X0 hx (l' := #[.val (.long m0), .second, .val (.int ep), .val (.int sp), .val (.long qa), .second, .val (.long qb), .second, .val (.int fl), .val (.int (1 : Int32)), .val (.int (1 : Int32)), .unset, .unset, .unset, .unset, .unset, .unset, .unset, .unset, .unset]) (hb hby at_20) rfl ?_
  refine own_new X0 hx hZ hown (own_w0 hw) (own_w1 hw) (own_w2 hw) e0 (hb hby at_22) (by decide) (by decide) fun T919 h919 b919 X919 e919 g919 E919 A919 D919 => ?_
  have f920 : n0 ≤ b919 := Nat.le_trans (own_old OX) (Nat.le_of_eq g919.symm)
  have f921 : Fld Z h919 b919 "java/util/AbstractList" "modCount" "I" (.int (0 : Int32)) := D919 (Or.inl (own_w22 hw)) own_fd_I
  have f922 : Fld Z h919 b919 "java/util/ArrayList" "elementData" "[Ljava/lang/Object;" .null := D919 (Or.inl (own_w25 hw)) own_fd__5bLjava_2flang_2fObject_3b
  have f923 : Fld Z h919 b919 "java/util/ArrayList" "size" "I" (.int (0 : Int32)) := D919 (Or.inl (own_w54 hw)) own_fd_I
  refine own_dup X919 hx (hb hby at_25) rfl ?_
  have f924 := (OX.ext E919)
  refine own_spec X919 hx hZ rfl hown (own_w3 hw) (own_w4 hw) (own_w5 hw) (own_w2 hw) (by decide) e919 (hb hby at_26) (by rw [hml]; rfl) own_pd__28_29V rfl (W := 1) (Nat.le_of_ble_eq_true rfl) (own_ali l Z a0 hw b919 dc _ _ h919 n0 f924 A919 f921 f922 f920 S) (by decide) (by decide) (by decide) (by decide) (a := b919) (argsL := []) (rest := [(.ref b919)]) rfl rfl fun v925 T925 L925 X925 q925 => ?_
  obtain ⟨h925, e925⟩ : ∃ z, T925.heap = z := ⟨_, rfl⟩
  try dsimp only at q925
  rw [e925] at q925
  obtain ⟨rfl, M925, j925, W925, U925⟩ := q925
  have N925 := Fr.app N0 M925
  have f926 := (f922.other W925 (Or.inr (slot_ne (Or.inl (own_w25 hw)) (Or.inl (own_w22 hw)) (by decide) own_fd__5bLjava_2flang_2fObject_3b own_fd_I)))
  show own_Fin p e below _ (T925.setTop (mkF m 29 #[.val (.long m0), .second, .val (.int ep), .val (.int sp), .val (.long qa), .second, .val (.long qb), .second, .val (.int fl), .val (.int (1 : Int32)), .val (.int (1 : Int32)), .unset, .unset, .unset, .unset, .unset, .unset, .unset, .unset, .unset] [(.ref b919)]))
  refine own_astore X925 hx (l' := #[.val (.long m0), .second, .val (.int ep), .val (.int sp), .val (.long qa), .second, .val (.long qb), .second, .val (.int fl), .val (.int (1 : Int32)), .val (.int (1 : Int32)), .val (.ref b919), .unset, .unset, .unset, .unset, .unset, .unset, .unset, .unset]) (hb hby at_29) rfl rfl ?_
  refine own_iload X925 hx (hb hby at_31) rfl ?_
  refine own_iconst X925 hx (1 : Int32) (hb hby at_33) rfl ?_
  refine own_icmpNo X925 hx (hb hby at_34) (by decide) ?_
  refine own_aload X925 hx (hb hby at_37) rfl rfl ?_
  refine own_lload X925 hx (hb hby at_39) rfl ?_
  have f927 := ((f924.wr W925 f920).wr U925 f920)
  refine own_stat X925 hx hZ hown (own_w26 hw) (own_w27 hw) (own_w29 hw) (own_w28 hw) (by decide) e925 (hb hby at_41) (by rw [hml]; rfl) own_pd__28J_29Ljava_2flang_2fLong_3b rfl (W := 1) (Nat.le_of_ble_eq_true rfl) (own_lvo l Z a0 hw qa ca cc h925 n0 f927 SC BC) (by decide) (by decide) (by decide) (by decide) (argsL := [(.long qa)]) (rest := [(.ref b919)]) rfl rfl fun v928 T928 L928 X928 q928 => ?_
  obtain ⟨h928, e928⟩ : ∃ z, T928.heap = z := ⟨_, rfl⟩
  try dsimp only at q928
  rw [e928] at q928
  obtain ⟨x928, rfl, M928, E928, P928, F928⟩ := q928
  have N928 := Fr.app N925 M928
  show own_Fin p e below _ (T928.setTop (mkF m 44 #[.val (.long m0), .second, .val (.int ep), .val (.int sp), .val (.long qa), .second, .val (.long qb), .second, .val (.int fl), .val (.int (1 : Int32)), .val (.int (1 : Int32)), .val (.ref b919), .unset, .unset, .unset, .unset, .unset, .unset, .unset, .unset] [(.ref x928), (.ref b919)]))
  have f929 := (f927.ext E928)
  have f930 := (((A919.wr W925).wr U925).ext E928)
  have f931 := ((f926.same U925).ext E928)
  have f932 := (((f923.other W925 (Or.inr (slot_ne (Or.inl (own_w54 hw)) (Or.inl (own_w22 hw)) (by decide) own_fd_I own_fd_I))).other U925 (Or.inr (slot_ne (Or.inl (own_w54 hw)) (Or.inl (own_w25 hw)) (by decide) own_fd_I own_fd__5bLjava_2flang_2fObject_3b))).ext E928)
  have f933 := (((f921.same W925).other U925 (Or.inr (slot_ne (Or.inl (own_w22 hw)) (Or.inl (own_w25 hw)) (by decide) own_fd_I own_fd__5bLjava_2flang_2fObject_3b))).ext E928)
  refine own_virt X928 hx hZ hown (own_w46 hw) (own_w47 hw) (own_w49 hw) (own_w49 hw) (own_w48 hw) (own_w50 hw) (own_w2 hw) (by decide) e928 f930 (hb hby at_44) (by rw [hml]; rfl) own_pd__28Ljava_2flang_2fObject_3b_29Z rfl (W := 0) (Nat.le_of_ble_eq_true rfl) (own_ad1 l Z a0 hw b919 x928 dc dl (0 : Int32) h928 n0 f929 f930 f931 f920 f932 f933 P928 S A hl) (by decide) (by decide) (by decide) (by decide) (argsL := [(.ref x928)]) (rest := []) rfl rfl fun v934 T934 L934 X934 q934 => ?_
  obtain ⟨h934, e934⟩ : ∃ z, T934.heap = z := ⟨_, rfl⟩
  try dsimp only at q934
  rw [e934] at q934
  obtain ⟨rfl, M934, K934, p934, q934, r934, b934, k934, g934, s934, t934, u934, o934⟩ := q934
  have N934 := Fr.app N928 M934
  have f935 : n0 ≤ b934 := Nat.le_trans (own_old f929) g934
  show own_Fin p e below _ (T934.setTop (mkF m 47 #[.val (.long m0), .second, .val (.int ep), .val (.int sp), .val (.long qa), .second, .val (.long qb), .second, .val (.int fl), .val (.int (1 : Int32)), .val (.int (1 : Int32)), .val (.ref b919), .unset, .unset, .unset, .unset, .unset, .unset, .unset, .unset] [(.int (1 : Int32))]))
  refine own_pop X934 hx (hb hby at_47) rfl ?_
  refine own_iload X934 hx (hb hby at_48) rfl ?_
  refine own_iconst X934 hx (2 : Int32) (hb hby at_50) rfl ?_
  refine own_icmpYes X934 hx 65 (hb hby at_51) (by decide) (by decide) (by decide) ?_
  refine own_iload X934 hx (hb hby at_65) rfl ?_
  refine own_ifNo X934 hx (hb hby at_67) (by decide) ?_
  refine own_lloadN X934 hx (hb hby at_70) rfl ?_
  have f936 := (f929.keep K934 (allS f920 all0))
  refine own_stat X934 hx hZ hown (own_w26 hw) (own_w27 hw) (own_w29 hw) (own_w28 hw) (by decide) e934 (hb hby at_71) (by rw [hml]; rfl) own_pd__28J_29Ljava_2flang_2fLong_3b rfl (W := 0) (Nat.le_of_ble_eq_true rfl) (own_lvo l Z a0 hw m0 ca cc h934 n0 f936 SC BC) (by decide) (by decide) (by decide) (by decide) (argsL := [(.long m0)]) (rest := []) rfl rfl fun v937 T937 L937 X937 q937 => ?_
  obtain ⟨h937, e937⟩ : ∃ z, T937.heap = z := ⟨_, rfl⟩
  try dsimp only at q937
  rw [e937] at q937
  obtain ⟨x937, rfl, M937, E937, P937, F937⟩ := q937
  have N937 := Fr.app N934 M937
  show own_Fin p e below _ (T937.setTop (mkF m 74 #[.val (.long m0), .second, .val (.int ep), .val (.int sp), .val (.long qa), .second, .val (.long qb), .second, .val (.int fl), .val (.int (1 : Int32)), .val (.int (1 : Int32)), .val (.ref b919), .unset, .unset, .unset, .unset, .unset, .unset, .unset, .unset] [(.ref x937)]))
  refine own_goto X937 hx 78 (hb hby at_74) (by decide) (by decide) ?_
  refine own_astore X937 hx (l' := #[.val (.long m0), .second, .val (.int ep), .val (.int sp), .val (.long qa), .second, .val (.long qb), .second, .val (.int fl), .val (.int (1 : Int32)), .val (.int (1 : Int32)), .val (.ref b919), .val (.ref x937), .unset, .unset, .unset, .unset, .unset, .unset, .unset]) (hb hby at_78) rfl rfl ?_
  refine own_new X937 hx hZ hown (own_w80 hw) (own_w81 hw) (own_w82 hw) e937 (hb hby at_80) (by decide) (by decide) fun T938 h938 b938 X938 e938 g938 E938 A938 D938 => ?_
  have f939 := (f936.ext E937)
  have f940 : n0 ≤ b938 := Nat.le_trans (own_old f939) (Nat.le_of_eq g938.symm)
  have f941 : Fld Z h938 b938 "com/example/regent/regent/controller/Event$MasterChanged" "group" "Ljava/lang/String;" .null := D938 (Or.inr (own_w187 hw)) own_fd_Ljava_2flang_2fString_3b
  have f942 : Fld Z h938 b938 "com/example/regent/regent/controller/Event$MasterChanged" "master" "Ljava/lang/Long;" .null := D938 (Or.inr (own_w189 hw)) own_fd_Ljava_2flang_2fLong_3b
  have f943 : Fld Z h938 b938 "com/example/regent/regent/controller/Event$MasterChanged" "masterEpoch" "I" (.int (0 : Int32)) := D938 (Or.inr (own_w191 hw)) own_fd_I
  have f944 : Fld Z h938 b938 "com/example/regent/regent/controller/Event$MasterChanged" "syncStateSet" "Ljava/util/List;" .null := D938 (Or.inr (own_w193 hw)) own_fd_Ljava_2futil_2fList_3b
  have f945 : Fld Z h938 b938 "com/example/regent/regent/controller/Event$MasterChanged" "syncStateSetEpoch" "I" (.int (0 : Int32)) := D938 (Or.inr (own_w195 hw)) own_fd_I
  refine own_dup X938 hx (hb hby at_83) rfl ?_
  refine own_ldcS (s := s) (vm0 := s.vm) X938 hx hZ hown (own_w83 hw) wS e938 ((State.WarmedH.refl s).since 0) (Nat.zero_le _) (hb hby at_84) 4 (by decide) (by decide) (by decide) (by decide) fun sg946 vm946 T946 h946 k946 X946 e946 E946 hS946 hk946 hZ946 ho946 => ?_
  refine own_aload X946 hx (hb hby at_86) rfl rfl ?_
  refine own_iloadN X946 hx (hb hby at_88) rfl ?_
  refine own_aload X946 hx (hb hby at_89) rfl rfl ?_
  refine own_iloadN X946 hx (hb hby at_91) rfl ?_
  have f947 := (((p934.ext E937).ext E938).ext E946)
  have f948 := (((q934.ext E937).ext E938).ext E946)
  have f949 := (((s934.ext E937).ext E938).ext E946)
  have f950 := (((t934.ext E937).ext E938).ext E946)
  have f951 := ((((P928.keep K934).ext E937).ext E938).ext E946)
  have f952 := (((u934.ext E937).ext E938).ext E946)
  have f953 := ((f939.ext E938).ext E946)
  have f954 := (A938.ext E946)
  have f955 := (f941.ext E946)
  have f956 := (f942.ext E946)
  have f957 := (f943.ext E946)
  have f958 := (f944.ext E946)
  have f959 := (f945.ext E946)
  refine own_spec X946 hx hZ946 rfl ho946 (own_w91 hw) (own_w92 hw) (own_w93 hw) (own_w82 hw) (by decide) e946 (hb hby at_92) (by rw [hml]; rfl) own_pd__28Ljava_2flang_2fString_3bLjava_2flang_2fLong_3bILjava_2futil_2fList_3bI_29V rfl (W := 1) (Nat.le_of_ble_eq_true rfl) (own_ei11 l Z a0 hw b938 sg946 x937 ep sp b919 em b934 mr x928 k934 h946 n0 f953 f954 f940 f955 f956 f957 f958 f959 f947 f948 f949 f950 f951 f952 MM SE NA NB) (by decide) (by decide) (by decide) (by decide) (a := b938) (argsL := [(.ref sg946), (.ref x937), (.int ep), (.ref b919), (.int sp)]) (rest := [(.ref b938)]) rfl rfl fun v960 T960 L960 X960 q960 => ?_
  obtain ⟨h960, e960⟩ : ∃ z, T960.heap = z := ⟨_, rfl⟩
  try dsimp only at q960
  rw [e960] at q960
  obtain ⟨rfl, M960, K960, y960, g960, ⟨u960, v960, z960⟩, p960, q960, r960, s960, t960⟩ := q960
  have N960 := Fr.app N937 M960
  have f961 : n0 ≤ y960 := Nat.le_trans (own_old f953) g960
  show own_Fin p e below _ (T960.setTop (mkF m 95 #[.val (.long m0), .second, .val (.int ep), .val (.int sp), .val (.long qa), .second, .val (.long qb), .second, .val (.int fl), .val (.int (1 : Int32)), .val (.int (1 : Int32)), .val (.ref b919), .val (.ref x937), .unset, .unset, .unset, .unset, .unset, .unset, .unset] [(.ref b938)]))
  refine own_astore X960 hx (l' := #[.val (.long m0), .second, .val (.int ep), .val (.int sp), .val (.long qa), .second, .val (.long qb), .second, .val (.int fl), .val (.int (1 : Int32)), .val (.int (1 : Int32)), .val (.ref b919), .val (.ref x937), .val (.ref b938), .unset, .unset, .unset, .unset, .unset, .unset]) (hb hby at_95) rfl rfl ?_
  refine own_new X960 hx hZ946 ho946 (own_w196 hw) (own_w197 hw) (own_w198 hw) e960 (hb hby at_97) (by decide) (by decide) fun T962 h962 b962 X962 e962 g962 E962 A962 D962 => ?_
  have f963 := (f953.keep K960 (allS f940 all0))
  have f964 : n0 ≤ b962 := Nat.le_trans (own_old f963) (Nat.le_of_eq g962.symm)
  have f965 : Fld Z h962 b962 "com/example/regent/regent/controller/Group" "registerCodes" "Ljava/util/NavigableMap;" .null := D962 (Or.inr (own_w223 hw)) own_fd_Ljava_2futil_2fNavigableMap_3b
  have f966 : Fld Z h962 b962 "com/example/regent/regent/controller/Group" "brokers" "Ljava/util/NavigableMap;" .null := D962 (Or.inr (own_w225 hw)) own_fd_Ljava_2futil_2fNavigableMap_3b
  have f967 : Fld Z h962 b962 "com/example/regent/regent/controller/Group" "syncStateSet" "Ljava/util/List;" .null := D962 (Or.inl (own_w231 hw)) own_fd_Ljava_2futil_2fList_3b
  have f968 : Fld Z h962 b962 "com/example/regent/regent/controller/Group" "name" "Ljava/lang/String;" .null := D962 (Or.inr (own_w233 hw)) own_fd_Ljava_2flang_2fString_3b
  have f969 : Fld Z h962 b962 "com/example/regent/regent/controller/Group" "master" "Ljava/lang/Long;" .null := D962 (Or.inl (own_w236 hw)) own_fd_Ljava_2flang_2fLong_3b
  have f970 : Fld Z h962 b962 "com/example/regent/regent/controller/Group" "masterEpoch" "I" (.int (0 : Int32)) := D962 (Or.inl (own_w238 hw)) own_fd_I
  have f971 : Fld Z h962 b962 "com/example/regent/regent/controller/Group" "syncStateSetEpoch" "I" (.int (0 : Int32)) := D962 (Or.inl (own_w241 hw)) own_fd_I
  refine own_dup X962 hx (hb hby at_100) rfl ?_
  refine own_ldcS (s := s) (vm0 := vm946) X962 hx hZ946 ho946 (own_w83 hw) wS e962 hS946 (Nat.le_trans hk946 (Nat.le_trans (Nat.le_trans (Nat.le_refl _) K960.1) E962.1)) (hb hby at_101) 4 (by decide) (by decide) (by decide) (by decide) fun sg972 vm972 T972 h972 k972 X972 e972 E972 hS972 hk972 hZ972 ho972 => ?_
  have f973 := ((f963.ext E962).ext E972)
  have f974 := (A962.ext E972)
  have f975 := (f965.ext E972)
  have f976 := (f966.ext E972)
  have f977 := (f967.ext E972)
  have f978 := (f968.ext E972)
  have f979 := (f969.ext E972)
  have f980 := (f970.ext E972)
  have f981 := (f971.ext E972)
  refine own_spec X972 hx hZ972 rfl ho972 (own_w199 hw) (own_w200 hw) (own_w201 hw) (own_w198 hw) (by decide) e972 (hb hby at_103) (by rw [hml]; rfl) own_pd__28Ljava_2flang_2fString_3b_29V rfl (W := 1) (Nat.le_of_ble_eq_true rfl) (own_gri l Z a0 hw b962 sg972 el h972 n0 f973 f974 f964 f975 f976 f977 f978 f979 f980 f981 SL) (by decide) (by decide) (by decide) (by decide) (a := b962) (argsL := [(.ref sg972)]) (rest := [(.ref b962)]) rfl rfl fun v982 T982 L982 X982 q982 => ?_
  obtain ⟨h982, e982⟩ : ∃ z, T982.heap = z := ⟨_, rfl⟩
  try dsimp only at q982
  rw [e982] at q982
  obtain ⟨rfl, M982, K982, p982, q982, r982, s982, t982⟩ := q982
  have N982 := Fr.app N960 M982
  show own_Fin p e below _ (T982.setTop (mkF m 106 #[.val (.long m0), .second, .val (.int ep), .val (.int sp), .val (.long qa), .second, .val (.long qb), .second, .val (.int fl), .val (.int (1 : Int32)), .val (.int (1 : Int32)), .val (.ref b919), .val (.ref x937), .val (.ref b938), .unset, .unset, .unset, .unset, .unset, .unset] [(.ref b962)]))
  refine own_astore X982 hx (l' := #[.val (.long m0), .second, .val (.int ep), .val (.int sp), .val (.long qa), .second, .val (.long qb), .second, .val (.int fl), .val (.int (1 : Int32)), .val (.int (1 : Int32)), .val (.ref b919), .val (.ref x937), .val (.ref b938), .val (.ref b962), .unset, .unset, .unset, .unset, .unset]) (hb hby at_106) rfl rfl ?_
  refine own_new X982 hx hZ972 ho972 (own_w0 hw) (own_w1 hw) (own_w2 hw) e982 (hb hby at_108) (by decide) (by decide) fun T983 h983 b983 X983 e983 g983 E983 A983 D983 => ?_
  have f984 := ((((f947.keep K960).ext E962).ext E972).keep K982)
  have f985 := Nat.ne_of_lt (Nat.lt_of_lt_of_le f984.lt (Nat.le_of_eq g983.symm))
  have f986 := (f973.keep K982 (allS f964 all0))
  have f987 : n0 ≤ b983 := Nat.le_trans (own_old f986) (Nat.le_of_eq g983.symm)
  have f988 : Fld Z h983 b983 "java/util/AbstractList" "modCount" "I" (.int (0 : Int32)) := D983 (Or.inl (own_w22 hw)) own_fd_I
  have f989 : Fld Z h983 b983 "java/util/ArrayList" "elementData" "[Ljava/lang/Object;" .null := D983 (Or.inl (own_w25 hw)) own_fd__5bLjava_2flang_2fObject_3b
  have f990 : Fld Z h983 b983 "java/util/ArrayList" "size" "I" (.int (0 : Int32)) := D983 (Or.inl (own_w54 hw)) own_fd_I
  refine own_dup X983 hx (hb hby at_111) rfl ?_
  have f991 := (f986.ext E983)
  refine own_spec X983 hx hZ972 rfl ho972 (own_w3 hw) (own_w4 hw) (own_w5 hw) (own_w2 hw) (by decide) e983 (hb hby at_112) (by rw [hml]; rfl) own_pd__28_29V rfl (W := 1) (Nat.le_of_ble_eq_true rfl) (own_ali l Z a0 hw b983 dc _ _ h983 n0 f991 A983 f988 f989 f987 S) (by decide) (by decide) (by decide) (by decide) (a := b983) (argsL := []) (rest := [(.ref b983)]) rfl rfl fun v992 T992 L992 X992 q992 => ?_
  obtain ⟨h992, e992⟩ : ∃ z, T992.heap = z := ⟨_, rfl⟩
  try dsimp only at q992
  rw [e992] at q992
  obtain ⟨rfl, M992, j992, W992, U992⟩ := q992
  have N992 := Fr.app N982 M992
  have f993 := (f989.other W992 (Or.inr (slot_ne (Or.inl (own_w25 hw)) (Or.inl (own_w22 hw)) (by decide) own_fd__5bLjava_2flang_2fObject_3b own_fd_I)))
  show own_Fin p e below _ (T992.setTop (mkF m 115 #[.val (.long m0), .second, .val (.int ep), .val (.int sp), .val (.long qa), .second, .val (.long qb), .second, .val (.int fl), .val (.int (1 : Int32)), .val (.int (1 : Int32)), .val (.ref b919), .val (.ref x937), .val (.ref b938), .val (.ref b962), .unset, .unset, .unset, .unset, .unset] [(.ref b983)]))
  refine own_astore X992 hx (l' := #[.val (.long m0), .second, .val (.int ep), .val (.int sp), .val (.long qa), .second, .val (.long qb), .second, .val (.int fl), .val (.int (1 : Int32)), .val (.int (1 : Int32)), .val (.ref b919), .val (.ref x937), .val (.ref b938), .val (.ref b962), .val (.ref b983), .unset, .unset, .unset, .unset]) (hb hby at_115) rfl rfl ?_
  refine own_aload X992 hx (hb hby at_117) rfl rfl ?_
  refine own_lload X992 hx (hb hby at_119) rfl ?_
  refine own_ldc2J X992 hx hZ972 ho972 (own_w234 hw) (hb hby at_121) ?_
  refine own_lxor X992 hx (hb hby at_124) ?_
  have f994 := ((f991.wr W992 f987).wr U992 f987)
  refine own_stat X992 hx hZ972 ho972 (own_w26 hw) (own_w27 hw) (own_w29 hw) (own_w28 hw) (by decide) e992 (hb hby at_125) (by rw [hml]; rfl) own_pd__28J_29Ljava_2flang_2fLong_3b rfl (W := 1) (Nat.le_of_ble_eq_true rfl) (own_lvo l Z a0 hw (qa ^^^ (-1 : Int64)) ca cc h992 n0 f994 SC BC) (by decide) (by decide) (by decide) (by decide) (argsL := [(.long (qa ^^^ (-1 : Int64)))]) (rest := [(.ref b983)]) rfl rfl fun v995 T995 L995 X995 q995 => ?_
  obtain ⟨h995, e995⟩ : ∃ z, T995.heap = z := ⟨_, rfl⟩
  try dsimp only at q995
  rw [e995] at q995
  obtain ⟨x995, rfl, M995, E995, P995, F995⟩ := q995
  have N995 := Fr.app N992 M995
  show own_Fin p e below _ (T995.setTop (mkF m 128 #[.val (.long m0), .second, .val (.int ep), .val (.int sp), .val (.long qa), .second, .val (.long qb), .second, .val (.int fl), .val (.int (1 : Int32)), .val (.int (1 : Int32)), .val (.ref b919), .val (.ref x937), .val (.ref b938), .val (.ref b962), .val (.ref b983), .unset, .unset, .unset, .unset] [(.ref x995), (.ref b983)]))
  have f996 := (f994.ext E995)
  have f997 := (((A983.wr W992).wr U992).ext E995)
  have f998 := ((f993.same U992).ext E995)
  have f999 := (((f990.other W992 (Or.inr (slot_ne (Or.inl (own_w54 hw)) (Or.inl (own_w22 hw)) (by decide) own_fd_I own_fd_I))).other U992 (Or.inr (slot_ne (Or.inl (own_w54 hw)) (Or.inl (own_w25 hw)) (by decide) own_fd_I own_fd__5bLjava_2flang_2fObject_3b))).ext E995)
  have f1000 := (((f988.same W992).other U992 (Or.inr (slot_ne (Or.inl (own_w22 hw)) (Or.inl (own_w25 hw)) (by decide) own_fd_I own_fd__5bLjava_2flang_2fObject_3b))).ext E995)
  refine own_virt X995 hx hZ972 ho972 (own_w46 hw) (own_w47 hw) (own_w49 hw) (own_w49 hw) (own_w48 hw) (own_w50 hw) (own_w2 hw) (by decide) e995 f997 (hb hby at_128) (by rw [hml]; rfl) own_pd__28Ljava_2flang_2fObject_3b_29Z rfl (W := 0) (Nat.le_of_ble_eq_true rfl) (own_ad1 l Z a0 hw b983 x995 dc dl (0 : Int32) h995 n0 f996 f997 f998 f987 f999 f1000 P995 S A hl) (by decide) (by decide) (by decide) (by decide) (argsL := [(.ref x995)]) (rest := []) rfl rfl fun v1001 T1001 L1001 X1001 q1001 => ?_
  obtain ⟨h1001, e1001⟩ : ∃ z, T1001.heap = z := ⟨_, rfl⟩
  try dsimp only at q1001
  rw [e1001] at q1001
  obtain ⟨rfl, M1001, K1001, p1001, q1001, r1001, b1001, k1001, g1001, s1001, t1001, u1001, o1001⟩ := q1001
  have N1001 := Fr.app N995 M1001
  have f1002 := ((((((((f952.keep K960).ext E962).ext E972).keep K982).ext E983).wr W992).wr U992).ext E995)
  have f1003 := Nat.ne_of_lt (Nat.lt_of_lt_of_le f1002.lt g1001)
  have f1004 : n0 ≤ b1001 := Nat.le_trans (own_old f996) g1001
  show own_Fin p e below _ (T1001.setTop (mkF m 131 #[.val (.long m0), .second, .val (.int ep), .val (.int sp), .val (.long qa), .second, .val (.long qb), .second, .val (.int fl), .val (.int (1 : Int32)), .val (.int (1 : Int32)), .val (.ref b919), .val (.ref x937), .val (.ref b938), .val (.ref b962), .val (.ref b983), .unset, .unset, .unset, .unset] [(.int (1 : Int32))]))
  refine own_pop X1001 hx (hb hby at_131) rfl ?_
  refine own_aload X1001 hx (hb hby at_132) rfl rfl ?_
  refine own_lloadN X1001 hx (hb hby at_134) rfl ?_
  refine own_ldc2J X1001 hx hZ972 ho972 (own_w234 hw) (hb hby at_135) ?_
  refine own_lxor X1001 hx (hb hby at_138) ?_
  have f1005 := (f996.keep K1001 (allS f987 all0))
  refine own_stat X1001 hx hZ972 ho972 (own_w26 hw) (own_w27 hw) (own_w29 hw) (own_w28 hw) (by decide) e1001 (hb hby at_139) (by rw [hml]; rfl) own_pd__28J_29Ljava_2flang_2fLong_3b rfl (W := 1) (Nat.le_of_ble_eq_true rfl) (own_lvo l Z a0 hw (m0 ^^^ (-1 : Int64)) ca cc h1001 n0 f1005 SC BC) (by decide) (by decide) (by decide) (by decide) (argsL := [(.long (m0 ^^^ (-1 : Int64)))]) (rest := [(.ref b962)]) rfl rfl fun v1006 T1006 L1006 X1006 q1006 => ?_
  obtain ⟨h1006, e1006⟩ : ∃ z, T1006.heap = z := ⟨_, rfl⟩
  try dsimp only at q1006
  rw [e1006] at q1006
  obtain ⟨x1006, rfl, M1006, E1006, P1006, F1006⟩ := q1006
  have N1006 := Fr.app N1001 M1006
  show own_Fin p e below _ (T1006.setTop (mkF m 142 #[.val (.long m0), .second, .val (.int ep), .val (.int sp), .val (.long qa), .second, .val (.long qb), .second, .val (.int fl), .val (.int (1 : Int32)), .val (.int (1 : Int32)), .val (.ref b919), .val (.ref x937), .val (.ref b938), .val (.ref b962), .val (.ref b983), .unset, .unset, .unset, .unset] [(.ref x1006), (.ref b962)]))
  have f1007 := ((((((p982.ext E983).wr W992).wr U992).ext E995).keep K1001).ext E1006)
  have f1008 := (p1001.ext E1006)
  have f1009 := ne_exa f1007 f1008 (by decide)
  have f1010 := ((((((q982.ext E983).other W992 (Or.inl f1009)).other U992 (Or.inl f1009)).ext E995).keep K1001 (ninS f1009 nin0)).ext E1006)
  refine own_putfield X1006 hx hZ972 (host := "") ho972 (Or.inl (own_w235 hw)) Via.refl e1006 f1010 f1007 (Or.inl (own_w236 hw)) (own_w197 hw) own_fd_Ljava_2flang_2fLong_3b rfl rfl (hb hby at_142) fun T1011 h1011 X1011 e1011 W1011 => ?_
  have N1011 := Fr.snoc X1011 N1006 f964
  refine own_aload X1011 hx (hb hby at_145) rfl rfl ?_
  refine own_iloadN X1011 hx (hb hby at_147) rfl ?_
  refine own_iconst X1011 hx (-1 : Int32) (hb hby at_148) rfl ?_
  refine own_ixor X1011 hx (hb hby at_149) ?_
  have f1012 := (((((((r982.ext E983).other W992 (Or.inl f1009)).other U992 (Or.inl f1009)).ext E995).keep K1001 (ninS f1009 nin0)).ext E1006).other W1011 (Or.inr (slot_ne (Or.inl (own_w238 hw)) (Or.inl (own_w236 hw)) (by decide) own_fd_I own_fd_Ljava_2flang_2fLong_3b)))
  have f1013 := (f1007.wr W1011)
  refine own_putfield X1011 hx hZ972 (host := "") ho972 (Or.inl (own_w237 hw)) Via.refl e1011 f1012 f1013 (Or.inl (own_w238 hw)) (own_w197 hw) own_fd_I rfl rfl (hb hby at_150) fun T1014 h1014 X1014 e1014 W1014 => ?_
  have N1014 := Fr.snoc X1014 N1011 f964
  refine own_aload X1014 hx (hb hby at_153) rfl rfl ?_
  refine own_aload X1014 hx (hb hby at_155) rfl rfl ?_
  have f1015 := ((((((((s982.ext E983).other W992 (Or.inl f1009)).other U992 (Or.inl f1009)).ext E995).keep K1001 (ninS f1009 nin0)).ext E1006).other W1011 (Or.inr (slot_ne (Or.inl (own_w231 hw)) (Or.inl (own_w236 hw)) (by decide) own_fd_Ljava_2futil_2fList_3b own_fd_Ljava_2flang_2fLong_3b))).other W1014 (Or.inr (slot_ne (Or.inl (own_w231 hw)) (Or.inl (own_w238 hw)) (by decide) own_fd_Ljava_2futil_2fList_3b own_fd_I)))
  have f1016 := (f1013.wr W1014)
  refine own_putfield X1014 hx hZ972 (host := "") ho972 (Or.inl (own_w239 hw)) Via.refl e1014 f1015 f1016 (Or.inl (own_w231 hw)) (own_w197 hw) own_fd_Ljava_2futil_2fList_3b rfl rfl (hb hby at_157) fun T1017 h1017 X1017 e1017 W1017 => ?_
  have N1017 := Fr.snoc X1017 N1014 f964
  refine own_aload X1017 hx (hb hby at_160) rfl rfl ?_
  refine own_iloadN X1017 hx (hb hby at_162) rfl ?_
  refine own_iconst X1017 hx (-1 : Int32) (hb hby at_163) rfl ?_
  refine own_ixor X1017 hx (hb hby at_164) ?_
  have f1018 := (((((((((t982.ext E983).other W992 (Or.inl f1009)).other U992 (Or.inl f1009)).ext E995).keep K1001 (ninS f1009 nin0)).ext E1006).other W1011 (Or.inr (slot_ne (Or.inl (own_w241 hw)) (Or.inl (own_w236 hw)) (by decide) own_fd_I own_fd_Ljava_2flang_2fLong_3b))).other W1014 (Or.inr (slot_ne (Or.inl (own_w241 hw)) (Or.inl (own_w238 hw)) (by decide) own_fd_I own_fd_I))).other W1017 (Or.inr (slot_ne (Or.inl (own_w241 hw)) (Or.inl (own_w231 hw)) (by decide) own_fd_I own_fd_Ljava_2futil_2fList_3b)))
  have f1019 := (f1016.wr W1017)
  refine own_putfield X1017 hx hZ972 (host := "") ho972 (Or.inl (own_w240 hw)) Via.refl e1017 f1018 f1019 (Or.inl (own_w241 hw)) (own_w197 hw) own_fd_I rfl rfl (hb hby at_165) fun T1020 h1020 X1020 e1020 W1020 => ?_
  have N1020 := Fr.snoc X1020 N1017 f964
  refine own_aload X1020 hx (hb hby at_168) rfl rfl ?_
  refine own_aload X1020 hx (hb hby at_170) rfl rfl ?_
  have f1021 := (((((f1005.ext E1006).wr W1011 f964).wr W1014 f964).wr W1017 f964).wr W1020 f964)
  have f1022 := (((((((((((((p960.ext E962).ext E972).keep K982).ext E983).wr W992).wr U992).ext E995).keep K1001).ext E1006).wr W1011).wr W1014).wr W1017).wr W1020)
  have f1023 := (f1019.wr W1020)
  have f1024 := ne_exa f1022 f1023 (by decide)
  have f1025 := ((((f1008.wr W1011).wr W1014).wr W1017).wr W1020)
  have f1026 := ne_exa f1022 f1025 (by decide)
  have f1027 := (((((((((((((q960.ext E962).ext E972).keep K982 (ninS f1024 nin0)).ext E983).other W992 (Or.inl f1026)).other U992 (Or.inl f1026)).ext E995).keep K1001 (ninS f1026 nin0)).ext E1006).other W1011 (Or.inl f1024)).other W1014 (Or.inl f1024)).other W1017 (Or.inl f1024)).other W1020 (Or.inl f1024))
  have f1028 := (((((((((((((r960.ext E962).ext E972).keep K982 (ninS f1024 nin0)).ext E983).other W992 (Or.inl f1026)).other U992 (Or.inl f1026)).ext E995).keep K1001 (ninS f1026 nin0)).ext E1006).other W1011 (Or.inl f1024)).other W1014 (Or.inl f1024)).other W1017 (Or.inl f1024)).other W1020 (Or.inl f1024))
  have f1029 := (((((((((((((s960.ext E962).ext E972).keep K982 (ninS f1024 nin0)).ext E983).other W992 (Or.inl f1026)).other U992 (Or.inl f1026)).ext E995).keep K1001 (ninS f1026 nin0)).ext E1006).other W1011 (Or.inl f1024)).other W1014 (Or.inl f1024)).other W1017 (Or.inl f1024)).other W1020 (Or.inl f1024))
  have f1030 := (((((((((((((t960.ext E962).ext E972).keep K982 (ninS f1024 nin0)).ext E983).other W992 (Or.inl f1026)).other U992 (Or.inl f1026)).ext E995).keep K1001 (ninS f1026 nin0)).ext E1006).other W1011 (Or.inl f1024)).other W1014 (Or.inl f1024)).other W1017 (Or.inl f1024)).other W1020 (Or.inl f1024))
  have f1031 := ((((f1010.same W1011).other W1014 (Or.inr (slot_ne (Or.inl (own_w236 hw)) (Or.inl (own_w238 hw)) (by decide) own_fd_Ljava_2flang_2fLong_3b own_fd_I))).other W1017 (Or.inr (slot_ne (Or.inl (own_w236 hw)) (Or.inl (own_w231 hw)) (by decide) own_fd_Ljava_2flang_2fLong_3b own_fd_Ljava_2futil_2fList_3b))).other W1020 (Or.inr (slot_ne (Or.inl (own_w236 hw)) (Or.inl (own_w241 hw)) (by decide) own_fd_Ljava_2flang_2fLong_3b own_fd_I)))
  have f1032 := (((f1012.same W1014).other W1017 (Or.inr (slot_ne (Or.inl (own_w238 hw)) (Or.inl (own_w231 hw)) (by decide) own_fd_I own_fd_Ljava_2futil_2fList_3b))).other W1020 (Or.inr (slot_ne (Or.inl (own_w238 hw)) (Or.inl (own_w241 hw)) (by decide) own_fd_I own_fd_I)))
  have f1033 := ((f1015.same W1017).other W1020 (Or.inr (slot_ne (Or.inl (own_w231 hw)) (Or.inl (own_w241 hw)) (by decide) own_fd_Ljava_2futil_2fList_3b own_fd_I)))
  refine own_virt X1020 hx hZ972 ho972 (own_w242 hw) (own_w243 hw) (own_w245 hw) (own_w245 hw) (own_w244 hw) (own_w246 hw) (own_w82 hw) (by decide) e1020 f1022 (hb hby at_172) (by rw [hml]; rfl) own_pd__28Lcom_2fexample_2fregent_2fregent_2fcontroller_2fGroup_3b_29V rfl (W := 0) (Nat.le_of_ble_eq_true rfl) (own_ap1 l Z a0 hw b938 b962 y960 x937 ep sp _ _ _ _ h1020 n0 f1021 f1022 f1023 f964 f1027 f1028 f1029 f1030 f1031 f1032 f1033 (f1018.same W1020)) (by decide) (by decide) (by decide) (by decide) (argsL := [(.ref b962)]) (rest := []) rfl rfl fun v1034 T1034 L1034 X1034 q1034 => ?_
  obtain ⟨h1034, e1034⟩ : ∃ z, T1034.heap = z := ⟨_, rfl⟩
  try dsimp only at q1034
  rw [e1034] at q1034
  obtain ⟨rfl, M1034, K1034, p1034, q1034, r1034, s1034, t1034⟩ := q1034
  have N1034 := Fr.app N1020 M1034
  show own_Fin p e below _ (T1034.setTop (mkF m 175 #[.val (.long m0), .second, .val (.int ep), .val (.int sp), .val (.long qa), .second, .val (.long qb), .second, .val (.int fl), .val (.int (1 : Int32)), .val (.int (1 : Int32)), .val (.ref b919), .val (.ref x937), .val (.ref b938), .val (.ref b962), .val (.ref b983), .unset, .unset, .unset, .unset] []))
  refine own_iload X1034 hx (hb hby at_175) rfl ?_
  refine own_ifNo X1034 hx (hb hby at_177) (by decide) ?_
  refine own_aload X1034 hx (hb hby at_180) rfl rfl ?_
  refine own_getfield X1034 hx hZ972 (host := "") ho972 (Or.inl (own_w235 hw)) Via.refl e1034 q1034 (hb hby at_182) fun T1035 X1035 e1035 => ?_
  refine own_ifnullNo X1035 hx (hb hby at_185) ?_
  refine own_aload X1035 hx (hb hby at_188) rfl rfl ?_
  refine own_getfield X1035 hx hZ972 (host := "") ho972 (Or.inl (own_w235 hw)) Via.refl e1035 q1034 (hb hby at_190) fun T1036 X1036 e1036 => ?_
  have f1037 := (f1021.keep K1034 (allS f964 all0))
  have f1038 := (((((((((((((((((P937.ext E938).ext E946).keep K960).ext E962).ext E972).keep K982).ext E983).wr W992).wr U992).ext E995).keep K1001).ext E1006).wr W1011).wr W1014).wr W1017).wr W1020).keep K1034)
  have f1039 := (f1022.keep K1034)
  have f1040 := ne_exa f1038 f1039 (by decide)
  have f1041 := ne_exa f1038 p1034 (by decide)
  have f1042 := (f1025.keep K1034)
  have f1043 := ne_exa f1038 f1042 (by decide)
  have f1044 := (((((((((((((((((F937.ext E938).ext E946).keep K960 (ninS f1040 nin0)).ext E962).ext E972).keep K982 (ninS f1041 nin0)).ext E983).other W992 (Or.inl f1043)).other U992 (Or.inl f1043)).ext E995).keep K1001 (ninS f1043 nin0)).ext E1006).other W1011 (Or.inl f1041)).other W1014 (Or.inl f1041)).other W1017 (Or.inl f1041)).other W1020 (Or.inl f1041)).keep K1034 (ninS f1041 nin0))
  refine own_virt X1036 hx hZ972 ho972 (own_w251 hw) (own_w252 hw) (own_w254 hw) (own_w254 hw) (own_w253 hw) (own_w255 hw) (own_w28 hw) (by decide) e1036 f1038 (hb hby at_193) (by rw [hml]; rfl) own_pd__28_29J rfl (W := 0) (Nat.le_of_ble_eq_true rfl) (own_lv l Z a0 hw x937 m0 h1034 n0 f1037 f1044) (by decide) (by decide) (by decide) (by decide) (argsL := []) (rest := []) rfl rfl fun v1045 T1045 L1045 X1045 q1045 => ?_
  obtain ⟨rfl, M1045, e1045⟩ := q1045
  have N1045 := Fr.app N1034 M1045
  show own_Fin p e below _ (T1045.setTop (mkF m 196 #[.val (.long m0), .second, .val (.int ep), .val (.int sp), .val (.long qa), .second, .val (.long qb), .second, .val (.int fl), .val (.int (1 : Int32)), .val (.int (1 : Int32)), .val (.ref b919), .val (.ref x937), .val (.ref b938), .val (.ref b962), .val (.ref b983), .unset, .unset, .unset, .unset] [(.long m0)]))
  refine own_lloadN X1045 hx (hb hby at_196) rfl ?_
  refine own_lcmp X1045 hx (hb hby at_197) ?_
  refine own_ifNo X1045 hx (hb hby at_198) (Jvm.Free.XT.ll_ne_f rfl) ?_
  refine own_iconst X1045 hx (1 : Int32) (hb hby at_201) rfl ?_
  refine own_goto X1045 hx 206 (hb hby at_202) (by decide) (by decide) ?_
  refine own_istore X1045 hx (l' := #[.val (.long m0), .second, .val (.int ep), .val (.int sp), .val (.long qa), .second, .val (.long qb), .second, .val (.int fl), .val (.int (1 : Int32)), .val (.int (1 : Int32)), .val (.ref b919), .val (.ref x937), .val (.ref b938), .val (.ref b962), .val (.ref b983), .val (.int (1 : Int32)), .unset, .unset, .unset]) (hb hby at_206) rfl ?_
  refine own_goto X1045 hx 226 (hb hby at_208) (by decide) (by decide) ?_
  refine own_aload X1045 hx (hb hby at_226) rfl rfl ?_
  refine own_getfield X1045 hx hZ972 (host := "") ho972 (Or.inl (own_w237 hw)) Via.refl e1045 r1034 (hb hby at_228) fun T1046 X1046 e1046 => ?_
  refine own_iloadN X1046 hx (hb hby at_231) rfl ?_
  refine own_icmpNo X1046 hx (hb hby at_232) (Jvm.Free.XT.ii_ne_f rfl) ?_
  refine own_aload X1046 hx (hb hby at_235) rfl rfl ?_
  refine own_getfield X1046 hx hZ972 (host := "") ho972 (Or.inl (own_w240 hw)) Via.refl e1046 t1034 (hb hby at_237) fun T1047 X1047 e1047 => ?_
  refine own_iloadN X1047 hx (hb hby at_240) rfl ?_
  refine own_icmpNo X1047 hx (hb hby at_241) (Jvm.Free.XT.ii_ne_f rfl) ?_
  refine own_iconst X1047 hx (1 : Int32) (hb hby at_244) rfl ?_
  refine own_goto X1047 hx 249 (hb hby at_245) (by decide) (by decide) ?_
  refine own_istore X1047 hx (l' := #[.val (.long m0), .second, .val (.int ep), .val (.int sp), .val (.long qa), .second, .val (.long qb), .second, .val (.int fl), .val (.int (1 : Int32)), .val (.int (1 : Int32)), .val (.ref b919), .val (.ref x937), .val (.ref b938), .val (.ref b962), .val (.ref b983), .val (.int (1 : Int32)), .val (.int (1 : Int32)), .unset, .unset]) (hb hby at_249) rfl ?_
  refine own_aload X1047 hx (hb hby at_251) rfl rfl ?_
  refine own_getfield X1047 hx hZ972 (host := "") ho972 (Or.inl (own_w239 hw)) Via.refl e1047 s1034 (hb hby at_253) fun T1048 X1048 e1048 => ?_
  refine own_astore X1048 hx (l' := #[.val (.long m0), .second, .val (.int ep), .val (.int sp), .val (.long qa), .second, .val (.long qb), .second, .val (.int fl), .val (.int (1 : Int32)), .val (.int (1 : Int32)), .val (.ref b919), .val (.ref x937), .val (.ref b938), .val (.ref b962), .val (.ref b983), .val (.int (1 : Int32)), .val (.int (1 : Int32)), .val (.ref y960), .unset]) (hb hby at_256) rfl rfl ?_
  refine own_aload X1048 hx (hb hby at_258) rfl rfl ?_
  refine own_ifnullNo X1048 hx (hb hby at_260) ?_
  refine own_aload X1048 hx (hb hby at_263) rfl rfl ?_
  have f1049 := ((((((((((((((u960.ext E962).ext E972).keep K982).ext E983).wr W992).wr U992).ext E995).keep K1001).ext E1006).wr W1011).wr W1014).wr W1017).wr W1020).keep K1034)
  have f1050 := ne_exa f1049 p1034 (by decide)
  have f1051 := ne_exa f1049 f1042 (by decide)
  have f1052 := ((((((((((((((z960.ext E962).ext E972).keep K982 (ninS f1050 nin0)).ext E983).other W992 (Or.inl f1051)).other U992 (Or.inl f1051)).ext E995).keep K1001 (ninS f1051 nin0)).ext E1006).other W1011 (Or.inl f1050)).other W1014 (Or.inl f1050)).other W1017 (Or.inl f1050)).other W1020 (Or.inl f1050)).keep K1034 (ninS f1050 nin0))
  refine own_intf X1048 hx hZ972 ho972 (own_w256 hw) (own_w257 hw) (own_w258 hw) (own_w259 hw) (own_w260 hw) (own_w261 hw) (own_w262 hw) (own_w263 hw) (own_w264 hw) (own_w158 hw) (by decide) e1048 f1049 (hb hby at_265) (by rw [hml]; rfl) own_pd__28_29I rfl (W := 0) (Nat.le_of_ble_eq_true rfl) (own_sz1 l Z a0 hw y960 em h1034 n0 f1037 f1052 SE) (by decide) (by decide) (by decide) (by decide) (argsL := []) (rest := []) rfl rfl fun v1053 T1053 L1053 X1053 q1053 => ?_
  obtain ⟨rfl, M1053, e1053⟩ := q1053
  have N1053 := Fr.app N1045 M1053
  show own_Fin p e below _ (T1053.setTop (mkF m 270 #[.val (.long m0), .second, .val (.int ep), .val (.int sp), .val (.long qa), .second, .val (.long qb), .second, .val (.int fl), .val (.int (1 : Int32)), .val (.int (1 : Int32)), .val (.ref b919), .val (.ref x937), .val (.ref b938), .val (.ref b962), .val (.ref b983), .val (.int (1 : Int32)), .val (.int (1 : Int32)), .val (.ref y960), .unset] [(.int (1 : Int32))]))
  refine own_iload X1053 hx (hb hby at_270) rfl ?_
  refine own_icmpNo X1053 hx (hb hby at_272) (by decide) ?_
  refine own_iconst X1053 hx (1 : Int32) (hb hby at_275) rfl ?_
  refine own_goto X1053 hx 280 (hb hby at_276) (by decide) (by decide) ?_
  refine own_istore X1053 hx (l' := #[.val (.long m0), .second, .val (.int ep), .val (.int sp), .val (.long qa), .second, .val (.long qb), .second, .val (.int fl), .val (.int (1 : Int32)), .val (.int (1 : Int32)), .val (.ref b919), .val (.ref x937), .val (.ref b938), .val (.ref b962), .val (.ref b983), .val (.int (1 : Int32)), .val (.int (1 : Int32)), .val (.ref y960), .val (.int (1 : Int32))]) (hb hby at_280) rfl ?_
  refine own_iload X1053 hx (hb hby at_282) rfl ?_
  refine own_ifNo X1053 hx (hb hby at_284) (by decide) ?_
  refine own_iload X1053 hx (hb hby at_287) rfl ?_
  refine own_iconst X1053 hx (1 : Int32) (hb hby at_289) rfl ?_
  refine own_icmpNo X1053 hx (hb hby at_290) (by decide) ?_
  refine own_aload X1053 hx (hb hby at_293) rfl rfl ?_
  refine own_iconst X1053 hx (0 : Int32) (hb hby at_295) rfl ?_
  have f1054 := ((((((((((((((v960.ext E962).ext E972).keep K982 (ninS f1050 nin0)).ext E983).other W992 (Or.inl f1051)).other U992 (Or.inl f1051)).ext E995).keep K1001 (ninS f1051 nin0)).ext E1006).other W1011 (Or.inl f1050)).other W1014 (Or.inl f1050)).other W1017 (Or.inl f1050)).other W1020 (Or.inl f1050)).keep K1034 (ninS f1050 nin0))
  refine own_intf X1053 hx hZ972 ho972 (own_w265 hw) (own_w266 hw) (own_w267 hw) (own_w268 hw) (own_w269 hw) (own_w270 hw) (own_w271 hw) (own_w263 hw) (own_w272 hw) (own_w158 hw) (by decide) e1053 f1049 (hb hby at_296) (by rw [hml]; rfl) own_pd__28I_29Ljava_2flang_2fObject_3b rfl (W := 0) (Nat.le_of_ble_eq_true rfl) (own_ge0 l Z a0 hw y960 x928 h1034 n0 f1037 f1054) (by decide) (by decide) (by decide) (by decide) (argsL := [(.int (0 : Int32))]) (rest := []) rfl rfl fun v1055 T1055 L1055 X1055 q1055 => ?_
  obtain ⟨rfl, M1055, e1055⟩ := q1055
  have N1055 := Fr.app N1053 M1055
  show own_Fin p e below _ (T1055.setTop (mkF m 301 #[.val (.long m0), .second, .val (.int ep), .val (.int sp), .val (.long qa), .second, .val (.long qb), .second, .val (.int fl), .val (.int (1 : Int32)), .val (.int (1 : Int32)), .val (.ref b919), .val (.ref x937), .val (.ref b938), .val (.ref b962), .val (.ref b983), .val (.int (1 : Int32)), .val (.int (1 : Int32)), .val (.ref y960), .val (.int (1 : Int32))] [(.ref x928)]))
  have f1057 := (((((((((((((((f951.keep K960).ext E962).ext E972).keep K982).ext E983).wr W992).wr U992).ext E995).keep K1001).ext E1006).wr W1011).wr W1014).wr W1017).wr W1020).keep K1034)
  refine own_checkcast X1055 hx hZ972 ho972 (own_w273 hw) e1055 (Ins.self f1057) (hb hby at_301) fun T1056 X1056 e1056 => ?_
  have f1058 := (((((((((((f984.ext E983).wr W992).wr U992).ext E995).keep K1001).ext E1006).wr W1011).wr W1014).wr W1017).wr W1020).keep K1034)
  have f1059 := ne_exa f1057 f1058 (by decide)
  have f1060 := ne_exa f1057 f1039 (by decide)
  have f1061 := ne_exa f1057 p1034 (by decide)
  have f1062 := ne_exa f1057 f1042 (by decide)
  have f1063 := (((((((((((((((((((F928.keep K934 (ninS f1059 nin0)).ext E937).ext E938).ext E946).keep K960 (ninS f1060 nin0)).ext E962).ext E972).keep K982 (ninS f1061 nin0)).ext E983).other W992 (Or.inl f1062)).other U992 (Or.inl f1062)).ext E995).keep K1001 (ninS f1062 nin0)).ext E1006).other W1011 (Or.inl f1061)).other W1014 (Or.inl f1061)).other W1017 (Or.inl f1061)).other W1020 (Or.inl f1061)).keep K1034 (ninS f1061 nin0))
  refine own_virt X1056 hx hZ972 ho972 (own_w251 hw) (own_w252 hw) (own_w254 hw) (own_w254 hw) (own_w253 hw) (own_w255 hw) (own_w28 hw) (by decide) e1056 f1057 (hb hby at_304) (by rw [hml]; rfl) own_pd__28_29J rfl (W := 0) (Nat.le_of_ble_eq_true rfl) (own_lv l Z a0 hw x928 qa h1034 n0 f1037 f1063) (by decide) (by decide) (by decide) (by decide) (argsL := []) (rest := []) rfl rfl fun v1064 T1064 L1064 X1064 q1064 => ?_
  obtain ⟨rfl, M1064, e1064⟩ := q1064
  have N1064 := Fr.app N1055 M1064
  show own_Fin p e below _ (T1064.setTop (mkF m 307 #[.val (.long m0), .second, .val (.int ep), .val (.int sp), .val (.long qa), .second, .val (.long qb), .second, .val (.int fl), .val (.int (1 : Int32)), .val (.int (1 : Int32)), .val (.ref b919), .val (.ref x937), .val (.ref b938), .val (.ref b962), .val (.ref b983), .val (.int (1 : Int32)), .val (.int (1 : Int32)), .val (.ref y960), .val (.int (1 : Int32))] [(.long qa)]))
  refine own_lload X1064 hx (hb hby at_307) rfl ?_
  refine own_lcmp X1064 hx (hb hby at_309) ?_
  refine own_ifNo X1064 hx (hb hby at_310) (Jvm.Free.XT.ll_ne_f rfl) ?_
  refine own_iconst X1064 hx (1 : Int32) (hb hby at_313) rfl ?_
  refine own_goto X1064 hx 318 (hb hby at_314) (by decide) (by decide) ?_
  refine own_istore X1064 hx (l' := #[.val (.long m0), .second, .val (.int ep), .val (.int sp), .val (.long qa), .second, .val (.long qb), .second, .val (.int fl), .val (.int (1 : Int32)), .val (.int (1 : Int32)), .val (.ref b919), .val (.ref x937), .val (.ref b938), .val (.ref b962), .val (.ref b983), .val (.int (1 : Int32)), .val (.int (1 : Int32)), .val (.ref y960), .val (.int (1 : Int32))]) (hb hby at_318) rfl ?_
  refine own_iload X1064 hx (hb hby at_320) rfl ?_
  refine own_ifNo X1064 hx (hb hby at_322) (by decide) ?_
  refine own_iload X1064 hx (hb hby at_325) rfl ?_
  refine own_iconst X1064 hx (2 : Int32) (hb hby at_327) rfl ?_
  refine own_icmpYes X1064 hx 358 (hb hby at_328) (by decide) (by decide) (by decide) ?_
  refine own_iload X1064 hx (hb hby at_358) rfl ?_
  refine own_ifNo X1064 hx (hb hby at_360) (by decide) ?_
  refine own_iload X1064 hx (hb hby at_363) rfl ?_
  refine own_ifNo X1064 hx (hb hby at_365) (by decide) ?_
  refine own_iload X1064 hx (hb hby at_368) rfl ?_
  refine own_ifNo X1064 hx (hb hby at_370) (by decide) ?_
  refine own_iconst X1064 hx (1 : Int32) (hb hby at_373) rfl ?_
  refine own_goto X1064 hx 378 (hb hby at_374) (by decide) (by decide) ?_
  refine own_retNW (s := s) X1064 hx hS972 (by rw [e1064]; exact Nat.le_trans hk972 (Nat.le_trans (Nat.le_trans (Nat.le_trans (Nat.le_trans (Nat.le_trans (Nat.le_trans (Nat.le_trans (Nat.le_trans (Nat.le_trans (Nat.le_trans (Nat.le_trans (Nat.le_trans (Nat.le_refl _) K982.1) E983.1) (Nat.le_of_eq W992.size.symm)) (Nat.le_of_eq U992.size.symm)) E995.1) K1001.1) E1006.1) (Nat.le_of_eq W1011.size.symm)) (Nat.le_of_eq W1014.size.symm)) (Nat.le_of_eq W1017.size.symm)) (Nat.le_of_eq W1020.size.symm)) K1034.1)) (t := .boolean) hret (by simp) (hb hby at_378) hlk (by decide) (by decide) ?_
  exact ⟨rfl, N1064⟩
set_option maxRecDepth 65536 in
set_option maxHeartbeats 40000000 in
theorem own_law12 (l : Launch) (Z : State) (a0 : Array Value) (hw : ∀ d ∈ tables_1, d.before a0 Z = true) (m0 qa qb : Int64) (ep sp fl : Int32) (dc ca em el en mr : Addr) (dl cc nl : Cell) (h0 : Heap) (n0 : Nat) (OX : Old Z n0 h0) (hfl : fl &&& (1 : Int32) = 1) (hnn : Jvm.Free.XT.ushr fl (1 : Int32) % (3 : Int32) = (2 : Int32)) (S : Sta Z Z.heap "java/util/ArrayList" "DEFAULTCAPACITY_EMPTY_ELEMENTDATA" "[Ljava/lang/Object;" (.ref dc)) (A : Arr Z Z.heap dc dl (.object "java/lang/Object")) (hl : dl.slots.size.toInt32 = (0 : Int32)) (SC : Sta Z Z.heap "java/lang/Long$LongCache" "cache" "[Ljava/lang/Long;" (.ref ca)) (BC : Bxs Z ca cc "java/lang/Long" "J" 256 fun j => .long (j - 128).toInt64) (SE : Sta Z Z.heap "java/util/ImmutableCollections" "EMPTY" "Ljava/lang/Object;" (.ref em)) (EEM : Exa Z Z.heap em "java/lang/Object") (SL : Sta Z Z.heap "java/util/ImmutableCollections" "EMPTY_LIST" "Ljava/util/ImmutableCollections$ListN;" (.ref el)) (EEL : Exa Z Z.heap el "java/util/ImmutableCollections$ListN") (FN : Fld Z Z.heap el "java/util/ImmutableCollections$ListN" "elements" "[Ljava/lang/Object;" (.ref en)) (AN : Arr Z Z.heap en nl (.object "java/lang/Object")) (ln : nl.slots.size.toInt32 = (0 : Int32)) (MM : own_Mir Z "[Ljava/lang/Object;" mr) (NA : ∃ c t, Z.vm.findClass "java/util/ArrayList" = some c ∧ Z.vm.findClass "java/util/ImmutableCollections$List12" = some t ∧ Z.vm.assignable c t = false) (NB : ∃ c t, Z.vm.findClass "java/util/ArrayList" = some c ∧ Z.vm.findClass "java/util/ImmutableCollections$ListN" = some t ∧ Z.vm.assignable c t = false) (wS : ∀ a ∈ Bundle.stringAtoms, a.before a0 Z = true) :
    own_MetW l Z x code maxLocals ret room_1 #[(.long m0), (.int ep), (.int sp), (.long qa), (.long qb), (.int fl)] h0 (fun v h L => v = some (.int 1) ∧ Fr n0 L) := by
  refine own_bodyW (Ls := #[.val (.long m0), .second, .val (.int ep), .val (.int sp), .val (.long qa), .second, .val (.long qb), .second, .val (.int fl), .unset, .unset, .unset, .unset, .unset, .unset, .unset, .unset, .unset, .unset, .unset]) (plainFor_of_name own_pn_com_example_regent_regent_controller_MasterChangedApplyToPinLaw) (fun m => by first | (simp [entryFrame, mkF, argsToLocals, Value.category, maxLocals]; done) | rfl) ?_
  intro p e s m below meth c s₁ hx hZ hby hml hown hnm hret hlk X0 e0
  have N0 := Fr.nil n0
  refine own_iload X0 hx (hb hby at_0) rfl ?_
  refine own_iconst X0 hx (1 : Int32) (hb hby at_2) rfl ?_
  refine own_iand X0 hx (hb hby at_3) ?_
  refine own_ifNo X0 hx (hb hby at_4) (Jvm.Free.XT.i0_eq_f (by rw [hfl]; decide)) ?_
  refine own_iconst X0 hx (1 : Int32) (hb hby at_7) rfl ?_
  refine own_goto X0 hx 12 (hb hby at_8) (by decide) (by decide) ?_
  refine own_istore X0 hx (l' := #[.val (.long m0), .second, .val (.int ep), .val (.int sp), .val (.long qa), .second, .val (.long qb), .second, .val (.int fl), .val (.int (1 : Int32)), .unset, .unset, .unset, .unset, .unset, .unset, .unset, .unset, .unset, .unset]) (hb hby at_12) rfl ?_
  refine own_iload X0 hx (hb hby at_14) rfl ?_
  refine own_iconst X0 hx (1 : Int32) (hb hby at_16) rfl ?_
  refine own_iushr X0 hx (hb hby at_17) ?_
  refine own_iconst X0 hx (3 : Int32) (hb hby at_18) rfl ?_
  refine own_irem X0 hx (hb hby at_19) (by decide) ?_
  rw [hnn]
  show own_Fin p e below _ (s₁.setTop (mkF m 20 #[.val (.long m0), .second, .val (.int ep), .val (.int sp), .val (.long qa), .second, .val (.long qb), .second, .val (.int fl), .val (.int (1 : Int32)), .unset, .unset, .unset, .unset, .unset, .unset, .unset, .unset, .unset, .unset] [(.int (2 : Int32))]))
  refine own_istore X0 hx (l' := #[.val (.long m0), .second, .val (.int ep), .val (.int sp), .val (.long qa), .second, .val (.long qb), .second, .val (.int fl), .val (.int (1 : Int32)), .val (.int (2 : Int32)), .unset, .unset, .unset, .unset, .unset, .unset, .unset, .unset, .unset]) (hb hby at_20) rfl ?_
  refine own_new X0 hx hZ hown (own_w0 hw) (own_w1 hw) (own_w2 hw) e0 (hb hby at_22) (by decide) (by decide) fun T1065 h1065 b1065 X1065 e1065 g1065 E1065 A1065 D1065 => ?_
  have f1066 : n0 ≤ b1065 := Nat.le_trans (own_old OX) (Nat.le_of_eq g1065.symm)
  have f1067 : Fld Z h1065 b1065 "java/util/AbstractList" "modCount" "I" (.int (0 : Int32)) := D1065 (Or.inl (own_w22 hw)) own_fd_I
  have f1068 : Fld Z h1065 b1065 "java/util/ArrayList" "elementData" "[Ljava/lang/Object;" .null := D1065 (Or.inl (own_w25 hw)) own_fd__5bLjava_2flang_2fObject_3b
  have f1069 : Fld Z h1065 b1065 "java/util/ArrayList" "size" "I" (.int (0 : Int32)) := D1065 (Or.inl (own_w54 hw)) own_fd_I
  refine own_dup X1065 hx (hb hby at_25) rfl ?_
  have f1070 := (OX.ext E1065)
  refine own_spec X1065 hx hZ rfl hown (own_w3 hw) (own_w4 hw) (own_w5 hw) (own_w2 hw) (by decide) e1065 (hb hby at_26) (by rw [hml]; rfl) own_pd__28_29V rfl (W := 1) (Nat.le_of_ble_eq_true rfl) (own_ali l Z a0 hw b1065 dc _ _ h1065 n0 f1070 A1065 f1067 f1068 f1066 S) (by decide) (by decide) (by decide) (by decide) (a := b1065) (argsL := []) (rest := [(.ref b1065)]) rfl rfl fun v1071 T1071 L1071 X1071 q1071 => ?_
  obtain ⟨h1071, e1071⟩ : ∃ z, T1071.heap = z := ⟨_, rfl⟩
  try dsimp only at q1071
  rw [e1071] at q1071
  obtain ⟨rfl, M1071, j1071, W1071, U1071⟩ := q1071
  have N1071 := Fr.app N0 M1071
  have f1072 := (f1068.other W1071 (Or.inr (slot_ne (Or.inl (own_w25 hw)) (Or.inl (own_w22 hw)) (by decide) own_fd__5bLjava_2flang_2fObject_3b own_fd_I)))
  show own_Fin p e below _ (T1071.setTop (mkF m 29 #[.val (.long m0), .second, .val (.int ep), .val (.int sp), .val (.long qa), .second, .val (.long qb), .second, .val (.int fl), .val (.int (1 : Int32)), .val (.int (2 : Int32)), .unset, .unset, .unset, .unset, .unset, .unset, .unset, .unset, .unset] [(.ref b1065)]))
  refine own_astore X1071 hx (l' := #[.val (.long m0), .second, .val (.int ep), .val (.int sp), .val (.long qa), .second, .val (.long qb), .second, .val (.int fl), .val (.int (1 : Int32)), .val (.int (2 : Int32)), .val (.ref b1065), .unset, .unset, .unset, .unset, .unset, .unset, .unset, .unset]) (hb hby at_29) rfl rfl ?_
  refine own_iload X1071 hx (hb hby at_31) rfl ?_
  refine own_iconst X1071 hx (1 : Int32) (hb hby at_33) rfl ?_
  refine own_icmpNo X1071 hx (hb hby at_34) (by decide) ?_
  refine own_aload X1071 hx (hb hby at_37) rfl rfl ?_
  refine own_lload X1071 hx (hb hby at_39) rfl ?_
  have f1073 := ((f1070.wr W1071 f1066).wr U1071 f1066)
  refine own_stat X1071 hx hZ hown (own_w26 hw) (own_w27 hw) (own_w29 hw) (own_w28 hw) (by decide) e1071 (hb hby at_41) (by rw [hml]; rfl) own_pd__28J_29Ljava_2flang_2fLong_3b rfl (W := 1) (Nat.le_of_ble_eq_true rfl) (own_lvo l Z a0 hw qa ca cc h1071 n0 f1073 SC BC) (by decide) (by decide) (by decide) (by decide) (argsL := [(.long qa)]) (rest := [(.ref b1065)]) rfl rfl fun v1074 T1074 L1074 X1074 q1074 => ?_
  obtain ⟨h1074, e1074⟩ : ∃ z, T1074.heap = z := ⟨_, rfl⟩
  try dsimp only at q1074
  rw [e1074] at q1074
  obtain ⟨x1074, rfl, M1074, E1074, P1074, F1074⟩ := q1074
  have N1074 := Fr.app N1071 M1074
  show own_Fin p e below _ (T1074.setTop (mkF m 44 #[.val (.long m0), .second, .val (.int ep), .val (.int sp), .val (.long qa), .second, .val (.long qb), .second, .val (.int fl), .val (.int (1 : Int32)), .val (.int (2 : Int32)), .val (.ref b1065), .unset, .unset, .unset, .unset, .unset, .unset, .unset, .unset] [(.ref x1074), (.ref b1065)]))
  have f1075 := (f1073.ext E1074)
  have f1076 := (((A1065.wr W1071).wr U1071).ext E1074)
  have f1077 := ((f1072.same U1071).ext E1074)
  have f1078 := (((f1069.other W1071 (Or.inr (slot_ne (Or.inl (own_w54 hw)) (Or.inl (own_w22 hw)) (by decide) own_fd_I own_fd_I))).other U1071 (Or.inr (slot_ne (Or.inl (own_w54 hw)) (Or.inl (own_w25 hw)) (by decide) own_fd_I own_fd__5bLjava_2flang_2fObject_3b))).ext E1074)
  have f1079 := (((f1067.same W1071).other U1071 (Or.inr (slot_ne (Or.inl (own_w22 hw)) (Or.inl (own_w25 hw)) (by decide) own_fd_I own_fd__5bLjava_2flang_2fObject_3b))).ext E1074)
  refine own_virt X1074 hx hZ hown (own_w46 hw) (own_w47 hw) (own_w49 hw) (own_w49 hw) (own_w48 hw) (own_w50 hw) (own_w2 hw) (by decide) e1074 f1076 (hb hby at_44) (by rw [hml]; rfl) own_pd__28Ljava_2flang_2fObject_3b_29Z rfl (W := 0) (Nat.le_of_ble_eq_true rfl) (own_ad1 l Z a0 hw b1065 x1074 dc dl (0 : Int32) h1074 n0 f1075 f1076 f1077 f1066 f1078 f1079 P1074 S A hl) (by decide) (by decide) (by decide) (by decide) (argsL := [(.ref x1074)]) (rest := []) rfl rfl fun v1080 T1080 L1080 X1080 q1080 => ?_
  obtain ⟨h1080, e1080⟩ : ∃ z, T1080.heap = z := ⟨_, rfl⟩
  try dsimp only at q1080
  rw [e1080] at q1080
  obtain ⟨rfl, M1080, K1080, p1080, q1080, r1080, b1080, k1080, g1080, s1080, t1080, u1080, o1080⟩ := q1080
  have N1080 := Fr.app N1074 M1080
  have f1081 : n0 ≤ b1080 := Nat.le_trans (own_old f1075) g1080
  show own_Fin p e below _ (T1080.setTop (mkF m 47 #[.val (.long m0), .second, .val (.int ep), .val (.int sp), .val (.long qa), .second, .val (.long qb), .second, .val (.int fl), .val (.int (1 : Int32)), .val (.int (2 : Int32)), .val (.ref b1065), .unset, .unset, .unset, .unset, .unset, .unset, .unset, .unset] [(.int (1 : Int32))]))
  refine own_pop X1080 hx (hb hby at_47) rfl ?_
  refine own_iload X1080 hx (hb hby at_48) rfl ?_
  refine own_iconst X1080 hx (2 : Int32) (hb hby at_50) rfl ?_
  refine own_icmpNo X1080 hx (hb hby at_51) (by decide) ?_
  refine own_aload X1080 hx (hb hby at_54) rfl rfl ?_
  refine own_lload X1080 hx (hb hby at_56) rfl ?_
  have f1082 := (f1075.keep K1080 (allS f1066 all0))
  refine own_stat X1080 hx hZ hown (own_w26 hw) (own_w27 hw) (own_w29 hw) (own_w28 hw) (by decide) e1080 (hb hby at_58) (by rw [hml]; rfl) own_pd__28J_29Ljava_2flang_2fLong_3b rfl (W := 1) (Nat.le_of_ble_eq_true rfl) (own_lvo l Z a0 hw qb ca cc h1080 n0 f1082 SC BC) (by decide) (by decide) (by decide) (by decide) (argsL := [(.long qb)]) (rest := [(.ref b1065)]) rfl rfl fun v1083 T1083 L1083 X1083 q1083 => ?_
  obtain ⟨h1083, e1083⟩ : ∃ z, T1083.heap = z := ⟨_, rfl⟩
  try dsimp only at q1083
  rw [e1083] at q1083
  obtain ⟨x1083, rfl, M1083, E1083, P1083, F1083⟩ := q1083
  have N1083 := Fr.app N1080 M1083
  show own_Fin p e below _ (T1083.setTop (mkF m 61 #[.val (.long m0), .second, .val (.int ep), .val (.int sp), .val (.long qa), .second, .val (.long qb), .second, .val (.int fl), .val (.int (1 : Int32)), .val (.int (2 : Int32)), .val (.ref b1065), .unset, .unset, .unset, .unset, .unset, .unset, .unset, .unset] [(.ref x1083), (.ref b1065)]))
  have f1084 := (f1082.ext E1083)
  have f1085 := (p1080.ext E1083)
  have f1086 := (s1080.ext E1083)
  have f1087 := (q1080.ext E1083)
  have f1088 := (r1080.ext E1083)
  have f1089 := (t1080.ext E1083)
  have f1090 := (u1080.ext E1083)
  refine own_virt X1083 hx hZ hown (own_w46 hw) (own_w47 hw) (own_w49 hw) (own_w49 hw) (own_w48 hw) (own_w50 hw) (own_w2 hw) (by decide) e1083 f1085 (hb hby at_61) (by rw [hml]; rfl) own_pd__28Ljava_2flang_2fObject_3b_29Z rfl (W := 0) (Nat.le_of_ble_eq_true rfl) (own_ad2 l Z a0 hw b1065 x1083 x1074 b1080 k1080 ((0 : Int32) + (1 : Int32)) h1083 n0 f1084 f1085 f1066 f1081 f1086 f1087 f1088 P1083 f1089 f1090 o1080) (by decide) (by decide) (by decide) (by decide) (argsL := [(.ref x1083)]) (rest := []) rfl rfl fun v1091 T1091 L1091 X1091 q1091 => ?_
  obtain ⟨h1091, e1091⟩ : ∃ z, T1091.heap = z := ⟨_, rfl⟩
  try dsimp only at q1091
  rw [e1091] at q1091
  obtain ⟨rfl, M1091, K1091, p1091, q1091, r1091, s1091, t1091, u1091⟩ := q1091
  have N1091 := Fr.app N1083 M1091
  show own_Fin p e below _ (T1091.setTop (mkF m 64 #[.val (.long m0), .second, .val (.int ep), .val (.int sp), .val (.long qa), .second, .val (.long qb), .second, .val (.int fl), .val (.int (1 : Int32)), .val (.int (2 : Int32)), .val (.ref b1065), .unset, .unset, .unset, .unset, .unset, .unset, .unset, .unset] [(.int (1 : Int32))]))
  refine own_pop X1091 hx (hb hby at_64) rfl ?_
  refine own_iload X1091 hx (hb hby at_65) rfl ?_
  refine own_ifNo X1091 hx (hb hby at_67) (by decide) ?_
  refine own_lloadN X1091 hx (hb hby at_70) rfl ?_
  have f1092 := (f1084.keep K1091 (allS f1066 (allS f1081 all0)))
  refine own_stat X1091 hx hZ hown (own_w26 hw) (own_w27 hw) (own_w29 hw) (own_w28 hw) (by decide) e1091 (hb hby at_71) (by rw [hml]; rfl) own_pd__28J_29Ljava_2flang_2fLong_3b rfl (W := 0) (Nat.le_of_ble_eq_true rfl) (own_lvo l Z a0 hw m0 ca cc h1091 n0 f1092 SC BC) (by decide) (by decide) (by decide) (by decide) (argsL := [(.long m0)]) (rest := []) rfl rfl fun v1093 T1093 L1093 X1093 q1093 => ?_
  obtain ⟨h1093, e1093⟩ : ∃ z, T1093.heap = z := ⟨_, rfl⟩
  try dsimp only at q1093
  rw [e1093] at q1093
  obtain ⟨x1093, rfl, M1093, E1093, P1093, F1093⟩ := q1093
  have N1093 := Fr.app N1091 M1093
  show own_Fin p e below _ (T1093.setTop (mkF m 74 #[.val (.long m0), .second, .val (.int ep), .val (.int sp), .val (.long qa), .second, .val (.long qb), .second, .val (.int fl), .val (.int (1 : Int32)), .val (.int (2 : Int32)), .val (.ref b1065), .unset, .unset, .unset, .unset, .unset, .unset, .unset, .unset] [(.ref x1093)]))
  refine own_goto X1093 hx 78 (hb hby at_74) (by decide) (by decide) ?_
  refine own_astore X1093 hx (l' := #[.val (.long m0), .second, .val (.int ep), .val (.int sp), .val (.long qa), .second, .val (.long qb), .second, .val (.int fl), .val (.int (1 : Int32)), .val (.int (2 : Int32)), .val (.ref b1065), .val (.ref x1093), .unset, .unset, .unset, .unset, .unset, .unset, .unset]) (hb hby at_78) rfl rfl ?_
  refine own_new X1093 hx hZ hown (own_w80 hw) (own_w81 hw) (own_w82 hw) e1093 (hb hby at_80) (by decide) (by decide) fun T1094 h1094 b1094 X1094 e1094 g1094 E1094 A1094 D1094 => ?_
  have f1095 := (f1092.ext E1093)
  have f1096 : n0 ≤ b1094 := Nat.le_trans (own_old f1095) (Nat.le_of_eq g1094.symm)
  have f1097 : Fld Z h1094 b1094 "com/example/regent/regent/controller/Event$MasterChanged" "group" "Ljava/lang/String;" .null := D1094 (Or.inr (own_w187 hw)) own_fd_Ljava_2flang_2fString_3b
  have f1098 : Fld Z h1094 b1094 "com/example/regent/regent/controller/Event$MasterChanged" "master" "Ljava/lang/Long;" .null := D1094 (Or.inr (own_w189 hw)) own_fd_Ljava_2flang_2fLong_3b
  have f1099 : Fld Z h1094 b1094 "com/example/regent/regent/controller/Event$MasterChanged" "masterEpoch" "I" (.int (0 : Int32)) := D1094 (Or.inr (own_w191 hw)) own_fd_I
  have f1100 : Fld Z h1094 b1094 "com/example/regent/regent/controller/Event$MasterChanged" "syncStateSet" "Ljava/util/List;" .null := D1094 (Or.inr (own_w193 hw)) own_fd_Ljava_2futil_2fList_3b
  have f1101 : Fld Z h1094 b1094 "com/example/regent/regent/controller/Event$MasterChanged" "syncStateSetEpoch" "I" (.int (0 : Int32)) := D1094 (Or.inr (own_w195 hw)) own_fd_I
  refine own_dup X1094 hx (hb hby at_83) rfl ?_
  refine own_ldcS (s := s) (vm0 := s.vm) X1094 hx hZ hown (own_w83 hw) wS e1094 ((State.WarmedH.refl s).since 0) (Nat.zero_le _) (hb hby at_84) 4 (by decide) (by decide) (by decide) (by decide) fun sg1102 vm1102 T1102 h1102 k1102 X1102 e1102 E1102 hS1102 hk1102 hZ1102 ho1102 => ?_
  refine own_aload X1102 hx (hb hby at_86) rfl rfl ?_
  refine own_iloadN X1102 hx (hb hby at_88) rfl ?_
  refine own_aload X1102 hx (hb hby at_89) rfl rfl ?_
  refine own_iloadN X1102 hx (hb hby at_91) rfl ?_
  have f1103 := (((p1091.ext E1093).ext E1094).ext E1102)
  have f1104 := (((q1091.ext E1093).ext E1094).ext E1102)
  have f1105 := (((s1091.ext E1093).ext E1094).ext E1102)
  have f1106 := (((t1091.ext E1093).ext E1094).ext E1102)
  have f1107 := ((((((P1074.keep K1080).ext E1083).keep K1091).ext E1093).ext E1094).ext E1102)
  have f1108 := ((((P1083.keep K1091).ext E1093).ext E1094).ext E1102)
  have f1109 := (((u1091.ext E1093).ext E1094).ext E1102)
  have f1110 := ((f1095.ext E1094).ext E1102)
  have f1111 := (A1094.ext E1102)
  have f1112 := (f1097.ext E1102)
  have f1113 := (f1098.ext E1102)
  have f1114 := (f1099.ext E1102)
  have f1115 := (f1100.ext E1102)
  have f1116 := (f1101.ext E1102)
  refine own_spec X1102 hx hZ1102 rfl ho1102 (own_w91 hw) (own_w92 hw) (own_w93 hw) (own_w82 hw) (by decide) e1102 (hb hby at_92) (by rw [hml]; rfl) own_pd__28Ljava_2flang_2fString_3bLjava_2flang_2fLong_3bILjava_2futil_2fList_3bI_29V rfl (W := 1) (Nat.le_of_ble_eq_true rfl) (own_ei12 l Z a0 hw b1094 sg1102 x1093 ep sp b1065 em b1080 mr x1074 x1083 k1080 h1102 n0 f1110 f1111 f1096 f1112 f1113 f1114 f1115 f1116 f1103 f1104 f1105 f1106 f1107 f1108 f1109 MM SE NA NB) (by decide) (by decide) (by decide) (by decide) (a := b1094) (argsL := [(.ref sg1102), (.ref x1093), (.int ep), (.ref b1065), (.int sp)]) (rest := [(.ref b1094)]) rfl rfl fun v1117 T1117 L1117 X1117 q1117 => ?_
  obtain ⟨h1117, e1117⟩ : ∃ z, T1117.heap = z := ⟨_, rfl⟩
  try dsimp only at q1117
  rw [e1117] at q1117
  obtain ⟨rfl, M1117, K1117, y1117, g1117, ⟨u1117, v1117, z1117⟩, p1117, q1117, r1117, s1117, t1117⟩ := q1117
  have N1117 := Fr.app N1093 M1117
  have f1118 : n0 ≤ y1117 := Nat.le_trans (own_old f1110) g1117
  show own_Fin p e below _ (T1117.setTop (mkF m 95 #[.val (.long m0), .second, .val (.int ep), .val (.int sp), .val (.long qa), .second, .val (.long qb), .second, .val (.int fl), .val (.int (1 : Int32)), .val (.int (2 : Int32)), .val (.ref b1065), .val (.ref x1093), .unset, .unset, .unset, .unset, .unset, .unset, .unset] [(.ref b1094)]))
  refine own_astore X1117 hx (l' := #[.val (.long m0), .second, .val (.int ep), .val (.int sp), .val (.long qa), .second, .val (.long qb), .second, .val (.int fl), .val (.int (1 : Int32)), .val (.int (2 : Int32)), .val (.ref b1065), .val (.ref x1093), .val (.ref b1094), .unset, .unset, .unset, .unset, .unset, .unset]) (hb hby at_95) rfl rfl ?_
  refine own_new X1117 hx hZ1102 ho1102 (own_w196 hw) (own_w197 hw) (own_w198 hw) e1117 (hb hby at_97) (by decide) (by decide) fun T1119 h1119 b1119 X1119 e1119 g1119 E1119 A1119 D1119 => ?_
  have f1120 := (f1110.keep K1117 (allS f1096 all0))
  have f1121 : n0 ≤ b1119 := Nat.le_trans (own_old f1120) (Nat.le_of_eq g1119.symm)
  have f1122 : Fld Z h1119 b1119 "com/example/regent/regent/controller/Group" "registerCodes" "Ljava/util/NavigableMap;" .null := D1119 (Or.inr (own_w223 hw)) own_fd_Ljava_2futil_2fNavigableMap_3b
  have f1123 : Fld Z h1119 b1119 "com/example/regent/regent/controller/Group" "brokers" "Ljava/util/NavigableMap;" .null := D1119 (Or.inr (own_w225 hw)) own_fd_Ljava_2futil_2fNavigableMap_3b
  have f1124 : Fld Z h1119 b1119 "com/example/regent/regent/controller/Group" "syncStateSet" "Ljava/util/List;" .null := D1119 (Or.inl (own_w231 hw)) own_fd_Ljava_2futil_2fList_3b
  have f1125 : Fld Z h1119 b1119 "com/example/regent/regent/controller/Group" "name" "Ljava/lang/String;" .null := D1119 (Or.inr (own_w233 hw)) own_fd_Ljava_2flang_2fString_3b
  have f1126 : Fld Z h1119 b1119 "com/example/regent/regent/controller/Group" "master" "Ljava/lang/Long;" .null := D1119 (Or.inl (own_w236 hw)) own_fd_Ljava_2flang_2fLong_3b
  have f1127 : Fld Z h1119 b1119 "com/example/regent/regent/controller/Group" "masterEpoch" "I" (.int (0 : Int32)) := D1119 (Or.inl (own_w238 hw)) own_fd_I
  have f1128 : Fld Z h1119 b1119 "com/example/regent/regent/controller/Group" "syncStateSetEpoch" "I" (.int (0 : Int32)) := D1119 (Or.inl (own_w241 hw)) own_fd_I
  refine own_dup X1119 hx (hb hby at_100) rfl ?_
  refine own_ldcS (s := s) (vm0 := vm1102) X1119 hx hZ1102 ho1102 (own_w83 hw) wS e1119 hS1102 (Nat.le_trans hk1102 (Nat.le_trans (Nat.le_trans (Nat.le_refl _) K1117.1) E1119.1)) (hb hby at_101) 4 (by decide) (by decide) (by decide) (by decide) fun sg1129 vm1129 T1129 h1129 k1129 X1129 e1129 E1129 hS1129 hk1129 hZ1129 ho1129 => ?_
  have f1130 := ((f1120.ext E1119).ext E1129)
  have f1131 := (A1119.ext E1129)
  have f1132 := (f1122.ext E1129)
  have f1133 := (f1123.ext E1129)
  have f1134 := (f1124.ext E1129)
  have f1135 := (f1125.ext E1129)
  have f1136 := (f1126.ext E1129)
  have f1137 := (f1127.ext E1129)
  have f1138 := (f1128.ext E1129)
  refine own_spec X1129 hx hZ1129 rfl ho1129 (own_w199 hw) (own_w200 hw) (own_w201 hw) (own_w198 hw) (by decide) e1129 (hb hby at_103) (by rw [hml]; rfl) own_pd__28Ljava_2flang_2fString_3b_29V rfl (W := 1) (Nat.le_of_ble_eq_true rfl) (own_gri l Z a0 hw b1119 sg1129 el h1129 n0 f1130 f1131 f1121 f1132 f1133 f1134 f1135 f1136 f1137 f1138 SL) (by decide) (by decide) (by decide) (by decide) (a := b1119) (argsL := [(.ref sg1129)]) (rest := [(.ref b1119)]) rfl rfl fun v1139 T1139 L1139 X1139 q1139 => ?_
  obtain ⟨h1139, e1139⟩ : ∃ z, T1139.heap = z := ⟨_, rfl⟩
  try dsimp only at q1139
  rw [e1139] at q1139
  obtain ⟨rfl, M1139, K1139, p1139, q1139, r1139, s1139, t1139⟩ := q1139
  have N1139 := Fr.app N1117 M1139
  show own_Fin p e below _ (T1139.setTop (mkF m 106 #[.val (.long m0), .second, .val (.int ep), .val (.int sp), .val (.long qa), .second, .val (.long qb), .second, .val (.int fl), .val (.int (1 : Int32)), .val (.int (2 : Int32)), .val (.ref b1065), .val (.ref x1093), .val (.ref b1094), .unset, .unset, .unset, .unset, .unset, .unset] [(.ref b1119)]))
  refine own_astore X1139 hx (l' := #[.val (.long m0), .second, .val (.int ep), .val (.int sp), .val (.long qa), .second, .val (.long qb), .second, .val (.int fl), .val (.int (1 : Int32)), .val (.int (2 : Int32)), .val (.ref b1065), .val (.ref x1093), .val (.ref b1094), .val (.ref b1119), .unset, .unset, .unset, .unset, .unset]) (hb hby at_106) rfl rfl ?_
  refine own_new X1139 hx hZ1129 ho1129 (own_w0 hw) (own_w1 hw) (own_w2 hw) e1139 (hb hby at_108) (by decide) (by decide) fun T1140 h1140 b1140 X1140 e1140 g1140 E1140 A1140 D1140 => ?_
  have f1141 := ((((f1103.keep K1117).ext E1119).ext E1129).keep K1139)
  have f1142 := Nat.ne_of_lt (Nat.lt_of_lt_of_le f1141.lt (Nat.le_of_eq g1140.symm))
  have f1143 := (f1130.keep K1139 (allS f1121 all0))
  have f1144 : n0 ≤ b1140 := Nat.le_trans (own_old f1143) (Nat.le_of_eq g1140.symm)
  have f1145 : Fld Z h1140 b1140 "java/util/AbstractList" "modCount" "I" (.int (0 : Int32)) := D1140 (Or.inl (own_w22 hw)) own_fd_I
  have f1146 : Fld Z h1140 b1140 "java/util/ArrayList" "elementData" "[Ljava/lang/Object;" .null := D1140 (Or.inl (own_w25 hw)) own_fd__5bLjava_2flang_2fObject_3b
  have f1147 : Fld Z h1140 b1140 "java/util/ArrayList" "size" "I" (.int (0 : Int32)) := D1140 (Or.inl (own_w54 hw)) own_fd_I
  refine own_dup X1140 hx (hb hby at_111) rfl ?_
  have f1148 := (f1143.ext E1140)
  refine own_spec X1140 hx hZ1129 rfl ho1129 (own_w3 hw) (own_w4 hw) (own_w5 hw) (own_w2 hw) (by decide) e1140 (hb hby at_112) (by rw [hml]; rfl) own_pd__28_29V rfl (W := 1) (Nat.le_of_ble_eq_true rfl) (own_ali l Z a0 hw b1140 dc _ _ h1140 n0 f1148 A1140 f1145 f1146 f1144 S) (by decide) (by decide) (by decide) (by decide) (a := b1140) (argsL := []) (rest := [(.ref b1140)]) rfl rfl fun v1149 T1149 L1149 X1149 q1149 => ?_
  obtain ⟨h1149, e1149⟩ : ∃ z, T1149.heap = z := ⟨_, rfl⟩
  try dsimp only at q1149
  rw [e1149] at q1149
  obtain ⟨rfl, M1149, j1149, W1149, U1149⟩ := q1149
  have N1149 := Fr.app N1139 M1149
  have f1150 := (f1146.other W1149 (Or.inr (slot_ne (Or.inl (own_w25 hw)) (Or.inl (own_w22 hw)) (by decide) own_fd__5bLjava_2flang_2fObject_3b own_fd_I)))
  show own_Fin p e below _ (T1149.setTop (mkF m 115 #[.val (.long m0), .second, .val (.int ep), .val (.int sp), .val (.long qa), .second, .val (.long qb), .second, .val (.int fl), .val (.int (1 : Int32)), .val (.int (2 : Int32)), .val (.ref b1065), .val (.ref x1093), .val (.ref b1094), .val (.ref b1119), .unset, .unset, .unset, .unset, .unset] [(.ref b1140)]))
  refine own_astore X1149 hx (l' := #[.val (.long m0), .second, .val (.int ep), .val (.int sp), .val (.long qa), .second, .val (.long qb), .second, .val (.int fl), .val (.int (1 : Int32)), .val (.int (2 : Int32)), .val (.ref b1065), .val (.ref x1093), .val (.ref b1094), .val (.ref b1119), .val (.ref b1140), .unset, .unset, .unset, .unset]) (hb hby at_115) rfl rfl ?_
  refine own_aload X1149 hx (hb hby at_117) rfl rfl ?_
  refine own_lload X1149 hx (hb hby at_119) rfl ?_
  refine own_ldc2J X1149 hx hZ1129 ho1129 (own_w234 hw) (hb hby at_121) ?_
  refine own_lxor X1149 hx (hb hby at_124) ?_
  have f1151 := ((f1148.wr W1149 f1144).wr U1149 f1144)
  refine own_stat X1149 hx hZ1129 ho1129 (own_w26 hw) (own_w27 hw) (own_w29 hw) (own_w28 hw) (by decide) e1149 (hb hby at_125) (by rw [hml]; rfl) own_pd__28J_29Ljava_2flang_2fLong_3b rfl (W := 1) (Nat.le_of_ble_eq_true rfl) (own_lvo l Z a0 hw (qa ^^^ (-1 : Int64)) ca cc h1149 n0 f1151 SC BC) (by decide) (by decide) (by decide) (by decide) (argsL := [(.long (qa ^^^ (-1 : Int64)))]) (rest := [(.ref b1140)]) rfl rfl fun v1152 T1152 L1152 X1152 q1152 => ?_
  obtain ⟨h1152, e1152⟩ : ∃ z, T1152.heap = z := ⟨_, rfl⟩
  try dsimp only at q1152
  rw [e1152] at q1152
  obtain ⟨x1152, rfl, M1152, E1152, P1152, F1152⟩ := q1152
  have N1152 := Fr.app N1149 M1152
  show own_Fin p e below _ (T1152.setTop (mkF m 128 #[.val (.long m0), .second, .val (.int ep), .val (.int sp), .val (.long qa), .second, .val (.long qb), .second, .val (.int fl), .val (.int (1 : Int32)), .val (.int (2 : Int32)), .val (.ref b1065), .val (.ref x1093), .val (.ref b1094), .val (.ref b1119), .val (.ref b1140), .unset, .unset, .unset, .unset] [(.ref x1152), (.ref b1140)]))
  have f1153 := (f1151.ext E1152)
  have f1154 := (((A1140.wr W1149).wr U1149).ext E1152)
  have f1155 := ((f1150.same U1149).ext E1152)
  have f1156 := (((f1147.other W1149 (Or.inr (slot_ne (Or.inl (own_w54 hw)) (Or.inl (own_w22 hw)) (by decide) own_fd_I own_fd_I))).other U1149 (Or.inr (slot_ne (Or.inl (own_w54 hw)) (Or.inl (own_w25 hw)) (by decide) own_fd_I own_fd__5bLjava_2flang_2fObject_3b))).ext E1152)
  have f1157 := (((f1145.same W1149).other U1149 (Or.inr (slot_ne (Or.inl (own_w22 hw)) (Or.inl (own_w25 hw)) (by decide) own_fd_I own_fd__5bLjava_2flang_2fObject_3b))).ext E1152)
  refine own_virt X1152 hx hZ1129 ho1129 (own_w46 hw) (own_w47 hw) (own_w49 hw) (own_w49 hw) (own_w48 hw) (own_w50 hw) (own_w2 hw) (by decide) e1152 f1154 (hb hby at_128) (by rw [hml]; rfl) own_pd__28Ljava_2flang_2fObject_3b_29Z rfl (W := 0) (Nat.le_of_ble_eq_true rfl) (own_ad1 l Z a0 hw b1140 x1152 dc dl (0 : Int32) h1152 n0 f1153 f1154 f1155 f1144 f1156 f1157 P1152 S A hl) (by decide) (by decide) (by decide) (by decide) (argsL := [(.ref x1152)]) (rest := []) rfl rfl fun v1158 T1158 L1158 X1158 q1158 => ?_
  obtain ⟨h1158, e1158⟩ : ∃ z, T1158.heap = z := ⟨_, rfl⟩
  try dsimp only at q1158
  rw [e1158] at q1158
  obtain ⟨rfl, M1158, K1158, p1158, q1158, r1158, b1158, k1158, g1158, s1158, t1158, u1158, o1158⟩ := q1158
  have N1158 := Fr.app N1152 M1158
  have f1159 := ((((((((f1109.keep K1117).ext E1119).ext E1129).keep K1139).ext E1140).wr W1149).wr U1149).ext E1152)
  have f1160 := Nat.ne_of_lt (Nat.lt_of_lt_of_le f1159.lt g1158)
  have f1161 : n0 ≤ b1158 := Nat.le_trans (own_old f1153) g1158
  show own_Fin p e below _ (T1158.setTop (mkF m 131 #[.val (.long m0), .second, .val (.int ep), .val (.int sp), .val (.long qa), .second, .val (.long qb), .second, .val (.int fl), .val (.int (1 : Int32)), .val (.int (2 : Int32)), .val (.ref b1065), .val (.ref x1093), .val (.ref b1094), .val (.ref b1119), .val (.ref b1140), .unset, .unset, .unset, .unset] [(.int (1 : Int32))]))
  refine own_pop X1158 hx (hb hby at_131) rfl ?_
  refine own_aload X1158 hx (hb hby at_132) rfl rfl ?_
  refine own_lloadN X1158 hx (hb hby at_134) rfl ?_
  refine own_ldc2J X1158 hx hZ1129 ho1129 (own_w234 hw) (hb hby at_135) ?_
  refine own_lxor X1158 hx (hb hby at_138) ?_
  have f1162 := (f1153.keep K1158 (allS f1144 all0))
  refine own_stat X1158 hx hZ1129 ho1129 (own_w26 hw) (own_w27 hw) (own_w29 hw) (own_w28 hw) (by decide) e1158 (hb hby at_139) (by rw [hml]; rfl) own_pd__28J_29Ljava_2flang_2fLong_3b rfl (W := 1) (Nat.le_of_ble_eq_true rfl) (own_lvo l Z a0 hw (m0 ^^^ (-1 : Int64)) ca cc h1158 n0 f1162 SC BC) (by decide) (by decide) (by decide) (by decide) (argsL := [(.long (m0 ^^^ (-1 : Int64)))]) (rest := [(.ref b1119)]) rfl rfl fun v1163 T1163 L1163 X1163 q1163 => ?_
  obtain ⟨h1163, e1163⟩ : ∃ z, T1163.heap = z := ⟨_, rfl⟩
  try dsimp only at q1163
  rw [e1163] at q1163
  obtain ⟨x1163, rfl, M1163, E1163, P1163, F1163⟩ := q1163
  have N1163 := Fr.app N1158 M1163
  show own_Fin p e below _ (T1163.setTop (mkF m 142 #[.val (.long m0), .second, .val (.int ep), .val (.int sp), .val (.long qa), .second, .val (.long qb), .second, .val (.int fl), .val (.int (1 : Int32)), .val (.int (2 : Int32)), .val (.ref b1065), .val (.ref x1093), .val (.ref b1094), .val (.ref b1119), .val (.ref b1140), .unset, .unset, .unset, .unset] [(.ref x1163), (.ref b1119)]))
  have f1164 := ((((((p1139.ext E1140).wr W1149).wr U1149).ext E1152).keep K1158).ext E1163)
  have f1165 := (p1158.ext E1163)
  have f1166 := ne_exa f1164 f1165 (by decide)
  have f1167 := ((((((q1139.ext E1140).other W1149 (Or.inl f1166)).other U1149 (Or.inl f1166)).ext E1152).keep K1158 (ninS f1166 nin0)).ext E1163)
  refine own_putfield X1163 hx hZ1129 (host := "") ho1129 (Or.inl (own_w235 hw)) Via.refl e1163 f1167 f1164 (Or.inl (own_w236 hw)) (own_w197 hw) own_fd_Ljava_2flang_2fLong_3b rfl rfl (hb hby at_142) fun T1168 h1168 X1168 e1168 W1168 => ?_
  have N1168 := Fr.snoc X1168 N1163 f1121
  refine own_aload X1168 hx (hb hby at_145) rfl rfl ?_
  refine own_iloadN X1168 hx (hb hby at_147) rfl ?_
  refine own_iconst X1168 hx (-1 : Int32) (hb hby at_148) rfl ?_
  refine own_ixor X1168 hx (hb hby at_149) ?_
  have f1169 := (((((((r1139.ext E1140).other W1149 (Or.inl f1166)).other U1149 (Or.inl f1166)).ext E1152).keep K1158 (ninS f1166 nin0)).ext E1163).other W1168 (Or.inr (slot_ne (Or.inl (own_w238 hw)) (Or.inl (own_w236 hw)) (by decide) own_fd_I own_fd_Ljava_2flang_2fLong_3b)))
  have f1170 := (f1164.wr W1168)
  refine own_putfield X1168 hx hZ1129 (host := "") ho1129 (Or.inl (own_w237 hw)) Via.refl e1168 f1169 f1170 (Or.inl (own_w238 hw)) (own_w197 hw) own_fd_I rfl rfl (hb hby at_150) fun T1171 h1171 X1171 e1171 W1171 => ?_
  have N1171 := Fr.snoc X1171 N1168 f1121
  refine own_aload X1171 hx (hb hby at_153) rfl rfl ?_
  refine own_aload X1171 hx (hb hby at_155) rfl rfl ?_
  have f1172 := ((((((((s1139.ext E1140).other W1149 (Or.inl f1166)).other U1149 (Or.inl f1166)).ext E1152).keep K1158 (ninS f1166 nin0)).ext E1163).other W1168 (Or.inr (slot_ne (Or.inl (own_w231 hw)) (Or.inl (own_w236 hw)) (by decide) own_fd_Ljava_2futil_2fList_3b own_fd_Ljava_2flang_2fLong_3b))).other W1171 (Or.inr (slot_ne (Or.inl (own_w231 hw)) (Or.inl (own_w238 hw)) (by decide) own_fd_Ljava_2futil_2fList_3b own_fd_I)))
  have f1173 := (f1170.wr W1171)
  refine own_putfield X1171 hx hZ1129 (host := "") ho1129 (Or.inl (own_w239 hw)) Via.refl e1171 f1172 f1173 (Or.inl (own_w231 hw)) (own_w197 hw) own_fd_Ljava_2futil_2fList_3b rfl rfl (hb hby at_157) fun T1174 h1174 X1174 e1174 W1174 => ?_
  have N1174 := Fr.snoc X1174 N1171 f1121
  refine own_aload X1174 hx (hb hby at_160) rfl rfl ?_
  refine own_iloadN X1174 hx (hb hby at_162) rfl ?_
  refine own_iconst X1174 hx (-1 : Int32) (hb hby at_163) rfl ?_
  refine own_ixor X1174 hx (hb hby at_164) ?_
  have f1175 := (((((((((t1139.ext E1140).other W1149 (Or.inl f1166)).other U1149 (Or.inl f1166)).ext E1152).keep K1158 (ninS f1166 nin0)).ext E1163).other W1168 (Or.inr (slot_ne (Or.inl (own_w241 hw)) (Or.inl (own_w236 hw)) (by decide) own_fd_I own_fd_Ljava_2flang_2fLong_3b))).other W1171 (Or.inr (slot_ne (Or.inl (own_w241 hw)) (Or.inl (own_w238 hw)) (by decide) own_fd_I own_fd_I))).other W1174 (Or.inr (slot_ne (Or.inl (own_w241 hw)) (Or.inl (own_w231 hw)) (by decide) own_fd_I own_fd_Ljava_2futil_2fList_3b)))
  have f1176 := (f1173.wr W1174)
  refine own_putfield X1174 hx hZ1129 (host := "") ho1129 (Or.inl (own_w240 hw)) Via.refl e1174 f1175 f1176 (Or.inl (own_w241 hw)) (own_w197 hw) own_fd_I rfl rfl (hb hby at_165) fun T1177 h1177 X1177 e1177 W1177 => ?_
  have N1177 := Fr.snoc X1177 N1174 f1121
  refine own_aload X1177 hx (hb hby at_168) rfl rfl ?_
  refine own_aload X1177 hx (hb hby at_170) rfl rfl ?_
  have f1178 := (((((f1162.ext E1163).wr W1168 f1121).wr W1171 f1121).wr W1174 f1121).wr W1177 f1121)
  have f1179 := (((((((((((((p1117.ext E1119).ext E1129).keep K1139).ext E1140).wr W1149).wr U1149).ext E1152).keep K1158).ext E1163).wr W1168).wr W1171).wr W1174).wr W1177)
  have f1180 := (f1176.wr W1177)
  have f1181 := ne_exa f1179 f1180 (by decide)
  have f1182 := ((((f1165.wr W1168).wr W1171).wr W1174).wr W1177)
  have f1183 := ne_exa f1179 f1182 (by decide)
  have f1184 := (((((((((((((q1117.ext E1119).ext E1129).keep K1139 (ninS f1181 nin0)).ext E1140).other W1149 (Or.inl f1183)).other U1149 (Or.inl f1183)).ext E1152).keep K1158 (ninS f1183 nin0)).ext E1163).other W1168 (Or.inl f1181)).other W1171 (Or.inl f1181)).other W1174 (Or.inl f1181)).other W1177 (Or.inl f1181))
  have f1185 := (((((((((((((r1117.ext E1119).ext E1129).keep K1139 (ninS f1181 nin0)).ext E1140).other W1149 (Or.inl f1183)).other U1149 (Or.inl f1183)).ext E1152).keep K1158 (ninS f1183 nin0)).ext E1163).other W1168 (Or.inl f1181)).other W1171 (Or.inl f1181)).other W1174 (Or.inl f1181)).other W1177 (Or.inl f1181))
  have f1186 := (((((((((((((s1117.ext E1119).ext E1129).keep K1139 (ninS f1181 nin0)).ext E1140).other W1149 (Or.inl f1183)).other U1149 (Or.inl f1183)).ext E1152).keep K1158 (ninS f1183 nin0)).ext E1163).other W1168 (Or.inl f1181)).other W1171 (Or.inl f1181)).other W1174 (Or.inl f1181)).other W1177 (Or.inl f1181))
  have f1187 := (((((((((((((t1117.ext E1119).ext E1129).keep K1139 (ninS f1181 nin0)).ext E1140).other W1149 (Or.inl f1183)).other U1149 (Or.inl f1183)).ext E1152).keep K1158 (ninS f1183 nin0)).ext E1163).other W1168 (Or.inl f1181)).other W1171 (Or.inl f1181)).other W1174 (Or.inl f1181)).other W1177 (Or.inl f1181))
  have f1188 := ((((f1167.same W1168).other W1171 (Or.inr (slot_ne (Or.inl (own_w236 hw)) (Or.inl (own_w238 hw)) (by decide) own_fd_Ljava_2flang_2fLong_3b own_fd_I))).other W1174 (Or.inr (slot_ne (Or.inl (own_w236 hw)) (Or.inl (own_w231 hw)) (by decide) own_fd_Ljava_2flang_2fLong_3b own_fd_Ljava_2futil_2fList_3b))).other W1177 (Or.inr (slot_ne (Or.inl (own_w236 hw)) (Or.inl (own_w241 hw)) (by decide) own_fd_Ljava_2flang_2fLong_3b own_fd_I)))
  have f1189 := (((f1169.same W1171).other W1174 (Or.inr (slot_ne (Or.inl (own_w238 hw)) (Or.inl (own_w231 hw)) (by decide) own_fd_I own_fd_Ljava_2futil_2fList_3b))).other W1177 (Or.inr (slot_ne (Or.inl (own_w238 hw)) (Or.inl (own_w241 hw)) (by decide) own_fd_I own_fd_I)))
  have f1190 := ((f1172.same W1174).other W1177 (Or.inr (slot_ne (Or.inl (own_w231 hw)) (Or.inl (own_w241 hw)) (by decide) own_fd_Ljava_2futil_2fList_3b own_fd_I)))
  refine own_virt X1177 hx hZ1129 ho1129 (own_w242 hw) (own_w243 hw) (own_w245 hw) (own_w245 hw) (own_w244 hw) (own_w246 hw) (own_w82 hw) (by decide) e1177 f1179 (hb hby at_172) (by rw [hml]; rfl) own_pd__28Lcom_2fexample_2fregent_2fregent_2fcontroller_2fGroup_3b_29V rfl (W := 0) (Nat.le_of_ble_eq_true rfl) (own_ap1 l Z a0 hw b1094 b1119 y1117 x1093 ep sp _ _ _ _ h1177 n0 f1178 f1179 f1180 f1121 f1184 f1185 f1186 f1187 f1188 f1189 f1190 (f1175.same W1177)) (by decide) (by decide) (by decide) (by decide) (argsL := [(.ref b1119)]) (rest := []) rfl rfl fun v1191 T1191 L1191 X1191 q1191 => ?_
  obtain ⟨h1191, e1191⟩ : ∃ z, T1191.heap = z := ⟨_, rfl⟩
  try dsimp only at q1191
  rw [e1191] at q1191
  obtain ⟨rfl, M1191, K1191, p1191, q1191, r1191, s1191, t1191⟩ := q1191
  have N1191 := Fr.app N1177 M1191
  show own_Fin p e below _ (T1191.setTop (mkF m 175 #[.val (.long m0), .second, .val (.int ep), .val (.int sp), .val (.long qa), .second, .val (.long qb), .second, .val (.int fl), .val (.int (1 : Int32)), .val (.int (2 : Int32)), .val (.ref b1065), .val (.ref x1093), .val (.ref b1094), .val (.ref b1119), .val (.ref b1140), .unset, .unset, .unset, .unset] []))
  refine own_iload X1191 hx (hb hby at_175) rfl ?_
  refine own_ifNo X1191 hx (hb hby at_177) (by decide) ?_
  refine own_aload X1191 hx (hb hby at_180) rfl rfl ?_
  refine own_getfield X1191 hx hZ1129 (host := "") ho1129 (Or.inl (own_w235 hw)) Via.refl e1191 q1191 (hb hby at_182) fun T1192 X1192 e1192 => ?_
  refine own_ifnullNo X1192 hx (hb hby at_185) ?_
  refine own_aload X1192 hx (hb hby at_188) rfl rfl ?_
  refine own_getfield X1192 hx hZ1129 (host := "") ho1129 (Or.inl (own_w235 hw)) Via.refl e1192 q1191 (hb hby at_190) fun T1193 X1193 e1193 => ?_
  have f1194 := (f1178.keep K1191 (allS f1121 all0))
  have f1195 := (((((((((((((((((P1093.ext E1094).ext E1102).keep K1117).ext E1119).ext E1129).keep K1139).ext E1140).wr W1149).wr U1149).ext E1152).keep K1158).ext E1163).wr W1168).wr W1171).wr W1174).wr W1177).keep K1191)
  have f1196 := (f1179.keep K1191)
  have f1197 := ne_exa f1195 f1196 (by decide)
  have f1198 := ne_exa f1195 p1191 (by decide)
  have f1199 := (f1182.keep K1191)
  have f1200 := ne_exa f1195 f1199 (by decide)
  have f1201 := (((((((((((((((((F1093.ext E1094).ext E1102).keep K1117 (ninS f1197 nin0)).ext E1119).ext E1129).keep K1139 (ninS f1198 nin0)).ext E1140).other W1149 (Or.inl f1200)).other U1149 (Or.inl f1200)).ext E1152).keep K1158 (ninS f1200 nin0)).ext E1163).other W1168 (Or.inl f1198)).other W1171 (Or.inl f1198)).other W1174 (Or.inl f1198)).other W1177 (Or.inl f1198)).keep K1191 (ninS f1198 nin0))
  refine own_virt X1193 hx hZ1129 ho1129 (own_w251 hw) (own_w252 hw) (own_w254 hw) (own_w254 hw) (own_w253 hw) (own_w255 hw) (own_w28 hw) (by decide) e1193 f1195 (hb hby at_193) (by rw [hml]; rfl) own_pd__28_29J rfl (W := 0) (Nat.le_of_ble_eq_true rfl) (own_lv l Z a0 hw x1093 m0 h1191 n0 f1194 f1201) (by decide) (by decide) (by decide) (by decide) (argsL := []) (rest := []) rfl rfl fun v1202 T1202 L1202 X1202 q1202 => ?_
  obtain ⟨rfl, M1202, e1202⟩ := q1202
  have N1202 := Fr.app N1191 M1202
  show own_Fin p e below _ (T1202.setTop (mkF m 196 #[.val (.long m0), .second, .val (.int ep), .val (.int sp), .val (.long qa), .second, .val (.long qb), .second, .val (.int fl), .val (.int (1 : Int32)), .val (.int (2 : Int32)), .val (.ref b1065), .val (.ref x1093), .val (.ref b1094), .val (.ref b1119), .val (.ref b1140), .unset, .unset, .unset, .unset] [(.long m0)]))
  refine own_lloadN X1202 hx (hb hby at_196) rfl ?_
  refine own_lcmp X1202 hx (hb hby at_197) ?_
  refine own_ifNo X1202 hx (hb hby at_198) (Jvm.Free.XT.ll_ne_f rfl) ?_
  refine own_iconst X1202 hx (1 : Int32) (hb hby at_201) rfl ?_
  refine own_goto X1202 hx 206 (hb hby at_202) (by decide) (by decide) ?_
  refine own_istore X1202 hx (l' := #[.val (.long m0), .second, .val (.int ep), .val (.int sp), .val (.long qa), .second, .val (.long qb), .second, .val (.int fl), .val (.int (1 : Int32)), .val (.int (2 : Int32)), .val (.ref b1065), .val (.ref x1093), .val (.ref b1094), .val (.ref b1119), .val (.ref b1140), .val (.int (1 : Int32)), .unset, .unset, .unset]) (hb hby at_206) rfl ?_
  refine own_goto X1202 hx 226 (hb hby at_208) (by decide) (by decide) ?_
  refine own_aload X1202 hx (hb hby at_226) rfl rfl ?_
  refine own_getfield X1202 hx hZ1129 (host := "") ho1129 (Or.inl (own_w237 hw)) Via.refl e1202 r1191 (hb hby at_228) fun T1203 X1203 e1203 => ?_
  refine own_iloadN X1203 hx (hb hby at_231) rfl ?_
  refine own_icmpNo X1203 hx (hb hby at_232) (Jvm.Free.XT.ii_ne_f rfl) ?_
  refine own_aload X1203 hx (hb hby at_235) rfl rfl ?_
  refine own_getfield X1203 hx hZ1129 (host := "") ho1129 (Or.inl (own_w240 hw)) Via.refl e1203 t1191 (hb hby at_237) fun T1204 X1204 e1204 => ?_
  refine own_iloadN X1204 hx (hb hby at_240) rfl ?_
  refine own_icmpNo X1204 hx (hb hby at_241) (Jvm.Free.XT.ii_ne_f rfl) ?_
  refine own_iconst X1204 hx (1 : Int32) (hb hby at_244) rfl ?_
  refine own_goto X1204 hx 249 (hb hby at_245) (by decide) (by decide) ?_
  refine own_istore X1204 hx (l' := #[.val (.long m0), .second, .val (.int ep), .val (.int sp), .val (.long qa), .second, .val (.long qb), .second, .val (.int fl), .val (.int (1 : Int32)), .val (.int (2 : Int32)), .val (.ref b1065), .val (.ref x1093), .val (.ref b1094), .val (.ref b1119), .val (.ref b1140), .val (.int (1 : Int32)), .val (.int (1 : Int32)), .unset, .unset]) (hb hby at_249) rfl ?_
  refine own_aload X1204 hx (hb hby at_251) rfl rfl ?_
  refine own_getfield X1204 hx hZ1129 (host := "") ho1129 (Or.inl (own_w239 hw)) Via.refl e1204 s1191 (hb hby at_253) fun T1205 X1205 e1205 => ?_
  refine own_astore X1205 hx (l' := #[.val (.long m0), .second, .val (.int ep), .val (.int sp), .val (.long qa), .second, .val (.long qb), .second, .val (.int fl), .val (.int (1 : Int32)), .val (.int (2 : Int32)), .val (.ref b1065), .val (.ref x1093), .val (.ref b1094), .val (.ref b1119), .val (.ref b1140), .val (.int (1 : Int32)), .val (.int (1 : Int32)), .val (.ref y1117), .unset]) (hb hby at_256) rfl rfl ?_
  refine own_aload X1205 hx (hb hby at_258) rfl rfl ?_
  refine own_ifnullNo X1205 hx (hb hby at_260) ?_
  refine own_aload X1205 hx (hb hby at_263) rfl rfl ?_
  have f1206 := (((((((((((((((f1108.keep K1117).ext E1119).ext E1129).keep K1139).ext E1140).wr W1149).wr U1149).ext E1152).keep K1158).ext E1163).wr W1168).wr W1171).wr W1174).wr W1177).keep K1191)
  have f1207 := ne_exa f1206 (EEM.ext f1194.2) (by decide)
  have f1208 := ((((((((((((((u1117.ext E1119).ext E1129).keep K1139).ext E1140).wr W1149).wr U1149).ext E1152).keep K1158).ext E1163).wr W1168).wr W1171).wr W1174).wr W1177).keep K1191)
  have f1209 := ne_exa f1208 p1191 (by decide)
  have f1210 := ne_exa f1208 f1199 (by decide)
  have f1211 := ((((((((((((((z1117.ext E1119).ext E1129).keep K1139 (ninS f1209 nin0)).ext E1140).other W1149 (Or.inl f1210)).other U1149 (Or.inl f1210)).ext E1152).keep K1158 (ninS f1210 nin0)).ext E1163).other W1168 (Or.inl f1209)).other W1171 (Or.inl f1209)).other W1174 (Or.inl f1209)).other W1177 (Or.inl f1209)).keep K1191 (ninS f1209 nin0))
  refine own_intf X1205 hx hZ1129 ho1129 (own_w256 hw) (own_w257 hw) (own_w258 hw) (own_w259 hw) (own_w260 hw) (own_w261 hw) (own_w262 hw) (own_w263 hw) (own_w264 hw) (own_w158 hw) (by decide) e1205 f1208 (hb hby at_265) (by rw [hml]; rfl) own_pd__28_29I rfl (W := 0) (Nat.le_of_ble_eq_true rfl) (own_sz2 l Z a0 hw y1117 em x1083 h1191 n0 f1194 f1211 SE f1207) (by decide) (by decide) (by decide) (by decide) (argsL := []) (rest := []) rfl rfl fun v1212 T1212 L1212 X1212 q1212 => ?_
  obtain ⟨rfl, M1212, e1212⟩ := q1212
  have N1212 := Fr.app N1202 M1212
  show own_Fin p e below _ (T1212.setTop (mkF m 270 #[.val (.long m0), .second, .val (.int ep), .val (.int sp), .val (.long qa), .second, .val (.long qb), .second, .val (.int fl), .val (.int (1 : Int32)), .val (.int (2 : Int32)), .val (.ref b1065), .val (.ref x1093), .val (.ref b1094), .val (.ref b1119), .val (.ref b1140), .val (.int (1 : Int32)), .val (.int (1 : Int32)), .val (.ref y1117), .unset] [(.int (2 : Int32))]))
  refine own_iload X1212 hx (hb hby at_270) rfl ?_
  refine own_icmpNo X1212 hx (hb hby at_272) (by decide) ?_
  refine own_iconst X1212 hx (1 : Int32) (hb hby at_275) rfl ?_
  refine own_goto X1212 hx 280 (hb hby at_276) (by decide) (by decide) ?_
  refine own_istore X1212 hx (l' := #[.val (.long m0), .second, .val (.int ep), .val (.int sp), .val (.long qa), .second, .val (.long qb), .second, .val (.int fl), .val (.int (1 : Int32)), .val (.int (2 : Int32)), .val (.ref b1065), .val (.ref x1093), .val (.ref b1094), .val (.ref b1119), .val (.ref b1140), .val (.int (1 : Int32)), .val (.int (1 : Int32)), .val (.ref y1117), .val (.int (1 : Int32))]) (hb hby at_280) rfl ?_
  refine own_iload X1212 hx (hb hby at_282) rfl ?_
  refine own_ifNo X1212 hx (hb hby at_284) (by decide) ?_
  refine own_iload X1212 hx (hb hby at_287) rfl ?_
  refine own_iconst X1212 hx (1 : Int32) (hb hby at_289) rfl ?_
  refine own_icmpNo X1212 hx (hb hby at_290) (by decide) ?_
  refine own_aload X1212 hx (hb hby at_293) rfl rfl ?_
  refine own_iconst X1212 hx (0 : Int32) (hb hby at_295) rfl ?_
  have f1213 := ((((((((((((((v1117.ext E1119).ext E1129).keep K1139 (ninS f1209 nin0)).ext E1140).other W1149 (Or.inl f1210)).other U1149 (Or.inl f1210)).ext E1152).keep K1158 (ninS f1210 nin0)).ext E1163).other W1168 (Or.inl f1209)).other W1171 (Or.inl f1209)).other W1174 (Or.inl f1209)).other W1177 (Or.inl f1209)).keep K1191 (ninS f1209 nin0))
  refine own_intf X1212 hx hZ1129 ho1129 (own_w265 hw) (own_w266 hw) (own_w267 hw) (own_w268 hw) (own_w269 hw) (own_w270 hw) (own_w271 hw) (own_w263 hw) (own_w272 hw) (own_w158 hw) (by decide) e1212 f1208 (hb hby at_296) (by rw [hml]; rfl) own_pd__28I_29Ljava_2flang_2fObject_3b rfl (W := 0) (Nat.le_of_ble_eq_true rfl) (own_ge0 l Z a0 hw y1117 x1074 h1191 n0 f1194 f1213) (by decide) (by decide) (by decide) (by decide) (argsL := [(.int (0 : Int32))]) (rest := []) rfl rfl fun v1214 T1214 L1214 X1214 q1214 => ?_
  obtain ⟨rfl, M1214, e1214⟩ := q1214
  have N1214 := Fr.app N1212 M1214
  show own_Fin p e below _ (T1214.setTop (mkF m 301 #[.val (.long m0), .second, .val (.int ep), .val (.int sp), .val (.long qa), .second, .val (.long qb), .second, .val (.int fl), .val (.int (1 : Int32)), .val (.int (2 : Int32)), .val (.ref b1065), .val (.ref x1093), .val (.ref b1094), .val (.ref b1119), .val (.ref b1140), .val (.int (1 : Int32)), .val (.int (1 : Int32)), .val (.ref y1117), .val (.int (1 : Int32))] [(.ref x1074)]))
  have f1216 := (((((((((((((((f1107.keep K1117).ext E1119).ext E1129).keep K1139).ext E1140).wr W1149).wr U1149).ext E1152).keep K1158).ext E1163).wr W1168).wr W1171).wr W1174).wr W1177).keep K1191)
  refine own_checkcast X1214 hx hZ1129 ho1129 (own_w273 hw) e1214 (Ins.self f1216) (hb hby at_301) fun T1215 X1215 e1215 => ?_
  have f1217 := (((((((((((f1141.ext E1140).wr W1149).wr U1149).ext E1152).keep K1158).ext E1163).wr W1168).wr W1171).wr W1174).wr W1177).keep K1191)
  have f1218 := ne_exa f1216 f1217 (by decide)
  have f1219 := (((((((f1159.keep K1158).ext E1163).wr W1168).wr W1171).wr W1174).wr W1177).keep K1191)
  have f1220 := ne_exa f1216 f1219 (by decide)
  have f1221 := ne_exa f1216 f1196 (by decide)
  have f1222 := ne_exa f1216 p1191 (by decide)
  have f1223 := ne_exa f1216 f1199 (by decide)
  have f1224 := (((((((((((((((((((((F1074.keep K1080 (ninS f1218 nin0)).ext E1083).keep K1091 (ninS f1218 (ninS f1220 nin0))).ext E1093).ext E1094).ext E1102).keep K1117 (ninS f1221 nin0)).ext E1119).ext E1129).keep K1139 (ninS f1222 nin0)).ext E1140).other W1149 (Or.inl f1223)).other U1149 (Or.inl f1223)).ext E1152).keep K1158 (ninS f1223 nin0)).ext E1163).other W1168 (Or.inl f1222)).other W1171 (Or.inl f1222)).other W1174 (Or.inl f1222)).other W1177 (Or.inl f1222)).keep K1191 (ninS f1222 nin0))
  refine own_virt X1215 hx hZ1129 ho1129 (own_w251 hw) (own_w252 hw) (own_w254 hw) (own_w254 hw) (own_w253 hw) (own_w255 hw) (own_w28 hw) (by decide) e1215 f1216 (hb hby at_304) (by rw [hml]; rfl) own_pd__28_29J rfl (W := 0) (Nat.le_of_ble_eq_true rfl) (own_lv l Z a0 hw x1074 qa h1191 n0 f1194 f1224) (by decide) (by decide) (by decide) (by decide) (argsL := []) (rest := []) rfl rfl fun v1225 T1225 L1225 X1225 q1225 => ?_
  obtain ⟨rfl, M1225, e1225⟩ := q1225
  have N1225 := Fr.app N1214 M1225
  show own_Fin p e below _ (T1225.setTop (mkF m 307 #[.val (.long m0), .second, .val (.int ep), .val (.int sp), .val (.long qa), .second, .val (.long qb), .second, .val (.int fl), .val (.int (1 : Int32)), .val (.int (2 : Int32)), .val (.ref b1065), .val (.ref x1093), .val (.ref b1094), .val (.ref b1119), .val (.ref b1140), .val (.int (1 : Int32)), .val (.int (1 : Int32)), .val (.ref y1117), .val (.int (1 : Int32))] [(.long qa)]))
  refine own_lload X1225 hx (hb hby at_307) rfl ?_
  refine own_lcmp X1225 hx (hb hby at_309) ?_
  refine own_ifNo X1225 hx (hb hby at_310) (Jvm.Free.XT.ll_ne_f rfl) ?_
  refine own_iconst X1225 hx (1 : Int32) (hb hby at_313) rfl ?_
  refine own_goto X1225 hx 318 (hb hby at_314) (by decide) (by decide) ?_
  refine own_istore X1225 hx (l' := #[.val (.long m0), .second, .val (.int ep), .val (.int sp), .val (.long qa), .second, .val (.long qb), .second, .val (.int fl), .val (.int (1 : Int32)), .val (.int (2 : Int32)), .val (.ref b1065), .val (.ref x1093), .val (.ref b1094), .val (.ref b1119), .val (.ref b1140), .val (.int (1 : Int32)), .val (.int (1 : Int32)), .val (.ref y1117), .val (.int (1 : Int32))]) (hb hby at_318) rfl ?_
  refine own_iload X1225 hx (hb hby at_320) rfl ?_
  refine own_ifNo X1225 hx (hb hby at_322) (by decide) ?_
  refine own_iload X1225 hx (hb hby at_325) rfl ?_
  refine own_iconst X1225 hx (2 : Int32) (hb hby at_327) rfl ?_
  refine own_icmpNo X1225 hx (hb hby at_328) (by decide) ?_
  refine own_aload X1225 hx (hb hby at_331) rfl rfl ?_
  refine own_iconst X1225 hx (1 : Int32) (hb hby at_333) rfl ?_
  refine own_intf X1225 hx hZ1129 ho1129 (own_w265 hw) (own_w266 hw) (own_w267 hw) (own_w268 hw) (own_w269 hw) (own_w270 hw) (own_w271 hw) (own_w263 hw) (own_w272 hw) (own_w158 hw) (by decide) e1225 f1208 (hb hby at_334) (by rw [hml]; rfl) own_pd__28I_29Ljava_2flang_2fObject_3b rfl (W := 0) (Nat.le_of_ble_eq_true rfl) (own_ge1 l Z a0 hw y1117 em x1083 h1191 n0 f1194 f1211 SE f1207) (by decide) (by decide) (by decide) (by decide) (argsL := [(.int (1 : Int32))]) (rest := []) rfl rfl fun v1226 T1226 L1226 X1226 q1226 => ?_
  obtain ⟨rfl, M1226, e1226⟩ := q1226
  have N1226 := Fr.app N1225 M1226
  show own_Fin p e below _ (T1226.setTop (mkF m 339 #[.val (.long m0), .second, .val (.int ep), .val (.int sp), .val (.long qa), .second, .val (.long qb), .second, .val (.int fl), .val (.int (1 : Int32)), .val (.int (2 : Int32)), .val (.ref b1065), .val (.ref x1093), .val (.ref b1094), .val (.ref b1119), .val (.ref b1140), .val (.int (1 : Int32)), .val (.int (1 : Int32)), .val (.ref y1117), .val (.int (1 : Int32))] [(.ref x1083)]))
  refine own_checkcast X1226 hx hZ1129 ho1129 (own_w273 hw) e1226 (Ins.self f1206) (hb hby at_339) fun T1227 X1227 e1227 => ?_
  have f1228 := ne_exa f1206 f1219 (by decide)
  have f1229 := ne_exa f1206 f1217 (by decide)
  have f1230 := ne_exa f1206 f1196 (by decide)
  have f1231 := ne_exa f1206 p1191 (by decide)
  have f1232 := ne_exa f1206 f1199 (by decide)
  have f1233 := (((((((((((((((((((F1083.keep K1091 (ninS f1229 (ninS f1228 nin0))).ext E1093).ext E1094).ext E1102).keep K1117 (ninS f1230 nin0)).ext E1119).ext E1129).keep K1139 (ninS f1231 nin0)).ext E1140).other W1149 (Or.inl f1232)).other U1149 (Or.inl f1232)).ext E1152).keep K1158 (ninS f1232 nin0)).ext E1163).other W1168 (Or.inl f1231)).other W1171 (Or.inl f1231)).other W1174 (Or.inl f1231)).other W1177 (Or.inl f1231)).keep K1191 (ninS f1231 nin0))
  refine own_virt X1227 hx hZ1129 ho1129 (own_w251 hw) (own_w252 hw) (own_w254 hw) (own_w254 hw) (own_w253 hw) (own_w255 hw) (own_w28 hw) (by decide) e1227 f1206 (hb hby at_342) (by rw [hml]; rfl) own_pd__28_29J rfl (W := 0) (Nat.le_of_ble_eq_true rfl) (own_lv l Z a0 hw x1083 qb h1191 n0 f1194 f1233) (by decide) (by decide) (by decide) (by decide) (argsL := []) (rest := []) rfl rfl fun v1234 T1234 L1234 X1234 q1234 => ?_
  obtain ⟨rfl, M1234, e1234⟩ := q1234
  have N1234 := Fr.app N1226 M1234
  show own_Fin p e below _ (T1234.setTop (mkF m 345 #[.val (.long m0), .second, .val (.int ep), .val (.int sp), .val (.long qa), .second, .val (.long qb), .second, .val (.int fl), .val (.int (1 : Int32)), .val (.int (2 : Int32)), .val (.ref b1065), .val (.ref x1093), .val (.ref b1094), .val (.ref b1119), .val (.ref b1140), .val (.int (1 : Int32)), .val (.int (1 : Int32)), .val (.ref y1117), .val (.int (1 : Int32))] [(.long qb)]))
  refine own_lload X1234 hx (hb hby at_345) rfl ?_
  refine own_lcmp X1234 hx (hb hby at_347) ?_
  refine own_ifNo X1234 hx (hb hby at_348) (Jvm.Free.XT.ll_ne_f rfl) ?_
  refine own_iconst X1234 hx (1 : Int32) (hb hby at_351) rfl ?_
  refine own_goto X1234 hx 356 (hb hby at_352) (by decide) (by decide) ?_
  refine own_istore X1234 hx (l' := #[.val (.long m0), .second, .val (.int ep), .val (.int sp), .val (.long qa), .second, .val (.long qb), .second, .val (.int fl), .val (.int (1 : Int32)), .val (.int (2 : Int32)), .val (.ref b1065), .val (.ref x1093), .val (.ref b1094), .val (.ref b1119), .val (.ref b1140), .val (.int (1 : Int32)), .val (.int (1 : Int32)), .val (.ref y1117), .val (.int (1 : Int32))]) (hb hby at_356) rfl ?_
  refine own_iload X1234 hx (hb hby at_358) rfl ?_
  refine own_ifNo X1234 hx (hb hby at_360) (by decide) ?_
  refine own_iload X1234 hx (hb hby at_363) rfl ?_
  refine own_ifNo X1234 hx (hb hby at_365) (by decide) ?_
  refine own_iload X1234 hx (hb hby at_368) rfl ?_
  refine own_ifNo X1234 hx (hb hby at_370) (by decide) ?_
  refine own_iconst X1234 hx (1 : Int32) (hb hby at_373) rfl ?_
  refine own_goto X1234 hx 378 (hb hby at_374) (by decide) (by decide) ?_
  refine own_retNW (s := s) X1234 hx hS1129 (by rw [e1234]; exact Nat.le_trans hk1129 (Nat.le_trans (Nat.le_trans (Nat.le_trans (Nat.le_trans (Nat.le_trans (Nat.le_trans (Nat.le_trans (Nat.le_trans (Nat.le_trans (Nat.le_trans (Nat.le_trans (Nat.le_trans (Nat.le_refl _) K1139.1) E1140.1) (Nat.le_of_eq W1149.size.symm)) (Nat.le_of_eq U1149.size.symm)) E1152.1) K1158.1) E1163.1) (Nat.le_of_eq W1168.size.symm)) (Nat.le_of_eq W1171.size.symm)) (Nat.le_of_eq W1174.size.symm)) (Nat.le_of_eq W1177.size.symm)) K1191.1)) (t := .boolean) hret (by simp) (hb hby at_378) hlk (by decide) (by decide) ?_
  exact ⟨rfl, N1234⟩
theorem own_notcast {Z : State} {a0 : Array Value} {K : String} {t : ClassId} {kt : Class} (w1 : (Jvm.Cond.superclass "java/util/ArrayList" "java/util/AbstractList").before a0 Z = true) (w2 : (Jvm.Cond.superclass "java/util/AbstractList" "java/util/AbstractCollection").before a0 Z = true) (w3 : (Jvm.Cond.superclass "java/util/AbstractCollection" "java/lang/Object").before a0 Z = true) (w4 : (Jvm.Cond.noSuperclass "java/lang/Object").before a0 Z = true)
    (g0 : Z.vm.findClass K = some t) (g2 : Z.vm.classes[t]? = some kt) (g7 : kt.isInterface = false) (n1 : "java/util/ArrayList" ≠ K) (n2 : "java/util/AbstractList" ≠ K) (n3 : "java/util/AbstractCollection" ≠ K) (n4 : "java/lang/Object" ≠ K) :
    ∃ c t, Z.vm.findClass "java/util/ArrayList" = some c ∧ Z.vm.findClass K = some t ∧ Z.vm.assignable c t = false := by
  have r0 : NS Z "java/lang/Object" K := by
    obtain ⟨c, k, h1, h2, h3, -, -⟩ := Cond.noSuperclass_spec w4
    have ne := ids_ne h1 g0 n4
    refine ⟨c, t, h1, g0, fun fuel => ?_⟩
    cases fuel with
    | zero => rfl
    | succ f => simp [Vm.isSubclassAux, ne, h2, h3]
  obtain ⟨c, t', h0, g0', n⟩ := NS.step w1 (NS.step w2 (NS.step w3 r0 n3) n2) n1
  cases g0.symm.trans g0'
  obtain ⟨p, k, kp, h1, h2, h3, h4, h5, -, h7⟩ := Cond.superclass_spec h0 w1
  have ne := ids_ne h0 g0 n1
  refine ⟨c, t, h0, g0, ?_⟩
  show Z.vm.assignableAux (255 + 1) c t = false
  cases hk : kt.kind <;> simp [Vm.assignableAux, ne, h2, g2, h5, hk, g7, Vm.isSubclass, n]
theorem own_n3 (x : Int32) : Jvm.Free.XT.ushr x (1 : Int32) % (3 : Int32) = 0 ∨ Jvm.Free.XT.ushr x (1 : Int32) % (3 : Int32) = 1 ∨ Jvm.Free.XT.ushr x (1 : Int32) % (3 : Int32) = 2 := by
  have h0 : (Jvm.Free.XT.ushr x (1 : Int32)).toInt = (x.toInt % 4294967296) / ((2 ^ 1 : Nat) : Int) := c_iushr x 1 1 (by decide) (by decide)
  have h1 : 0 ≤ (Jvm.Free.XT.ushr x (1 : Int32)).toInt := by rw [h0]; omega
  have h2 := (c_irem (Jvm.Free.XT.ushr x (1 : Int32)) 3 3 (by decide)).1 h1
  have e0 : (0 : Int32).toInt = 0 := by decide
  have e1 : (1 : Int32).toInt = 1 := by decide
  have e2 : (2 : Int32).toInt = 2 := by decide
  simp only [← Int32.toInt_inj, h2, e0, e1, e2]
  omega
theorem own_sub {args : Array Value} {s : State} {idx : List Nat} {t : Term} {j : Int32} (h : t.eval args s none idx s = some (.int j)) : (Term.sub t (.int 128)).eval args s none idx s = some (.int (j - 128)) := by simp [Term.eval, h]
set_option maxRecDepth 65536 in
set_option maxHeartbeats 40000000 in
theorem own_comes {Post : Tables → Env → Array Value → State → Outcome → State → Prop} (hpost : ∀ tb e args s v u, (limb_1_1.after args s (.returned v) u = true ∧ limb_1_2.after args s (.returned v) u = true) → ReturnedEndW s (.returned v) u (Jvm.fieldLocs frame_1_writes args s ++ Jvm.arrayLocs frame_1_arrays args s ++ Jvm.staticLocs frame_1_statics s) 40 1280 → Post tb e args s (.returned v) u) :
    ArmFor flags0 classFile x code maxLocals ret World_1 tables_1 room_1 Calls_1 rest_1 Pre_1 Post := by
  intro l hfl _ _ p e ha hc hk s m args below hf hA hF happ hP
  obtain ⟨hcalls, hrest, hpre⟩ := hP
  obtain ⟨-, -, -, hnamed, -, -, -, hat⟩ := (Spec.applies_iff hf).mp happ
  obtain ⟨hg, hn⟩ := and_e (Cond.before_iff.mp (show (Jvm.Cond.and given_1 narrow_1).before args s = true from hpre))
  obtain ⟨hcount, hgs⟩ := and_e hg
  obtain ⟨w0, w1, w2, w3, w4, w5, rfl⟩ : ∃ w0 w1 w2 w3 w4 w5 : Value, args = #[w0, w1, w2, w3, w4, w5] := by
    have hs : args.size = 6 := by simpa [Cond.value, given_1] using hcount
    obtain ⟨L⟩ := args
    match L, hs with
    | [w0, w1, w2, w3, w4, w5], _ => exact ⟨w0, w1, w2, w3, w4, w5, rfl⟩
  have hw := fun d (hd : d ∈ tables_1) => atoms_spec (ws := Jvm.Cond.code x code maxLocals ret :: tables_1) hat d (List.mem_cons_of_mem _ hd)
  have hfit : Fit s := fun {y c} hc i hi => by
    obtain ⟨ha, rfl⟩ := Array.getElem?_eq_some_iff.mp hc
    have q := List.all_eq_true.mp ((Array.all_eq_true_iff_forall_mem.mp hF) _ (Array.getElem_mem ha)) i (List.mem_range.mpr hi)
    simpa [Array.getElem?_eq_getElem hi] using q
  obtain ⟨hg0, hr0⟩ := and_e hgs
  obtain ⟨i0, ei0⟩ := isL_v hg0
  obtain rfl : w0 = (.long i0) := Option.some.inj ei0
  obtain ⟨hg1, hr1⟩ := and_e hr0
  obtain ⟨i1, ei1⟩ := is_v hg1
  obtain rfl : w1 = (.int i1) := Option.some.inj ei1
  obtain ⟨hg2, hr2⟩ := and_e hr1
  obtain ⟨i2, ei2⟩ := is_v hg2
  obtain rfl : w2 = (.int i2) := Option.some.inj ei2
  obtain ⟨hg3, hr3⟩ := and_e hr2
  obtain ⟨i3, ei3⟩ := isL_v hg3
  obtain rfl : w3 = (.long i3) := Option.some.inj ei3
  obtain ⟨hg4, hr4⟩ := and_e hr3
  obtain ⟨i4, ei4⟩ := isL_v hg4
  obtain rfl : w4 = (.long i4) := Option.some.inj ei4
  obtain ⟨i5, ei5⟩ := is_v hr4
  obtain rfl : w5 = (.int i5) := Option.some.inj ei5
  obtain ⟨⟨mc, mk, mr, mm1, mm2, mm3, -⟩, -⟩ := hcalls
  have MM : own_Mir s "[Ljava/lang/Object;" mr := ⟨mc, mk, mm1, mm2, mm3⟩
  obtain ⟨hsets, -⟩ := atoms_of _ (rest_1_c_eq ▸ (show rest_1_c.before _ s = true from hrest))
  obtain ⟨dc, ev_dc⟩ := arr_v (Cond.before_iff.mp (hsets _ (List.mem_of_getElem? (i := 6) rfl)))
  obtain ⟨dl, A⟩ := Arr.start ev_dc (Cond.before_iff.mp (hsets _ (List.mem_of_getElem? (i := 6) rfl)))
  have S := Sta.start ev_dc (Or.inr ⟨(own_w2 hw), (hsets _ (List.mem_of_getElem? (i := 2) rfl))⟩)
  have hl := own_len ev_dc A (own_eqI (Cond.before_iff.mp (hsets _ (List.mem_of_getElem? (i := 8) rfl))))
  obtain ⟨ca, ev_ca⟩ := arr_v (Cond.before_iff.mp (hsets _ (List.mem_of_getElem? (i := 11) rfl)))
  obtain ⟨cc, ac⟩ := Arr.start ev_ca (Cond.before_iff.mp (hsets _ (List.mem_of_getElem? (i := 11) rfl)))
  have SC := Sta.start ev_ca (Or.inl (hsets _ (List.mem_of_getElem? (i := 10) rfl)))
  obtain ⟨lc1, lc2⟩ := own_len2 ev_ca ac (own_eqI (Cond.before_iff.mp (hsets _ (List.mem_of_getElem? (i := 13) rfl))))
  have BC : Bxs s ca cc "java/lang/Long" "J" 256 fun j => .long (j - 128).toInt64 := Bxs.start (fun _ => ev_ca) ac lc1 lc2 (by decide) (Cond.before_iff.mp (hsets _ (List.mem_of_getElem? (i := 14) rfl))) (fun X j hj hE => eqv_l (i2l_at (own_sub (idx_at hj))) hE)
  obtain ⟨em, ev_em, EEM⟩ := own_exa (Cond.before_iff.mp (hsets _ (List.mem_of_getElem? (i := 17) rfl)))
  have SE := Sta.start ev_em (Or.inl (hsets _ (List.mem_of_getElem? (i := 16) rfl)))
  obtain ⟨el, ev_el, EEL⟩ := own_exa (Cond.before_iff.mp (hsets _ (List.mem_of_getElem? (i := 23) rfl)))
  have SL := Sta.start ev_el (Or.inl (hsets _ (List.mem_of_getElem? (i := 22) rfl)))
  obtain ⟨en, ev_en⟩ := arr_v (Cond.before_iff.mp (hsets _ (List.mem_of_getElem? (i := 27) rfl)))
  have FN := own_fld ev_el ev_en
  obtain ⟨nl, AN⟩ := Arr.start ev_en (Cond.before_iff.mp (hsets _ (List.mem_of_getElem? (i := 27) rfl)))
  have ln := own_len ev_en AN (own_eqI (Cond.before_iff.mp (hsets _ (List.mem_of_getElem? (i := 29) rfl))))
  obtain ⟨t1, k1, z1, z2, z3, z4, -⟩ := Cond.instantiable_spec (own_w157 hw)
  have NA := own_notcast (own_w109 hw) (own_w110 hw) (own_w111 hw) (own_w112 hw) z1 z2 (Bool.or_eq_false_iff.mp z4).1 (by decide) (by decide) (by decide) (by decide)
  obtain ⟨c3, r3, m3, y1, y2, y3, y4, k3, y5, y6⟩ := Cond.selects_spec (own_w275 hw)
  have y7 : s.vm.findClass "java/util/ImmutableCollections$ListN" = some m3.cls := findClass_of_methodNamed y3
  have NB := own_notcast (own_w109 hw) (own_w110 hw) (own_w111 hw) (own_w112 hw) y7 y5 y6 (by decide) (by decide) (by decide) (by decide)
  have wS : ∀ a ∈ Bundle.stringAtoms, a.before #[.long i0, .int i1, .int i2, .long i3, .long i4, .int i5] s = true := by
    intro d hd
    simp only [Bundle.stringAtoms, List.mem_cons, List.not_mem_nil, or_false] at hd
    rcases hd with rfl | rfl | rfl | rfl | rfl | rfl | rfl
    · exact (own_w84 hw)
    · exact (own_w85 hw)
    · exact (own_w86 hw)
    · exact (own_w87 hw)
    · exact (own_w88 hw)
    · exact (own_w89 hw)
    · exact (own_w90 hw)
  have M : own_MetW l s x code maxLocals ret room_1 #[.long i0, .int i1, .int i2, .long i3, .long i4, .int i5] s.heap (fun v h L => v = some (.int 1) ∧ Fr s.heap.size L) := by
    rcases and_one i5 with hfl | hfl <;> rcases own_n3 i5 with hnn | hnn | hnn
    · exact own_law00 l s _ hw i0 i3 i4 i1 i2 i5 dc ca em el en mr dl cc nl s.heap s.heap.size (Old.start s) hfl hnn S A hl SC BC SE EEM SL EEL FN AN ln MM NA NB wS
    · exact own_law01 l s _ hw i0 i3 i4 i1 i2 i5 dc ca em el en mr dl cc nl s.heap s.heap.size (Old.start s) hfl hnn S A hl SC BC SE EEM SL EEL FN AN ln MM NA NB wS
    · exact own_law02 l s _ hw i0 i3 i4 i1 i2 i5 dc ca em el en mr dl cc nl s.heap s.heap.size (Old.start s) hfl hnn S A hl SC BC SE EEM SL EEL FN AN ln MM NA NB wS
    · exact own_law10 l s _ hw i0 i3 i4 i1 i2 i5 dc ca em el en mr dl cc nl s.heap s.heap.size (Old.start s) hfl hnn S A hl SC BC SE EEM SL EEL FN AN ln MM NA NB wS
    · exact own_law11 l s _ hw i0 i3 i4 i1 i2 i5 dc ca em el en mr dl cc nl s.heap s.heap.size (Old.start s) hfl hnn S A hl SC BC SE EEM SL EEL FN AN ln MM NA NB wS
    · exact own_law12 l s _ hw i0 i3 i4 i1 i2 i5 dc ca em el en mr dl cc nl s.heap s.heap.size (Old.start s) hfl hnn S A hl SC BC SE EEM SL EEL FN AN ln MM NA NB wS
  obtain ⟨n, o, h1, h2, h3, _, L, rfl, ⟨rfl, N⟩, hq⟩ := M tables_1 p e ha hc hk s m _ below hf ((Spec.applies_iff_loose hf).mp happ).1 ⟨rfl, State.Warmed39.refl s, rfl⟩ trivial
  exact ⟨n, _, h1, h2, h3, hpost _ _ _ _ _ _ ⟨Cond.after_iff.mpr rfl, Cond.after_iff.mpr (eq_i res_at (Term.int_eval (1)) rfl)⟩ ⟨hq.1, hq.2.1, hq.2.2.1, (hq.2.2.2.sift fun y hy => Or.inr (N y hy)).mono (by decide) (by decide)⟩⟩
theorem main_1_1 : Claimed_1_1 := own_comes fun _ _ _ _ _ _ h hF => ⟨h.1, hF⟩
theorem main_1_2 : Claimed_1_2 := own_comes fun _ _ _ _ _ _ h hF => ⟨h.2, hF⟩
end Jvm.Pilot.@@N@@
namespace Jvm.Pilot.@@N@@
open Jvm Jvm.ClassFile Sem Op Lib Jvm.Free Jvm.Stand Jvm.Pilot.@@N@@.Jvm.D
/-! MADE BY PROGRAM (witnessworld.py) out of the Statement's table words and the real class files: 47 classes; the members and pool entries that the words name. The judged class is class 1, her method 1. -/
namespace start1
open Jvm.ClassFile
def u (s : String) : CpInfo := .utf8 (stringToUtf16 s)
/-- a pool by its gaps: so many unusable entries, then the entry; so many at the end -/
def gap : Nat → List CpInfo → List CpInfo
  | 0, r => r
  | n + 1, r => .unusable :: gap n r
def poolList (es : List (Nat × CpInfo)) (last : Nat) : List CpInfo := es.foldr (fun e r => gap e.1 (e.2 :: r)) (gap last [])
def pool (es : List (Nat × CpInfo)) (last : Nat) : Array CpInfo := ⟨poolList es last⟩
def fileOf (pool : Array CpInfo) (this : Nat) (attrs : Array Attribute := #[]) (ms : Array MethodInfo := #[]) (fl : Nat := 33) (sup : Nat := 0) (ifs : Array Nat := #[]) (fds : Array FieldInfo := #[]) : ClassFile where
  minorVersion := 0
  majorVersion := 65
  constantPool := pool
  accessFlags := fl
  thisClass := this
  superClass := sup
  interfaces := ifs
  fields := fds
  methods := ms
  attributes := attrs
def plain (name : String) (sup : Option ClassId) : Class where
  name := name
  kind := .ordinary
  loader := none
  accessFlags := 33
  super := sup
  interfaces := #[]
  cf := none
  fields := #[]
  methods := #[]
  instanceTypes := #[]
  staticTypes := #[]
  resolved := #[]
  callSites := []
  init := .initialized
  statics := none
  mirror := none

def pool0 : Array CpInfo := pool [(5, u "<init>"), (0, u "()V"), (1, .class_ 10), (1, u "java/lang/Object"), (0, u "getClass"), (0, u "()Ljava/lang/Class;")] 111

def k0c0 : Code := { maxStack := 0, maxLocals := 1, code := object_method_1_code, exceptionTable := #[], attributes := #[] }
def k0m0 : Method := { name := "<init>", desc := "()V", sig := { parameters := [], returnType := none }, accessFlags := 1, code := some k0c0 }
def k0m1 : Method := { name := "getClass", desc := "()Ljava/lang/Class;", sig := { parameters := [], returnType := some (.object "java/lang/Class") }, accessFlags := 273, code := none }
/-- java/lang/Object -/
def k0 : Class := { plain "java/lang/Object" none with
  accessFlags := 33
  interfaces := #[]
  cf := some (fileOf pool0 8 #[] #[{ accessFlags := 1, nameIndex := 5, descriptorIndex := 6, attributes := #[] }, { accessFlags := 273, nameIndex := 11, descriptorIndex := 12, attributes := #[] }] 33 0 #[] #[])
  fields := #[]
  methods := #[k0m0, k0m1]
  instanceTypes := #[]
  staticTypes := #[]
  resolved := Array.replicate 124 none
  statics := none }

def pool1 : Array CpInfo := pool [(2, .class_ 4), (0, .nameAndType 5 6), (0, u "java/lang/Object"), (0, u "<init>"), (0, u "()V"), (0, .class_ 8), (0, u "java/util/ArrayList"), (0, .methodref 7 3), (0, .methodref 11 12), (0, .class_ 13), (0, .nameAndType 14 15), (0, u "java/lang/Long"), (0, u "valueOf"), (0, u "(J)Ljava/lang/Long;"), (0, .methodref 7 17), (0, .nameAndType 18 19), (0, u "add"), (0, u "(Ljava/lang/Object;)Z"), (0, .class_ 21), (0, u "com/example/regent/regent/controller/Event$MasterChanged"), (0, .string 23), (0, u "g"), (0, .methodref 20 25), (0, .nameAndType 5 26), (0, u "(Ljava/lang/String;Ljava/lang/Long;ILjava/util/List;I)V"), (0, .class_ 28), (0, u "com/example/regent/regent/controller/Group"), (0, .methodref 27 30), (0, .nameAndType 5 31), (0, u "(Ljava/lang/String;)V"), (0, .long 18446744073709551615), (1, .fieldref 27 35), (0, .nameAndType 36 37), (0, u "master"), (0, u "Ljava/lang/Long;"), (0, .fieldref 27 39), (0, .nameAndType 40 41), (0, u "masterEpoch"), (0, u "I"), (0, .fieldref 27 43), (0, .nameAndType 44 45), (0, u "syncStateSet"), (0, u "Ljava/util/List;"), (0, .fieldref 27 47), (0, .nameAndType 48 41), (0, u "syncStateSetEpoch"), (0, .methodref 20 50), (0, .nameAndType 51 52), (0, u "applyTo"), (0, u "(Lcom/example/regent/regent/controller/Group;)V"), (0, .methodref 11 54), (0, .nameAndType 55 56), (0, u "longValue"), (0, u "()J"), (0, .interfaceMethodref 58 59), (0, .class_ 60), (0, .nameAndType 61 62), (0, u "java/util/List"), (0, u "size"), (0, u "()I"), (0, .interfaceMethodref 58 64), (0, .nameAndType 65 66), (0, u "get"), (0, u "(I)Ljava/lang/Object;"), (0, .class_ 68), (0, u "com/example/regent/regent/controller/MasterChangedApplyToPinLaw"), (2, u "law"), (0, u "(JIIJJI)Z")] 7

def k1m0 : Method := { name := "<init>", desc := "()V", sig := { parameters := [], returnType := none }, accessFlags := 1, code := none }
def k1c1 : Code := { maxStack := 7, maxLocals := 20, code := code, exceptionTable := #[], attributes := #[] }
def k1m1 : Method := { name := "law", desc := "(JIIJJI)Z", sig := { parameters := [.long, .int, .int, .long, .long, .int], returnType := some .boolean }, accessFlags := 9, code := some k1c1 }
/-- com/example/regent/regent/controller/MasterChangedApplyToPinLaw -/
def k1 : Class := { plain "com/example/regent/regent/controller/MasterChangedApplyToPinLaw" (some 0) with
  accessFlags := 49
  interfaces := #[]
  cf := some (fileOf pool1 67 #[] #[{ accessFlags := 1, nameIndex := 5, descriptorIndex := 6, attributes := #[] }, { accessFlags := 9, nameIndex := 71, descriptorIndex := 72, attributes := #[] }] 49 2 #[] #[])
  fields := #[]
  methods := #[k1m0, k1m1]
  instanceTypes := #[]
  staticTypes := #[]
  resolved := Array.replicate 80 none
  statics := none }

def pool2 : Array CpInfo := pool [(8, .class_ 10), (1, u "java/lang/Iterable"), (24, .class_ 36), (0, u "java/lang/Object")] 25

/-- java/lang/Iterable -/
def k2 : Class := { plain "java/lang/Iterable" (some 0) with
  accessFlags := 1537
  interfaces := #[]
  cf := some (fileOf pool2 8 #[] #[] 1537 35 #[] #[])
  fields := #[]
  methods := #[]
  instanceTypes := #[]
  staticTypes := #[]
  resolved := Array.replicate 62 none
  statics := none }

def pool3 : Array CpInfo := pool [(10, .class_ 12), (1, u "java/util/Collection"), (0, u "toArray"), (16, u "()Z"), (29, .class_ 61), (0, u "java/lang/Object"), (0, .class_ 63), (0, u "java/lang/Iterable"), (2, u "isEmpty"), (3, u "()[Ljava/lang/Object;")] 44

def k3m0 : Method := { name := "isEmpty", desc := "()Z", sig := { parameters := [], returnType := some .boolean }, accessFlags := 1025, code := none }
def k3m1 : Method := { name := "toArray", desc := "()[Ljava/lang/Object;", sig := { parameters := [], returnType := some (.array (.object "java/lang/Object")) }, accessFlags := 1025, code := none }
/-- java/util/Collection -/
def k3 : Class := { plain "java/util/Collection" (some 0) with
  accessFlags := 1537
  interfaces := #[2]
  cf := some (fileOf pool3 10 #[] #[{ accessFlags := 1025, nameIndex := 66, descriptorIndex := 30, attributes := #[] }, { accessFlags := 1025, nameIndex := 13, descriptorIndex := 70, attributes := #[] }] 1537 60 #[62] #[])
  fields := #[]
  methods := #[k3m0, k3m1]
  instanceTypes := #[]
  staticTypes := #[]
  resolved := Array.replicate 115 none
  statics := none }

def pool4 : Array CpInfo := pool [(1, .methodref 2 3), (0, .class_ 4), (0, .nameAndType 5 6), (0, u "java/lang/Object"), (0, u "<init>"), (0, u "()V"), (1, .class_ 10), (1, u "java/util/AbstractCollection"), (66, .class_ 78), (0, u "java/util/Collection")] 81

def k4c0 : Code := { maxStack := 1, maxLocals := 1, code := jdk_22_method_1_code, exceptionTable := #[], attributes := #[] }
def k4m0 : Method := { name := "<init>", desc := "()V", sig := { parameters := [], returnType := none }, accessFlags := 4, code := some k4c0 }
/-- java/util/AbstractCollection -/
def k4 : Class := { plain "java/util/AbstractCollection" (some 0) with
  accessFlags := 1057
  interfaces := #[3]
  cf := some (fileOf pool4 8 #[] #[{ accessFlags := 4, nameIndex := 5, descriptorIndex := 6, attributes := #[] }] 1057 2 #[77] #[])
  fields := #[]
  methods := #[k4m0]
  instanceTypes := #[]
  staticTypes := #[]
  resolved := Array.replicate 160 none
  statics := none }

def pool5 : Array CpInfo := pool [(8, .class_ 10), (1, u "java/util/SequencedCollection"), (15, .class_ 27), (0, u "java/lang/Object"), (0, .class_ 29), (0, u "java/util/Collection")] 27

/-- java/util/SequencedCollection -/
def k5 : Class := { plain "java/util/SequencedCollection" (some 0) with
  accessFlags := 1537
  interfaces := #[3]
  cf := some (fileOf pool5 8 #[] #[] 1537 26 #[28] #[])
  fields := #[]
  methods := #[]
  instanceTypes := #[]
  staticTypes := #[]
  resolved := Array.replicate 57 none
  statics := none }

def pool6 : Array CpInfo := pool [(8, .class_ 10), (1, u "java/util/List"), (20, u "(Ljava/lang/Object;)V"), (16, u "<init>"), (26, u "get"), (0, u "(I)Ljava/lang/Object;"), (2, u "size"), (0, u "()I"), (7, u "of"), (1, .fieldref 91 92), (0, .class_ 93), (0, .nameAndType 94 95), (0, u "java/util/ImmutableCollections"), (0, u "EMPTY_LIST"), (0, u "Ljava/util/ImmutableCollections$ListN;"), (0, .class_ 97), (0, u "java/util/ImmutableCollections$List12"), (0, .methodref 96 99), (0, .nameAndType 48 31), (0, .methodref 96 101), (0, .nameAndType 48 102), (0, u "(Ljava/lang/Object;Ljava/lang/Object;)V"), (0, .class_ 104), (0, u "java/lang/Object"), (3, u "([Ljava/lang/Object;)Ljava/util/List;"), (3, .methodref 91 113), (0, .nameAndType 114 115), (0, u "listCopy"), (0, u "(Ljava/util/Collection;)Ljava/util/List;"), (3, u "()Ljava/util/List;"), (0, .class_ 121), (0, u "java/util/SequencedCollection"), (112, u "copyOf")] 16

def k6m0 : Method := { name := "size", desc := "()I", sig := { parameters := [], returnType := some .int }, accessFlags := 1025, code := none }
def k6m1 : Method := { name := "get", desc := "(I)Ljava/lang/Object;", sig := { parameters := [.int], returnType := some (.object "java/lang/Object") }, accessFlags := 1025, code := none }
def k6c2 : Code := { maxStack := 1, maxLocals := 0, code := jdk_40_method_36_code, exceptionTable := #[], attributes := #[] }
def k6m2 : Method := { name := "of", desc := "()Ljava/util/List;", sig := { parameters := [], returnType := some (.object "java/util/List") }, accessFlags := 9, code := some k6c2 }
def k6c3 : Code := { maxStack := 5, maxLocals := 2, code := jdk_40_method_47_code, exceptionTable := #[], attributes := #[] }
def k6m3 : Method := { name := "of", desc := "([Ljava/lang/Object;)Ljava/util/List;", sig := { parameters := [(.array (.object "java/lang/Object"))], returnType := some (.object "java/util/List") }, accessFlags := 137, code := some k6c3 }
def k6c4 : Code := { maxStack := 1, maxLocals := 1, code := jdk_40_method_48_code, exceptionTable := #[], attributes := #[] }
def k6m4 : Method := { name := "copyOf", desc := "(Ljava/util/Collection;)Ljava/util/List;", sig := { parameters := [(.object "java/util/Collection")], returnType := some (.object "java/util/List") }, accessFlags := 9, code := some k6c4 }
/-- java/util/List -/
def k6 : Class := { plain "java/util/List" (some 0) with
  accessFlags := 1537
  interfaces := #[5]
  cf := some (fileOf pool6 8 #[] #[{ accessFlags := 1025, nameIndex := 79, descriptorIndex := 80, attributes := #[] }, { accessFlags := 1025, nameIndex := 75, descriptorIndex := 76, attributes := #[] }, { accessFlags := 9, nameIndex := 88, descriptorIndex := 119, attributes := #[] }, { accessFlags := 137, nameIndex := 88, descriptorIndex := 108, attributes := #[] }, { accessFlags := 9, nameIndex := 234, descriptorIndex := 115, attributes := #[] }] 1537 103 #[120] #[])
  fields := #[]
  methods := #[k6m0, k6m1, k6m2, k6m3, k6m4]
  instanceTypes := #[]
  staticTypes := #[]
  resolved := Array.replicate 251 none
  statics := none }

def pool7 : Array CpInfo := pool [(1, .methodref 2 3), (0, .class_ 4), (0, .nameAndType 5 6), (0, u "java/util/AbstractCollection"), (0, u "<init>"), (0, u "()V"), (0, .fieldref 8 9), (0, .class_ 10), (0, .nameAndType 11 12), (0, u "java/util/AbstractList"), (0, u "modCount"), (0, u "I"), (64, .class_ 78), (0, u "java/util/AbstractList$Itr"), (3, .class_ 83), (0, u "java/util/AbstractList$ListItr"), (9, .class_ 94), (0, u "java/util/AbstractList$RandomAccessSubList"), (3, .class_ 99), (0, u "java/util/AbstractList$SubList"), (33, .class_ 134), (0, u "java/util/List"), (73, .class_ 209), (0, u "java/util/AbstractList$SubList$1"), (0, .class_ 211), (0, u "java/util/AbstractList$RandomAccessSpliterator")] 6

def k7c0 : Code := { maxStack := 2, maxLocals := 1, code := jdk_39_method_1_code, exceptionTable := #[], attributes := #[] }
def k7m0 : Method := { name := "<init>", desc := "()V", sig := { parameters := [], returnType := none }, accessFlags := 4, code := some k7c0 }
/-- java/util/AbstractList -/
def k7 : Class := { plain "java/util/AbstractList" (some 4) with
  accessFlags := 1057
  interfaces := #[6]
  cf := some (fileOf pool7 8 #[.nestMembers #[93, 98, 208, 210, 82, 77]] #[{ accessFlags := 4, nameIndex := 5, descriptorIndex := 6, attributes := #[] }] 1057 2 #[133] #[{ accessFlags := 132, nameIndex := 11, descriptorIndex := 12, attributes := #[] }])
  fields := #[{ name := "modCount", type := .int, accessFlags := 132, slot := 0, constantValue := 0 }]
  methods := #[k7m0]
  instanceTypes := #[.int]
  staticTypes := #[]
  resolved := Array.replicate 218 none
  statics := none }

def pool8 : Array CpInfo := pool [(1, .class_ 2), (0, u "java/util/RandomAccess"), (0, .class_ 4), (0, u "java/lang/Object")] 2

/-- java/util/RandomAccess -/
def k8 : Class := { plain "java/util/RandomAccess" (some 0) with
  accessFlags := 1537
  interfaces := #[]
  cf := some (fileOf pool8 1 #[] #[] 1537 3 #[] #[])
  fields := #[]
  methods := #[]
  instanceTypes := #[]
  staticTypes := #[]
  resolved := Array.replicate 7 none
  statics := none }

def pool9 : Array CpInfo := pool [(1, .class_ 2), (0, u "java/lang/Cloneable"), (0, .class_ 4), (0, u "java/lang/Object")] 2

/-- java/lang/Cloneable -/
def k9 : Class := { plain "java/lang/Cloneable" (some 0) with
  accessFlags := 1537
  interfaces := #[]
  cf := some (fileOf pool9 1 #[] #[] 1537 3 #[] #[])
  fields := #[]
  methods := #[]
  instanceTypes := #[]
  staticTypes := #[]
  resolved := Array.replicate 7 none
  statics := none }

def pool10 : Array CpInfo := pool [(1, .class_ 2), (0, u "java/io/Serializable"), (0, .class_ 4), (0, u "java/lang/Object")] 2

/-- java/io/Serializable -/
def k10 : Class := { plain "java/io/Serializable" (some 0) with
  accessFlags := 1537
  interfaces := #[]
  cf := some (fileOf pool10 1 #[] #[] 1537 3 #[] #[])
  fields := #[]
  methods := #[]
  instanceTypes := #[]
  staticTypes := #[]
  resolved := Array.replicate 7 none
  statics := none }

def pool11 : Array CpInfo := pool [(1, .methodref 2 3), (0, .class_ 4), (0, .nameAndType 5 6), (0, u "java/util/AbstractList"), (0, u "<init>"), (0, u "()V"), (0, .class_ 8), (0, u "java/lang/Object"), (0, .fieldref 10 11), (0, .class_ 12), (0, .nameAndType 13 14), (0, u "java/util/ArrayList"), (0, u "elementData"), (0, u "[Ljava/lang/Object;"), (2, u "EMPTY_ELEMENTDATA"), (21, .fieldref 10 40), (0, .nameAndType 41 14), (0, u "DEFAULTCAPACITY_EMPTY_ELEMENTDATA"), (4, u "toArray"), (0, u "()[Ljava/lang/Object;"), (0, .fieldref 10 49), (0, .nameAndType 50 51), (0, u "size"), (0, u "I"), (6, .class_ 60), (1, u "java/util/Arrays"), (0, u "copyOf"), (1, .fieldref 10 64), (0, .nameAndType 65 51), (0, u "modCount"), (0, .methodref 58 67), (0, .nameAndType 61 68), (0, u "([Ljava/lang/Object;I)[Ljava/lang/Object;"), (0, .methodref 10 70), (0, .nameAndType 71 72), (0, u "grow"), (0, u "(I)[Ljava/lang/Object;"), (6, .methodref 80 81), (0, .class_ 82), (0, .nameAndType 83 84), (0, u "java/lang/Math"), (0, u "max"), (0, u "(II)I"), (11, u "(Ljava/lang/Object;)Z"), (32, .methodref 10 130), (0, .nameAndType 71 47), (0, .methodref 10 132), (0, .nameAndType 133 134), (0, u "add"), (0, u "(Ljava/lang/Object;[Ljava/lang/Object;I)V"), (13, .class_ 149), (0, u "java/util/List"), (23, u "()Z"), (88, .class_ 263), (0, u "java/util/ArrayList$ListItr"), (3, .class_ 268), (0, u "java/util/ArrayList$Itr"), (7, .class_ 277), (0, u "java/util/ArrayList$SubList"), (12, .class_ 291), (0, u "java/util/ArrayList$ArrayListSpliterator"), (37, .class_ 330), (0, u "java/util/RandomAccess"), (0, .class_ 332), (0, u "java/lang/Cloneable"), (0, .class_ 334), (0, u "java/io/Serializable"), (0, u "serialVersionUID"), (0, u "J"), (3, u "DEFAULT_CAPACITY"), (22, u "isEmpty"), (136, .class_ 501), (0, u "java/util/ArrayList$SubList$2"), (0, .class_ 503), (0, u "java/util/ArrayList$SubList$1")] 5

def k11c0 : Code := { maxStack := 2, maxLocals := 1, code := jdk_38_method_2_code, exceptionTable := #[], attributes := #[] }
def k11m0 : Method := { name := "<init>", desc := "()V", sig := { parameters := [], returnType := none }, accessFlags := 1, code := some k11c0 }
def k11c1 : Code := { maxStack := 4, maxLocals := 4, code := jdk_38_method_6_code, exceptionTable := #[], attributes := #[] }
def k11m1 : Method := { name := "grow", desc := "(I)[Ljava/lang/Object;", sig := { parameters := [.int], returnType := some (.array (.object "java/lang/Object")) }, accessFlags := 2, code := some k11c1 }
def k11c2 : Code := { maxStack := 3, maxLocals := 1, code := jdk_38_method_7_code, exceptionTable := #[], attributes := #[] }
def k11m2 : Method := { name := "grow", desc := "()[Ljava/lang/Object;", sig := { parameters := [], returnType := some (.array (.object "java/lang/Object")) }, accessFlags := 2, code := some k11c2 }
def k11c3 : Code := { maxStack := 1, maxLocals := 1, code := jdk_38_method_9_code, exceptionTable := #[], attributes := #[] }
def k11m3 : Method := { name := "isEmpty", desc := "()Z", sig := { parameters := [], returnType := some .boolean }, accessFlags := 1, code := some k11c3 }
def k11c4 : Code := { maxStack := 2, maxLocals := 1, code := jdk_38_method_16_code, exceptionTable := #[], attributes := #[] }
def k11m4 : Method := { name := "toArray", desc := "()[Ljava/lang/Object;", sig := { parameters := [], returnType := some (.array (.object "java/lang/Object")) }, accessFlags := 1, code := some k11c4 }
def k11c5 : Code := { maxStack := 3, maxLocals := 4, code := jdk_38_method_24_code, exceptionTable := #[], attributes := #[] }
def k11m5 : Method := { name := "add", desc := "(Ljava/lang/Object;[Ljava/lang/Object;I)V", sig := { parameters := [(.object "java/lang/Object"), (.array (.object "java/lang/Object")), .int], returnType := none }, accessFlags := 2, code := some k11c5 }
def k11c6 : Code := { maxStack := 4, maxLocals := 2, code := jdk_38_method_25_code, exceptionTable := #[], attributes := #[] }
def k11m6 : Method := { name := "add", desc := "(Ljava/lang/Object;)Z", sig := { parameters := [(.object "java/lang/Object")], returnType := some .boolean }, accessFlags := 1, code := some k11c6 }
/-- java/util/ArrayList -/
def k11 : Class := { plain "java/util/ArrayList" (some 7) with
  accessFlags := 33
  interfaces := #[6, 8, 9, 10]
  cf := some (fileOf pool11 10 #[.nestMembers #[290, 276, 500, 502, 262, 267]] #[{ accessFlags := 1, nameIndex := 5, descriptorIndex := 6, attributes := #[] }, { accessFlags := 2, nameIndex := 71, descriptorIndex := 72, attributes := #[] }, { accessFlags := 2, nameIndex := 71, descriptorIndex := 47, attributes := #[] }, { accessFlags := 1, nameIndex := 363, descriptorIndex := 173, attributes := #[] }, { accessFlags := 1, nameIndex := 46, descriptorIndex := 47, attributes := #[] }, { accessFlags := 2, nameIndex := 133, descriptorIndex := 134, attributes := #[] }, { accessFlags := 1, nameIndex := 133, descriptorIndex := 96, attributes := #[] }] 33 2 #[148, 329, 331, 333] #[{ accessFlags := 26, nameIndex := 335, descriptorIndex := 336, attributes := #[] }, { accessFlags := 26, nameIndex := 340, descriptorIndex := 51, attributes := #[] }, { accessFlags := 26, nameIndex := 17, descriptorIndex := 14, attributes := #[] }, { accessFlags := 26, nameIndex := 41, descriptorIndex := 14, attributes := #[] }, { accessFlags := 128, nameIndex := 13, descriptorIndex := 14, attributes := #[] }, { accessFlags := 2, nameIndex := 50, descriptorIndex := 51, attributes := #[] }])
  fields := #[{ name := "serialVersionUID", type := .long, accessFlags := 26, slot := 0, constantValue := 0 }, { name := "DEFAULT_CAPACITY", type := .int, accessFlags := 26, slot := 1, constantValue := 0 }, { name := "EMPTY_ELEMENTDATA", type := (.array (.object "java/lang/Object")), accessFlags := 26, slot := 2, constantValue := 0 }, { name := "DEFAULTCAPACITY_EMPTY_ELEMENTDATA", type := (.array (.object "java/lang/Object")), accessFlags := 26, slot := 3, constantValue := 0 }, { name := "elementData", type := (.array (.object "java/lang/Object")), accessFlags := 128, slot := 1, constantValue := 0 }, { name := "size", type := .int, accessFlags := 2, slot := 2, constantValue := 0 }]
  methods := #[k11m0, k11m1, k11m2, k11m3, k11m4, k11m5, k11m6]
  instanceTypes := #[.int, (.array (.object "java/lang/Object")), .int]
  staticTypes := #[.long, .int, (.array (.object "java/lang/Object")), (.array (.object "java/lang/Object"))]
  resolved := Array.replicate 509 none
  statics := some 0 }

def pool12 : Array CpInfo := pool [(1, .methodref 2 3), (0, .class_ 4), (0, .nameAndType 5 6), (0, u "java/lang/Object"), (0, u "<init>"), (0, u "()V"), (1, .class_ 10), (1, u "java/lang/Number"), (2, .class_ 14), (0, u "java/io/Serializable"), (0, u "serialVersionUID"), (0, u "J")] 20

def k12c0 : Code := { maxStack := 1, maxLocals := 1, code := jdk_18_method_1_code, exceptionTable := #[], attributes := #[] }
def k12m0 : Method := { name := "<init>", desc := "()V", sig := { parameters := [], returnType := none }, accessFlags := 1, code := some k12c0 }
/-- java/lang/Number -/
def k12 : Class := { plain "java/lang/Number" (some 0) with
  accessFlags := 1057
  interfaces := #[10]
  cf := some (fileOf pool12 8 #[] #[{ accessFlags := 1, nameIndex := 5, descriptorIndex := 6, attributes := #[] }] 1057 2 #[13] #[{ accessFlags := 26, nameIndex := 15, descriptorIndex := 16, attributes := #[] }])
  fields := #[{ name := "serialVersionUID", type := .long, accessFlags := 26, slot := 0, constantValue := 0 }]
  methods := #[k12m0]
  instanceTypes := #[]
  staticTypes := #[.long]
  resolved := Array.replicate 37 none
  statics := none }

def pool13 : Array CpInfo := pool [(1, .class_ 2), (0, u "java/lang/Comparable"), (0, .class_ 4), (0, u "java/lang/Object")] 7

/-- java/lang/Comparable -/
def k13 : Class := { plain "java/lang/Comparable" (some 0) with
  accessFlags := 1537
  interfaces := #[]
  cf := some (fileOf pool13 1 #[] #[] 1537 3 #[] #[])
  fields := #[]
  methods := #[]
  instanceTypes := #[]
  staticTypes := #[]
  resolved := Array.replicate 12 none
  statics := none }

def pool14 : Array CpInfo := pool [(1, .class_ 2), (0, u "java/lang/constant/Constable"), (0, .class_ 4), (0, u "java/lang/Object")] 6

/-- java/lang/constant/Constable -/
def k14 : Class := { plain "java/lang/constant/Constable" (some 0) with
  accessFlags := 1537
  interfaces := #[]
  cf := some (fileOf pool14 1 #[] #[] 1537 3 #[] #[])
  fields := #[]
  methods := #[]
  instanceTypes := #[]
  staticTypes := #[]
  resolved := Array.replicate 11 none
  statics := none }

def pool15 : Array CpInfo := pool [(1, .class_ 2), (0, u "java/lang/constant/ConstantDesc"), (0, .class_ 4), (0, u "java/lang/Object")] 32

/-- java/lang/constant/ConstantDesc -/
def k15 : Class := { plain "java/lang/constant/ConstantDesc" (some 0) with
  accessFlags := 1537
  interfaces := #[]
  cf := some (fileOf pool15 1 #[] #[] 1537 3 #[] #[])
  fields := #[]
  methods := #[]
  instanceTypes := #[]
  staticTypes := #[]
  resolved := Array.replicate 37 none
  statics := none }

def pool16 : Array CpInfo := pool [(1, .class_ 2), (0, u "java/lang/Long"), (55, .nameAndType 59 60), (0, u "<init>"), (0, u "()V"), (24, u "valueOf"), (143, u "(J)Ljava/lang/Long;"), (0, .long 18446744073709551488), (1, .long 127), (1, .fieldref 235 236), (0, .class_ 237), (0, .nameAndType 238 239), (0, u "java/lang/Long$LongCache"), (0, u "cache"), (0, u "[Ljava/lang/Long;"), (0, .methodref 1 241), (0, .nameAndType 59 242), (0, u "(J)V"), (27, .methodref 271 58), (0, .class_ 272), (0, u "java/lang/Number"), (0, .fieldref 1 274), (0, .nameAndType 275 276), (0, u "value"), (0, u "J"), (5, u "longValue"), (0, u "()J"), (77, u "TYPE"), (0, u "Ljava/lang/Class;"), (0, .class_ 364), (0, u "java/lang/Comparable"), (0, .class_ 366), (0, u "java/lang/constant/Constable"), (0, .class_ 368), (0, u "java/lang/constant/ConstantDesc"), (0, u "MIN_VALUE"), (1, u "MAX_VALUE"), (4, u "SIZE"), (0, u "I"), (1, u "BYTES"), (1, u "serialVersionUID")] 142

def k16c0 : Code := { maxStack := 4, maxLocals := 3, code := jdk_35_method_24_code, exceptionTable := #[], attributes := #[] }
def k16m0 : Method := { name := "valueOf", desc := "(J)Ljava/lang/Long;", sig := { parameters := [.long], returnType := some (.object "java/lang/Long") }, accessFlags := 9, code := some k16c0 }
def k16c1 : Code := { maxStack := 3, maxLocals := 3, code := jdk_35_method_26_code, exceptionTable := #[], attributes := #[] }
def k16m1 : Method := { name := "<init>", desc := "(J)V", sig := { parameters := [.long], returnType := none }, accessFlags := 1, code := some k16c1 }
def k16c2 : Code := { maxStack := 2, maxLocals := 1, code := jdk_35_method_31_code, exceptionTable := #[], attributes := #[] }
def k16m2 : Method := { name := "longValue", desc := "()J", sig := { parameters := [], returnType := some .long }, accessFlags := 1, code := some k16c2 }
/-- java/lang/Long -/
def k16 : Class := { plain "java/lang/Long" (some 12) with
  accessFlags := 49
  interfaces := #[13, 14, 15]
  cf := some (fileOf pool16 1 #[.nestMembers #[235]] #[{ accessFlags := 9, nameIndex := 85, descriptorIndex := 229, attributes := #[] }, { accessFlags := 1, nameIndex := 59, descriptorIndex := 242, attributes := #[] }, { accessFlags := 1, nameIndex := 282, descriptorIndex := 283, attributes := #[] }] 49 271 #[363, 365, 367] #[{ accessFlags := 25, nameIndex := 369, descriptorIndex := 276, attributes := #[] }, { accessFlags := 25, nameIndex := 371, descriptorIndex := 276, attributes := #[] }, { accessFlags := 25, nameIndex := 361, descriptorIndex := 362, attributes := #[] }, { accessFlags := 18, nameIndex := 275, descriptorIndex := 276, attributes := #[] }, { accessFlags := 25, nameIndex := 376, descriptorIndex := 377, attributes := #[] }, { accessFlags := 25, nameIndex := 379, descriptorIndex := 377, attributes := #[] }, { accessFlags := 26, nameIndex := 381, descriptorIndex := 276, attributes := #[] }])
  fields := #[{ name := "MIN_VALUE", type := .long, accessFlags := 25, slot := 0, constantValue := 0 }, { name := "MAX_VALUE", type := .long, accessFlags := 25, slot := 1, constantValue := 0 }, { name := "TYPE", type := (.object "java/lang/Class"), accessFlags := 25, slot := 2, constantValue := 0 }, { name := "value", type := .long, accessFlags := 18, slot := 0, constantValue := 0 }, { name := "SIZE", type := .int, accessFlags := 25, slot := 3, constantValue := 0 }, { name := "BYTES", type := .int, accessFlags := 25, slot := 4, constantValue := 0 }, { name := "serialVersionUID", type := .long, accessFlags := 26, slot := 5, constantValue := 0 }]
  methods := #[k16m0, k16m1, k16m2]
  instanceTypes := #[.long]
  staticTypes := #[.long, .long, (.object "java/lang/Class"), .int, .int, .long]
  resolved := Array.replicate 524 none
  statics := none }

def pool17 : Array CpInfo := pool [(1, .class_ 2), (0, u "java/lang/Math"), (1, .class_ 6), (1, u "java/lang/Object"), (0, u "<init>"), (0, u "()V"), (89, .class_ 100), (1, u "java/lang/Math$RandomNumberGeneratorHolder"), (71, u "negativeZeroFloatBits"), (0, u "J"), (2, u "negativeZeroDoubleBits"), (21, u "max"), (2, u "min"), (43, u "$assertionsDisabled"), (0, u "Z"), (88, u "(II)I"), (2, u "twoToTheDoubleScaleDown"), (0, u "D"), (4, u "twoToTheDoubleScaleUp"), (9, u "E"), (3, u "PI"), (2, u "TAU"), (2, u "DEGREES_TO_RADIANS"), (0, u "RADIANS_TO_DEGREES")] 94

def k17m0 : Method := { name := "<init>", desc := "()V", sig := { parameters := [], returnType := none }, accessFlags := 2, code := none }
def k17c1 : Code := { maxStack := 2, maxLocals := 2, code := jdk_29_method_65_code, exceptionTable := #[], attributes := #[] }
def k17m1 : Method := { name := "max", desc := "(II)I", sig := { parameters := [.int, .int], returnType := some .int }, accessFlags := 9, code := some k17c1 }
def k17c2 : Code := { maxStack := 2, maxLocals := 2, code := jdk_29_method_69_code, exceptionTable := #[], attributes := #[] }
def k17m2 : Method := { name := "min", desc := "(II)I", sig := { parameters := [.int, .int], returnType := some .int }, accessFlags := 9, code := some k17c2 }
/-- java/lang/Math -/
def k17 : Class := { plain "java/lang/Math" (some 0) with
  accessFlags := 49
  interfaces := #[]
  cf := some (fileOf pool17 1 #[.nestMembers #[98]] #[{ accessFlags := 2, nameIndex := 7, descriptorIndex := 8, attributes := #[] }, { accessFlags := 9, nameIndex := 198, descriptorIndex := 335, attributes := #[] }, { accessFlags := 9, nameIndex := 201, descriptorIndex := 335, attributes := #[] }] 49 4 #[] #[{ accessFlags := 25, nameIndex := 354, descriptorIndex := 339, attributes := #[] }, { accessFlags := 25, nameIndex := 358, descriptorIndex := 339, attributes := #[] }, { accessFlags := 25, nameIndex := 361, descriptorIndex := 339, attributes := #[] }, { accessFlags := 26, nameIndex := 364, descriptorIndex := 339, attributes := #[] }, { accessFlags := 26, nameIndex := 365, descriptorIndex := 339, attributes := #[] }, { accessFlags := 26, nameIndex := 172, descriptorIndex := 173, attributes := #[] }, { accessFlags := 26, nameIndex := 176, descriptorIndex := 173, attributes := #[] }, { accessFlags := 8, nameIndex := 344, descriptorIndex := 339, attributes := #[] }, { accessFlags := 8, nameIndex := 338, descriptorIndex := 339, attributes := #[] }, { accessFlags := 4120, nameIndex := 245, descriptorIndex := 246, attributes := #[] }])
  fields := #[{ name := "E", type := .double, accessFlags := 25, slot := 0, constantValue := 0 }, { name := "PI", type := .double, accessFlags := 25, slot := 1, constantValue := 0 }, { name := "TAU", type := .double, accessFlags := 25, slot := 2, constantValue := 0 }, { name := "DEGREES_TO_RADIANS", type := .double, accessFlags := 26, slot := 3, constantValue := 0 }, { name := "RADIANS_TO_DEGREES", type := .double, accessFlags := 26, slot := 4, constantValue := 0 }, { name := "negativeZeroFloatBits", type := .long, accessFlags := 26, slot := 5, constantValue := 0 }, { name := "negativeZeroDoubleBits", type := .long, accessFlags := 26, slot := 6, constantValue := 0 }, { name := "twoToTheDoubleScaleUp", type := .double, accessFlags := 8, slot := 7, constantValue := 0 }, { name := "twoToTheDoubleScaleDown", type := .double, accessFlags := 8, slot := 8, constantValue := 0 }, { name := "$assertionsDisabled", type := .boolean, accessFlags := 4120, slot := 9, constantValue := 0 }]
  methods := #[k17m0, k17m1, k17m2]
  instanceTypes := #[]
  staticTypes := #[.double, .double, .double, .double, .double, .long, .long, .double, .double, .boolean]
  resolved := Array.replicate 460 none
  statics := none }

def pool18 : Array CpInfo := pool [(2, .class_ 4), (1, u "java/lang/Object"), (0, u "<init>"), (0, u "()V"), (0, .class_ 8), (0, u "java/lang/Long"), (7, .class_ 18), (1, u "java/lang/Long$LongCache"), (0, u "$assertionsDisabled"), (0, u "Z"), (8, u "archivedCache"), (0, u "[Ljava/lang/Long;"), (7, u "cache")] 24

def k18m0 : Method := { name := "<init>", desc := "()V", sig := { parameters := [], returnType := none }, accessFlags := 2, code := none }
/-- java/lang/Long$LongCache -/
def k18 : Class := { plain "java/lang/Long$LongCache" (some 0) with
  accessFlags := 48
  interfaces := #[]
  cf := some (fileOf pool18 16 #[.nestHost 7] #[{ accessFlags := 2, nameIndex := 5, descriptorIndex := 6, attributes := #[] }] 48 2 #[] #[{ accessFlags := 24, nameIndex := 38, descriptorIndex := 30, attributes := #[] }, { accessFlags := 8, nameIndex := 29, descriptorIndex := 30, attributes := #[] }, { accessFlags := 4120, nameIndex := 19, descriptorIndex := 20, attributes := #[] }])
  fields := #[{ name := "cache", type := (.array (.object "java/lang/Long")), accessFlags := 24, slot := 0, constantValue := 0 }, { name := "archivedCache", type := (.array (.object "java/lang/Long")), accessFlags := 8, slot := 1, constantValue := 0 }, { name := "$assertionsDisabled", type := .boolean, accessFlags := 4120, slot := 2, constantValue := 0 }]
  methods := #[k18m0]
  instanceTypes := #[]
  staticTypes := #[(.array (.object "java/lang/Long")), (.array (.object "java/lang/Long")), .boolean]
  resolved := Array.replicate 63 none
  statics := some 1 }

def pool19 : Array CpInfo := pool [(1, .methodref 2 3), (0, .class_ 4), (0, .nameAndType 5 6), (0, u "java/lang/Object"), (0, u "<init>"), (0, u "()V"), (0, .class_ 8), (0, u "java/lang/Record")] 13

def k19c0 : Code := { maxStack := 1, maxLocals := 1, code := jdk_30_method_1_code, exceptionTable := #[], attributes := #[] }
def k19m0 : Method := { name := "<init>", desc := "()V", sig := { parameters := [], returnType := none }, accessFlags := 4, code := some k19c0 }
/-- java/lang/Record -/
def k19 : Class := { plain "java/lang/Record" (some 0) with
  accessFlags := 1057
  interfaces := #[]
  cf := some (fileOf pool19 7 #[] #[{ accessFlags := 4, nameIndex := 5, descriptorIndex := 6, attributes := #[] }] 1057 2 #[] #[])
  fields := #[]
  methods := #[k19m0]
  instanceTypes := #[]
  staticTypes := #[]
  resolved := Array.replicate 22 none
  statics := none }

def pool20 : Array CpInfo := pool [(37, .class_ 38), (0, u "com/example/regent/regent/controller/Event$IdApplied"), (14, .class_ 54), (0, u "com/example/regent/regent/controller/Event$AddressRecorded"), (29, .class_ 85), (0, u "com/example/regent/regent/controller/Event$SetAltered"), (15, .class_ 102), (0, u "com/example/regent/regent/controller/Event$MasterChanged"), (11, .class_ 115), (0, u "com/example/regent/regent/controller/Event$Batch"), (1, .class_ 119), (1, u "com/example/regent/regent/controller/Event"), (5, .class_ 126), (0, u "com/example/regent/regent/controller/Event$FormatsRaised"), (57, .class_ 185), (0, u "com/example/regent/regent/controller/Event$OfGroup"), (7, .class_ 194), (0, u "java/lang/Object")] 44

/-- com/example/regent/regent/controller/Event -/
def k20 : Class := { plain "com/example/regent/regent/controller/Event" (some 0) with
  accessFlags := 1536
  interfaces := #[]
  cf := some (fileOf pool20 117 #[.nestMembers #[125, 114, 101, 84, 53, 37, 184]] #[] 1536 193 #[] #[])
  fields := #[]
  methods := #[]
  instanceTypes := #[]
  staticTypes := #[]
  resolved := Array.replicate 239 none
  statics := none }

def pool21 : Array CpInfo := pool [(2, .class_ 4), (1, u "com/example/regent/regent/controller/Event$OfGroup"), (11, .class_ 17), (0, u "java/lang/Object"), (0, .class_ 19), (0, u "com/example/regent/regent/controller/Event")] 24

/-- com/example/regent/regent/controller/Event$OfGroup -/
def k21 : Class := { plain "com/example/regent/regent/controller/Event$OfGroup" (some 0) with
  accessFlags := 1537
  interfaces := #[20]
  cf := some (fileOf pool21 2 #[.nestHost 18] #[] 1537 16 #[18] #[])
  fields := #[]
  methods := #[]
  instanceTypes := #[]
  staticTypes := #[]
  resolved := Array.replicate 44 none
  statics := none }

def pool22 : Array CpInfo := pool [(1, .methodref 2 3), (0, .class_ 4), (0, .nameAndType 5 6), (0, u "java/lang/Record"), (0, u "<init>"), (0, u "()V"), (0, .interfaceMethodref 8 9), (0, .class_ 10), (0, .nameAndType 11 12), (0, u "java/util/List"), (0, u "copyOf"), (0, u "(Ljava/util/Collection;)Ljava/util/List;"), (0, .fieldref 14 15), (0, .class_ 16), (0, .nameAndType 17 18), (0, u "com/example/regent/regent/controller/Event$MasterChanged"), (0, u "group"), (0, u "Ljava/lang/String;"), (0, .fieldref 14 20), (0, .nameAndType 21 22), (0, u "master"), (0, u "Ljava/lang/Long;"), (0, .fieldref 14 24), (0, .nameAndType 25 26), (0, u "masterEpoch"), (0, u "I"), (0, .fieldref 14 28), (0, .nameAndType 29 30), (0, u "syncStateSet"), (0, u "Ljava/util/List;"), (0, .fieldref 14 32), (0, .nameAndType 33 26), (0, u "syncStateSetEpoch"), (0, .fieldref 35 20), (0, .class_ 36), (0, u "com/example/regent/regent/controller/Group"), (0, .fieldref 35 24), (0, .fieldref 35 28), (0, .fieldref 35 32), (35, .class_ 76), (0, u "com/example/regent/regent/controller/Event$OfGroup"), (2, u "KIND"), (1, u "(Ljava/lang/String;Ljava/lang/Long;ILjava/util/List;I)V"), (4, u "applyTo"), (0, u "(Lcom/example/regent/regent/controller/Group;)V"), (12, .class_ 101), (0, u "com/example/regent/regent/controller/Event")] 24

def k22c0 : Code := { maxStack := 2, maxLocals := 6, code := prog_53_method_1_code, exceptionTable := #[], attributes := #[] }
def k22m0 : Method := { name := "<init>", desc := "(Ljava/lang/String;Ljava/lang/Long;ILjava/util/List;I)V", sig := { parameters := [(.object "java/lang/String"), (.object "java/lang/Long"), .int, (.object "java/util/List"), .int], returnType := none }, accessFlags := 1, code := some k22c0 }
def k22c1 : Code := { maxStack := 2, maxLocals := 2, code := prog_53_method_2_code, exceptionTable := #[], attributes := #[] }
def k22m1 : Method := { name := "applyTo", desc := "(Lcom/example/regent/regent/controller/Group;)V", sig := { parameters := [(.object "com/example/regent/regent/controller/Group")], returnType := none }, accessFlags := 1, code := some k22c1 }
/-- com/example/regent/regent/controller/Event$MasterChanged -/
def k22 : Class := { plain "com/example/regent/regent/controller/Event$MasterChanged" (some 19) with
  accessFlags := 49
  interfaces := #[21]
  cf := some (fileOf pool22 14 #[.nestHost 100] #[{ accessFlags := 1, nameIndex := 5, descriptorIndex := 81, attributes := #[] }, { accessFlags := 1, nameIndex := 86, descriptorIndex := 87, attributes := #[] }] 49 2 #[75] #[{ accessFlags := 18, nameIndex := 17, descriptorIndex := 18, attributes := #[] }, { accessFlags := 18, nameIndex := 21, descriptorIndex := 22, attributes := #[] }, { accessFlags := 18, nameIndex := 25, descriptorIndex := 26, attributes := #[] }, { accessFlags := 18, nameIndex := 29, descriptorIndex := 30, attributes := #[] }, { accessFlags := 18, nameIndex := 33, descriptorIndex := 26, attributes := #[] }, { accessFlags := 24, nameIndex := 79, descriptorIndex := 18, attributes := #[] }])
  fields := #[{ name := "group", type := (.object "java/lang/String"), accessFlags := 18, slot := 0, constantValue := 0 }, { name := "master", type := (.object "java/lang/Long"), accessFlags := 18, slot := 1, constantValue := 0 }, { name := "masterEpoch", type := .int, accessFlags := 18, slot := 2, constantValue := 0 }, { name := "syncStateSet", type := (.object "java/util/List"), accessFlags := 18, slot := 3, constantValue := 0 }, { name := "syncStateSetEpoch", type := .int, accessFlags := 18, slot := 4, constantValue := 0 }, { name := "KIND", type := (.object "java/lang/String"), accessFlags := 24, slot := 0, constantValue := 0 }]
  methods := #[k22m0, k22m1]
  instanceTypes := #[(.object "java/lang/String"), (.object "java/lang/Long"), .int, (.object "java/util/List"), .int]
  staticTypes := #[(.object "java/lang/String")]
  resolved := Array.replicate 126 none
  statics := none }

def pool23 : Array CpInfo := pool [(2, .class_ 4), (1, u "java/lang/CharSequence"), (42, .class_ 48), (0, u "java/lang/CharSequence$1CodePointIterator"), (10, .class_ 60), (0, u "java/lang/CharSequence$1CharIterator"), (5, .class_ 67), (0, u "java/lang/Object")] 63

/-- java/lang/CharSequence -/
def k23 : Class := { plain "java/lang/CharSequence" (some 0) with
  accessFlags := 1537
  interfaces := #[]
  cf := some (fileOf pool23 2 #[.nestMembers #[47, 59]] #[] 1537 66 #[] #[])
  fields := #[]
  methods := #[]
  instanceTypes := #[]
  staticTypes := #[]
  resolved := Array.replicate 131 none
  statics := none }

def pool24 : Array CpInfo := pool [(2, .class_ 4), (1, u "java/lang/Object"), (0, u "<init>"), (0, u "()V"), (3, .class_ 12), (1, u "java/lang/String"), (0, u "value"), (0, u "[B"), (2, u "coder"), (0, u "B"), (2, u "hash"), (0, u "I"), (2, u "hashIsZero"), (0, u "Z"), (13, u "COMPACT_STRINGS"), (534, .class_ 576), (0, u "java/lang/CharSequence"), (22, u "CASE_INSENSITIVE_ORDER"), (0, u "Ljava/util/Comparator;"), (500, u "serialPersistentFields"), (0, u "[Ljava/io/ObjectStreamField;"), (0, .class_ 1104), (0, u "java/lang/String$CaseInsensitiveComparator"), (1, .class_ 1107), (0, u "java/io/Serializable"), (0, .class_ 1109), (0, u "java/lang/Comparable"), (0, .class_ 1111), (0, u "java/lang/constant/Constable"), (0, .class_ 1113), (0, u "java/lang/constant/ConstantDesc"), (2, u "serialVersionUID"), (0, u "J"), (3, u "REPL"), (0, u "C"), (2, u "LATIN1"), (1, u "UTF16")] 323

def k24m0 : Method := { name := "<init>", desc := "()V", sig := { parameters := [], returnType := none }, accessFlags := 1, code := none }
/-- java/lang/String -/
def k24 : Class := { plain "java/lang/String" (some 0) with
  accessFlags := 49
  interfaces := #[10, 13, 23, 14, 15]
  cf := some (fileOf pool24 10 #[.nestMembers #[1103]] #[{ accessFlags := 1, nameIndex := 5, descriptorIndex := 6, attributes := #[] }] 49 2 #[1106, 1108, 575, 1110, 1112] #[{ accessFlags := 18, nameIndex := 13, descriptorIndex := 14, attributes := #[] }, { accessFlags := 18, nameIndex := 17, descriptorIndex := 18, attributes := #[] }, { accessFlags := 2, nameIndex := 21, descriptorIndex := 22, attributes := #[] }, { accessFlags := 2, nameIndex := 25, descriptorIndex := 26, attributes := #[] }, { accessFlags := 26, nameIndex := 1116, descriptorIndex := 1117, attributes := #[] }, { accessFlags := 24, nameIndex := 40, descriptorIndex := 26, attributes := #[] }, { accessFlags := 26, nameIndex := 1101, descriptorIndex := 1102, attributes := #[] }, { accessFlags := 26, nameIndex := 1121, descriptorIndex := 1122, attributes := #[] }, { accessFlags := 25, nameIndex := 599, descriptorIndex := 600, attributes := #[] }, { accessFlags := 24, nameIndex := 1125, descriptorIndex := 18, attributes := #[] }, { accessFlags := 24, nameIndex := 1127, descriptorIndex := 18, attributes := #[] }])
  fields := #[{ name := "value", type := (.array .byte), accessFlags := 18, slot := 0, constantValue := 0 }, { name := "coder", type := .byte, accessFlags := 18, slot := 1, constantValue := 0 }, { name := "hash", type := .int, accessFlags := 2, slot := 2, constantValue := 0 }, { name := "hashIsZero", type := .boolean, accessFlags := 2, slot := 3, constantValue := 0 }, { name := "serialVersionUID", type := .long, accessFlags := 26, slot := 0, constantValue := 0 }, { name := "COMPACT_STRINGS", type := .boolean, accessFlags := 24, slot := 1, constantValue := 0 }, { name := "serialPersistentFields", type := (.array (.object "java/io/ObjectStreamField")), accessFlags := 26, slot := 2, constantValue := 0 }, { name := "REPL", type := .char, accessFlags := 26, slot := 3, constantValue := 0 }, { name := "CASE_INSENSITIVE_ORDER", type := (.object "java/util/Comparator"), accessFlags := 25, slot := 4, constantValue := 0 }, { name := "LATIN1", type := .byte, accessFlags := 24, slot := 5, constantValue := 0 }, { name := "UTF16", type := .byte, accessFlags := 24, slot := 6, constantValue := 0 }]
  methods := #[k24m0]
  instanceTypes := #[(.array .byte), .byte, .int, .boolean]
  staticTypes := #[.long, .boolean, (.array (.object "java/io/ObjectStreamField")), .char, (.object "java/util/Comparator"), .byte, .byte]
  resolved := Array.replicate 1451 none
  statics := none }

def pool25 : Array CpInfo := pool [(2, .class_ 4), (1, u "java/lang/Object"), (0, u "<init>"), (0, u "()V"), (3, .class_ 11), (0, u "java/util/ImmutableCollections$List12"), (0, .class_ 13), (0, u "java/util/ImmutableCollections$ListN"), (3, u "Z"), (0, .class_ 19), (0, u "java/util/List"), (0, .interfaceMethodref 21 22), (0, .class_ 23), (0, .nameAndType 24 25), (0, u "java/util/Collection"), (0, u "isEmpty"), (0, u "()Z"), (0, .interfaceMethodref 18 27), (0, .nameAndType 28 29), (0, u "of"), (0, u "()Ljava/util/List;"), (0, .interfaceMethodref 21 31), (0, .nameAndType 32 33), (0, u "toArray"), (0, u "()[Ljava/lang/Object;"), (0, .interfaceMethodref 18 35), (0, .nameAndType 28 36), (0, u "([Ljava/lang/Object;)Ljava/util/List;"), (10, .class_ 49), (1, u "java/util/ImmutableCollections"), (0, u "$assertionsDisabled"), (5, u "[Ljava/lang/Object;"), (5, u "EMPTY_LIST"), (0, u "Ljava/util/ImmutableCollections$ListN;"), (8, u "EMPTY_LIST_NULLS"), (22, u "SALT32L"), (0, u "J"), (2, u "REVERSE"), (6, u "archivedObjects"), (2, u "EMPTY"), (0, u "Ljava/lang/Object;"), (0, .class_ 112), (0, u "java/util/ImmutableCollections$SetN"), (5, u "EMPTY_SET"), (0, u "Ljava/util/ImmutableCollections$SetN;"), (0, .class_ 121), (0, u "java/util/ImmutableCollections$MapN"), (3, u "EMPTY_MAP"), (0, u "Ljava/util/ImmutableCollections$MapN;"), (4, u "EXPAND_FACTOR"), (0, u "I"), (9, u "listCopy"), (0, u "(Ljava/util/Collection;)Ljava/util/List;"), (25, .class_ 170), (0, u "java/util/ImmutableCollections$MapN$MapNIterator"), (0, .class_ 172), (0, u "java/util/ImmutableCollections$MapN$1"), (0, .class_ 174), (0, u "java/util/ImmutableCollections$Map1"), (0, .class_ 176), (0, u "java/util/ImmutableCollections$AbstractImmutableMap"), (0, .class_ 178), (0, u "java/util/ImmutableCollections$SetN$SetNIterator"), (0, .class_ 180), (0, u "java/util/ImmutableCollections$Set12"), (0, .class_ 182), (0, u "java/util/ImmutableCollections$Set12$1"), (0, .class_ 184), (0, u "java/util/ImmutableCollections$AbstractImmutableSet"), (0, .class_ 186), (0, u "java/util/ImmutableCollections$SubList"), (0, .class_ 188), (0, u "java/util/ImmutableCollections$ListItr"), (0, .class_ 190), (0, u "java/util/ImmutableCollections$AbstractImmutableList"), (0, .class_ 192), (0, u "java/util/ImmutableCollections$AbstractImmutableCollection"), (0, .class_ 194), (0, u "java/util/ImmutableCollections$Access"), (0, .class_ 196), (0, u "java/util/ImmutableCollections$Access$1")] 16

def k25m0 : Method := { name := "<init>", desc := "()V", sig := { parameters := [], returnType := none }, accessFlags := 2, code := none }
def k25c1 : Code := { maxStack := 1, maxLocals := 2, code := jdk_56_method_3_code, exceptionTable := #[], attributes := #[] }
def k25m1 : Method := { name := "listCopy", desc := "(Ljava/util/Collection;)Ljava/util/List;", sig := { parameters := [(.object "java/util/Collection")], returnType := some (.object "java/util/List") }, accessFlags := 8, code := some k25c1 }
/-- java/util/ImmutableCollections -/
def k25 : Class := { plain "java/util/ImmutableCollections" (some 0) with
  accessFlags := 32
  interfaces := #[]
  cf := some (fileOf pool25 47 #[.nestMembers #[120, 169, 171, 173, 175, 111, 177, 179, 181, 183, 12, 10, 185, 187, 189, 191, 193, 195]] #[{ accessFlags := 2, nameIndex := 5, descriptorIndex := 6, attributes := #[] }, { accessFlags := 8, nameIndex := 142, descriptorIndex := 143, attributes := #[] }] 32 2 #[] #[{ accessFlags := 26, nameIndex := 95, descriptorIndex := 96, attributes := #[] }, { accessFlags := 26, nameIndex := 99, descriptorIndex := 17, attributes := #[] }, { accessFlags := 10, nameIndex := 106, descriptorIndex := 56, attributes := #[] }, { accessFlags := 26, nameIndex := 109, descriptorIndex := 110, attributes := #[] }, { accessFlags := 24, nameIndex := 62, descriptorIndex := 63, attributes := #[] }, { accessFlags := 24, nameIndex := 72, descriptorIndex := 63, attributes := #[] }, { accessFlags := 24, nameIndex := 118, descriptorIndex := 119, attributes := #[] }, { accessFlags := 24, nameIndex := 125, descriptorIndex := 126, attributes := #[] }, { accessFlags := 24, nameIndex := 131, descriptorIndex := 132, attributes := #[] }, { accessFlags := 4120, nameIndex := 50, descriptorIndex := 17, attributes := #[] }])
  fields := #[{ name := "SALT32L", type := .long, accessFlags := 26, slot := 0, constantValue := 0 }, { name := "REVERSE", type := .boolean, accessFlags := 26, slot := 1, constantValue := 0 }, { name := "archivedObjects", type := (.array (.object "java/lang/Object")), accessFlags := 10, slot := 2, constantValue := 0 }, { name := "EMPTY", type := (.object "java/lang/Object"), accessFlags := 26, slot := 3, constantValue := 0 }, { name := "EMPTY_LIST", type := (.object "java/util/ImmutableCollections$ListN"), accessFlags := 24, slot := 4, constantValue := 0 }, { name := "EMPTY_LIST_NULLS", type := (.object "java/util/ImmutableCollections$ListN"), accessFlags := 24, slot := 5, constantValue := 0 }, { name := "EMPTY_SET", type := (.object "java/util/ImmutableCollections$SetN"), accessFlags := 24, slot := 6, constantValue := 0 }, { name := "EMPTY_MAP", type := (.object "java/util/ImmutableCollections$MapN"), accessFlags := 24, slot := 7, constantValue := 0 }, { name := "EXPAND_FACTOR", type := .int, accessFlags := 24, slot := 8, constantValue := 0 }, { name := "$assertionsDisabled", type := .boolean, accessFlags := 4120, slot := 9, constantValue := 0 }]
  methods := #[k25m0, k25m1]
  instanceTypes := #[]
  staticTypes := #[.long, .boolean, (.array (.object "java/lang/Object")), (.object "java/lang/Object"), (.object "java/util/ImmutableCollections$ListN"), (.object "java/util/ImmutableCollections$ListN"), (.object "java/util/ImmutableCollections$SetN"), (.object "java/util/ImmutableCollections$MapN"), .int, .boolean]
  resolved := Array.replicate 213 none
  statics := some 2 }

def pool26 : Array CpInfo := pool [(1, .methodref 2 3), (0, .class_ 4), (0, .nameAndType 5 6), (0, u "java/util/AbstractCollection"), (0, u "<init>"), (0, u "()V"), (1, .class_ 10), (1, u "java/util/ImmutableCollections"), (2, .class_ 14), (0, u "java/util/ImmutableCollections$AbstractImmutableCollection")] 41

def k26c0 : Code := { maxStack := 1, maxLocals := 1, code := jdk_47_method_1_code, exceptionTable := #[], attributes := #[] }
def k26m0 : Method := { name := "<init>", desc := "()V", sig := { parameters := [], returnType := none }, accessFlags := 0, code := some k26c0 }
/-- java/util/ImmutableCollections$AbstractImmutableCollection -/
def k26 : Class := { plain "java/util/ImmutableCollections$AbstractImmutableCollection" (some 4) with
  accessFlags := 1056
  interfaces := #[]
  cf := some (fileOf pool26 13 #[.nestHost 8] #[{ accessFlags := 0, nameIndex := 5, descriptorIndex := 6, attributes := #[] }] 1056 2 #[] #[])
  fields := #[]
  methods := #[k26m0]
  instanceTypes := #[]
  staticTypes := #[]
  resolved := Array.replicate 56 none
  statics := none }

def pool27 : Array CpInfo := pool [(1, .methodref 2 3), (0, .class_ 4), (0, .nameAndType 5 6), (0, u "java/util/ImmutableCollections$AbstractImmutableCollection"), (0, u "<init>"), (0, u "()V"), (1, .class_ 10), (1, u "java/util/ImmutableCollections"), (3, .class_ 16), (1, u "java/util/ImmutableCollections$AbstractImmutableList"), (60, .class_ 78), (0, u "java/util/List"), (45, .class_ 125), (0, u "java/util/RandomAccess")] 70

def k27c0 : Code := { maxStack := 1, maxLocals := 1, code := jdk_46_method_1_code, exceptionTable := #[], attributes := #[] }
def k27m0 : Method := { name := "<init>", desc := "()V", sig := { parameters := [], returnType := none }, accessFlags := 0, code := some k27c0 }
/-- java/util/ImmutableCollections$AbstractImmutableList -/
def k27 : Class := { plain "java/util/ImmutableCollections$AbstractImmutableList" (some 26) with
  accessFlags := 1056
  interfaces := #[6, 8]
  cf := some (fileOf pool27 14 #[.nestHost 8] #[{ accessFlags := 0, nameIndex := 5, descriptorIndex := 6, attributes := #[] }] 1056 2 #[77, 124] #[])
  fields := #[]
  methods := #[k27m0]
  instanceTypes := #[]
  staticTypes := #[]
  resolved := Array.replicate 196 none
  statics := none }

def pool28 : Array CpInfo := pool [(1, .methodref 2 3), (0, .class_ 4), (0, .nameAndType 5 6), (0, u "java/util/ImmutableCollections$AbstractImmutableList"), (0, u "<init>"), (0, u "()V"), (0, .methodref 8 9), (0, .class_ 10), (0, .nameAndType 11 12), (0, u "java/util/Objects"), (0, u "requireNonNull"), (0, u "(Ljava/lang/Object;)Ljava/lang/Object;"), (0, .fieldref 14 15), (0, .class_ 16), (0, .nameAndType 17 18), (0, u "java/util/ImmutableCollections$List12"), (0, u "e0"), (0, u "Ljava/lang/Object;"), (0, .fieldref 20 21), (0, .class_ 22), (0, .nameAndType 23 18), (0, u "java/util/ImmutableCollections"), (0, u "EMPTY"), (0, .fieldref 14 25), (0, .nameAndType 26 18), (0, u "e1"), (24, u "size"), (0, u "()I"), (17, .class_ 71), (0, u "java/io/Serializable"), (4, u "(Ljava/lang/Object;)V"), (8, u "(Ljava/lang/Object;Ljava/lang/Object;)V"), (4, u "get"), (0, u "(I)Ljava/lang/Object;")] 33

def k28c0 : Code := { maxStack := 2, maxLocals := 2, code := jdk_44_method_1_code, exceptionTable := #[], attributes := #[] }
def k28m0 : Method := { name := "<init>", desc := "(Ljava/lang/Object;)V", sig := { parameters := [(.object "java/lang/Object")], returnType := none }, accessFlags := 0, code := some k28c0 }
def k28c1 : Code := { maxStack := 2, maxLocals := 3, code := jdk_44_method_2_code, exceptionTable := #[], attributes := #[] }
def k28m1 : Method := { name := "<init>", desc := "(Ljava/lang/Object;Ljava/lang/Object;)V", sig := { parameters := [(.object "java/lang/Object"), (.object "java/lang/Object")], returnType := none }, accessFlags := 0, code := some k28c1 }
def k28c2 : Code := { maxStack := 2, maxLocals := 1, code := jdk_44_method_3_code, exceptionTable := #[], attributes := #[] }
def k28m2 : Method := { name := "size", desc := "()I", sig := { parameters := [], returnType := some .int }, accessFlags := 1, code := some k28c2 }
def k28c3 : Code := { maxStack := 2, maxLocals := 2, code := jdk_44_method_5_code, exceptionTable := #[], attributes := #[] }
def k28m3 : Method := { name := "get", desc := "(I)Ljava/lang/Object;", sig := { parameters := [.int], returnType := some (.object "java/lang/Object") }, accessFlags := 1, code := some k28c3 }
/-- java/util/ImmutableCollections$List12 -/
def k28 : Class := { plain "java/util/ImmutableCollections$List12" (some 27) with
  accessFlags := 48
  interfaces := #[10]
  cf := some (fileOf pool28 14 #[.nestHost 20] #[{ accessFlags := 0, nameIndex := 5, descriptorIndex := 76, attributes := #[] }, { accessFlags := 0, nameIndex := 5, descriptorIndex := 85, attributes := #[] }, { accessFlags := 1, nameIndex := 51, descriptorIndex := 52, attributes := #[] }, { accessFlags := 1, nameIndex := 90, descriptorIndex := 91, attributes := #[] }] 48 2 #[70] #[{ accessFlags := 18, nameIndex := 17, descriptorIndex := 18, attributes := #[] }, { accessFlags := 18, nameIndex := 26, descriptorIndex := 18, attributes := #[] }])
  fields := #[{ name := "e0", type := (.object "java/lang/Object"), accessFlags := 18, slot := 0, constantValue := 0 }, { name := "e1", type := (.object "java/lang/Object"), accessFlags := 18, slot := 1, constantValue := 0 }]
  methods := #[k28m0, k28m1, k28m2, k28m3]
  instanceTypes := #[(.object "java/lang/Object"), (.object "java/lang/Object")]
  staticTypes := #[]
  resolved := Array.replicate 125 none
  statics := none }

def pool29 : Array CpInfo := pool [(2, .class_ 4), (1, u "java/util/ImmutableCollections$AbstractImmutableList"), (2, .fieldref 8 9), (0, .class_ 10), (0, .nameAndType 11 12), (0, u "java/util/ImmutableCollections$ListN"), (0, u "elements"), (0, u "[Ljava/lang/Object;"), (2, u "allowNulls"), (0, u "Z"), (42, .class_ 60), (0, u "java/io/Serializable"), (16, u "size"), (0, u "()I"), (35, .class_ 115), (0, u "java/util/ImmutableCollections")] 3

def k29c0 : Code := { maxStack := 1, maxLocals := 1, code := jdk_45_method_3_code, exceptionTable := #[], attributes := #[] }
def k29m0 : Method := { name := "size", desc := "()I", sig := { parameters := [], returnType := some .int }, accessFlags := 1, code := some k29c0 }
/-- java/util/ImmutableCollections$ListN -/
def k29 : Class := { plain "java/util/ImmutableCollections$ListN" (some 27) with
  accessFlags := 48
  interfaces := #[10]
  cf := some (fileOf pool29 8 #[.nestHost 114] #[{ accessFlags := 1, nameIndex := 77, descriptorIndex := 78, attributes := #[] }] 48 2 #[59] #[{ accessFlags := 18, nameIndex := 11, descriptorIndex := 12, attributes := #[] }, { accessFlags := 18, nameIndex := 15, descriptorIndex := 16, attributes := #[] }])
  fields := #[{ name := "elements", type := (.array (.object "java/lang/Object")), accessFlags := 18, slot := 0, constantValue := 0 }, { name := "allowNulls", type := .boolean, accessFlags := 18, slot := 1, constantValue := 0 }]
  methods := #[k29m0]
  instanceTypes := #[(.array (.object "java/lang/Object")), .boolean]
  staticTypes := #[]
  resolved := Array.replicate 119 none
  statics := none }

def pool30 : Array CpInfo := pool [(2, .class_ 4), (1, u "java/lang/Object"), (0, u "<init>"), (0, u "()V"), (7, .class_ 16), (1, u "java/util/Arrays"), (57, .class_ 76), (1, u "java/util/Arrays$NaturalOrder"), (9, .methodref 2 87), (0, .nameAndType 88 89), (0, u "getClass"), (0, u "()Ljava/lang/Class;"), (20, .class_ 111), (0, u "[Ljava/lang/Object;"), (1, .class_ 115), (1, u "java/util/Arrays$LegacyMergeSort"), (1, u "Z"), (32, .methodref 151 152), (0, .class_ 153), (0, .nameAndType 154 155), (0, u "java/lang/System"), (0, u "arraycopy"), (0, u "(Ljava/lang/Object;ILjava/lang/Object;II)V"), (144, .methodref 14 301), (0, .nameAndType 302 303), (0, u "copyOf"), (0, u "([Ljava/lang/Object;ILjava/lang/Class;)[Ljava/lang/Object;"), (0, .methodref 305 306), (0, .class_ 307), (0, .nameAndType 308 309), (0, u "java/lang/Math"), (0, u "min"), (0, u "(II)I"), (65, .class_ 376), (0, u "java/util/Arrays$ArrayList"), (68, u "$assertionsDisabled"), (269, u "MIN_ARRAY_SORT_GRAN"), (0, u "I"), (2, u "INSERTIONSORT_THRESHOLD"), (140, u "([Ljava/lang/Object;I)[Ljava/lang/Object;"), (114, .class_ 976), (0, u "java/util/Arrays$ArrayItr")] 52

def k30m0 : Method := { name := "<init>", desc := "()V", sig := { parameters := [], returnType := none }, accessFlags := 2, code := none }
def k30c1 : Code := { maxStack := 3, maxLocals := 2, code := jdk_65_method_119_code, exceptionTable := #[], attributes := #[] }
def k30m1 : Method := { name := "copyOf", desc := "([Ljava/lang/Object;I)[Ljava/lang/Object;", sig := { parameters := [(.array (.object "java/lang/Object")), .int], returnType := some (.array (.object "java/lang/Object")) }, accessFlags := 9, code := some k30c1 }
def k30c2 : Code := { maxStack := 6, maxLocals := 4, code := jdk_65_method_120_code, exceptionTable := #[], attributes := #[] }
def k30m2 : Method := { name := "copyOf", desc := "([Ljava/lang/Object;ILjava/lang/Class;)[Ljava/lang/Object;", sig := { parameters := [(.array (.object "java/lang/Object")), .int, (.object "java/lang/Class")], returnType := some (.array (.object "java/lang/Object")) }, accessFlags := 9, code := some k30c2 }
/-- java/util/Arrays -/
def k30 : Class := { plain "java/util/Arrays" (some 0) with
  accessFlags := 49
  interfaces := #[]
  cf := some (fileOf pool30 14 #[.nestMembers #[975, 375, 113, 74]] #[{ accessFlags := 2, nameIndex := 5, descriptorIndex := 6, attributes := #[] }, { accessFlags := 9, nameIndex := 302, descriptorIndex := 860, attributes := #[] }, { accessFlags := 9, nameIndex := 302, descriptorIndex := 303, attributes := #[] }] 49 2 #[] #[{ accessFlags := 26, nameIndex := 715, descriptorIndex := 716, attributes := #[] }, { accessFlags := 26, nameIndex := 719, descriptorIndex := 716, attributes := #[] }, { accessFlags := 4120, nameIndex := 445, descriptorIndex := 117, attributes := #[] }])
  fields := #[{ name := "MIN_ARRAY_SORT_GRAN", type := .int, accessFlags := 26, slot := 0, constantValue := 0 }, { name := "INSERTIONSORT_THRESHOLD", type := .int, accessFlags := 26, slot := 1, constantValue := 0 }, { name := "$assertionsDisabled", type := .boolean, accessFlags := 4120, slot := 2, constantValue := 0 }]
  methods := #[k30m0, k30m1, k30m2]
  instanceTypes := #[]
  staticTypes := #[.int, .int, .boolean]
  resolved := Array.replicate 1029 none
  statics := none }

def pool31 : Array CpInfo := pool [(2, .class_ 4), (1, u "java/lang/Object"), (0, u "<init>"), (0, u "()V"), (1, .class_ 10), (1, u "java/lang/System"), (0, u "allowSecurityManager"), (0, u "I"), (16, u "cons"), (0, u "Ljava/io/Console;"), (77, .class_ 110), (1, u "java/lang/System$CallersHolder"), (43, u "initialErrStream"), (0, u "Ljava/io/PrintStream;"), (19, u "security"), (0, u "Ljava/lang/SecurityManager;"), (31, .class_ 209), (0, u "java/lang/System$1"), (7, u "props"), (0, u "Ljava/util/Properties;"), (2, u "lineSeparator"), (0, u "Ljava/lang/String;"), (96, .class_ 321), (1, u "java/lang/System$LoggerFinder"), (5, .class_ 328), (0, u "java/lang/System$Logger"), (67, u "err"), (2, u "out"), (91, u "notSupportedJnuEncoding"), (15, u "in"), (17, u "initialIn"), (0, u "Ljava/io/InputStream;"), (35, u "bootLayer"), (0, u "Ljava/lang/ModuleLayer;"), (99, .class_ 664), (0, u "java/lang/System$2"), (9, u "NEVER"), (2, u "MAYBE"), (49, u "arraycopy"), (0, u "(Ljava/lang/Object;ILjava/lang/Object;II)V"), (72, .class_ 802), (0, u "java/lang/System$Logger$Level")] 31

def k31m0 : Method := { name := "<init>", desc := "()V", sig := { parameters := [], returnType := none }, accessFlags := 2, code := none }
def k31m1 : Method := { name := "arraycopy", desc := "(Ljava/lang/Object;ILjava/lang/Object;II)V", sig := { parameters := [(.object "java/lang/Object"), .int, (.object "java/lang/Object"), .int, .int], returnType := none }, accessFlags := 265, code := none }
/-- java/lang/System -/
def k31 : Class := { plain "java/lang/System" (some 0) with
  accessFlags := 49
  interfaces := #[]
  cf := some (fileOf pool31 8 #[.nestMembers #[319, 327, 801, 108, 663, 208]] #[{ accessFlags := 2, nameIndex := 5, descriptorIndex := 6, attributes := #[] }, { accessFlags := 265, nameIndex := 727, descriptorIndex := 728, attributes := #[] }] 49 2 #[] #[{ accessFlags := 25, nameIndex := 507, descriptorIndex := 526, attributes := #[] }, { accessFlags := 25, nameIndex := 399, descriptorIndex := 155, attributes := #[] }, { accessFlags := 25, nameIndex := 396, descriptorIndex := 155, attributes := #[] }, { accessFlags := 10, nameIndex := 525, descriptorIndex := 526, attributes := #[] }, { accessFlags := 26, nameIndex := 674, descriptorIndex := 12, attributes := #[] }, { accessFlags := 26, nameIndex := 677, descriptorIndex := 12, attributes := #[] }, { accessFlags := 10, nameIndex := 11, descriptorIndex := 12, attributes := #[] }, { accessFlags := 74, nameIndex := 175, descriptorIndex := 176, attributes := #[] }, { accessFlags := 10, nameIndex := 491, descriptorIndex := 222, attributes := #[] }, { accessFlags := 74, nameIndex := 29, descriptorIndex := 30, attributes := #[] }, { accessFlags := 74, nameIndex := 154, descriptorIndex := 155, attributes := #[] }, { accessFlags := 10, nameIndex := 217, descriptorIndex := 218, attributes := #[] }, { accessFlags := 10, nameIndex := 221, descriptorIndex := 222, attributes := #[] }, { accessFlags := 8, nameIndex := 562, descriptorIndex := 563, attributes := #[] }])
  fields := #[{ name := "in", type := (.object "java/io/InputStream"), accessFlags := 25, slot := 0, constantValue := 0 }, { name := "out", type := (.object "java/io/PrintStream"), accessFlags := 25, slot := 1, constantValue := 0 }, { name := "err", type := (.object "java/io/PrintStream"), accessFlags := 25, slot := 2, constantValue := 0 }, { name := "initialIn", type := (.object "java/io/InputStream"), accessFlags := 10, slot := 3, constantValue := 0 }, { name := "NEVER", type := .int, accessFlags := 26, slot := 4, constantValue := 0 }, { name := "MAYBE", type := .int, accessFlags := 26, slot := 5, constantValue := 0 }, { name := "allowSecurityManager", type := .int, accessFlags := 10, slot := 6, constantValue := 0 }, { name := "security", type := (.object "java/lang/SecurityManager"), accessFlags := 74, slot := 7, constantValue := 0 }, { name := "notSupportedJnuEncoding", type := (.object "java/lang/String"), accessFlags := 10, slot := 8, constantValue := 0 }, { name := "cons", type := (.object "java/io/Console"), accessFlags := 74, slot := 9, constantValue := 0 }, { name := "initialErrStream", type := (.object "java/io/PrintStream"), accessFlags := 74, slot := 10, constantValue := 0 }, { name := "props", type := (.object "java/util/Properties"), accessFlags := 10, slot := 11, constantValue := 0 }, { name := "lineSeparator", type := (.object "java/lang/String"), accessFlags := 10, slot := 12, constantValue := 0 }, { name := "bootLayer", type := (.object "java/lang/ModuleLayer"), accessFlags := 8, slot := 13, constantValue := 0 }]
  methods := #[k31m0, k31m1]
  instanceTypes := #[]
  staticTypes := #[(.object "java/io/InputStream"), (.object "java/io/PrintStream"), (.object "java/io/PrintStream"), (.object "java/io/InputStream"), .int, .int, .int, (.object "java/lang/SecurityManager"), (.object "java/lang/String"), (.object "java/io/Console"), (.object "java/io/PrintStream"), (.object "java/util/Properties"), (.object "java/lang/String"), (.object "java/lang/ModuleLayer")]
  resolved := Array.replicate 834 none
  statics := none }

def pool32 : Array CpInfo := pool [(2, .class_ 4), (1, u "java/lang/Object"), (0, u "<init>"), (0, u "()V"), (35, .class_ 44), (1, u "java/util/Objects"), (0, u "requireNonNull"), (0, u "(Ljava/lang/Object;)Ljava/lang/Object;")] 137

def k32m0 : Method := { name := "<init>", desc := "()V", sig := { parameters := [], returnType := none }, accessFlags := 2, code := none }
def k32c1 : Code := { maxStack := 2, maxLocals := 1, code := jdk_31_method_10_code, exceptionTable := #[], attributes := #[] }
def k32m1 : Method := { name := "requireNonNull", desc := "(Ljava/lang/Object;)Ljava/lang/Object;", sig := { parameters := [(.object "java/lang/Object")], returnType := some (.object "java/lang/Object") }, accessFlags := 9, code := some k32c1 }
/-- java/util/Objects -/
def k32 : Class := { plain "java/util/Objects" (some 0) with
  accessFlags := 49
  interfaces := #[]
  cf := some (fileOf pool32 42 #[] #[{ accessFlags := 2, nameIndex := 5, descriptorIndex := 6, attributes := #[] }, { accessFlags := 9, nameIndex := 45, descriptorIndex := 46, attributes := #[] }] 49 2 #[] #[])
  fields := #[]
  methods := #[k32m0, k32m1]
  instanceTypes := #[]
  staticTypes := #[]
  resolved := Array.replicate 184 none
  statics := none }

def pool33 : Array CpInfo := pool [(1, .methodref 2 3), (0, .class_ 4), (0, .nameAndType 5 6), (0, u "java/lang/Object"), (0, u "<init>"), (0, u "()V"), (0, .class_ 8), (0, u "java/util/TreeMap"), (0, .methodref 7 3), (0, .fieldref 11 12), (0, .class_ 13), (0, .nameAndType 14 15), (0, u "com/example/regent/regent/controller/Group"), (0, u "registerCodes"), (0, u "Ljava/util/NavigableMap;"), (0, .fieldref 11 17), (0, .nameAndType 18 15), (0, u "brokers"), (0, .interfaceMethodref 20 21), (0, .class_ 22), (0, .nameAndType 23 24), (0, u "java/util/List"), (0, u "of"), (0, u "()Ljava/util/List;"), (0, .fieldref 11 26), (0, .nameAndType 27 28), (0, u "syncStateSet"), (0, u "Ljava/util/List;"), (0, .fieldref 11 30), (0, .nameAndType 31 32), (0, u "name"), (0, u "Ljava/lang/String;"), (18, u "master"), (0, u "Ljava/lang/Long;"), (2, u "masterEpoch"), (0, u "I"), (2, u "syncStateSetEpoch"), (41, .class_ 102), (0, u "com/example/regent/regent/controller/Group$Registration"), (17, u "(Ljava/lang/String;)V")] 46

def k33c0 : Code := { maxStack := 3, maxLocals := 2, code := prog_56_method_1_code, exceptionTable := #[], attributes := #[] }
def k33m0 : Method := { name := "<init>", desc := "(Ljava/lang/String;)V", sig := { parameters := [(.object "java/lang/String")], returnType := none }, accessFlags := 0, code := some k33c0 }
/-- com/example/regent/regent/controller/Group -/
def k33 : Class := { plain "com/example/regent/regent/controller/Group" (some 0) with
  accessFlags := 48
  interfaces := #[]
  cf := some (fileOf pool33 11 #[.nestMembers #[101]] #[{ accessFlags := 0, nameIndex := 5, descriptorIndex := 120, attributes := #[] }] 48 2 #[] #[{ accessFlags := 16, nameIndex := 31, descriptorIndex := 32, attributes := #[] }, { accessFlags := 16, nameIndex := 14, descriptorIndex := 15, attributes := #[] }, { accessFlags := 16, nameIndex := 18, descriptorIndex := 15, attributes := #[] }, { accessFlags := 0, nameIndex := 51, descriptorIndex := 52, attributes := #[] }, { accessFlags := 0, nameIndex := 55, descriptorIndex := 56, attributes := #[] }, { accessFlags := 0, nameIndex := 27, descriptorIndex := 28, attributes := #[] }, { accessFlags := 0, nameIndex := 59, descriptorIndex := 56, attributes := #[] }])
  fields := #[{ name := "name", type := (.object "java/lang/String"), accessFlags := 16, slot := 0, constantValue := 0 }, { name := "registerCodes", type := (.object "java/util/NavigableMap"), accessFlags := 16, slot := 1, constantValue := 0 }, { name := "brokers", type := (.object "java/util/NavigableMap"), accessFlags := 16, slot := 2, constantValue := 0 }, { name := "master", type := (.object "java/lang/Long"), accessFlags := 0, slot := 3, constantValue := 0 }, { name := "masterEpoch", type := .int, accessFlags := 0, slot := 4, constantValue := 0 }, { name := "syncStateSet", type := (.object "java/util/List"), accessFlags := 0, slot := 5, constantValue := 0 }, { name := "syncStateSetEpoch", type := .int, accessFlags := 0, slot := 6, constantValue := 0 }]
  methods := #[k33m0]
  instanceTypes := #[(.object "java/lang/String"), (.object "java/util/NavigableMap"), (.object "java/util/NavigableMap"), (.object "java/lang/Long"), .int, (.object "java/util/List"), .int]
  staticTypes := #[]
  resolved := Array.replicate 167 none
  statics := none }

def pool34 : Array CpInfo := pool [(2, .class_ 4), (1, u "java/util/Map"), (31, .class_ 37), (0, u "java/util/Map$Entry"), (55, .class_ 94), (0, u "java/lang/Object")] 168

/-- java/util/Map -/
def k34 : Class := { plain "java/util/Map" (some 0) with
  accessFlags := 1537
  interfaces := #[]
  cf := some (fileOf pool34 2 #[.nestMembers #[36]] #[] 1537 93 #[] #[])
  fields := #[]
  methods := #[]
  instanceTypes := #[]
  staticTypes := #[]
  resolved := Array.replicate 263 none
  statics := none }

def pool35 : Array CpInfo := pool [(1, .methodref 2 3), (0, .class_ 4), (0, .nameAndType 5 6), (0, u "java/lang/Object"), (0, u "<init>"), (0, u "()V"), (1, .class_ 10), (1, u "java/util/AbstractMap"), (42, .class_ 54), (0, u "java/util/Map"), (9, u "keySet"), (0, u "Ljava/util/Set;"), (0, .class_ 67), (0, u "java/util/AbstractMap$1"), (5, u "values"), (0, u "Ljava/util/Collection;"), (0, .class_ 76), (0, u "java/util/AbstractMap$2"), (104, .class_ 182), (0, u "java/util/AbstractMap$ViewCollection"), (0, .class_ 184), (0, u "java/util/AbstractMap$SimpleImmutableEntry"), (0, .class_ 186), (0, u "java/util/AbstractMap$SimpleEntry"), (0, .class_ 188), (0, u "java/util/AbstractMap$2$1"), (0, .class_ 190), (0, u "java/util/AbstractMap$1$1")] 5

def k35c0 : Code := { maxStack := 1, maxLocals := 1, code := jdk_71_method_1_code, exceptionTable := #[], attributes := #[] }
def k35m0 : Method := { name := "<init>", desc := "()V", sig := { parameters := [], returnType := none }, accessFlags := 4, code := some k35c0 }
/-- java/util/AbstractMap -/
def k35 : Class := { plain "java/util/AbstractMap" (some 0) with
  accessFlags := 1057
  interfaces := #[34]
  cf := some (fileOf pool35 8 #[.nestMembers #[181, 183, 185, 75, 187, 66, 189]] #[{ accessFlags := 4, nameIndex := 5, descriptorIndex := 6, attributes := #[] }] 1057 2 #[53] #[{ accessFlags := 128, nameIndex := 64, descriptorIndex := 65, attributes := #[] }, { accessFlags := 128, nameIndex := 73, descriptorIndex := 74, attributes := #[] }])
  fields := #[{ name := "keySet", type := (.object "java/util/Set"), accessFlags := 128, slot := 0, constantValue := 0 }, { name := "values", type := (.object "java/util/Collection"), accessFlags := 128, slot := 1, constantValue := 0 }]
  methods := #[k35m0]
  instanceTypes := #[(.object "java/util/Set"), (.object "java/util/Collection")]
  staticTypes := #[]
  resolved := Array.replicate 196 none
  statics := none }

def pool36 : Array CpInfo := pool [(2, .class_ 4), (1, u "java/util/SequencedMap"), (38, .class_ 44), (0, u "java/util/SequencedMap$1SeqKeySet"), (3, .class_ 49), (0, u "java/util/SequencedMap$1SeqValues"), (1, .class_ 52), (0, u "java/util/SequencedMap$1SeqEntrySet"), (1, .class_ 55), (0, u "java/lang/Object"), (0, .class_ 57), (0, u "java/util/Map")] 48

/-- java/util/SequencedMap -/
def k36 : Class := { plain "java/util/SequencedMap" (some 0) with
  accessFlags := 1537
  interfaces := #[34]
  cf := some (fileOf pool36 2 #[.nestMembers #[51, 48, 43]] #[] 1537 54 #[56] #[])
  fields := #[]
  methods := #[]
  instanceTypes := #[]
  staticTypes := #[]
  resolved := Array.replicate 106 none
  statics := none }

def pool37 : Array CpInfo := pool [(14, .class_ 16), (1, u "java/util/SortedMap"), (2, .class_ 20), (0, u "java/lang/Object"), (0, .class_ 22), (0, u "java/util/SequencedMap")] 50

/-- java/util/SortedMap -/
def k37 : Class := { plain "java/util/SortedMap" (some 0) with
  accessFlags := 1537
  interfaces := #[36]
  cf := some (fileOf pool37 14 #[] #[] 1537 19 #[21] #[])
  fields := #[]
  methods := #[]
  instanceTypes := #[]
  staticTypes := #[]
  resolved := Array.replicate 73 none
  statics := none }

def pool38 : Array CpInfo := pool [(2, .class_ 4), (1, u "java/util/NavigableMap"), (5, .class_ 11), (0, u "java/lang/Object"), (0, .class_ 13), (0, u "java/util/SortedMap")] 53

/-- java/util/NavigableMap -/
def k38 : Class := { plain "java/util/NavigableMap" (some 0) with
  accessFlags := 1537
  interfaces := #[37]
  cf := some (fileOf pool38 2 #[] #[] 1537 10 #[12] #[])
  fields := #[]
  methods := #[]
  instanceTypes := #[]
  staticTypes := #[]
  resolved := Array.replicate 67 none
  statics := none }

def pool39 : Array CpInfo := pool [(1, .methodref 2 3), (0, .class_ 4), (0, .nameAndType 5 6), (0, u "java/util/AbstractMap"), (0, u "<init>"), (0, u "()V"), (0, .fieldref 8 9), (0, .class_ 10), (0, .nameAndType 11 12), (0, u "java/util/TreeMap"), (0, u "size"), (0, u "I"), (0, .fieldref 8 14), (0, .nameAndType 15 12), (0, u "modCount"), (0, .fieldref 8 17), (0, .nameAndType 18 19), (0, u "comparator"), (0, u "Ljava/util/Comparator;"), (14, u "entrySet"), (24, .class_ 61), (1, u "java/util/TreeMap$Entry"), (1, u "Ljava/lang/Object;"), (39, u "root"), (0, u "Ljava/util/TreeMap$Entry;"), (85, u "Ljava/util/TreeMap$EntrySet;"), (2, u "navigableKeySet"), (0, u "Ljava/util/TreeMap$KeySet;"), (2, u "descendingMap"), (0, u "Ljava/util/NavigableMap;"), (23, .class_ 223), (0, u "java/util/TreeMap$KeySet"), (7, .class_ 232), (0, u "java/util/NavigableMap"), (4, .class_ 238), (0, u "java/util/TreeMap$Values"), (3, .class_ 243), (0, u "java/util/TreeMap$EntrySet"), (1, .class_ 246), (0, u "java/util/TreeMap$DescendingSubMap"), (3, .class_ 251), (0, u "java/util/TreeMap$AscendingSubMap"), (17, .class_ 270), (0, u "java/util/TreeMap$KeyIterator"), (3, .class_ 275), (0, u "java/util/TreeMap$DescendingKeyIterator"), (17, u "Z"), (94, .class_ 389), (0, u "java/util/TreeMap$NavigableSubMap"), (1, .class_ 392), (0, u "java/util/TreeMap$KeySpliterator"), (3, .class_ 397), (0, u "java/util/TreeMap$DescendingKeySpliterator"), (4, u "UNBOUNDED"), (0, .class_ 404), (0, u "java/lang/Cloneable"), (0, .class_ 406), (0, u "java/io/Serializable"), (6, u "RED"), (2, u "BLACK"), (1, u "serialVersionUID"), (0, u "J"), (214, .class_ 635), (0, u "java/util/TreeMap$EntrySpliterator"), (0, .class_ 637), (0, u "java/util/TreeMap$ValueSpliterator"), (0, .class_ 639), (0, u "java/util/TreeMap$TreeMapSpliterator"), (0, .class_ 641), (0, u "java/util/TreeMap$SubMap"), (0, .class_ 643), (0, u "java/util/TreeMap$DescendingSubMap$DescendingEntrySetView"), (0, .class_ 645), (0, u "java/util/TreeMap$AscendingSubMap$AscendingEntrySetView"), (0, .class_ 647), (0, u "java/util/TreeMap$NavigableSubMap$DescendingSubMapKeyIterator"), (0, .class_ 649), (0, u "java/util/TreeMap$NavigableSubMap$SubMapKeyIterator"), (0, .class_ 651), (0, u "java/util/TreeMap$NavigableSubMap$DescendingSubMapEntryIterator"), (0, .class_ 653), (0, u "java/util/TreeMap$NavigableSubMap$SubMapEntryIterator"), (0, .class_ 655), (0, u "java/util/TreeMap$NavigableSubMap$SubMapIterator"), (0, .class_ 657), (0, u "java/util/TreeMap$NavigableSubMap$EntrySetView"), (0, .class_ 659), (0, u "java/util/TreeMap$ValueIterator"), (0, .class_ 661), (0, u "java/util/TreeMap$EntryIterator"), (0, .class_ 663), (0, u "java/util/TreeMap$PrivateEntryIterator")] 28

def k39c0 : Code := { maxStack := 2, maxLocals := 1, code := jdk_2729_method_1_code, exceptionTable := #[], attributes := #[] }
def k39m0 : Method := { name := "<init>", desc := "()V", sig := { parameters := [], returnType := none }, accessFlags := 1, code := some k39c0 }
/-- java/util/TreeMap -/
def k39 : Class := { plain "java/util/TreeMap" (some 35) with
  accessFlags := 33
  interfaces := #[38, 9, 10]
  cf := some (fileOf pool39 8 #[.nestMembers #[634, 636, 396, 391, 638, 59, 640, 245, 642, 250, 644, 388, 646, 648, 650, 652, 654, 656, 274, 269, 658, 660, 662, 222, 242, 237]] #[{ accessFlags := 1, nameIndex := 5, descriptorIndex := 6, attributes := #[] }] 33 2 #[231, 403, 405] #[{ accessFlags := 18, nameIndex := 18, descriptorIndex := 19, attributes := #[] }, { accessFlags := 130, nameIndex := 103, descriptorIndex := 104, attributes := #[] }, { accessFlags := 130, nameIndex := 11, descriptorIndex := 12, attributes := #[] }, { accessFlags := 130, nameIndex := 15, descriptorIndex := 12, attributes := #[] }, { accessFlags := 130, nameIndex := 34, descriptorIndex := 190, attributes := #[] }, { accessFlags := 130, nameIndex := 193, descriptorIndex := 194, attributes := #[] }, { accessFlags := 130, nameIndex := 197, descriptorIndex := 198, attributes := #[] }, { accessFlags := 26, nameIndex := 402, descriptorIndex := 63, attributes := #[] }, { accessFlags := 26, nameIndex := 413, descriptorIndex := 293, attributes := #[] }, { accessFlags := 26, nameIndex := 416, descriptorIndex := 293, attributes := #[] }, { accessFlags := 26, nameIndex := 418, descriptorIndex := 419, attributes := #[] }])
  fields := #[{ name := "comparator", type := (.object "java/util/Comparator"), accessFlags := 18, slot := 2, constantValue := 0 }, { name := "root", type := (.object "java/util/TreeMap$Entry"), accessFlags := 130, slot := 3, constantValue := 0 }, { name := "size", type := .int, accessFlags := 130, slot := 4, constantValue := 0 }, { name := "modCount", type := .int, accessFlags := 130, slot := 5, constantValue := 0 }, { name := "entrySet", type := (.object "java/util/TreeMap$EntrySet"), accessFlags := 130, slot := 6, constantValue := 0 }, { name := "navigableKeySet", type := (.object "java/util/TreeMap$KeySet"), accessFlags := 130, slot := 7, constantValue := 0 }, { name := "descendingMap", type := (.object "java/util/NavigableMap"), accessFlags := 130, slot := 8, constantValue := 0 }, { name := "UNBOUNDED", type := (.object "java/lang/Object"), accessFlags := 26, slot := 0, constantValue := 0 }, { name := "RED", type := .boolean, accessFlags := 26, slot := 1, constantValue := 0 }, { name := "BLACK", type := .boolean, accessFlags := 26, slot := 2, constantValue := 0 }, { name := "serialVersionUID", type := .long, accessFlags := 26, slot := 3, constantValue := 0 }]
  methods := #[k39m0]
  instanceTypes := #[(.object "java/util/Set"), (.object "java/util/Collection"), (.object "java/util/Comparator"), (.object "java/util/TreeMap$Entry"), .int, .int, (.object "java/util/TreeMap$EntrySet"), (.object "java/util/TreeMap$KeySet"), (.object "java/util/NavigableMap")]
  staticTypes := #[(.object "java/lang/Object"), .boolean, .boolean, .long]
  resolved := Array.replicate 692 none
  statics := none }

def pool40 : Array CpInfo := pool [(1, .class_ 2), (0, u "java/lang/Class"), (0, .class_ 4), (0, u "java/lang/Object")] 0

/-- java/lang/Class -/
def k40 : Class := { plain "java/lang/Class" (some 0) with
  accessFlags := 49
  interfaces := #[]
  cf := some (fileOf pool40 1 #[] #[] 49 3 #[] #[])
  fields := #[]
  methods := #[]
  instanceTypes := #[]
  staticTypes := #[]
  resolved := Array.replicate 5 none
  statics := none }

/-- the primitive byte -/
def k41 : Class := { plain "byte" none with kind := .primitive 'B', accessFlags := 0x411 }
/-- [B -/
def k42 : Class := { plain "[B" (some 0) with kind := .array 41 .byte, interfaces := #[9, 10], accessFlags := 1041 }

/-- the primitive int -/
def k43 : Class := { plain "int" none with kind := .primitive 'I', accessFlags := 0x411 }
/-- [I -/
def k44 : Class := { plain "[I" (some 0) with kind := .array 43 .int, interfaces := #[9, 10], accessFlags := 1041 }

/-- [Ljava/lang/Long; -/
def k45 : Class := { plain "[Ljava/lang/Long;" (some 0) with kind := .array 16 (.object "java/lang/Long"), interfaces := #[9, 10], accessFlags := 1041 }

/-- [Ljava/lang/Object; -/
def k46 : Class := { plain "[Ljava/lang/Object;" (some 0) with kind := .array 0 (.object "java/lang/Object"), interfaces := #[9, 10], accessFlags := 1041, mirror := some 3 }

def heap : Heap := #[{ cls := 11, slots := #[.long 0, .int 0, .ref 263, .ref 264], vm := .statics 11 },
  { cls := 18, slots := #[.ref 4, .null, .int 0], vm := .statics 18 },
  { cls := 25, slots := #[.long 0, .int 0, .null, .ref 265, .ref 262, .null, .null, .null, .int 0, .int 1], vm := .statics 25 },
  { cls := 40, slots := #[], vm := .mirror 46 },
  { cls := 45, slots := #[.ref 6, .ref 7, .ref 8, .ref 9, .ref 10, .ref 11, .ref 12, .ref 13, .ref 14, .ref 15, .ref 16, .ref 17, .ref 18, .ref 19, .ref 20, .ref 21, .ref 22, .ref 23, .ref 24, .ref 25, .ref 26, .ref 27, .ref 28, .ref 29, .ref 30, .ref 31, .ref 32, .ref 33, .ref 34, .ref 35, .ref 36, .ref 37, .ref 38, .ref 39, .ref 40, .ref 41, .ref 42, .ref 43, .ref 44, .ref 45, .ref 46, .ref 47, .ref 48, .ref 49, .ref 50, .ref 51, .ref 52, .ref 53, .ref 54, .ref 55, .ref 56, .ref 57, .ref 58, .ref 59, .ref 60, .ref 61, .ref 62, .ref 63, .ref 64, .ref 65, .ref 66, .ref 67, .ref 68, .ref 69, .ref 70, .ref 71, .ref 72, .ref 73, .ref 74, .ref 75, .ref 76, .ref 77, .ref 78, .ref 79, .ref 80, .ref 81, .ref 82, .ref 83, .ref 84, .ref 85, .ref 86, .ref 87, .ref 88, .ref 89, .ref 90, .ref 91, .ref 92, .ref 93, .ref 94, .ref 95, .ref 96, .ref 97, .ref 98, .ref 99, .ref 100, .ref 101, .ref 102, .ref 103, .ref 104, .ref 105, .ref 106, .ref 107, .ref 108, .ref 109, .ref 110, .ref 111, .ref 112, .ref 113, .ref 114, .ref 115, .ref 116, .ref 117, .ref 118, .ref 119, .ref 120, .ref 121, .ref 122, .ref 123, .ref 124, .ref 125, .ref 126, .ref 127, .ref 128, .ref 129, .ref 130, .ref 131, .ref 132, .ref 133, .ref 134, .ref 135, .ref 136, .ref 137, .ref 138, .ref 139, .ref 140, .ref 141, .ref 142, .ref 143, .ref 144, .ref 145, .ref 146, .ref 147, .ref 148, .ref 149, .ref 150, .ref 151, .ref 152, .ref 153, .ref 154, .ref 155, .ref 156, .ref 157, .ref 158, .ref 159, .ref 160, .ref 161, .ref 162, .ref 163, .ref 164, .ref 165, .ref 166, .ref 167, .ref 168, .ref 169, .ref 170, .ref 171, .ref 172, .ref 173, .ref 174, .ref 175, .ref 176, .ref 177, .ref 178, .ref 179, .ref 180, .ref 181, .ref 182, .ref 183, .ref 184, .ref 185, .ref 186, .ref 187, .ref 188, .ref 189, .ref 190, .ref 191, .ref 192, .ref 193, .ref 194, .ref 195, .ref 196, .ref 197, .ref 198, .ref 199, .ref 200, .ref 201, .ref 202, .ref 203, .ref 204, .ref 205, .ref 206, .ref 207, .ref 208, .ref 209, .ref 210, .ref 211, .ref 212, .ref 213, .ref 214, .ref 215, .ref 216, .ref 217, .ref 218, .ref 219, .ref 220, .ref 221, .ref 222, .ref 223, .ref 224, .ref 225, .ref 226, .ref 227, .ref 228, .ref 229, .ref 230, .ref 231, .ref 232, .ref 233, .ref 234, .ref 235, .ref 236, .ref 237, .ref 238, .ref 239, .ref 240, .ref 241, .ref 242, .ref 243, .ref 244, .ref 245, .ref 246, .ref 247, .ref 248, .ref 249, .ref 250, .ref 251, .ref 252, .ref 253, .ref 254, .ref 255, .ref 256, .ref 257, .ref 258, .ref 259, .ref 260, .ref 261], vm := .none },
  { cls := 46, slots := #[], vm := .none },
  { cls := 16, slots := #[.long (-128)], vm := .none },
  { cls := 16, slots := #[.long (-127)], vm := .none },
  { cls := 16, slots := #[.long (-126)], vm := .none },
  { cls := 16, slots := #[.long (-125)], vm := .none },
  { cls := 16, slots := #[.long (-124)], vm := .none },
  { cls := 16, slots := #[.long (-123)], vm := .none },
  { cls := 16, slots := #[.long (-122)], vm := .none },
  { cls := 16, slots := #[.long (-121)], vm := .none },
  { cls := 16, slots := #[.long (-120)], vm := .none },
  { cls := 16, slots := #[.long (-119)], vm := .none },
  { cls := 16, slots := #[.long (-118)], vm := .none },
  { cls := 16, slots := #[.long (-117)], vm := .none },
  { cls := 16, slots := #[.long (-116)], vm := .none },
  { cls := 16, slots := #[.long (-115)], vm := .none },
  { cls := 16, slots := #[.long (-114)], vm := .none },
  { cls := 16, slots := #[.long (-113)], vm := .none },
  { cls := 16, slots := #[.long (-112)], vm := .none },
  { cls := 16, slots := #[.long (-111)], vm := .none },
  { cls := 16, slots := #[.long (-110)], vm := .none },
  { cls := 16, slots := #[.long (-109)], vm := .none },
  { cls := 16, slots := #[.long (-108)], vm := .none },
  { cls := 16, slots := #[.long (-107)], vm := .none },
  { cls := 16, slots := #[.long (-106)], vm := .none },
  { cls := 16, slots := #[.long (-105)], vm := .none },
  { cls := 16, slots := #[.long (-104)], vm := .none },
  { cls := 16, slots := #[.long (-103)], vm := .none },
  { cls := 16, slots := #[.long (-102)], vm := .none },
  { cls := 16, slots := #[.long (-101)], vm := .none },
  { cls := 16, slots := #[.long (-100)], vm := .none },
  { cls := 16, slots := #[.long (-99)], vm := .none },
  { cls := 16, slots := #[.long (-98)], vm := .none },
  { cls := 16, slots := #[.long (-97)], vm := .none },
  { cls := 16, slots := #[.long (-96)], vm := .none },
  { cls := 16, slots := #[.long (-95)], vm := .none },
  { cls := 16, slots := #[.long (-94)], vm := .none },
  { cls := 16, slots := #[.long (-93)], vm := .none },
  { cls := 16, slots := #[.long (-92)], vm := .none },
  { cls := 16, slots := #[.long (-91)], vm := .none },
  { cls := 16, slots := #[.long (-90)], vm := .none },
  { cls := 16, slots := #[.long (-89)], vm := .none },
  { cls := 16, slots := #[.long (-88)], vm := .none },
  { cls := 16, slots := #[.long (-87)], vm := .none },
  { cls := 16, slots := #[.long (-86)], vm := .none },
  { cls := 16, slots := #[.long (-85)], vm := .none },
  { cls := 16, slots := #[.long (-84)], vm := .none },
  { cls := 16, slots := #[.long (-83)], vm := .none },
  { cls := 16, slots := #[.long (-82)], vm := .none },
  { cls := 16, slots := #[.long (-81)], vm := .none },
  { cls := 16, slots := #[.long (-80)], vm := .none },
  { cls := 16, slots := #[.long (-79)], vm := .none },
  { cls := 16, slots := #[.long (-78)], vm := .none },
  { cls := 16, slots := #[.long (-77)], vm := .none },
  { cls := 16, slots := #[.long (-76)], vm := .none },
  { cls := 16, slots := #[.long (-75)], vm := .none },
  { cls := 16, slots := #[.long (-74)], vm := .none },
  { cls := 16, slots := #[.long (-73)], vm := .none },
  { cls := 16, slots := #[.long (-72)], vm := .none },
  { cls := 16, slots := #[.long (-71)], vm := .none },
  { cls := 16, slots := #[.long (-70)], vm := .none },
  { cls := 16, slots := #[.long (-69)], vm := .none },
  { cls := 16, slots := #[.long (-68)], vm := .none },
  { cls := 16, slots := #[.long (-67)], vm := .none },
  { cls := 16, slots := #[.long (-66)], vm := .none },
  { cls := 16, slots := #[.long (-65)], vm := .none },
  { cls := 16, slots := #[.long (-64)], vm := .none },
  { cls := 16, slots := #[.long (-63)], vm := .none },
  { cls := 16, slots := #[.long (-62)], vm := .none },
  { cls := 16, slots := #[.long (-61)], vm := .none },
  { cls := 16, slots := #[.long (-60)], vm := .none },
  { cls := 16, slots := #[.long (-59)], vm := .none },
  { cls := 16, slots := #[.long (-58)], vm := .none },
  { cls := 16, slots := #[.long (-57)], vm := .none },
  { cls := 16, slots := #[.long (-56)], vm := .none },
  { cls := 16, slots := #[.long (-55)], vm := .none },
  { cls := 16, slots := #[.long (-54)], vm := .none },
  { cls := 16, slots := #[.long (-53)], vm := .none },
  { cls := 16, slots := #[.long (-52)], vm := .none },
  { cls := 16, slots := #[.long (-51)], vm := .none },
  { cls := 16, slots := #[.long (-50)], vm := .none },
  { cls := 16, slots := #[.long (-49)], vm := .none },
  { cls := 16, slots := #[.long (-48)], vm := .none },
  { cls := 16, slots := #[.long (-47)], vm := .none },
  { cls := 16, slots := #[.long (-46)], vm := .none },
  { cls := 16, slots := #[.long (-45)], vm := .none },
  { cls := 16, slots := #[.long (-44)], vm := .none },
  { cls := 16, slots := #[.long (-43)], vm := .none },
  { cls := 16, slots := #[.long (-42)], vm := .none },
  { cls := 16, slots := #[.long (-41)], vm := .none },
  { cls := 16, slots := #[.long (-40)], vm := .none },
  { cls := 16, slots := #[.long (-39)], vm := .none },
  { cls := 16, slots := #[.long (-38)], vm := .none },
  { cls := 16, slots := #[.long (-37)], vm := .none },
  { cls := 16, slots := #[.long (-36)], vm := .none },
  { cls := 16, slots := #[.long (-35)], vm := .none },
  { cls := 16, slots := #[.long (-34)], vm := .none },
  { cls := 16, slots := #[.long (-33)], vm := .none },
  { cls := 16, slots := #[.long (-32)], vm := .none },
  { cls := 16, slots := #[.long (-31)], vm := .none },
  { cls := 16, slots := #[.long (-30)], vm := .none },
  { cls := 16, slots := #[.long (-29)], vm := .none },
  { cls := 16, slots := #[.long (-28)], vm := .none },
  { cls := 16, slots := #[.long (-27)], vm := .none },
  { cls := 16, slots := #[.long (-26)], vm := .none },
  { cls := 16, slots := #[.long (-25)], vm := .none },
  { cls := 16, slots := #[.long (-24)], vm := .none },
  { cls := 16, slots := #[.long (-23)], vm := .none },
  { cls := 16, slots := #[.long (-22)], vm := .none },
  { cls := 16, slots := #[.long (-21)], vm := .none },
  { cls := 16, slots := #[.long (-20)], vm := .none },
  { cls := 16, slots := #[.long (-19)], vm := .none },
  { cls := 16, slots := #[.long (-18)], vm := .none },
  { cls := 16, slots := #[.long (-17)], vm := .none },
  { cls := 16, slots := #[.long (-16)], vm := .none },
  { cls := 16, slots := #[.long (-15)], vm := .none },
  { cls := 16, slots := #[.long (-14)], vm := .none },
  { cls := 16, slots := #[.long (-13)], vm := .none },
  { cls := 16, slots := #[.long (-12)], vm := .none },
  { cls := 16, slots := #[.long (-11)], vm := .none },
  { cls := 16, slots := #[.long (-10)], vm := .none },
  { cls := 16, slots := #[.long (-9)], vm := .none },
  { cls := 16, slots := #[.long (-8)], vm := .none },
  { cls := 16, slots := #[.long (-7)], vm := .none },
  { cls := 16, slots := #[.long (-6)], vm := .none },
  { cls := 16, slots := #[.long (-5)], vm := .none },
  { cls := 16, slots := #[.long (-4)], vm := .none },
  { cls := 16, slots := #[.long (-3)], vm := .none },
  { cls := 16, slots := #[.long (-2)], vm := .none },
  { cls := 16, slots := #[.long (-1)], vm := .none },
  { cls := 16, slots := #[.long 0], vm := .none },
  { cls := 16, slots := #[.long 1], vm := .none },
  { cls := 16, slots := #[.long 2], vm := .none },
  { cls := 16, slots := #[.long 3], vm := .none },
  { cls := 16, slots := #[.long 4], vm := .none },
  { cls := 16, slots := #[.long 5], vm := .none },
  { cls := 16, slots := #[.long 6], vm := .none },
  { cls := 16, slots := #[.long 7], vm := .none },
  { cls := 16, slots := #[.long 8], vm := .none },
  { cls := 16, slots := #[.long 9], vm := .none },
  { cls := 16, slots := #[.long 10], vm := .none },
  { cls := 16, slots := #[.long 11], vm := .none },
  { cls := 16, slots := #[.long 12], vm := .none },
  { cls := 16, slots := #[.long 13], vm := .none },
  { cls := 16, slots := #[.long 14], vm := .none },
  { cls := 16, slots := #[.long 15], vm := .none },
  { cls := 16, slots := #[.long 16], vm := .none },
  { cls := 16, slots := #[.long 17], vm := .none },
  { cls := 16, slots := #[.long 18], vm := .none },
  { cls := 16, slots := #[.long 19], vm := .none },
  { cls := 16, slots := #[.long 20], vm := .none },
  { cls := 16, slots := #[.long 21], vm := .none },
  { cls := 16, slots := #[.long 22], vm := .none },
  { cls := 16, slots := #[.long 23], vm := .none },
  { cls := 16, slots := #[.long 24], vm := .none },
  { cls := 16, slots := #[.long 25], vm := .none },
  { cls := 16, slots := #[.long 26], vm := .none },
  { cls := 16, slots := #[.long 27], vm := .none },
  { cls := 16, slots := #[.long 28], vm := .none },
  { cls := 16, slots := #[.long 29], vm := .none },
  { cls := 16, slots := #[.long 30], vm := .none },
  { cls := 16, slots := #[.long 31], vm := .none },
  { cls := 16, slots := #[.long 32], vm := .none },
  { cls := 16, slots := #[.long 33], vm := .none },
  { cls := 16, slots := #[.long 34], vm := .none },
  { cls := 16, slots := #[.long 35], vm := .none },
  { cls := 16, slots := #[.long 36], vm := .none },
  { cls := 16, slots := #[.long 37], vm := .none },
  { cls := 16, slots := #[.long 38], vm := .none },
  { cls := 16, slots := #[.long 39], vm := .none },
  { cls := 16, slots := #[.long 40], vm := .none },
  { cls := 16, slots := #[.long 41], vm := .none },
  { cls := 16, slots := #[.long 42], vm := .none },
  { cls := 16, slots := #[.long 43], vm := .none },
  { cls := 16, slots := #[.long 44], vm := .none },
  { cls := 16, slots := #[.long 45], vm := .none },
  { cls := 16, slots := #[.long 46], vm := .none },
  { cls := 16, slots := #[.long 47], vm := .none },
  { cls := 16, slots := #[.long 48], vm := .none },
  { cls := 16, slots := #[.long 49], vm := .none },
  { cls := 16, slots := #[.long 50], vm := .none },
  { cls := 16, slots := #[.long 51], vm := .none },
  { cls := 16, slots := #[.long 52], vm := .none },
  { cls := 16, slots := #[.long 53], vm := .none },
  { cls := 16, slots := #[.long 54], vm := .none },
  { cls := 16, slots := #[.long 55], vm := .none },
  { cls := 16, slots := #[.long 56], vm := .none },
  { cls := 16, slots := #[.long 57], vm := .none },
  { cls := 16, slots := #[.long 58], vm := .none },
  { cls := 16, slots := #[.long 59], vm := .none },
  { cls := 16, slots := #[.long 60], vm := .none },
  { cls := 16, slots := #[.long 61], vm := .none },
  { cls := 16, slots := #[.long 62], vm := .none },
  { cls := 16, slots := #[.long 63], vm := .none },
  { cls := 16, slots := #[.long 64], vm := .none },
  { cls := 16, slots := #[.long 65], vm := .none },
  { cls := 16, slots := #[.long 66], vm := .none },
  { cls := 16, slots := #[.long 67], vm := .none },
  { cls := 16, slots := #[.long 68], vm := .none },
  { cls := 16, slots := #[.long 69], vm := .none },
  { cls := 16, slots := #[.long 70], vm := .none },
  { cls := 16, slots := #[.long 71], vm := .none },
  { cls := 16, slots := #[.long 72], vm := .none },
  { cls := 16, slots := #[.long 73], vm := .none },
  { cls := 16, slots := #[.long 74], vm := .none },
  { cls := 16, slots := #[.long 75], vm := .none },
  { cls := 16, slots := #[.long 76], vm := .none },
  { cls := 16, slots := #[.long 77], vm := .none },
  { cls := 16, slots := #[.long 78], vm := .none },
  { cls := 16, slots := #[.long 79], vm := .none },
  { cls := 16, slots := #[.long 80], vm := .none },
  { cls := 16, slots := #[.long 81], vm := .none },
  { cls := 16, slots := #[.long 82], vm := .none },
  { cls := 16, slots := #[.long 83], vm := .none },
  { cls := 16, slots := #[.long 84], vm := .none },
  { cls := 16, slots := #[.long 85], vm := .none },
  { cls := 16, slots := #[.long 86], vm := .none },
  { cls := 16, slots := #[.long 87], vm := .none },
  { cls := 16, slots := #[.long 88], vm := .none },
  { cls := 16, slots := #[.long 89], vm := .none },
  { cls := 16, slots := #[.long 90], vm := .none },
  { cls := 16, slots := #[.long 91], vm := .none },
  { cls := 16, slots := #[.long 92], vm := .none },
  { cls := 16, slots := #[.long 93], vm := .none },
  { cls := 16, slots := #[.long 94], vm := .none },
  { cls := 16, slots := #[.long 95], vm := .none },
  { cls := 16, slots := #[.long 96], vm := .none },
  { cls := 16, slots := #[.long 97], vm := .none },
  { cls := 16, slots := #[.long 98], vm := .none },
  { cls := 16, slots := #[.long 99], vm := .none },
  { cls := 16, slots := #[.long 100], vm := .none },
  { cls := 16, slots := #[.long 101], vm := .none },
  { cls := 16, slots := #[.long 102], vm := .none },
  { cls := 16, slots := #[.long 103], vm := .none },
  { cls := 16, slots := #[.long 104], vm := .none },
  { cls := 16, slots := #[.long 105], vm := .none },
  { cls := 16, slots := #[.long 106], vm := .none },
  { cls := 16, slots := #[.long 107], vm := .none },
  { cls := 16, slots := #[.long 108], vm := .none },
  { cls := 16, slots := #[.long 109], vm := .none },
  { cls := 16, slots := #[.long 110], vm := .none },
  { cls := 16, slots := #[.long 111], vm := .none },
  { cls := 16, slots := #[.long 112], vm := .none },
  { cls := 16, slots := #[.long 113], vm := .none },
  { cls := 16, slots := #[.long 114], vm := .none },
  { cls := 16, slots := #[.long 115], vm := .none },
  { cls := 16, slots := #[.long 116], vm := .none },
  { cls := 16, slots := #[.long 117], vm := .none },
  { cls := 16, slots := #[.long 118], vm := .none },
  { cls := 16, slots := #[.long 119], vm := .none },
  { cls := 16, slots := #[.long 120], vm := .none },
  { cls := 16, slots := #[.long 121], vm := .none },
  { cls := 16, slots := #[.long 122], vm := .none },
  { cls := 16, slots := #[.long 123], vm := .none },
  { cls := 16, slots := #[.long 124], vm := .none },
  { cls := 16, slots := #[.long 125], vm := .none },
  { cls := 16, slots := #[.long 126], vm := .none },
  { cls := 16, slots := #[.long 127], vm := .none },
  { cls := 29, slots := #[.ref 5, .int 0], vm := .none },
  { cls := 46, slots := #[], vm := .none },
  { cls := 46, slots := #[], vm := .none },
  { cls := 0, slots := #[], vm := .none }]
def classes : Array Class := #[k0, k1, k2, k3, k4, k5, k6, k7, k8, k9, k10, k11, k12, k13, k14, k15, k16, k17, k18, k19, k20, k21, k22, k23, k24, k25, k26, k27, k28, k29, k30, k31, k32, k33, k34, k35, k36, k37, k38, k39, k40, k41, k42, k43, k44, k45, k46]
def interned : List (Array UInt16 × Addr) := []
def slotsUsed : Nat := 531
def theMethod : MethodId := ⟨1, 1⟩
def args0 : Array Value := #[.long 5, .int 1, .int 2, .long 300, .long 7, .int 5]
def aboutOver (below : List Frame) : State where
  vm := { classes := classes, interned := interned.toArray }
  heap := heap
  slotsUsed := slotsUsed
  threads := #[{ frames := .invoking theMethod args0 :: below }]
def below0 : List Frame := [.native { method := ⟨0, 0⟩, args := #[] }]
def about1 : State := aboutOver below0
def p0 : Program := .bare "" "" ""
def e0 : Env := launch0.env 0 0 0
theorem w_frames : about1.frames = Frame.invoking theMethod args0 :: below0 := rfl
set_option maxRecDepth 65536 in
theorem w_args : argsFit about1.vm theMethod args0 = true := by decide +kernel
set_option maxRecDepth 65536 in
theorem w_heap : heapFits about1 = true := by decide +kernel
set_option maxRecDepth 65536 in
theorem w_runnable : about1.curStatus? = some .runnable := by decide +kernel
set_option maxRecDepth 65536 in
theorem w_alone : about1.alone = true := by decide +kernel
set_option maxRecDepth 65536 in
theorem w_named : about1.methodNamed? x = some theMethod := by decide +kernel
set_option maxRecDepth 65536 in
theorem w_hears : about1.hears theMethod below0 = true := by decide +kernel
set_option maxRecDepth 65536 in
theorem w_ripe : about1.ripe theMethod args0 below0 = true := by decide +kernel
theorem w_running : about1.status = .running := rfl
set_option maxRecDepth 65536 in
theorem w_room : about1.hasRoom e0.platform room_1 = true :=
  launch0.hasRoom_least _ room_1 (by decide +kernel) (by decide +kernel) (by decide +kernel) (by decide +kernel) (by decide +kernel) (by decide +kernel)
theorem allAtoms_all (ts : List Jvm.Cond) (a : Array Jvm.Value) (st : Jvm.State) : (allAtoms ts).before a st = ts.all (fun c => c.before a st) := by
  induction ts with
  | nil => rfl
  | cons c t ih =>
    show (Jvm.Cond.and c (allAtoms t)).before a st = _
    rw [Jvm.Cond.before_and, ih, List.all_cons]
def words1 : List Jvm.Cond := Jvm.Cond.code x code maxLocals ret :: tables_1
/-- a 'code' word, met by the world's own term for the bytes: nothing is compared byte by byte -/
theorem code_word {y : MethodName} {bytes : ByteArray} {mx : Nat} {rt : Option FieldType} {a : Array Value} {s : State} {m : MethodId} {meth : Method} {c : Code} (h1 : s.methodNamed? y = some m) (h2 : s.vm.method? m = some meth) (h3 : meth.code = some c) (h4 : c.code = bytes)
    (h5 : (c.maxLocals == mx && c.exceptionTable.isEmpty && decide (c.maxStack ≤ mostOperands) && decide (meth.sig.returnType = rt) && !meth.locks && decide (parseMethodDescriptor y.desc = some meth.sig)) = true) : (Jvm.Cond.code y bytes mx rt).before a s = true := by
  simp only [Bool.and_eq_true, beq_iff_eq, Bool.not_eq_true', decide_eq_true_eq] at h5
  obtain ⟨⟨⟨⟨⟨g1, g2⟩, g3⟩, g4⟩, g5⟩, g6⟩ := h5
  simp [Cond.before, Cond.holds, Cond.value, h1, h2, h3, h4, g1, g2, g3, g4, g5, g6]
def isCode : Jvm.Cond → Bool
  | .code _ _ _ _ => true
  | _ => false
theorem all_split {L : List Jvm.Cond} {P : Jvm.Cond → Bool} (h1 : L.all (fun c => isCode c || P c) = true) (h2 : ∀ c ∈ L.filter isCode, P c = true) : L.all P = true := by
  refine List.all_eq_true.mpr fun c hc => ?_
  have h := List.all_eq_true.mp h1 c hc
  rcases Bool.eq_false_or_eq_true (isCode c) with hi | hi
  · exact h2 c (List.mem_filter.mpr ⟨hc, hi⟩)
  · simpa [hi] using h
set_option maxRecDepth 65536 in
theorem w_c0 : (Jvm.Cond.code x code maxLocals ret).before args0 about1 = true := code_word (m := ⟨1, 1⟩) (meth := k1m1) (c := k1c1) (by decide +kernel) rfl rfl rfl (by decide +kernel)
set_option maxRecDepth 65536 in
theorem w_c1 : (Jvm.Cond.code ({ cls := "java/util/ArrayList", name := "<init>", desc := "()V" } : Jvm.MethodName) jdk_38_method_2_code (1 : Nat) (Option.none : Option Jvm.ClassFile.FieldType)).before args0 about1 = true := code_word (m := ⟨11, 0⟩) (meth := k11m0) (c := k11c0) (by decide +kernel) rfl rfl rfl (by decide +kernel)
set_option maxRecDepth 65536 in
theorem w_c2 : (Jvm.Cond.code ({ cls := "java/util/AbstractList", name := "<init>", desc := "()V" } : Jvm.MethodName) jdk_39_method_1_code (1 : Nat) (Option.none : Option Jvm.ClassFile.FieldType)).before args0 about1 = true := code_word (m := ⟨7, 0⟩) (meth := k7m0) (c := k7c0) (by decide +kernel) rfl rfl rfl (by decide +kernel)
set_option maxRecDepth 65536 in
theorem w_c3 : (Jvm.Cond.code ({ cls := "java/util/AbstractCollection", name := "<init>", desc := "()V" } : Jvm.MethodName) jdk_22_method_1_code (1 : Nat) (Option.none : Option Jvm.ClassFile.FieldType)).before args0 about1 = true := code_word (m := ⟨4, 0⟩) (meth := k4m0) (c := k4c0) (by decide +kernel) rfl rfl rfl (by decide +kernel)
set_option maxRecDepth 65536 in
theorem w_c4 : (Jvm.Cond.code ({ cls := "java/lang/Object", name := "<init>", desc := "()V" } : Jvm.MethodName) object_method_1_code (1 : Nat) (Option.none : Option Jvm.ClassFile.FieldType)).before args0 about1 = true := code_word (m := ⟨0, 0⟩) (meth := k0m0) (c := k0c0) (by decide +kernel) rfl rfl rfl (by decide +kernel)
set_option maxRecDepth 65536 in
theorem w_c5 : (Jvm.Cond.code ({ cls := "java/lang/Long", name := "valueOf", desc := "(J)Ljava/lang/Long;" } : Jvm.MethodName) jdk_35_method_24_code (3 : Nat) (Option.some (Jvm.ClassFile.FieldType.object "java/lang/Long"))).before args0 about1 = true := code_word (m := ⟨16, 0⟩) (meth := k16m0) (c := k16c0) (by decide +kernel) rfl rfl rfl (by decide +kernel)
set_option maxRecDepth 65536 in
theorem w_c6 : (Jvm.Cond.code ({ cls := "java/lang/Long", name := "<init>", desc := "(J)V" } : Jvm.MethodName) jdk_35_method_26_code (3 : Nat) (Option.none : Option Jvm.ClassFile.FieldType)).before args0 about1 = true := code_word (m := ⟨16, 1⟩) (meth := k16m1) (c := k16c1) (by decide +kernel) rfl rfl rfl (by decide +kernel)
set_option maxRecDepth 65536 in
theorem w_c7 : (Jvm.Cond.code ({ cls := "java/lang/Number", name := "<init>", desc := "()V" } : Jvm.MethodName) jdk_18_method_1_code (1 : Nat) (Option.none : Option Jvm.ClassFile.FieldType)).before args0 about1 = true := code_word (m := ⟨12, 0⟩) (meth := k12m0) (c := k12c0) (by decide +kernel) rfl rfl rfl (by decide +kernel)
set_option maxRecDepth 65536 in
theorem w_c8 : (Jvm.Cond.code ({ cls := "java/util/ArrayList", name := "add", desc := "(Ljava/lang/Object;)Z" } : Jvm.MethodName) jdk_38_method_25_code (2 : Nat) (Option.some Jvm.ClassFile.FieldType.boolean)).before args0 about1 = true := code_word (m := ⟨11, 6⟩) (meth := k11m6) (c := k11c6) (by decide +kernel) rfl rfl rfl (by decide +kernel)
set_option maxRecDepth 65536 in
theorem w_c9 : (Jvm.Cond.code ({ cls := "java/util/ArrayList", name := "add", desc := "(Ljava/lang/Object;[Ljava/lang/Object;I)V" } : Jvm.MethodName) jdk_38_method_24_code (4 : Nat) (Option.none : Option Jvm.ClassFile.FieldType)).before args0 about1 = true := code_word (m := ⟨11, 5⟩) (meth := k11m5) (c := k11c5) (by decide +kernel) rfl rfl rfl (by decide +kernel)
set_option maxRecDepth 65536 in
theorem w_c10 : (Jvm.Cond.code ({ cls := "java/util/ArrayList", name := "grow", desc := "()[Ljava/lang/Object;" } : Jvm.MethodName) jdk_38_method_7_code (1 : Nat) (Option.some (Jvm.ClassFile.FieldType.array (Jvm.ClassFile.FieldType.object "java/lang/Object")))).before args0 about1 = true := code_word (m := ⟨11, 2⟩) (meth := k11m2) (c := k11c2) (by decide +kernel) rfl rfl rfl (by decide +kernel)
set_option maxRecDepth 65536 in
theorem w_c11 : (Jvm.Cond.code ({ cls := "java/util/ArrayList", name := "grow", desc := "(I)[Ljava/lang/Object;" } : Jvm.MethodName) jdk_38_method_6_code (4 : Nat) (Option.some (Jvm.ClassFile.FieldType.array (Jvm.ClassFile.FieldType.object "java/lang/Object")))).before args0 about1 = true := code_word (m := ⟨11, 1⟩) (meth := k11m1) (c := k11c1) (by decide +kernel) rfl rfl rfl (by decide +kernel)
set_option maxRecDepth 65536 in
theorem w_c12 : (Jvm.Cond.code ({ cls := "java/lang/Math", name := "max", desc := "(II)I" } : Jvm.MethodName) jdk_29_method_65_code (2 : Nat) (Option.some Jvm.ClassFile.FieldType.int)).before args0 about1 = true := code_word (m := ⟨17, 1⟩) (meth := k17m1) (c := k17c1) (by decide +kernel) rfl rfl rfl (by decide +kernel)
set_option maxRecDepth 65536 in
theorem w_c13 : (Jvm.Cond.code ({ cls := "com/example/regent/regent/controller/Event$MasterChanged", name := "<init>", desc := "(Ljava/lang/String;Ljava/lang/Long;ILjava/util/List;I)V" } : Jvm.MethodName) prog_53_method_1_code (6 : Nat) (Option.none : Option Jvm.ClassFile.FieldType)).before args0 about1 = true := code_word (m := ⟨22, 0⟩) (meth := k22m0) (c := k22c0) (by decide +kernel) rfl rfl rfl (by decide +kernel)
set_option maxRecDepth 65536 in
theorem w_c14 : (Jvm.Cond.code ({ cls := "java/lang/Record", name := "<init>", desc := "()V" } : Jvm.MethodName) jdk_30_method_1_code (1 : Nat) (Option.none : Option Jvm.ClassFile.FieldType)).before args0 about1 = true := code_word (m := ⟨19, 0⟩) (meth := k19m0) (c := k19c0) (by decide +kernel) rfl rfl rfl (by decide +kernel)
set_option maxRecDepth 65536 in
theorem w_c15 : (Jvm.Cond.code ({ cls := "java/util/List", name := "copyOf", desc := "(Ljava/util/Collection;)Ljava/util/List;" } : Jvm.MethodName) jdk_40_method_48_code (1 : Nat) (Option.some (Jvm.ClassFile.FieldType.object "java/util/List"))).before args0 about1 = true := code_word (m := ⟨6, 4⟩) (meth := k6m4) (c := k6c4) (by decide +kernel) rfl rfl rfl (by decide +kernel)
set_option maxRecDepth 65536 in
theorem w_c16 : (Jvm.Cond.code ({ cls := "java/util/ImmutableCollections", name := "listCopy", desc := "(Ljava/util/Collection;)Ljava/util/List;" } : Jvm.MethodName) jdk_56_method_3_code (2 : Nat) (Option.some (Jvm.ClassFile.FieldType.object "java/util/List"))).before args0 about1 = true := code_word (m := ⟨25, 1⟩) (meth := k25m1) (c := k25c1) (by decide +kernel) rfl rfl rfl (by decide +kernel)
set_option maxRecDepth 65536 in
theorem w_c17 : (Jvm.Cond.code ({ cls := "java/util/ArrayList", name := "isEmpty", desc := "()Z" } : Jvm.MethodName) jdk_38_method_9_code (1 : Nat) (Option.some Jvm.ClassFile.FieldType.boolean)).before args0 about1 = true := code_word (m := ⟨11, 3⟩) (meth := k11m3) (c := k11c3) (by decide +kernel) rfl rfl rfl (by decide +kernel)
set_option maxRecDepth 65536 in
theorem w_c18 : (Jvm.Cond.code ({ cls := "java/util/ArrayList", name := "toArray", desc := "()[Ljava/lang/Object;" } : Jvm.MethodName) jdk_38_method_16_code (1 : Nat) (Option.some (Jvm.ClassFile.FieldType.array (Jvm.ClassFile.FieldType.object "java/lang/Object")))).before args0 about1 = true := code_word (m := ⟨11, 4⟩) (meth := k11m4) (c := k11c4) (by decide +kernel) rfl rfl rfl (by decide +kernel)
set_option maxRecDepth 65536 in
theorem w_c19 : (Jvm.Cond.code ({ cls := "java/util/Arrays", name := "copyOf", desc := "([Ljava/lang/Object;I)[Ljava/lang/Object;" } : Jvm.MethodName) jdk_65_method_119_code (2 : Nat) (Option.some (Jvm.ClassFile.FieldType.array (Jvm.ClassFile.FieldType.object "java/lang/Object")))).before args0 about1 = true := code_word (m := ⟨30, 1⟩) (meth := k30m1) (c := k30c1) (by decide +kernel) rfl rfl rfl (by decide +kernel)
set_option maxRecDepth 65536 in
theorem w_c20 : (Jvm.Cond.code ({ cls := "java/util/Arrays", name := "copyOf", desc := "([Ljava/lang/Object;ILjava/lang/Class;)[Ljava/lang/Object;" } : Jvm.MethodName) jdk_65_method_120_code (4 : Nat) (Option.some (Jvm.ClassFile.FieldType.array (Jvm.ClassFile.FieldType.object "java/lang/Object")))).before args0 about1 = true := code_word (m := ⟨30, 2⟩) (meth := k30m2) (c := k30c2) (by decide +kernel) rfl rfl rfl (by decide +kernel)
set_option maxRecDepth 65536 in
theorem w_c21 : (Jvm.Cond.code ({ cls := "java/lang/Math", name := "min", desc := "(II)I" } : Jvm.MethodName) jdk_29_method_69_code (2 : Nat) (Option.some Jvm.ClassFile.FieldType.int)).before args0 about1 = true := code_word (m := ⟨17, 2⟩) (meth := k17m2) (c := k17c2) (by decide +kernel) rfl rfl rfl (by decide +kernel)
set_option maxRecDepth 65536 in
theorem w_c22 : (Jvm.Cond.code ({ cls := "java/util/List", name := "of", desc := "([Ljava/lang/Object;)Ljava/util/List;" } : Jvm.MethodName) jdk_40_method_47_code (2 : Nat) (Option.some (Jvm.ClassFile.FieldType.object "java/util/List"))).before args0 about1 = true := code_word (m := ⟨6, 3⟩) (meth := k6m3) (c := k6c3) (by decide +kernel) rfl rfl rfl (by decide +kernel)
set_option maxRecDepth 65536 in
theorem w_c23 : (Jvm.Cond.code ({ cls := "java/util/ImmutableCollections$List12", name := "<init>", desc := "(Ljava/lang/Object;)V" } : Jvm.MethodName) jdk_44_method_1_code (2 : Nat) (Option.none : Option Jvm.ClassFile.FieldType)).before args0 about1 = true := code_word (m := ⟨28, 0⟩) (meth := k28m0) (c := k28c0) (by decide +kernel) rfl rfl rfl (by decide +kernel)
set_option maxRecDepth 65536 in
theorem w_c24 : (Jvm.Cond.code ({ cls := "java/util/ImmutableCollections$AbstractImmutableList", name := "<init>", desc := "()V" } : Jvm.MethodName) jdk_46_method_1_code (1 : Nat) (Option.none : Option Jvm.ClassFile.FieldType)).before args0 about1 = true := code_word (m := ⟨27, 0⟩) (meth := k27m0) (c := k27c0) (by decide +kernel) rfl rfl rfl (by decide +kernel)
set_option maxRecDepth 65536 in
theorem w_c25 : (Jvm.Cond.code ({ cls := "java/util/ImmutableCollections$AbstractImmutableCollection", name := "<init>", desc := "()V" } : Jvm.MethodName) jdk_47_method_1_code (1 : Nat) (Option.none : Option Jvm.ClassFile.FieldType)).before args0 about1 = true := code_word (m := ⟨26, 0⟩) (meth := k26m0) (c := k26c0) (by decide +kernel) rfl rfl rfl (by decide +kernel)
set_option maxRecDepth 65536 in
theorem w_c26 : (Jvm.Cond.code ({ cls := "java/util/Objects", name := "requireNonNull", desc := "(Ljava/lang/Object;)Ljava/lang/Object;" } : Jvm.MethodName) jdk_31_method_10_code (1 : Nat) (Option.some (Jvm.ClassFile.FieldType.object "java/lang/Object"))).before args0 about1 = true := code_word (m := ⟨32, 1⟩) (meth := k32m1) (c := k32c1) (by decide +kernel) rfl rfl rfl (by decide +kernel)
set_option maxRecDepth 65536 in
theorem w_c27 : (Jvm.Cond.code ({ cls := "com/example/regent/regent/controller/Group", name := "<init>", desc := "(Ljava/lang/String;)V" } : Jvm.MethodName) prog_56_method_1_code (2 : Nat) (Option.none : Option Jvm.ClassFile.FieldType)).before args0 about1 = true := code_word (m := ⟨33, 0⟩) (meth := k33m0) (c := k33c0) (by decide +kernel) rfl rfl rfl (by decide +kernel)
set_option maxRecDepth 65536 in
theorem w_c28 : (Jvm.Cond.code ({ cls := "java/util/TreeMap", name := "<init>", desc := "()V" } : Jvm.MethodName) jdk_2729_method_1_code (1 : Nat) (Option.none : Option Jvm.ClassFile.FieldType)).before args0 about1 = true := code_word (m := ⟨39, 0⟩) (meth := k39m0) (c := k39c0) (by decide +kernel) rfl rfl rfl (by decide +kernel)
set_option maxRecDepth 65536 in
theorem w_c29 : (Jvm.Cond.code ({ cls := "java/util/AbstractMap", name := "<init>", desc := "()V" } : Jvm.MethodName) jdk_71_method_1_code (1 : Nat) (Option.none : Option Jvm.ClassFile.FieldType)).before args0 about1 = true := code_word (m := ⟨35, 0⟩) (meth := k35m0) (c := k35c0) (by decide +kernel) rfl rfl rfl (by decide +kernel)
set_option maxRecDepth 65536 in
theorem w_c30 : (Jvm.Cond.code ({ cls := "java/util/List", name := "of", desc := "()Ljava/util/List;" } : Jvm.MethodName) jdk_40_method_36_code (0 : Nat) (Option.some (Jvm.ClassFile.FieldType.object "java/util/List"))).before args0 about1 = true := code_word (m := ⟨6, 2⟩) (meth := k6m2) (c := k6c2) (by decide +kernel) rfl rfl rfl (by decide +kernel)
set_option maxRecDepth 65536 in
theorem w_c31 : (Jvm.Cond.code ({ cls := "com/example/regent/regent/controller/Event$MasterChanged", name := "applyTo", desc := "(Lcom/example/regent/regent/controller/Group;)V" } : Jvm.MethodName) prog_53_method_2_code (2 : Nat) (Option.none : Option Jvm.ClassFile.FieldType)).before args0 about1 = true := code_word (m := ⟨22, 1⟩) (meth := k22m1) (c := k22c1) (by decide +kernel) rfl rfl rfl (by decide +kernel)
set_option maxRecDepth 65536 in
theorem w_c32 : (Jvm.Cond.code ({ cls := "java/lang/Long", name := "longValue", desc := "()J" } : Jvm.MethodName) jdk_35_method_31_code (1 : Nat) (Option.some Jvm.ClassFile.FieldType.long)).before args0 about1 = true := code_word (m := ⟨16, 2⟩) (meth := k16m2) (c := k16c2) (by decide +kernel) rfl rfl rfl (by decide +kernel)
set_option maxRecDepth 65536 in
theorem w_c33 : (Jvm.Cond.code ({ cls := "java/util/ImmutableCollections$List12", name := "size", desc := "()I" } : Jvm.MethodName) jdk_44_method_3_code (1 : Nat) (Option.some Jvm.ClassFile.FieldType.int)).before args0 about1 = true := code_word (m := ⟨28, 2⟩) (meth := k28m2) (c := k28c2) (by decide +kernel) rfl rfl rfl (by decide +kernel)
set_option maxRecDepth 65536 in
theorem w_c34 : (Jvm.Cond.code ({ cls := "java/util/ImmutableCollections$List12", name := "get", desc := "(I)Ljava/lang/Object;" } : Jvm.MethodName) jdk_44_method_5_code (2 : Nat) (Option.some (Jvm.ClassFile.FieldType.object "java/lang/Object"))).before args0 about1 = true := code_word (m := ⟨28, 3⟩) (meth := k28m3) (c := k28c3) (by decide +kernel) rfl rfl rfl (by decide +kernel)
set_option maxRecDepth 65536 in
theorem w_c35 : (Jvm.Cond.code ({ cls := "java/util/ImmutableCollections$ListN", name := "size", desc := "()I" } : Jvm.MethodName) jdk_45_method_3_code (1 : Nat) (Option.some Jvm.ClassFile.FieldType.int)).before args0 about1 = true := code_word (m := ⟨29, 0⟩) (meth := k29m0) (c := k29c0) (by decide +kernel) rfl rfl rfl (by decide +kernel)
set_option maxRecDepth 65536 in
theorem w_c36 : (Jvm.Cond.code ({ cls := "java/util/ImmutableCollections$List12", name := "<init>", desc := "(Ljava/lang/Object;Ljava/lang/Object;)V" } : Jvm.MethodName) jdk_44_method_2_code (3 : Nat) (Option.none : Option Jvm.ClassFile.FieldType)).before args0 about1 = true := code_word (m := ⟨28, 1⟩) (meth := k28m1) (c := k28c1) (by decide +kernel) rfl rfl rfl (by decide +kernel)
def codes1 : List Jvm.Cond := [Jvm.Cond.code x code maxLocals ret, Jvm.Cond.code ({ cls := "java/util/ArrayList", name := "<init>", desc := "()V" } : Jvm.MethodName) jdk_38_method_2_code (1 : Nat) (Option.none : Option Jvm.ClassFile.FieldType), Jvm.Cond.code ({ cls := "java/util/AbstractList", name := "<init>", desc := "()V" } : Jvm.MethodName) jdk_39_method_1_code (1 : Nat) (Option.none : Option Jvm.ClassFile.FieldType), Jvm.Cond.code ({ cls := "java/util/AbstractCollection", name := "<init>", desc := "()V" } : Jvm.MethodName) jdk_22_method_1_code (1 : Nat) (Option.none : Option Jvm.ClassFile.FieldType), Jvm.Cond.code ({ cls := "java/lang/Object", name := "<init>", desc := "()V" } : Jvm.MethodName) object_method_1_code (1 : Nat) (Option.none : Option Jvm.ClassFile.FieldType), Jvm.Cond.code ({ cls := "java/lang/Long", name := "valueOf", desc := "(J)Ljava/lang/Long;" } : Jvm.MethodName) jdk_35_method_24_code (3 : Nat) (Option.some (Jvm.ClassFile.FieldType.object "java/lang/Long")), Jvm.Cond.code ({ cls := "java/lang/Long", name := "<init>", desc := "(J)V" } : Jvm.MethodName) jdk_35_method_26_code (3 : Nat) (Option.none : Option Jvm.ClassFile.FieldType), Jvm.Cond.code ({ cls := "java/lang/Number", name := "<init>", desc := "()V" } : Jvm.MethodName) jdk_18_method_1_code (1 : Nat) (Option.none : Option Jvm.ClassFile.FieldType), Jvm.Cond.code ({ cls := "java/util/ArrayList", name := "add", desc := "(Ljava/lang/Object;)Z" } : Jvm.MethodName) jdk_38_method_25_code (2 : Nat) (Option.some Jvm.ClassFile.FieldType.boolean), Jvm.Cond.code ({ cls := "java/util/ArrayList", name := "add", desc := "(Ljava/lang/Object;[Ljava/lang/Object;I)V" } : Jvm.MethodName) jdk_38_method_24_code (4 : Nat) (Option.none : Option Jvm.ClassFile.FieldType), Jvm.Cond.code ({ cls := "java/util/ArrayList", name := "grow", desc := "()[Ljava/lang/Object;" } : Jvm.MethodName) jdk_38_method_7_code (1 : Nat) (Option.some (Jvm.ClassFile.FieldType.array (Jvm.ClassFile.FieldType.object "java/lang/Object"))), Jvm.Cond.code ({ cls := "java/util/ArrayList", name := "grow", desc := "(I)[Ljava/lang/Object;" } : Jvm.MethodName) jdk_38_method_6_code (4 : Nat) (Option.some (Jvm.ClassFile.FieldType.array (Jvm.ClassFile.FieldType.object "java/lang/Object"))), Jvm.Cond.code ({ cls := "java/lang/Math", name := "max", desc := "(II)I" } : Jvm.MethodName) jdk_29_method_65_code (2 : Nat) (Option.some Jvm.ClassFile.FieldType.int), Jvm.Cond.code ({ cls := "com/example/regent/regent/controller/Event$MasterChanged", name := "<init>", desc := "(Ljava/lang/String;Ljava/lang/Long;ILjava/util/List;I)V" } : Jvm.MethodName) prog_53_method_1_code (6 : Nat) (Option.none : Option Jvm.ClassFile.FieldType), Jvm.Cond.code ({ cls := "java/lang/Record", name := "<init>", desc := "()V" } : Jvm.MethodName) jdk_30_method_1_code (1 : Nat) (Option.none : Option Jvm.ClassFile.FieldType), Jvm.Cond.code ({ cls := "java/util/List", name := "copyOf", desc := "(Ljava/util/Collection;)Ljava/util/List;" } : Jvm.MethodName) jdk_40_method_48_code (1 : Nat) (Option.some (Jvm.ClassFile.FieldType.object "java/util/List")), Jvm.Cond.code ({ cls := "java/util/ImmutableCollections", name := "listCopy", desc := "(Ljava/util/Collection;)Ljava/util/List;" } : Jvm.MethodName) jdk_56_method_3_code (2 : Nat) (Option.some (Jvm.ClassFile.FieldType.object "java/util/List")), Jvm.Cond.code ({ cls := "java/util/ArrayList", name := "isEmpty", desc := "()Z" } : Jvm.MethodName) jdk_38_method_9_code (1 : Nat) (Option.some Jvm.ClassFile.FieldType.boolean), Jvm.Cond.code ({ cls := "java/util/ArrayList", name := "toArray", desc := "()[Ljava/lang/Object;" } : Jvm.MethodName) jdk_38_method_16_code (1 : Nat) (Option.some (Jvm.ClassFile.FieldType.array (Jvm.ClassFile.FieldType.object "java/lang/Object"))), Jvm.Cond.code ({ cls := "java/util/Arrays", name := "copyOf", desc := "([Ljava/lang/Object;I)[Ljava/lang/Object;" } : Jvm.MethodName) jdk_65_method_119_code (2 : Nat) (Option.some (Jvm.ClassFile.FieldType.array (Jvm.ClassFile.FieldType.object "java/lang/Object"))), Jvm.Cond.code ({ cls := "java/util/Arrays", name := "copyOf", desc := "([Ljava/lang/Object;ILjava/lang/Class;)[Ljava/lang/Object;" } : Jvm.MethodName) jdk_65_method_120_code (4 : Nat) (Option.some (Jvm.ClassFile.FieldType.array (Jvm.ClassFile.FieldType.object "java/lang/Object"))), Jvm.Cond.code ({ cls := "java/lang/Math", name := "min", desc := "(II)I" } : Jvm.MethodName) jdk_29_method_69_code (2 : Nat) (Option.some Jvm.ClassFile.FieldType.int), Jvm.Cond.code ({ cls := "java/util/List", name := "of", desc := "([Ljava/lang/Object;)Ljava/util/List;" } : Jvm.MethodName) jdk_40_method_47_code (2 : Nat) (Option.some (Jvm.ClassFile.FieldType.object "java/util/List")), Jvm.Cond.code ({ cls := "java/util/ImmutableCollections$List12", name := "<init>", desc := "(Ljava/lang/Object;)V" } : Jvm.MethodName) jdk_44_method_1_code (2 : Nat) (Option.none : Option Jvm.ClassFile.FieldType), Jvm.Cond.code ({ cls := "java/util/ImmutableCollections$AbstractImmutableList", name := "<init>", desc := "()V" } : Jvm.MethodName) jdk_46_method_1_code (1 : Nat) (Option.none : Option Jvm.ClassFile.FieldType), Jvm.Cond.code ({ cls := "java/util/ImmutableCollections$AbstractImmutableCollection", name := "<init>", desc := "()V" } : Jvm.MethodName) jdk_47_method_1_code (1 : Nat) (Option.none : Option Jvm.ClassFile.FieldType), Jvm.Cond.code ({ cls := "java/util/Objects", name := "requireNonNull", desc := "(Ljava/lang/Object;)Ljava/lang/Object;" } : Jvm.MethodName) jdk_31_method_10_code (1 : Nat) (Option.some (Jvm.ClassFile.FieldType.object "java/lang/Object")), Jvm.Cond.code ({ cls := "com/example/regent/regent/controller/Group", name := "<init>", desc := "(Ljava/lang/String;)V" } : Jvm.MethodName) prog_56_method_1_code (2 : Nat) (Option.none : Option Jvm.ClassFile.FieldType), Jvm.Cond.code ({ cls := "java/util/TreeMap", name := "<init>", desc := "()V" } : Jvm.MethodName) jdk_2729_method_1_code (1 : Nat) (Option.none : Option Jvm.ClassFile.FieldType), Jvm.Cond.code ({ cls := "java/util/AbstractMap", name := "<init>", desc := "()V" } : Jvm.MethodName) jdk_71_method_1_code (1 : Nat) (Option.none : Option Jvm.ClassFile.FieldType), Jvm.Cond.code ({ cls := "java/util/List", name := "of", desc := "()Ljava/util/List;" } : Jvm.MethodName) jdk_40_method_36_code (0 : Nat) (Option.some (Jvm.ClassFile.FieldType.object "java/util/List")), Jvm.Cond.code ({ cls := "com/example/regent/regent/controller/Event$MasterChanged", name := "applyTo", desc := "(Lcom/example/regent/regent/controller/Group;)V" } : Jvm.MethodName) prog_53_method_2_code (2 : Nat) (Option.none : Option Jvm.ClassFile.FieldType), Jvm.Cond.code ({ cls := "java/lang/Long", name := "longValue", desc := "()J" } : Jvm.MethodName) jdk_35_method_31_code (1 : Nat) (Option.some Jvm.ClassFile.FieldType.long), Jvm.Cond.code ({ cls := "java/util/ImmutableCollections$List12", name := "size", desc := "()I" } : Jvm.MethodName) jdk_44_method_3_code (1 : Nat) (Option.some Jvm.ClassFile.FieldType.int), Jvm.Cond.code ({ cls := "java/util/ImmutableCollections$List12", name := "get", desc := "(I)Ljava/lang/Object;" } : Jvm.MethodName) jdk_44_method_5_code (2 : Nat) (Option.some (Jvm.ClassFile.FieldType.object "java/lang/Object")), Jvm.Cond.code ({ cls := "java/util/ImmutableCollections$ListN", name := "size", desc := "()I" } : Jvm.MethodName) jdk_45_method_3_code (1 : Nat) (Option.some Jvm.ClassFile.FieldType.int), Jvm.Cond.code ({ cls := "java/util/ImmutableCollections$List12", name := "<init>", desc := "(Ljava/lang/Object;Ljava/lang/Object;)V" } : Jvm.MethodName) jdk_44_method_2_code (3 : Nat) (Option.none : Option Jvm.ClassFile.FieldType)]
set_option maxRecDepth 65536 in
theorem codes_eq : words1.filter isCode = codes1 := rfl
theorem w_codes : ∀ c ∈ words1.filter isCode, c.before args0 about1 = true := by
  rw [codes_eq]
  intro c hc
  simp only [codes1, List.mem_cons, List.not_mem_nil, or_false] at hc
  rcases hc with rfl | rfl | rfl | rfl | rfl | rfl | rfl | rfl | rfl | rfl | rfl | rfl | rfl | rfl | rfl | rfl | rfl | rfl | rfl | rfl | rfl | rfl | rfl | rfl | rfl | rfl | rfl | rfl | rfl | rfl | rfl | rfl | rfl | rfl | rfl | rfl | rfl
  · exact w_c0
  · exact w_c1
  · exact w_c2
  · exact w_c3
  · exact w_c4
  · exact w_c5
  · exact w_c6
  · exact w_c7
  · exact w_c8
  · exact w_c9
  · exact w_c10
  · exact w_c11
  · exact w_c12
  · exact w_c13
  · exact w_c14
  · exact w_c15
  · exact w_c16
  · exact w_c17
  · exact w_c18
  · exact w_c19
  · exact w_c20
  · exact w_c21
  · exact w_c22
  · exact w_c23
  · exact w_c24
  · exact w_c25
  · exact w_c26
  · exact w_c27
  · exact w_c28
  · exact w_c29
  · exact w_c30
  · exact w_c31
  · exact w_c32
  · exact w_c33
  · exact w_c34
  · exact w_c35
  · exact w_c36
set_option maxRecDepth 65536 in
theorem w_t1 : (words1.take 24).all (fun c => isCode c || c.before args0 about1) = true := by decide +kernel
set_option maxRecDepth 65536 in
theorem w_t2 : ((words1.drop 24).take 24).all (fun c => isCode c || c.before args0 about1) = true := by decide +kernel
set_option maxRecDepth 65536 in
theorem w_t3 : (((words1.drop 24).drop 24).take 24).all (fun c => isCode c || c.before args0 about1) = true := by decide +kernel
set_option maxRecDepth 65536 in
theorem w_t4 : ((((words1.drop 24).drop 24).drop 24).take 24).all (fun c => isCode c || c.before args0 about1) = true := by decide +kernel
set_option maxRecDepth 65536 in
theorem w_t5 : (((((words1.drop 24).drop 24).drop 24).drop 24).take 24).all (fun c => isCode c || c.before args0 about1) = true := by decide +kernel
set_option maxRecDepth 65536 in
theorem w_t6 : ((((((words1.drop 24).drop 24).drop 24).drop 24).drop 24).take 24).all (fun c => isCode c || c.before args0 about1) = true := by decide +kernel
set_option maxRecDepth 65536 in
theorem w_t7 : (((((((words1.drop 24).drop 24).drop 24).drop 24).drop 24).drop 24).take 24).all (fun c => isCode c || c.before args0 about1) = true := by decide +kernel
set_option maxRecDepth 65536 in
theorem w_t8 : ((((((((words1.drop 24).drop 24).drop 24).drop 24).drop 24).drop 24).drop 24).take 24).all (fun c => isCode c || c.before args0 about1) = true := by decide +kernel
set_option maxRecDepth 65536 in
theorem w_t9 : (((((((((words1.drop 24).drop 24).drop 24).drop 24).drop 24).drop 24).drop 24).drop 24).take 24).all (fun c => isCode c || c.before args0 about1) = true := by decide +kernel
set_option maxRecDepth 65536 in
theorem w_t10 : ((((((((((words1.drop 24).drop 24).drop 24).drop 24).drop 24).drop 24).drop 24).drop 24).drop 24).take 24).all (fun c => isCode c || c.before args0 about1) = true := by decide +kernel
set_option maxRecDepth 65536 in
theorem w_t11 : (((((((((((words1.drop 24).drop 24).drop 24).drop 24).drop 24).drop 24).drop 24).drop 24).drop 24).drop 24).take 24).all (fun c => isCode c || c.before args0 about1) = true := by decide +kernel
set_option maxRecDepth 65536 in
theorem w_t12 : (((((((((((words1.drop 24).drop 24).drop 24).drop 24).drop 24).drop 24).drop 24).drop 24).drop 24).drop 24).drop 24).all (fun c => isCode c || c.before args0 about1) = true := by decide +kernel
theorem w_tables : (allAtoms (Jvm.Cond.code x code maxLocals ret :: tables_1)).before args0 about1 = true := by
  rw [allAtoms_all]
  show words1.all (fun c => c.before args0 about1) = true
  refine all_split ?_ w_codes
  rw [← List.take_append_drop 24 words1, List.all_append, w_t1, ← List.take_append_drop 24 (words1.drop 24), List.all_append, w_t2, ← List.take_append_drop 24 ((words1.drop 24).drop 24), List.all_append, w_t3, ← List.take_append_drop 24 (((words1.drop 24).drop 24).drop 24), List.all_append, w_t4, ← List.take_append_drop 24 ((((words1.drop 24).drop 24).drop 24).drop 24), List.all_append, w_t5, ← List.take_append_drop 24 (((((words1.drop 24).drop 24).drop 24).drop 24).drop 24), List.all_append, w_t6, ← List.take_append_drop 24 ((((((words1.drop 24).drop 24).drop 24).drop 24).drop 24).drop 24), List.all_append, w_t7, ← List.take_append_drop 24 (((((((words1.drop 24).drop 24).drop 24).drop 24).drop 24).drop 24).drop 24), List.all_append, w_t8, ← List.take_append_drop 24 ((((((((words1.drop 24).drop 24).drop 24).drop 24).drop 24).drop 24).drop 24).drop 24), List.all_append, w_t9, ← List.take_append_drop 24 (((((((((words1.drop 24).drop 24).drop 24).drop 24).drop 24).drop 24).drop 24).drop 24).drop 24), List.all_append, w_t10, ← List.take_append_drop 24 ((((((((((words1.drop 24).drop 24).drop 24).drop 24).drop 24).drop 24).drop 24).drop 24).drop 24).drop 24), List.all_append, w_t11, w_t12]
  rfl
set_option maxRecDepth 65536 in
theorem w_rest : rest_1_c.before args0 about1 = true := by decide +kernel
set_option maxRecDepth 65536 in
theorem w_case : (Jvm.Cond.and given_1 narrow_1).before args0 about1 = true := by decide +kernel
theorem w_applies : (headSpec (Jvm.Cond.code x code maxLocals ret :: tables_1) room_1).applies x e0.platform about1 = true :=
  (Spec.applies_iff w_frames).mpr ⟨w_running, w_runnable, w_alone, w_named, w_hears, w_ripe, w_room, w_tables⟩
set_option maxRecDepth 65536 in
theorem atStart : AtStart classFile x code maxLocals ret World_1 tables_1 room_1 Calls_1 rest_1 Pre_1 launch0 p0 e0 about1 theMethod args0 below0 :=
  ⟨lists_1, trivial, launch0.admits_env _ _ _, launch0.least_env, fairChoices_fair.cas, fairChoices_fair.clock, w_frames, w_args, w_heap, w_applies, ⟨⟨46, k46, 3, by decide +kernel, rfl, rfl, _, rfl, rfl⟩, trivial⟩, w_rest, w_case⟩
end start1
theorem witness_1 : WitnessClaimed_1 := ⟨start1.p0, start1.e0, start1.about1, start1.theMethod, start1.args0, start1.below0, start1.atStart⟩
end Jvm.Pilot.@@N@@
