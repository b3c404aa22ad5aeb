import JvmDerived
import JvmDerived.Pilot.@@N@@Statement
import JvmDerived.Pilot.@@N@@Code
set_option linter.unusedVariables false
set_option linter.unusedSimpArgs false
namespace Jvm.Pilot.@@N@@
open Jvm Jvm.ClassFile Sem Op Lib Jvm.Free Jvm.Stand Jvm.LawKit Jvm.RoadKit Bundle Jvm.Pilot.@@N@@.Jvm.D
def own_Fin (p : Program) (e : Env) (below : List Frame) (E : Outcome → State → Prop) (σ : State) : Prop :=
  ∃ s₂ o, Steps p.tables e below σ s₂ ∧ s₂.status = .running ∧ Ended s₂ below o ∧ E o s₂
def own_End (s : State) (Q : Option Value → Heap → List Loc → Prop) (kc ks : Nat) (o : Outcome) (t : State) : Prop :=
  ∃ v L, o = .returned v ∧ Q v t.heap L ∧ FrameEnd s o t L kc ks
def own_Met (l : Launch) (Z : State) (y : MethodName) (bytes : ByteArray) (maxL : Nat) (ret : Option FieldType) (rm : Room) (as' : Array Value) (h : Heap) (Q : Option Value → Heap → List Loc → Prop) : Prop :=
  ∀ ws : List Jvm.Cond, MetFree l y (head1 (Jvm.Cond.code y bytes maxL ret :: ws) rm) (fun a U => a = as' ∧ Z.Warmed39 U.vm ∧ U.heap = h) (fun _ _ _ _ _ => True) (fun _ U o U' => ∃ v L, o = .returned v ∧ Q v U'.heap L ∧ FrameEnd U o U' L rm.cells rm.slots)
section Own
variable {p : Program} {l : Launch} {e : Env} {R : Room} {s : State} {m : MethodId} {args : Array Value} {below : List Frame} {meth : Method} {c : Code} {T : State} {locs : List Loc} {cells slots : Nat} {E : Outcome → State → Prop} {Q : Option Value → Heap → List Loc → Prop} {kc ks : Nat} {Z : State} {a0 : Array Value} {h : Heap} {pc : Nat} {Ls : Array Slot} {st : List Value}
theorem own_via {σ σ' : State} (h : own_Fin p e below E σ') (k : ∀ t, Steps p.tables e below σ' t → Steps p.tables e below σ t) : own_Fin p e below E σ := by
  obtain ⟨s₂, o, h1, r⟩ := h
  exact ⟨s₂, o, k _ h1, r⟩
theorem own_mono {σ : State} {Q' : Option Value → Heap → List Loc → Prop} (k : ∀ v h L, Q v h L → Q' v h L) (h : own_Fin p e below (own_End s Q kc ks) σ) : own_Fin p e below (own_End s Q' kc ks) σ := by
  obtain ⟨s₂, o, h1, h2, h3, v, L, h4, h5, r⟩ := h
  exact ⟨s₂, o, h1, h2, h3, v, L, h4, k _ _ _ h5, r⟩
theorem own_body {y : MethodName} {bytes : ByteArray} {maxL : Nat} {ret : Option FieldType} {rm : Room} {as' : Array Value} (hp : plainFor y = true) (hef : ∀ m, entryFrame m as' maxL = mkF m 0 Ls [])
    (K : ∀ (p : Program) (e : Env) (s : State) (m : MethodId) (below : List Frame) (meth : Method) (c : Code) (s₁ : State), p.tables.exec = Jvm.exec → Z.Warmed39 s.vm → c.code = bytes → c.maxLocals = maxL → s.vm.findClass y.cls = some m.cls → meth.name = y.name → meth.sig.returnType = ret → meth.locks = false →
      Stand p l e rm s m as' below meth c s₁ [] 0 0 → s₁.heap = h → own_Fin p e below (own_End s Q rm.cells rm.slots) (s₁.setTop (mkF m 0 Ls []))) : own_Met l Z y bytes maxL ret rm as' h Q := by
  intro ws
  refine MetFree.of_bodySF hp hisR ?_
  intro p e s m args below meth c s₁ Bd hml0 hP hK
  obtain ⟨rfl, hZ, hh⟩ := hP
  obtain ⟨s₂, o, h1, r⟩ := K p e s m below meth c s₁ Bd.exec hZ Bd.bytes hml0 (findClass_of_methodNamed Bd.named) (name_of_methodNamed Bd.named Bd.method).1 Bd.returns Bd.notSynchronized (Stand.of_body Bd) (by rw [← hh, Bd.state]; rfl)
  exact ⟨s₂, o, castTop (hef m) h1, r⟩
theorem own_aloadN (X : Stand p l e R s m args below meth c T locs cells slots) (hx : p.tables.exec = Jvm.exec) {k : Fin 4} {v : Value} (hd : decode c.code pc = .ok (.aload_n k, 1)) (hl : Ls[k.val]? = some (.val v)) (hv : v.isRef = true)
    (K : own_Fin p e below E (T.setTop (mkF m (pc + 1) Ls (v :: st)))) : own_Fin p e below E (T.setTop (mkF m pc Ls st)) :=
  own_via K fun t k => XS.aloadN X.here hx rfl hd hl hv k
theorem own_aload (X : Stand p l e R s m args below meth c T locs cells slots) (hx : p.tables.exec = Jvm.exec) {k : Nat} {v : Value} (hd : decode c.code pc = .ok (.aload k, 2)) (hl : Ls[k]? = some (.val v)) (hv : v.isRef = true)
    (K : own_Fin p e below E (T.setTop (mkF m (pc + 2) Ls (v :: st)))) : own_Fin p e below E (T.setTop (mkF m pc Ls st)) :=
  own_via K fun t k => XS.aload X.here hx rfl hd hl hv k
theorem own_iloadN (X : Stand p l e R s m args below meth c T locs cells slots) (hx : p.tables.exec = Jvm.exec) {k : Fin 4} {v : Int32} (hd : decode c.code pc = .ok (.iload_n k, 1)) (hl : Ls[k.val]? = some (.val (.int v)))
    (K : own_Fin p e below E (T.setTop (mkF m (pc + 1) Ls (.int v :: st)))) : own_Fin p e below E (T.setTop (mkF m pc Ls st)) :=
  own_via K fun t k => XS.iloadN X.here hx rfl hd hl k
theorem own_iload (X : Stand p l e R s m args below meth c T locs cells slots) (hx : p.tables.exec = Jvm.exec) {k : Nat} {v : Int32} (hd : decode c.code pc = .ok (.iload k, 2)) (hl : Ls[k]? = some (.val (.int v)))
    (K : own_Fin p e below E (T.setTop (mkF m (pc + 2) Ls (.int v :: st)))) : own_Fin p e below E (T.setTop (mkF m pc Ls st)) :=
  own_via K fun t k => XS.iload X.here hx rfl hd hl k
theorem own_lloadN (X : Stand p l e R s m args below meth c T locs cells slots) (hx : p.tables.exec = Jvm.exec) {k : Fin 4} {v : Int64} (hd : decode c.code pc = .ok (.lload_n k, 1)) (hl : Ls[k.val]? = some (.val (.long v)))
    (K : own_Fin p e below E (T.setTop (mkF m (pc + 1) Ls (.long v :: st)))) : own_Fin p e below E (T.setTop (mkF m pc Ls st)) :=
  own_via K fun t k => Jvm.Free.XT.lloadN X.here hx rfl hd hl k
theorem own_lload (X : Stand p l e R s m args below meth c T locs cells slots) (hx : p.tables.exec = Jvm.exec) {k : Nat} {v : Int64} (hd : decode c.code pc = .ok (.lload k, 2)) (hl : Ls[k]? = some (.val (.long v)))
    (K : own_Fin p e below E (T.setTop (mkF m (pc + 2) Ls (.long v :: st)))) : own_Fin p e below E (T.setTop (mkF m pc Ls st)) :=
  own_via K fun t k => Jvm.Free.XT.lload X.here hx rfl hd hl k
theorem own_iconst (X : Stand p l e R s m args below meth c T locs cells slots) (hx : p.tables.exec = Jvm.exec) {i : Int} (v : Int32) (hd : decode c.code pc = .ok (.iconst i, 1)) (hv : Int32.ofInt i = v)
    (K : own_Fin p e below E (T.setTop (mkF m (pc + 1) Ls (.int v :: st)))) : own_Fin p e below E (T.setTop (mkF m pc Ls st)) :=
  own_via K fun t k => Jvm.Free.XT.iconstV X.here hx rfl v hd hv k
theorem own_bipush (X : Stand p l e R s m args below meth c T locs cells slots) (hx : p.tables.exec = Jvm.exec) {i : Int} (v : Int32) (hd : decode c.code pc = .ok (.bipush i, 2)) (hv : (Int8.ofInt i).toInt32 = v)
    (K : own_Fin p e below E (T.setTop (mkF m (pc + 2) Ls (.int v :: st)))) : own_Fin p e below E (T.setTop (mkF m pc Ls st)) :=
  own_via K fun t k => Jvm.Free.XT.bipushV X.here hx rfl v hd hv k
theorem own_sipush (X : Stand p l e R s m args below meth c T locs cells slots) (hx : p.tables.exec = Jvm.exec) {i : Int} (v : Int32) (hd : decode c.code pc = .ok (.sipush i, 3)) (hv : (Int16.ofInt i).toInt32 = v)
    (K : own_Fin p e below E (T.setTop (mkF m (pc + 3) Ls (.int v :: st)))) : own_Fin p e below E (T.setTop (mkF m pc Ls st)) :=
  own_via K fun t k => Jvm.Free.XT.sipushV X.here hx rfl v hd hv k
theorem own_lconst (X : Stand p l e R s m args below meth c T locs cells slots) (hx : p.tables.exec = Jvm.exec) {i : Fin 2} (v : Int64) (hd : decode c.code pc = .ok (.lconst i, 1)) (hv : Int64.ofNat i = v)
    (K : own_Fin p e below E (T.setTop (mkF m (pc + 1) Ls (.long v :: st)))) : own_Fin p e below E (T.setTop (mkF m pc Ls st)) :=
  own_via K fun t k => Jvm.Free.XT.lconstV X.here hx rfl v hd hv k
theorem own_aconst_null (X : Stand p l e R s m args below meth c T locs cells slots) (hx : p.tables.exec = Jvm.exec) (hd : decode c.code pc = .ok (.aconst_null, 1))
    (K : own_Fin p e below E (T.setTop (mkF m (pc + 1) Ls (.null :: st)))) : own_Fin p e below E (T.setTop (mkF m pc Ls st)) :=
  own_via K fun t k => XS.aconstNull X.here hx rfl hd k
theorem own_ldcI (X : Stand p l e R s m args below meth c T locs cells slots) (hx : p.tables.exec = Jvm.exec) (hZ : Z.Warmed39 s.vm) {own : String} {index : Nat} {v : Int32} (hown : s.vm.findClass own = some m.cls) (w : (Jvm.Cond.constant own index v).before a0 Z = true) (hd : decode c.code pc = .ok (.ldc index, 2))
    (K : own_Fin p e below E (T.setTop (mkF m (pc + 2) Ls (.int v :: st)))) : own_Fin p e below E (T.setTop (mkF m pc Ls st)) :=
  own_via K fun t k => Jvm.Stand.ldcI X hx hown (mv hZ w) rfl hd k
theorem own_ldc2J (X : Stand p l e R s m args below meth c T locs cells slots) (hx : p.tables.exec = Jvm.exec) (hZ : Z.Warmed39 s.vm) {own : String} {index : Nat} {v : Int64} (hown : s.vm.findClass own = some m.cls) (w : (Jvm.Cond.constantLong own index v).before a0 Z = true) (hd : decode c.code pc = .ok (.ldc2_w index, 3))
    (K : own_Fin p e below E (T.setTop (mkF m (pc + 3) Ls (.long v :: st)))) : own_Fin p e below E (T.setTop (mkF m pc Ls st)) :=
  own_via K fun t k => Jvm.Stand.ldc2J X hx hown (mv hZ w) rfl hd k
theorem own_iadd (X : Stand p l e R s m args below meth c T locs cells slots) (hx : p.tables.exec = Jvm.exec) {x y : Int32} (hd : decode c.code pc = .ok (.iadd, 1))
    (K : own_Fin p e below E (T.setTop (mkF m (pc + 1) Ls (.int (x + y) :: st)))) : own_Fin p e below E (T.setTop (mkF m pc Ls (.int y :: .int x :: st))) :=
  own_via K fun t k => XS.iadd X.here hx rfl hd rfl k
theorem own_isub (X : Stand p l e R s m args below meth c T locs cells slots) (hx : p.tables.exec = Jvm.exec) {x y : Int32} (hd : decode c.code pc = .ok (.isub, 1))
    (K : own_Fin p e below E (T.setTop (mkF m (pc + 1) Ls (.int (x - y) :: st)))) : own_Fin p e below E (T.setTop (mkF m pc Ls (.int y :: .int x :: st))) :=
  own_via K fun t k => XS.isub X.here hx rfl hd rfl k
theorem own_imul (X : Stand p l e R s m args below meth c T locs cells slots) (hx : p.tables.exec = Jvm.exec) {x y : Int32} (hd : decode c.code pc = .ok (.imul, 1))
    (K : own_Fin p e below E (T.setTop (mkF m (pc + 1) Ls (.int (x * y) :: st)))) : own_Fin p e below E (T.setTop (mkF m pc Ls (.int y :: .int x :: st))) :=
  own_via K fun t k => XS.imul X.here hx rfl hd rfl k
theorem own_iand (X : Stand p l e R s m args below meth c T locs cells slots) (hx : p.tables.exec = Jvm.exec) {x y : Int32} (hd : decode c.code pc = .ok (.iand, 1))
    (K : own_Fin p e below E (T.setTop (mkF m (pc + 1) Ls (.int (x &&& y) :: st)))) : own_Fin p e below E (T.setTop (mkF m pc Ls (.int y :: .int x :: st))) :=
  own_via K fun t k => XS.iand X.here hx rfl hd rfl k
theorem own_ixor (X : Stand p l e R s m args below meth c T locs cells slots) (hx : p.tables.exec = Jvm.exec) {x y : Int32} (hd : decode c.code pc = .ok (.ixor, 1))
    (K : own_Fin p e below E (T.setTop (mkF m (pc + 1) Ls (.int (x ^^^ y) :: st)))) : own_Fin p e below E (T.setTop (mkF m pc Ls (.int y :: .int x :: st))) :=
  own_via K fun t k => Jvm.Free.XT.ixor X.here hx rfl hd rfl k
theorem own_ior (X : Stand p l e R s m args below meth c T locs cells slots) (hx : p.tables.exec = Jvm.exec) {x y : Int32} (hd : decode c.code pc = .ok (.ior, 1))
    (K : own_Fin p e below E (T.setTop (mkF m (pc + 1) Ls (.int (x ||| y) :: st)))) : own_Fin p e below E (T.setTop (mkF m pc Ls (.int y :: .int x :: st))) :=
  own_via K fun t k => Jvm.Free.XT.ior X.here hx rfl hd rfl k
theorem own_iushr (X : Stand p l e R s m args below meth c T locs cells slots) (hx : p.tables.exec = Jvm.exec) {x y : Int32} (hd : decode c.code pc = .ok (.iushr, 1))
    (K : own_Fin p e below E (T.setTop (mkF m (pc + 1) Ls (.int (Jvm.Free.XT.ushr x y) :: st)))) : own_Fin p e below E (T.setTop (mkF m pc Ls (.int y :: .int x :: st))) :=
  own_via K fun t k => Jvm.Free.XT.iushr X.here hx rfl hd rfl k
theorem own_irem (X : Stand p l e R s m args below meth c T locs cells slots) (hx : p.tables.exec = Jvm.exec) {x y : Int32} (hd : decode c.code pc = .ok (.irem, 1)) (hy : y ≠ 0)
    (K : own_Fin p e below E (T.setTop (mkF m (pc + 1) Ls (.int (x % y) :: st)))) : own_Fin p e below E (T.setTop (mkF m pc Ls (.int y :: .int x :: st))) :=
  own_via K fun t k => iremM X hx rfl hd rfl hy k
theorem own_ladd (X : Stand p l e R s m args below meth c T locs cells slots) (hx : p.tables.exec = Jvm.exec) {x y : Int64} (hd : decode c.code pc = .ok (.ladd, 1))
    (K : own_Fin p e below E (T.setTop (mkF m (pc + 1) Ls (.long (x + y) :: st)))) : own_Fin p e below E (T.setTop (mkF m pc Ls (.long y :: .long x :: st))) :=
  own_via K fun t k => Jvm.Free.XT.ladd X.here hx rfl hd rfl k
theorem own_lsub (X : Stand p l e R s m args below meth c T locs cells slots) (hx : p.tables.exec = Jvm.exec) {x y : Int64} (hd : decode c.code pc = .ok (.lsub, 1))
    (K : own_Fin p e below E (T.setTop (mkF m (pc + 1) Ls (.long (x - y) :: st)))) : own_Fin p e below E (T.setTop (mkF m pc Ls (.long y :: .long x :: st))) :=
  own_via K fun t k => Jvm.Free.XT.lsub X.here hx rfl hd rfl k
theorem own_lxor (X : Stand p l e R s m args below meth c T locs cells slots) (hx : p.tables.exec = Jvm.exec) {x y : Int64} (hd : decode c.code pc = .ok (.lxor, 1))
    (K : own_Fin p e below E (T.setTop (mkF m (pc + 1) Ls (.long (x ^^^ y) :: st)))) : own_Fin p e below E (T.setTop (mkF m pc Ls (.long y :: .long x :: st))) :=
  own_via K fun t k => Jvm.Free.XT.lxor X.here hx rfl hd rfl k
theorem own_lcmp (X : Stand p l e R s m args below meth c T locs cells slots) (hx : p.tables.exec = Jvm.exec) {x y : Int64} (hd : decode c.code pc = .ok (.lcmp, 1))
    (K : own_Fin p e below E (T.setTop (mkF m (pc + 1) Ls (.int (Jvm.Free.XT.cmpL x y) :: st)))) : own_Fin p e below E (T.setTop (mkF m pc Ls (.long y :: .long x :: st))) :=
  own_via K fun t k => Jvm.Free.XT.lcmp X.here hx rfl hd rfl k
theorem own_i2b (X : Stand p l e R s m args below meth c T locs cells slots) (hx : p.tables.exec = Jvm.exec) {x : Int32} (hd : decode c.code pc = .ok (.i2b, 1))
    (K : own_Fin p e below E (T.setTop (mkF m (pc + 1) Ls (.int (x.toInt8.toInt32) :: st)))) : own_Fin p e below E (T.setTop (mkF m pc Ls (.int x :: st))) :=
  own_via K fun t k => Jvm.Free.XT.i2b X.here hx rfl hd rfl k
theorem own_i2l (X : Stand p l e R s m args below meth c T locs cells slots) (hx : p.tables.exec = Jvm.exec) {x : Int32} (hd : decode c.code pc = .ok (.i2l, 1))
    (K : own_Fin p e below E (T.setTop (mkF m (pc + 1) Ls (.long (x.toInt64) :: st)))) : own_Fin p e below E (T.setTop (mkF m pc Ls (.int x :: st))) :=
  own_via K fun t k => Jvm.Free.XT.i2l X.here hx rfl hd rfl k
theorem own_l2i (X : Stand p l e R s m args below meth c T locs cells slots) (hx : p.tables.exec = Jvm.exec) {x : Int64} (hd : decode c.code pc = .ok (.l2i, 1))
    (K : own_Fin p e below E (T.setTop (mkF m (pc + 1) Ls (.int (x.toInt32) :: st)))) : own_Fin p e below E (T.setTop (mkF m pc Ls (.long x :: st))) :=
  own_via K fun t k => Jvm.Free.XT.l2i X.here hx rfl hd rfl k
theorem own_dup (X : Stand p l e R s m args below meth c T locs cells slots) (hx : p.tables.exec = Jvm.exec) {v : Value} (hd : decode c.code pc = .ok (.dup, 1)) (hc : v.category = 1)
    (K : own_Fin p e below E (T.setTop (mkF m (pc + 1) Ls (v :: v :: st)))) : own_Fin p e below E (T.setTop (mkF m pc Ls (v :: st))) :=
  own_via K fun t k => XS.dup X.here hx rfl hd rfl hc k
theorem own_pop (X : Stand p l e R s m args below meth c T locs cells slots) (hx : p.tables.exec = Jvm.exec) {v : Value} (hd : decode c.code pc = .ok (.pop, 1)) (hc : v.category = 1)
    (K : own_Fin p e below E (T.setTop (mkF m (pc + 1) Ls st))) : own_Fin p e below E (T.setTop (mkF m pc Ls (v :: st))) :=
  own_via K fun t k => Jvm.Free.XT.pop X.here hx rfl hd rfl hc k
theorem own_istoreN (X : Stand p l e R s m args below meth c T locs cells slots) (hx : p.tables.exec = Jvm.exec) {k : Fin 4} {x : Int32} {l' : Array Slot} (hd : decode c.code pc = .ok (.istore_n k, 1)) (hl : storeLocals Ls k.val (.int x) = some l')
    (K : own_Fin p e below E (T.setTop (mkF m (pc + 1) l' st))) : own_Fin p e below E (T.setTop (mkF m pc Ls (.int x :: st))) :=
  own_via K fun t k => XS.istoreN X.here hx rfl hd rfl hl k
theorem own_istore (X : Stand p l e R s m args below meth c T locs cells slots) (hx : p.tables.exec = Jvm.exec) {k : Nat} {x : Int32} {l' : Array Slot} (hd : decode c.code pc = .ok (.istore k, 2)) (hl : storeLocals Ls k (.int x) = some l')
    (K : own_Fin p e below E (T.setTop (mkF m (pc + 2) l' st))) : own_Fin p e below E (T.setTop (mkF m pc Ls (.int x :: st))) :=
  own_via K fun t k => XS.istore X.here hx rfl hd rfl hl k
theorem own_astoreN (X : Stand p l e R s m args below meth c T locs cells slots) (hx : p.tables.exec = Jvm.exec) {k : Fin 4} {x : Value} {l' : Array Slot} (hd : decode c.code pc = .ok (.astore_n k, 1)) (hv : x.isRef = true) (hl : storeLocals Ls k.val x = some l')
    (K : own_Fin p e below E (T.setTop (mkF m (pc + 1) l' st))) : own_Fin p e below E (T.setTop (mkF m pc Ls (x :: st))) :=
  own_via K fun t k => XS.astoreN X.here hx rfl hd rfl hv hl k
theorem own_astore (X : Stand p l e R s m args below meth c T locs cells slots) (hx : p.tables.exec = Jvm.exec) {k : Nat} {x : Value} {l' : Array Slot} (hd : decode c.code pc = .ok (.astore k, 2)) (hv : x.isRef = true) (hl : storeLocals Ls k x = some l')
    (K : own_Fin p e below E (T.setTop (mkF m (pc + 2) l' st))) : own_Fin p e below E (T.setTop (mkF m pc Ls (x :: st))) :=
  own_via K fun t k => XS.astore X.here hx rfl hd rfl hv hl k
theorem own_lstore (X : Stand p l e R s m args below meth c T locs cells slots) (hx : p.tables.exec = Jvm.exec) {k : Nat} {x : Int64} {l' : Array Slot} (hd : decode c.code pc = .ok (.lstore k, 2)) (hl : storeLocals Ls k (.long x) = some l')
    (K : own_Fin p e below E (T.setTop (mkF m (pc + 2) l' st))) : own_Fin p e below E (T.setTop (mkF m pc Ls (.long x :: st))) :=
  own_via K fun t k => Jvm.Free.XT.lstore X.here hx rfl hd rfl hl k
theorem own_iinc (X : Stand p l e R s m args below meth c T locs cells slots) (hx : p.tables.exec = Jvm.exec) {k : Nat} {cst : Int} {x : Int32} {l' : Array Slot} (v : Int32) (hd : decode c.code pc = .ok (.iinc k cst, 3)) (hv : Int32.ofInt cst = v) (hl : Ls[k]? = some (.val (.int x))) (hl' : storeLocals Ls k (.int (x + v)) = some l')
    (K : own_Fin p e below E (T.setTop (mkF m (pc + 3) l' st))) : own_Fin p e below E (T.setTop (mkF m pc Ls st)) :=
  own_via K fun t k => Jvm.Free.XT.iincV X.here hx rfl v hd hv hl hl' k
theorem own_goto (X : Stand p l e R s m args below meth c T locs cells slots) (hx : p.tables.exec = Jvm.exec) {o : Int} (pc' : Nat)  (hd : decode c.code pc = .ok (.goto o, 3)) (ho : 0 ≤ (pc : Int) + o) (hp : ((pc : Int) + o).toNat = pc')
    (K : own_Fin p e below E (T.setTop (mkF m pc' Ls st))) : own_Fin p e below E (T.setTop (mkF m pc Ls st)) :=
  own_via K fun t k => XS.goto X.here hx rfl rfl hd ho hp k
theorem own_ifYes (X : Stand p l e R s m args below meth c T locs cells slots) (hx : p.tables.exec = Jvm.exec) {cd : ClassFile.Cond} {x : Int32} {o : Int} (pc' : Nat)  (hd : decode c.code pc = .ok (.ifCond cd o, 3)) (ho : 0 ≤ (pc : Int) + o) (hp : ((pc : Int) + o).toNat = pc') (hc : ifCond.holds cd x = true)
    (K : own_Fin p e below E (T.setTop (mkF m pc' Ls st))) : own_Fin p e below E (T.setTop (mkF m pc Ls (.int x :: st))) :=
  own_via K fun t k => XS.ifYes X.here hx rfl rfl hd rfl hc ho hp k
theorem own_ifNo (X : Stand p l e R s m args below meth c T locs cells slots) (hx : p.tables.exec = Jvm.exec) {cd : ClassFile.Cond} {x : Int32} {o : Int} (hd : decode c.code pc = .ok (.ifCond cd o, 3)) (hc : ifCond.holds cd x = false)
    (K : own_Fin p e below E (T.setTop (mkF m (pc + 3) Ls st))) : own_Fin p e below E (T.setTop (mkF m pc Ls (.int x :: st))) :=
  own_via K fun t k => XS.ifNo X.here hx rfl hd rfl hc k
theorem own_icmpYes (X : Stand p l e R s m args below meth c T locs cells slots) (hx : p.tables.exec = Jvm.exec) {cd : ClassFile.Cond} {x y : Int32} {o : Int} (pc' : Nat)  (hd : decode c.code pc = .ok (.if_icmp cd o, 3)) (ho : 0 ≤ (pc : Int) + o) (hp : ((pc : Int) + o).toNat = pc') (hc : if_icmp.holds cd x y = true)
    (K : own_Fin p e below E (T.setTop (mkF m pc' Ls st))) : own_Fin p e below E (T.setTop (mkF m pc Ls (.int y :: .int x :: st))) :=
  own_via K fun t k => XS.icmpYes X.here hx rfl rfl hd rfl hc ho hp k
theorem own_icmpNo (X : Stand p l e R s m args below meth c T locs cells slots) (hx : p.tables.exec = Jvm.exec) {cd : ClassFile.Cond} {x y : Int32} {o : Int} (hd : decode c.code pc = .ok (.if_icmp cd o, 3)) (hc : if_icmp.holds cd x y = false)
    (K : own_Fin p e below E (T.setTop (mkF m (pc + 3) Ls st))) : own_Fin p e below E (T.setTop (mkF m pc Ls (.int y :: .int x :: st))) :=
  own_via K fun t k => XS.icmpNo X.here hx rfl hd rfl hc k
theorem own_acmpYes (X : Stand p l e R s m args below meth c T locs cells slots) (hx : p.tables.exec = Jvm.exec) {cd : ClassFile.ACond} {x y : Value} {o : Int} (pc' : Nat)  (hd : decode c.code pc = .ok (.if_acmp cd o, 3)) (ho : 0 ≤ (pc : Int) + o) (hp : ((pc : Int) + o).toNat = pc') (hx' : x.isRef = true) (hy' : y.isRef = true) (hc : Jvm.Free.XT.acmp cd x y = true)
    (K : own_Fin p e below E (T.setTop (mkF m pc' Ls st))) : own_Fin p e below E (T.setTop (mkF m pc Ls (y :: x :: st))) :=
  own_via K fun t k => Jvm.Free.XT.acmpYes X.here hx rfl rfl hd rfl hx' hy' hc ho hp k
theorem own_acmpNo (X : Stand p l e R s m args below meth c T locs cells slots) (hx : p.tables.exec = Jvm.exec) {cd : ClassFile.ACond} {x y : Value} {o : Int} (hd : decode c.code pc = .ok (.if_acmp cd o, 3)) (hx' : x.isRef = true) (hy' : y.isRef = true) (hc : Jvm.Free.XT.acmp cd x y = false)
    (K : own_Fin p e below E (T.setTop (mkF m (pc + 3) Ls st))) : own_Fin p e below E (T.setTop (mkF m pc Ls (y :: x :: st))) :=
  own_via K fun t k => Jvm.Free.XT.acmpNo X.here hx rfl hd rfl hx' hy' hc k
theorem own_ifnullYes (X : Stand p l e R s m args below meth c T locs cells slots) (hx : p.tables.exec = Jvm.exec) {o : Int} (pc' : Nat)  (hd : decode c.code pc = .ok (.ifnull o, 3)) (ho : 0 ≤ (pc : Int) + o) (hp : ((pc : Int) + o).toNat = pc')
    (K : own_Fin p e below E (T.setTop (mkF m pc' Ls st))) : own_Fin p e below E (T.setTop (mkF m pc Ls (.null :: st))) :=
  own_via K fun t k => XS.ifnullYes X.here hx rfl rfl hd rfl ho hp k
theorem own_ifnullNo (X : Stand p l e R s m args below meth c T locs cells slots) (hx : p.tables.exec = Jvm.exec) {o : Int} {b : Addr} (hd : decode c.code pc = .ok (.ifnull o, 3))
    (K : own_Fin p e below E (T.setTop (mkF m (pc + 3) Ls st))) : own_Fin p e below E (T.setTop (mkF m pc Ls (.ref b :: st))) :=
  own_via K fun t k => XS.ifnullNo X.here hx rfl hd rfl k
theorem own_ifnonnullYes (X : Stand p l e R s m args below meth c T locs cells slots) (hx : p.tables.exec = Jvm.exec) {o : Int} {b : Addr} (pc' : Nat)  (hd : decode c.code pc = .ok (.ifnonnull o, 3)) (ho : 0 ≤ (pc : Int) + o) (hp : ((pc : Int) + o).toNat = pc')
    (K : own_Fin p e below E (T.setTop (mkF m pc' Ls st))) : own_Fin p e below E (T.setTop (mkF m pc Ls (.ref b :: st))) :=
  own_via K fun t k => Jvm.Free.XT.ifnonnullYes X.here hx rfl rfl hd rfl ho hp k
theorem own_ifnonnullNo (X : Stand p l e R s m args below meth c T locs cells slots) (hx : p.tables.exec = Jvm.exec) {o : Int} (hd : decode c.code pc = .ok (.ifnonnull o, 3))
    (K : own_Fin p e below E (T.setTop (mkF m (pc + 3) Ls st))) : own_Fin p e below E (T.setTop (mkF m pc Ls (.null :: st))) :=
  own_via K fun t k => Jvm.Free.XT.ifnonnullNo X.here hx rfl hd rfl k
theorem own_getstatic (X : Stand p l e R s m args below meth c T locs cells slots) (hx : p.tables.exec = Jvm.exec) (hZ : Z.Warmed39 s.vm) {own R0 O n d host : String} {index : Nat} (hown : s.vm.findClass own = some m.cls) (w : (Jvm.Cond.fieldLink own index R0 n d).before a0 Z = true ∨ (Jvm.Cond.fieldLinkNest own index R0 n d host).before a0 Z = true) (via : Via Z R0 O n d) (eT : T.heap = h) {v : Value} (F : Sta Z h O n d v) (hd : decode c.code pc = .ok (.getstatic index, 3))
    (K : ∀ T', Stand p l e R s m args below meth c T' locs cells slots → T'.heap = h → own_Fin p e below E (T'.setTop (mkF m (pc + 3) Ls (v :: st)))) : own_Fin p e below E (T.setTop (mkF m pc Ls st)) := by
  obtain ⟨T', X', e', sp⟩ := getS2 X hx hZ hown w via eT F (g := mkF m pc Ls st) rfl hd
  exact own_via (K T' X' e') sp
theorem own_getfield (X : Stand p l e R s m args below meth c T locs cells slots) (hx : p.tables.exec = Jvm.exec) (hZ : Z.Warmed39 s.vm) {own R0 O n d host : String} {index : Nat} (hown : s.vm.findClass own = some m.cls) (w : (Jvm.Cond.fieldLink own index R0 n d).before a0 Z = true ∨ (Jvm.Cond.fieldLinkNest own index R0 n d host).before a0 Z = true) (via : Via Z R0 O n d) (eT : T.heap = h) {a : Addr} {v : Value} (F : Fld Z h a O n d v) (hd : decode c.code pc = .ok (.getfield index, 3))
    (K : ∀ T', Stand p l e R s m args below meth c T' locs cells slots → T'.heap = h → own_Fin p e below E (T'.setTop (mkF m (pc + 3) Ls (v :: st)))) : own_Fin p e below E (T.setTop (mkF m pc Ls (.ref a :: st))) := by
  obtain ⟨T', X', e', sp⟩ := getF X hx hZ hown w via eT F (g := mkF m pc Ls (.ref a :: st)) rfl rfl hd
  exact own_via (K T' X' e') sp
theorem own_putfield (X : Stand p l e R s m args below meth c T locs cells slots) (hx : p.tables.exec = Jvm.exec) (hZ : Z.Warmed39 s.vm) {own R0 O n d host : String} {index : Nat} (hown : s.vm.findClass own = some m.cls) (w : (Jvm.Cond.fieldLink own index R0 n d).before a0 Z = true ∨ (Jvm.Cond.fieldLinkNest own index R0 n d host).before a0 Z = true) (via : Via Z R0 O n d) (eT : T.heap = h) {C : String} {kk : Nat} {ty : FieldType} {a : Addr} {v old : Value} (F : Fld Z h a O n d old) (EX : Exa Z h a C) (L : (Jvm.Cond.lays C O n d).before a0 Z = true ∨ ((Jvm.Cond.laysFinal C O n d).before a0 Z = true ∧ own = O ∧ meth.name = "<init>")) (wi : (Jvm.Cond.instantiable C kk).before a0 Z = true)
    (hty : parseFieldDescriptor d = some ty) (hn : narrow ty v = v) (hf : fits ty v = true) (hd : decode c.code pc = .ok (.putfield index, 3))
    (K : ∀ T' h', Stand p l e R s m args below meth c T' (locs ++ [⟨a, Jvm.RoadKit.slotOf Z O n d⟩]) cells slots → T'.heap = h' → Wr h h' a (Jvm.RoadKit.slotOf Z O n d) v → own_Fin p e below E (T'.setTop (mkF m (pc + 3) Ls st))) : own_Fin p e below E (T.setTop (mkF m pc Ls (v :: .ref a :: st))) := by
  obtain ⟨T', h', X', e', W, sp⟩ := putF X hx hZ hown w via eT F EX L wi hty hn hf (g := mkF m pc Ls (v :: .ref a :: st)) rfl rfl hd
  exact own_via (K T' h' X' e' W) sp
theorem own_new (X : Stand p l e R s m args below meth c T locs cells slots) (hx : p.tables.exec = Jvm.exec) (hZ : Z.Warmed39 s.vm) {own C : String} {index n : Nat} (hown : s.vm.findClass own = some m.cls) (w : (Jvm.Cond.classLink own index C).before a0 Z = true) (wi : (Jvm.Cond.instantiable C n).before a0 Z = true) (wz : (Jvm.Cond.initialized C).before a0 Z = true) (eT : T.heap = h)
    (hd : decode c.code pc = .ok (.new index, 3)) (hc : cells + 1 ≤ R.cells) (hl : slots + n ≤ R.slots)
    (K : ∀ T' h' b, Stand p l e R s m args below meth c T' locs (cells + 1) (slots + n) → T'.heap = h' → b = h.size → Ext h h' → Exa Z h' b C → (∀ {O nm d : String} {ty : FieldType}, Laid Z a0 C O nm d → parseFieldDescriptor d = some ty → Fld Z h' b O nm d (defaultValue ty)) → own_Fin p e below E (T'.setTop (mkF m (pc + 3) Ls (.ref b :: st)))) : own_Fin p e below E (T.setTop (mkF m pc Ls st)) := by
  obtain ⟨T', h', X', e', EE, A, D, -, sp⟩ := newO X hx hZ hown w wi wz eT (g := mkF m pc Ls st) rfl hd hc hl
  exact own_via (K T' h' _ X' e' rfl EE A D) sp
theorem own_arraylength (X : Stand p l e R s m args below meth c T locs cells slots) (hx : p.tables.exec = Jvm.exec) (hZ : Z.Warmed39 s.vm) {a : Addr} {cl : Cell} {ty : FieldType} {n : Int32} (eT : T.heap = h) (A : Arr Z h a cl ty) (hn : cl.slots.size.toInt32 = n) (hd : decode c.code pc = .ok (.arraylength, 1))
    (K : own_Fin p e below E (T.setTop (mkF m (pc + 1) Ls (.int n :: st)))) : own_Fin p e below E (T.setTop (mkF m pc Ls (.ref a :: st))) := by
  subst hn
  exact own_via K fun t k => X.arraylength hx (by rw [eT]; exact A.1) (State.isArrayOf_alike hZ.alike A.2.1) (g := mkF m pc Ls (.ref a :: st)) rfl rfl hd t k
theorem own_aaload (X : Stand p l e R s m args below meth c T locs cells slots) (hx : p.tables.exec = Jvm.exec) (hZ : Z.Warmed39 s.vm) {a : Addr} {cl : Cell} {j : Int32} {v : Value} (eT : T.heap = h) {ty : FieldType} (A : Arr Z h a cl ty) (hty : ty.isReference = true) (hin : ¬ (j < 0 ∨ cl.slots.size ≤ j.toNatClampNeg)) (hv : cl.slots[j.toNatClampNeg]? = some v) (hd : decode c.code pc = .ok (.aaload, 1))
    (K : own_Fin p e below E (T.setTop (mkF m (pc + 1) Ls (v :: st)))) : own_Fin p e below E (T.setTop (mkF m pc Ls (.int j :: .ref a :: st))) :=
  own_via K fun t k => X.aaload hx (by rw [eT]; exact A.1) (State.isArrayOf_alike hZ.alike A.2.1) hty A.2.2 hin hv (g := mkF m pc Ls (.int j :: .ref a :: st)) rfl rfl hd t k
theorem own_baload (X : Stand p l e R s m args below meth c T locs cells slots) (hx : p.tables.exec = Jvm.exec) (hZ : Z.Warmed39 s.vm) {a : Addr} {cl : Cell} {j : Int32} {v : Value} (eT : T.heap = h) (A : Arr Z h a cl .byte)  (hin : ¬ (j < 0 ∨ cl.slots.size ≤ j.toNatClampNeg)) (hv : cl.slots[j.toNatClampNeg]? = some v) (hd : decode c.code pc = .ok (.baload, 1))
    (K : own_Fin p e below E (T.setTop (mkF m (pc + 1) Ls (v :: st)))) : own_Fin p e below E (T.setTop (mkF m pc Ls (.int j :: .ref a :: st))) :=
  own_via K fun t k => X.baloadBytes hx (by rw [eT]; exact A.1) (State.isArrayOf_alike hZ.alike A.2.1) A.2.2 hin hv (g := mkF m pc Ls (.int j :: .ref a :: st)) rfl rfl hd t k
theorem own_baloadZ (X : Stand p l e R s m args below meth c T locs cells slots) (hx : p.tables.exec = Jvm.exec) (hZ : Z.Warmed39 s.vm) {a : Addr} {cl : Cell} {j : Int32} {v : Value} (eT : T.heap = h) (A : Arr Z h a cl .boolean)  (hin : ¬ (j < 0 ∨ cl.slots.size ≤ j.toNatClampNeg)) (hv : cl.slots[j.toNatClampNeg]? = some v) (hd : decode c.code pc = .ok (.baload, 1))
    (K : own_Fin p e below E (T.setTop (mkF m (pc + 1) Ls (v :: st)))) : own_Fin p e below E (T.setTop (mkF m pc Ls (.int j :: .ref a :: st))) :=
  own_via K fun t k => X.baloadBooleans hx (by rw [eT]; exact A.1) (State.isArrayOf_alike hZ.alike A.2.1) A.2.2 hin hv (g := mkF m pc Ls (.int j :: .ref a :: st)) rfl rfl hd t k
theorem own_newarray (X : Stand p l e R s m args below meth c T locs cells slots) (hx : p.tables.exec = Jvm.exec) (hZ : Z.Warmed39 s.vm) {aty : ArrayType} (w : (Jvm.Cond.arrayClass (newarray.typeOf aty)).before a0 Z = true) (eT : T.heap = h) (hd : decode c.code pc = .ok (.newarray aty, 2)) {n : Int32} (hn : ¬ n < 0) (cap : Nat) (hcap : n.toNatClampNeg ≤ cap) (hb : cap * 8 ≤ 536870912) (hc : cells + 1 ≤ R.cells) (hl : slots + cap ≤ R.slots)
    (K : ∀ T' h' b cA, Stand p l e R s m args below meth c T' locs (cells + 1) (slots + cap) → T'.heap = h' → b = h.size → Ext h h' → Arr Z h' b (newA cA (newarray.typeOf aty) n) (newarray.typeOf aty) → own_Fin p e below E (T'.setTop (mkF m (pc + 2) Ls (.ref b :: st)))) : own_Fin p e below E (T.setTop (mkF m pc Ls (.int n :: st))) := by
  obtain ⟨T', h', cA, X', e', EE, A, sp⟩ := newP X hx hZ w eT (g := mkF m pc Ls (.int n :: st)) rfl hd rfl hn hcap hb hc hl
  exact own_via (K T' h' _ cA X' e' rfl EE A) sp
theorem own_bastore (X : Stand p l e R s m args below meth c T locs cells slots) (hx : p.tables.exec = Jvm.exec) (hZ : Z.Warmed39 s.vm) {a : Addr} {cl : Cell} {j x : Int32} (eT : T.heap = h) (A : Arr Z h a cl .byte) (hj : ¬ (j < 0 ∨ cl.slots.size ≤ j.toNatClampNeg)) (hd : decode c.code pc = .ok (.bastore, 1))
    (K : ∀ T' h', Stand p l e R s m args below meth c T' (locs ++ [⟨a, j.toNatClampNeg⟩]) cells slots → T'.heap = h' → Wr h h' a j.toNatClampNeg (.int (nar .byte x)) → own_Fin p e below E (T'.setTop (mkF m (pc + 1) Ls st))) : own_Fin p e below E (T.setTop (mkF m pc Ls (.int x :: .int j :: .ref a :: st))) := by
  obtain ⟨T', h', X', e', W, sp⟩ := stB X hx hZ eT A (x := x) hj (g := mkF m pc Ls (.int x :: .int j :: .ref a :: st)) rfl rfl hd
  exact own_via (K T' h' X' e' W) sp
theorem own_virt (X : Stand p l e R s m args below meth c T locs cells slots) (hx : p.tables.exec = Jvm.exec) (hZ : Z.Warmed39 s.vm) {own C : String} {index : Nat} {y z : MethodName} {bytes : ByteArray} {maxL : Nat} {ret : Option FieldType} {rm : Room} {W : Nat} {as' : Array Value} {Q' : Option Value → Heap → List Loc → Prop} {argsL rest : List Value} {a : Addr} (hown : s.vm.findClass own = some m.cls) (w1 : (Jvm.Cond.methodLink own index y).before a0 Z = true) (w2 : (Jvm.Cond.declares y).before a0 Z = true) (w3 : (Jvm.Cond.selects y.cls y y).before a0 Z = true) (w4 : (Jvm.Cond.selects C y z).before a0 Z = true) (w5 : (Jvm.Cond.instanceMethod z).before a0 Z = true)
    (w6 : (Jvm.Cond.code z bytes maxL ret).before a0 Z = true) (w7 : (Jvm.Cond.initialized z.cls).before a0 Z = true) (hy : y.cls ≠ "java/lang/invoke/MethodHandle" ∧ y.cls ≠ "java/lang/invoke/VarHandle") (eT : T.heap = h) (EX : Exa Z h a C) (hd : decode c.code pc = .ok (.invokevirtual index, 3)) (hsz : Ls.size = c.maxLocals) {ps : List FieldType} {rt : Option FieldType} (hpd : parseMethodDescriptor y.desc = some ⟨ps, rt⟩) (hlen : argsL.length = ps.length) (hW : (rest.map fun v => v.category).sum ≤ W)
    (hM : own_Met l Z z bytes maxL ret rm as' h Q') (hf : rm.frames + 1 ≤ R.frames) (hl : W + (maxL + 11) + rm.locals ≤ R.locals) (hcc : cells + rm.cells ≤ R.cells) (hss : slots + rm.slots ≤ R.slots) (hst : st = argsL.reverse ++ .ref a :: rest) (has : as' = (.ref a :: argsL).toArray)
    (K : ∀ v T' L', Stand p l e R s m args below meth c T' (locs ++ L') (cells + rm.cells) (slots + rm.slots) → Q' v T'.heap L' → own_Fin p e below E (T'.setTop (mkF m (pc + 3) Ls (v.toList ++ rest)))) : own_Fin p e below E (T.setTop (mkF m pc Ls st)) := by
  subst hst has
  obtain ⟨cq, kq, qa, -, qc⟩ := isOf hZ eT EX
  obtain ⟨v, _, ⟨T', L', k', n'⟩, -, X', ⟨L2, hQ, l1, y1, z1⟩, sp⟩ := X.virtualBack hx (y := y) (z := z) hown (mvT hZ w1) (mvT hZ w2) (notFace_of_selects (args := #[]) (mvT hZ w3)) (mvT hZ w4) (mvT hZ w5) hy (backOf (W := W) (hM []) hZ w6 w7 hf hl) qa qc (g := mkF m pc Ls (argsL.reverse ++ .ref a :: rest)) rfl hsz (Steps.refl _) (argsL := argsL) (rest := rest) (lenOf hpd hlen) rfl (by show 2 * 0 + _ ≤ _; omega) hd (fun _ _ => ⟨rfl, eT, hcc, hss⟩)
  dsimp only [Pt.U, Pt.locs, Pt.cells, Pt.slots] at X' l1 y1 z1 sp hQ
  subst l1 y1 z1
  exact own_via (K v T' L2 X' hQ) fun t k => sp.trans k
theorem own_stat (X : Stand p l e R s m args below meth c T locs cells slots) (hx : p.tables.exec = Jvm.exec) (hZ : Z.Warmed39 s.vm) {own : String} {index : Nat} {y : MethodName} {bytes : ByteArray} {maxL : Nat} {ret : Option FieldType} {rm : Room} {W : Nat} {as' : Array Value} {Q' : Option Value → Heap → List Loc → Prop} {argsL rest : List Value} (hown : s.vm.findClass own = some m.cls) (w1 : (Jvm.Cond.methodLink own index y).before a0 Z = true) (w2 : (Jvm.Cond.static y).before a0 Z = true)
    (w6 : (Jvm.Cond.code y bytes maxL ret).before a0 Z = true) (w7 : (Jvm.Cond.initialized y.cls).before a0 Z = true) (hy : y.cls ≠ "java/lang/invoke/MethodHandle" ∧ y.cls ≠ "java/lang/invoke/VarHandle") (eT : T.heap = h) (hd : decode c.code pc = .ok (.invokestatic index, 3)) (hsz : Ls.size = c.maxLocals) {ps : List FieldType} {rt : Option FieldType} (hpd : parseMethodDescriptor y.desc = some ⟨ps, rt⟩) (hlen : argsL.length = ps.length) (hW : (rest.map fun v => v.category).sum ≤ W)
    (hM : own_Met l Z y bytes maxL ret rm as' h Q') (hf : rm.frames + 1 ≤ R.frames) (hl : W + (maxL + 11) + rm.locals ≤ R.locals) (hcc : cells + rm.cells ≤ R.cells) (hss : slots + rm.slots ≤ R.slots) (hst : st = argsL.reverse ++ rest) (has : as' = argsL.toArray)
    (K : ∀ v T' L', Stand p l e R s m args below meth c T' (locs ++ L') (cells + rm.cells) (slots + rm.slots) → Q' v T'.heap L' → own_Fin p e below E (T'.setTop (mkF m (pc + 3) Ls (v.toList ++ rest)))) : own_Fin p e below E (T.setTop (mkF m pc Ls st)) := by
  subst hst has
  obtain ⟨v, _, ⟨T', L', k', n'⟩, -, X', ⟨L2, hQ, l1, y1, z1⟩, sp⟩ := Jvm.LawKit.callS X hx (y := y) hown (mvT hZ w1) (mvT hZ w2) (mvT hZ w7) (mvT hZ w6) hy (backOf (W := W) (hM []) hZ w6 w7 hf hl) (g := mkF m pc Ls (argsL.reverse ++ rest)) rfl hsz (argsL := argsL) (rest := rest) (lenOf hpd hlen) rfl (by show 2 * 0 + _ ≤ _; omega) hd (fun _ _ => ⟨rfl, eT, hcc, hss⟩)
  dsimp only [Pt.U, Pt.locs, Pt.cells, Pt.slots] at X' l1 y1 z1 sp hQ
  subst l1 y1 z1
  exact own_via (K v T' L2 X' hQ) sp
theorem own_spec (X : Stand p l e R s m args below meth c T locs cells slots) (hx : p.tables.exec = Jvm.exec) (hZ : Z.Warmed39 s.vm) {own : String} {index : Nat} {y : MethodName} {bytes : ByteArray} {maxL : Nat} {rm : Room} {W : Nat} {as' : Array Value} {Q' : Option Value → Heap → List Loc → Prop} {argsL rest : List Value} {a : Addr} (hy1 : y.name = "<init>") (hown : s.vm.findClass own = some m.cls) (w1 : (Jvm.Cond.methodLink own index y).before a0 Z = true) (w5 : (Jvm.Cond.instanceMethod y).before a0 Z = true)
    (w6 : (Jvm.Cond.code y bytes maxL none).before a0 Z = true) (w7 : (Jvm.Cond.initialized y.cls).before a0 Z = true) (hy : y.cls ≠ "java/lang/invoke/MethodHandle" ∧ y.cls ≠ "java/lang/invoke/VarHandle") (eT : T.heap = h) (hd : decode c.code pc = .ok (.invokespecial index, 3)) (hsz : Ls.size = c.maxLocals) {ps : List FieldType} {rt : Option FieldType} (hpd : parseMethodDescriptor y.desc = some ⟨ps, rt⟩) (hlen : argsL.length = ps.length) (hW : (rest.map fun v => v.category).sum ≤ W)
    (hM : own_Met l Z y bytes maxL none rm as' h Q') (hf : rm.frames + 1 ≤ R.frames) (hl : W + (maxL + 11) + rm.locals ≤ R.locals) (hcc : cells + rm.cells ≤ R.cells) (hss : slots + rm.slots ≤ R.slots) (hst : st = argsL.reverse ++ .ref a :: rest) (has : as' = (.ref a :: argsL).toArray)
    (K : ∀ v T' L', Stand p l e R s m args below meth c T' (locs ++ L') (cells + rm.cells) (slots + rm.slots) → Q' v T'.heap L' → own_Fin p e below E (T'.setTop (mkF m (pc + 3) Ls (v.toList ++ rest)))) : own_Fin p e below E (T.setTop (mkF m pc Ls st)) := by
  subst hst has
  obtain ⟨v, _, ⟨T', L', k', n'⟩, -, X', ⟨L2, hQ, l1, y1, z1⟩, sp⟩ := X.specialBack hx (y := y) hy1 hown (mvT hZ w1) (mvT hZ w5) (mvT hZ w6) hy (backOf (W := W) (hM []) hZ w6 w7 hf hl) (g := mkF m pc Ls (argsL.reverse ++ .ref a :: rest)) rfl hsz (Steps.refl _) (a := a) (argsL := argsL) (rest := rest) (lenOf hpd hlen) rfl (by show 2 * 0 + _ ≤ _; omega) hd (fun _ _ => ⟨rfl, eT, hcc, hss⟩)
  dsimp only [Pt.U, Pt.locs, Pt.cells, Pt.slots] at X' l1 y1 z1 sp hQ
  subst l1 y1 z1
  exact own_via (K v T' L2 X' hQ) fun t k => sp.trans k
theorem own_retN (X : Stand p l e R s m args below meth c T locs cells slots) (hx : p.tables.exec = Jvm.exec) {t : FieldType} {z : Int32} (hret : meth.sig.returnType = some t) (ht : t = .boolean ∨ t = .byte ∨ t = .char ∨ t = .short) (hd : decode c.code pc = .ok (.ireturn, 1)) (hlk : meth.locks = false) (hc : cells ≤ kc) (hs : slots ≤ ks) (hQ : Q (some (.int (nar t z))) T.heap locs) : own_Fin p e below (own_End s Q kc ks) (T.setTop (mkF m pc Ls (.int z :: st))) := by
  obtain ⟨fs, hr, hrun, hended, hW, hsame⟩ := X.leave (v := some (.int (nar t z))) (fun h => by rw [hret] at h; cases h) hlk
  exact ⟨_, _, retN X hx hret ht hd hr, hrun, hended, _, _, rfl, hQ, ⟨_, rfl⟩, hW, hsame.mono hc hs⟩
theorem own_retI (X : Stand p l e R s m args below meth c T locs cells slots) (hx : p.tables.exec = Jvm.exec) {z : Int32} (hret : meth.sig.returnType = some .int) (hd : decode c.code pc = .ok (.ireturn, 1)) (hlk : meth.locks = false) (hc : cells ≤ kc) (hs : slots ≤ ks) (hQ : Q (some (.int z)) T.heap locs) : own_Fin p e below (own_End s Q kc ks) (T.setTop (mkF m pc Ls (.int z :: st))) := by
  obtain ⟨fs, hr, hrun, hended, hW, hsame⟩ := X.leave (v := some (.int z)) (fun h => by rw [hret] at h; cases h) hlk
  exact ⟨_, _, retOut X hx hret rfl (Or.inl ⟨rfl, Or.inl rfl, z, rfl⟩) hd hr, hrun, hended, _, _, rfl, hQ, ⟨_, rfl⟩, hW, hsame.mono hc hs⟩
theorem own_retJ (X : Stand p l e R s m args below meth c T locs cells slots) (hx : p.tables.exec = Jvm.exec) {z : Int64} (hret : meth.sig.returnType = some .long) (hd : decode c.code pc = .ok (.lreturn, 1)) (hlk : meth.locks = false) (hc : cells ≤ kc) (hs : slots ≤ ks) (hQ : Q (some (.long z)) T.heap locs) : own_Fin p e below (own_End s Q kc ks) (T.setTop (mkF m pc Ls (.long z :: st))) := by
  obtain ⟨fs, hr, hrun, hended, hW, hsame⟩ := X.leave (v := some (.long z)) (fun h => by rw [hret] at h; cases h) hlk
  exact ⟨_, _, retOut X hx hret rfl (Or.inr (Or.inl ⟨rfl, rfl, z, rfl⟩)) hd hr, hrun, hended, _, _, rfl, hQ, ⟨_, rfl⟩, hW, hsame.mono hc hs⟩
theorem own_retA (X : Stand p l e R s m args below meth c T locs cells slots) (hx : p.tables.exec = Jvm.exec) {t : FieldType} {v : Value} (hret : meth.sig.returnType = some t) (ht : t.isReference = true) (hv : v.isRef = true) (hn : narrow t v = v) (hd : decode c.code pc = .ok (.areturn, 1)) (hlk : meth.locks = false) (hc : cells ≤ kc) (hs : slots ≤ ks) (hQ : Q (some v) T.heap locs) : own_Fin p e below (own_End s Q kc ks) (T.setTop (mkF m pc Ls (v :: st))) := by
  obtain ⟨fs, hr, hrun, hended, hW, hsame⟩ := X.leave (v := some v) (fun h => by rw [hret] at h; cases h) hlk
  exact ⟨_, _, retOut X hx hret hn (Or.inr (Or.inr (Or.inr (Or.inr ⟨rfl, ht, hv⟩)))) hd hr, hrun, hended, _, _, rfl, hQ, ⟨_, rfl⟩, hW, hsame.mono hc hs⟩
theorem own_retV (X : Stand p l e R s m args below meth c T locs cells slots) (hx : p.tables.exec = Jvm.exec) (hret : meth.sig.returnType = none) (hd : decode c.code pc = .ok (.return_, 1)) (hlk : meth.locks = false) (hc : cells ≤ kc) (hs : slots ≤ ks) (hQ : Q none T.heap locs) : own_Fin p e below (own_End s Q kc ks) (T.setTop (mkF m pc Ls [])) := by
  obtain ⟨fs, hr, hrun, hended, hW, hsame⟩ := X.leave (v := none) (fun _ => rfl) hlk
  exact ⟨_, _, X.returnOut hx hret hd hr, hrun, hended, _, _, rfl, hQ, ⟨_, rfl⟩, hW, hsame.mono hc hs⟩
theorem own_exa {t : Term} {C : String} (hx : (Jvm.Cond.exactly t C).value args s none s [] = some true) : ∃ a, t.eval args s none [] s = some (.ref a) ∧ Exa s s.heap a C := by
  obtain ⟨a, ev⟩ := exa_v hx
  exact ⟨a, ev, Exa.start ev hx⟩
theorem own_eqI {t : Term} {v : Int32} {idx : List Nat} (h : (Jvm.Cond.eq t (.int v)).value args s none s idx = some true) : t.eval args s none idx s = some (.int v) := by
  simp only [Cond.value, Term.eval] at h
  cases ht : t.eval args s none idx s with
  | none => simp [ht] at h
  | some x => cases x <;> simp [ht] at h ⊢; exact h
theorem own_eqR {t u : Term} {b : Addr} {idx : List Nat} (hu : u.eval args s none idx s = some (.ref b)) (h : (Jvm.Cond.eq t u).value args s none s idx = some true) : t.eval args s none idx s = some (.ref b) := by
  simp only [Cond.value, hu] at h
  cases ht : t.eval args s none idx s with
  | none => simp [ht] at h
  | some x => cases x <;> simp [ht] at h ⊢; exact h
theorem own_len2 {t : Term} {a : Addr} {cl : Cell} {ty : FieldType} {n : Int32} (ev : t.eval args s none [] s = some (.ref a)) (A : Arr s s.heap a cl ty) (h : (Term.length t).eval args s none [] s = some (.int n)) : cl.slots.size < 2 ^ 31 ∧ cl.slots.size.toInt32 = n := by
  have hA := A.fin (Vm.Alike.refl _)
  simp only [Term.eval, ev, hA, Option.bind_eq_bind, Option.bind_some] at h
  by_cases q : cl.slots.size < 2 ^ 31
  · rw [if_pos q] at h
    exact ⟨q, Value.int.inj (Option.some.inj h)⟩
  · rw [if_neg q] at h
    cases h
theorem own_len {t : Term} {a : Addr} {cl : Cell} {ty : FieldType} {n : Int32} (ev : t.eval args s none [] s = some (.ref a)) (A : Arr s s.heap a cl ty) (h : (Term.length t).eval args s none [] s = some (.int n)) : cl.slots.size.toInt32 = n := (own_len2 ev A h).2
theorem own_fld {t : Term} {O n d : String} {a : Addr} {v : Value} (ev : t.eval args s none [] s = some (.ref a)) (h : (Term.field t O n d).eval args s none [] s = some v) : Fld s s.heap a O n d v := Fld.start (by rw [← fld_at ev]; exact h)
end Own


theorem own_w0 {a0 : Array Value} {Z : State} (hw : ∀ d ∈ tables_1, d.before a0 Z = true) : (Jvm.Cond.methodLink "com/example/glasnik/glasnik/engine/framing/FramingOpenedByPinLaw" (7 : Nat) ({ cls := "com/example/glasnik/glasnik/engine/framing/Framing", name := "openedBy", desc := "(B)Lcom/example/glasnik/glasnik/engine/framing/Framing;" } : Jvm.MethodName)).before a0 Z = true := hw _ (List.mem_of_getElem? (i := 0) rfl)
theorem own_w1 {a0 : Array Value} {Z : State} (hw : ∀ d ∈ tables_1, d.before a0 Z = true) : (Jvm.Cond.static ({ cls := "com/example/glasnik/glasnik/engine/framing/Framing", name := "openedBy", desc := "(B)Lcom/example/glasnik/glasnik/engine/framing/Framing;" } : Jvm.MethodName)).before a0 Z = true := hw _ (List.mem_of_getElem? (i := 1) rfl)
theorem own_w2 {a0 : Array Value} {Z : State} (hw : ∀ d ∈ tables_1, d.before a0 Z = true) : (Jvm.Cond.initialized "com/example/glasnik/glasnik/engine/framing/Framing").before a0 Z = true := hw _ (List.mem_of_getElem? (i := 2) rfl)
theorem own_w3 {a0 : Array Value} {Z : State} (hw : ∀ d ∈ tables_1, d.before a0 Z = true) : (Jvm.Cond.code ({ cls := "com/example/glasnik/glasnik/engine/framing/Framing", name := "openedBy", desc := "(B)Lcom/example/glasnik/glasnik/engine/framing/Framing;" } : Jvm.MethodName) prog_96_method_6_code (5 : Nat) (Option.some (Jvm.ClassFile.FieldType.object "com/example/glasnik/glasnik/engine/framing/Framing"))).before a0 Z = true := hw _ (List.mem_of_getElem? (i := 3) rfl)
theorem own_w4 {a0 : Array Value} {Z : State} (hw : ∀ d ∈ tables_1, d.before a0 Z = true) : (Jvm.Cond.fieldLink "com/example/glasnik/glasnik/engine/framing/Framing" (81 : Nat) "com/example/glasnik/glasnik/engine/framing/Framing" "ALL" "[Lcom/example/glasnik/glasnik/engine/framing/Framing;").before a0 Z = true := hw _ (List.mem_of_getElem? (i := 4) rfl)
theorem own_w5 {a0 : Array Value} {Z : State} (hw : ∀ d ∈ tables_1, d.before a0 Z = true) : (Jvm.Cond.laysStatic "com/example/glasnik/glasnik/engine/framing/Framing" "ALL" "[Lcom/example/glasnik/glasnik/engine/framing/Framing;").before a0 Z = true := hw _ (List.mem_of_getElem? (i := 5) rfl)
theorem own_w6 {a0 : Array Value} {Z : State} (hw : ∀ d ∈ tables_1, d.before a0 Z = true) : (Jvm.Cond.laysStatic "com/example/glasnik/glasnik/engine/framing/Framing" "MLLP" "Lcom/example/glasnik/glasnik/engine/framing/Framing;").before a0 Z = true := hw _ (List.mem_of_getElem? (i := 6) rfl)
theorem own_w7 {a0 : Array Value} {Z : State} (hw : ∀ d ∈ tables_1, d.before a0 Z = true) : (Jvm.Cond.fieldLink "com/example/glasnik/glasnik/engine/framing/Framing" (29 : Nat) "com/example/glasnik/glasnik/engine/framing/Framing" "start" "B").before a0 Z = true := hw _ (List.mem_of_getElem? (i := 7) rfl)
theorem own_w8 {a0 : Array Value} {Z : State} (hw : ∀ d ∈ tables_1, d.before a0 Z = true) : (Jvm.Cond.laysFinal "com/example/glasnik/glasnik/engine/framing/Framing" "com/example/glasnik/glasnik/engine/framing/Framing" "start" "B").before a0 Z = true := hw _ (List.mem_of_getElem? (i := 8) rfl)
theorem own_w9 {a0 : Array Value} {Z : State} (hw : ∀ d ∈ tables_1, d.before a0 Z = true) : (Jvm.Cond.laysStatic "com/example/glasnik/glasnik/engine/framing/Framing" "STX_ETX" "Lcom/example/glasnik/glasnik/engine/framing/Framing;").before a0 Z = true := hw _ (List.mem_of_getElem? (i := 9) rfl)
theorem own_w10 {a0 : Array Value} {Z : State} (hw : ∀ d ∈ tables_1, d.before a0 Z = true) : (Jvm.Cond.fieldLink "com/example/glasnik/glasnik/engine/framing/FramingOpenedByPinLaw" (17 : Nat) "com/example/glasnik/glasnik/engine/framing/Framing" "STX_ETX" "Lcom/example/glasnik/glasnik/engine/framing/Framing;").before a0 Z = true := hw _ (List.mem_of_getElem? (i := 10) rfl)
theorem own_w11 {a0 : Array Value} {Z : State} (hw : ∀ d ∈ tables_1, d.before a0 Z = true) : (Jvm.Cond.fieldLink "com/example/glasnik/glasnik/engine/framing/FramingOpenedByPinLaw" (13 : Nat) "com/example/glasnik/glasnik/engine/framing/Framing" "MLLP" "Lcom/example/glasnik/glasnik/engine/framing/Framing;").before a0 Z = true := hw _ (List.mem_of_getElem? (i := 11) rfl)
theorem own_b (x : Int32) : (x).toInt8.toInt32 = 11 ∨ (x).toInt8.toInt32 = 2 ∨ (¬ (11 : Int32) = (x).toInt8.toInt32 ∧ ¬ (2 : Int32) = (x).toInt8.toInt32 ∧ ¬ (x).toInt8.toInt32 &&& (255 : Int32) = 11 ∧ ¬ (x).toInt8.toInt32 &&& (255 : Int32) = 2) := by
  have h1 := c_i2b x
  have h2 := c_mask (x).toInt8.toInt32 255 8 (by decide) (by decide)
  have e1 : (11 : Int32).toInt = 11 := by decide
  have e2 : (2 : Int32).toInt = 2 := by decide
  simp only [← Int32.toInt_inj, h2, e1, e2]
  omega
theorem own_op_0 : decode prog_96_method_6_code 0 = .ok (.getstatic 81, 3) := by decide +kernel
theorem own_op_3 : decode prog_96_method_6_code 3 = .ok (.astore_n 1, 1) := by decide +kernel
theorem own_op_4 : decode prog_96_method_6_code 4 = .ok (.aload_n 1, 1) := by decide +kernel
theorem own_op_5 : decode prog_96_method_6_code 5 = .ok (.arraylength, 1) := by decide +kernel
theorem own_op_6 : decode prog_96_method_6_code 6 = .ok (.istore_n 2, 1) := by decide +kernel
theorem own_op_7 : decode prog_96_method_6_code 7 = .ok (.iconst 0, 1) := by decide +kernel
theorem own_op_8 : decode prog_96_method_6_code 8 = .ok (.istore_n 3, 1) := by decide +kernel
theorem own_op_9 : decode prog_96_method_6_code 9 = .ok (.iload_n 3, 1) := by decide +kernel
theorem own_op_10 : decode prog_96_method_6_code 10 = .ok (.iload_n 2, 1) := by decide +kernel
theorem own_op_11 : decode prog_96_method_6_code 11 = .ok (.if_icmp .ge 26, 3) := by decide +kernel
theorem own_op_14 : decode prog_96_method_6_code 14 = .ok (.aload_n 1, 1) := by decide +kernel
theorem own_op_15 : decode prog_96_method_6_code 15 = .ok (.iload_n 3, 1) := by decide +kernel
theorem own_op_16 : decode prog_96_method_6_code 16 = .ok (.aaload, 1) := by decide +kernel
theorem own_op_17 : decode prog_96_method_6_code 17 = .ok (.astore 4, 2) := by decide +kernel
theorem own_op_19 : decode prog_96_method_6_code 19 = .ok (.aload 4, 2) := by decide +kernel
theorem own_op_21 : decode prog_96_method_6_code 21 = .ok (.getfield 29, 3) := by decide +kernel
theorem own_op_24 : decode prog_96_method_6_code 24 = .ok (.iload_n 0, 1) := by decide +kernel
theorem own_op_25 : decode prog_96_method_6_code 25 = .ok (.if_icmp .ne 6, 3) := by decide +kernel
theorem own_op_28 : decode prog_96_method_6_code 28 = .ok (.aload 4, 2) := by decide +kernel
theorem own_op_30 : decode prog_96_method_6_code 30 = .ok (.areturn, 1) := by decide +kernel
theorem own_op_31 : decode prog_96_method_6_code 31 = .ok (.iinc 3 1, 3) := by decide +kernel
theorem own_op_34 : decode prog_96_method_6_code 34 = .ok (.goto (-25), 3) := by decide +kernel
theorem own_op_37 : decode prog_96_method_6_code 37 = .ok (.aconst_null, 1) := by decide +kernel
theorem own_op_38 : decode prog_96_method_6_code 38 = .ok (.areturn, 1) := by decide +kernel
theorem own_pn_com_example_glasnik_glasnik_engine_framing_Framing : plainName "com/example/glasnik/glasnik/engine/framing/Framing" = true := by first | (simp [plainName, overriddenIn]; done) | decide +kernel
set_option maxRecDepth 65536 in
set_option maxHeartbeats 40000000 in
theorem own_opened (l : Launch) (Z : State) (a0 : Array Value) (hw : ∀ d ∈ tables_1, d.before a0 Z = true) (b : Int32) (al sM sS : Addr) (cl : Cell) (h0 : Heap) (n0 : Nat) (S : Sta Z h0 "com/example/glasnik/glasnik/engine/framing/Framing" "ALL" "[Lcom/example/glasnik/glasnik/engine/framing/Framing;" (.ref al)) (A : Arr Z h0 al cl (.object "com/example/glasnik/glasnik/engine/framing/Framing")) (hl : cl.slots.size.toInt32 = (2 : Int32)) (hi0 : ¬ ((0 : Int32) < 0 ∨ cl.slots.size ≤ (0 : Int32).toNatClampNeg)) (hv0 : cl.slots[(0 : Int32).toNatClampNeg]? = some (.ref sM)) (hi1 : ¬ ((1 : Int32) < 0 ∨ cl.slots.size ≤ (1 : Int32).toNatClampNeg)) (hv1 : cl.slots[(1 : Int32).toNatClampNeg]? = some (.ref sS)) (FM : Fld Z h0 sM "com/example/glasnik/glasnik/engine/framing/Framing" "start" "B" (.int 11)) (FS : Fld Z h0 sS "com/example/glasnik/glasnik/engine/framing/Framing" "start" "B" (.int 2)) :
    own_Met l Z (⟨"com/example/glasnik/glasnik/engine/framing/Framing", "openedBy", "(B)Lcom/example/glasnik/glasnik/engine/framing/Framing;"⟩ : MethodName) prog_96_method_6_code 5 (some (.object "com/example/glasnik/glasnik/engine/framing/Framing")) ({ frames := 0, cells := 0, slots := 0, locals := 0 } : Room) #[(.int b)] h0 (fun v h L => v = some (if (11 : Int32) = b then .ref sM else if (2 : Int32) = b then .ref sS else .null) ∧ Fr n0 L ∧ h = h0) := by
  refine own_body (Ls := #[.val (.int b), .unset, .unset, .unset, .unset]) (plainFor_of_name own_pn_com_example_glasnik_glasnik_engine_framing_Framing) (fun m => by first | (simp [entryFrame, mkF, argsToLocals, Value.category]; done) | rfl) ?_
  intro p e s m below meth c s₁ hx hZ hby hml hown hnm hret hlk X0 e0
  have N0 := Fr.nil n0
  refine own_getstatic X0 hx hZ (host := "") hown (Or.inl (own_w4 hw)) Via.refl e0 S (hb hby own_op_0) fun T1 X1 e1 => ?_
  refine own_astoreN X1 hx (l' := #[.val (.int b), .val (.ref al), .unset, .unset, .unset]) (hb hby own_op_3) rfl rfl ?_
  refine own_aloadN X1 hx (hb hby own_op_4) rfl rfl ?_
  refine own_arraylength X1 hx hZ e1 A hl (hb hby own_op_5) ?_
  refine own_istoreN X1 hx (l' := #[.val (.int b), .val (.ref al), .val (.int (2 : Int32)), .unset, .unset]) (hb hby own_op_6) rfl ?_
  refine own_iconst X1 hx (0 : Int32) (hb hby own_op_7) rfl ?_
  refine own_istoreN X1 hx (l' := #[.val (.int b), .val (.ref al), .val (.int (2 : Int32)), .val (.int (0 : Int32)), .unset]) (hb hby own_op_8) rfl ?_
  refine own_iloadN X1 hx (hb hby own_op_9) rfl ?_
  refine own_iloadN X1 hx (hb hby own_op_10) rfl ?_
  refine own_icmpNo X1 hx (hb hby own_op_11) (by decide) ?_
  refine own_aloadN X1 hx (hb hby own_op_14) rfl rfl ?_
  refine own_iloadN X1 hx (hb hby own_op_15) rfl ?_
  refine own_aaload X1 hx hZ e1 A rfl hi0 hv0 (hb hby own_op_16) ?_
  refine own_astore X1 hx (l' := #[.val (.int b), .val (.ref al), .val (.int (2 : Int32)), .val (.int (0 : Int32)), .val (.ref sM)]) (hb hby own_op_17) rfl rfl ?_
  refine own_aload X1 hx (hb hby own_op_19) rfl rfl ?_
  refine own_getfield X1 hx hZ (host := "") hown (Or.inl (own_w7 hw)) Via.refl e1 FM (hb hby own_op_21) fun T2 X2 e2 => ?_
  refine own_iloadN X2 hx (hb hby own_op_24) rfl ?_
  by_cases h1 : (11 : Int32) = b
  · skip
    refine own_icmpNo X2 hx (hb hby own_op_25) (Jvm.Free.XT.ii_ne_f h1) ?_
    refine own_aload X2 hx (hb hby own_op_28) rfl rfl ?_
    refine own_retA X2 hx hret rfl rfl rfl (hb hby own_op_30) hlk (by decide) (by decide) ?_
    exact ⟨by rw [if_pos h1], N0, e2⟩
  · skip
    refine own_icmpYes X2 hx 31 (hb hby own_op_25) (by decide) (by decide) (Jvm.Free.XT.ii_ne_t h1) ?_
    refine own_iinc X2 hx (l' := #[.val (.int b), .val (.ref al), .val (.int (2 : Int32)), .val (.int (1 : Int32)), .val (.ref sM)]) (1 : Int32) (hb hby own_op_31) rfl rfl rfl ?_
    refine own_goto X2 hx 9 (hb hby own_op_34) (by decide) (by decide) ?_
    refine own_iloadN X2 hx (hb hby own_op_9) rfl ?_
    refine own_iloadN X2 hx (hb hby own_op_10) rfl ?_
    refine own_icmpNo X2 hx (hb hby own_op_11) (by decide) ?_
    refine own_aloadN X2 hx (hb hby own_op_14) rfl rfl ?_
    refine own_iloadN X2 hx (hb hby own_op_15) rfl ?_
    refine own_aaload X2 hx hZ e2 A rfl hi1 hv1 (hb hby own_op_16) ?_
    refine own_astore X2 hx (l' := #[.val (.int b), .val (.ref al), .val (.int (2 : Int32)), .val (.int (1 : Int32)), .val (.ref sS)]) (hb hby own_op_17) rfl rfl ?_
    refine own_aload X2 hx (hb hby own_op_19) rfl rfl ?_
    refine own_getfield X2 hx hZ (host := "") hown (Or.inl (own_w7 hw)) Via.refl e2 FS (hb hby own_op_21) fun T3 X3 e3 => ?_
    refine own_iloadN X3 hx (hb hby own_op_24) rfl ?_
    by_cases h2 : (2 : Int32) = b
    · skip
      refine own_icmpNo X3 hx (hb hby own_op_25) (Jvm.Free.XT.ii_ne_f h2) ?_
      refine own_aload X3 hx (hb hby own_op_28) rfl rfl ?_
      refine own_retA X3 hx hret rfl rfl rfl (hb hby own_op_30) hlk (by decide) (by decide) ?_
      exact ⟨by rw [if_neg h1, if_pos h2], N0, e3⟩
    · skip
      refine own_icmpYes X3 hx 31 (hb hby own_op_25) (by decide) (by decide) (Jvm.Free.XT.ii_ne_t h2) ?_
      refine own_iinc X3 hx (l' := #[.val (.int b), .val (.ref al), .val (.int (2 : Int32)), .val (.int (2 : Int32)), .val (.ref sS)]) (1 : Int32) (hb hby own_op_31) rfl rfl rfl ?_
      refine own_goto X3 hx 9 (hb hby own_op_34) (by decide) (by decide) ?_
      refine own_iloadN X3 hx (hb hby own_op_9) rfl ?_
      refine own_iloadN X3 hx (hb hby own_op_10) rfl ?_
      refine own_icmpYes X3 hx 37 (hb hby own_op_11) (by decide) (by decide) (by decide) ?_
      refine own_aconst_null X3 hx (hb hby own_op_37) ?_
      refine own_retA X3 hx hret rfl rfl rfl (hb hby own_op_38) hlk (by decide) (by decide) ?_
      exact ⟨by rw [if_neg h1, if_neg h2], N0, e3⟩
theorem own_pn_com_example_glasnik_glasnik_engine_framing_FramingOpenedByPinLaw : plainName "com/example/glasnik/glasnik/engine/framing/FramingOpenedByPinLaw" = true := by first | (simp [plainName, overriddenIn]; done) | decide +kernel
theorem own_pd__28B_29Lcom_2fexample_2fglasnik_2fglasnik_2fengine_2fframing_2fFraming_3b : parseMethodDescriptor "(B)Lcom/example/glasnik/glasnik/engine/framing/Framing;" = some ⟨[.byte], some (.object "com/example/glasnik/glasnik/engine/framing/Framing")⟩ := by decide +kernel
set_option maxRecDepth 65536 in
set_option maxHeartbeats 40000000 in
theorem own_law (l : Launch) (Z : State) (a0 : Array Value) (hw : ∀ d ∈ tables_1, d.before a0 Z = true) (x0 : Int32) (al sM sS : Addr) (cl : Cell) (h0 : Heap) (n0 : Nat) (S : Sta Z h0 "com/example/glasnik/glasnik/engine/framing/Framing" "ALL" "[Lcom/example/glasnik/glasnik/engine/framing/Framing;" (.ref al)) (A : Arr Z h0 al cl (.object "com/example/glasnik/glasnik/engine/framing/Framing")) (hl : cl.slots.size.toInt32 = (2 : Int32)) (hi0 : ¬ ((0 : Int32) < 0 ∨ cl.slots.size ≤ (0 : Int32).toNatClampNeg)) (hv0 : cl.slots[(0 : Int32).toNatClampNeg]? = some (.ref sM)) (hi1 : ¬ ((1 : Int32) < 0 ∨ cl.slots.size ≤ (1 : Int32).toNatClampNeg)) (hv1 : cl.slots[(1 : Int32).toNatClampNeg]? = some (.ref sS)) (FM : Fld Z h0 sM "com/example/glasnik/glasnik/engine/framing/Framing" "start" "B" (.int 11)) (FS : Fld Z h0 sS "com/example/glasnik/glasnik/engine/framing/Framing" "start" "B" (.int 2)) (SM : Sta Z h0 "com/example/glasnik/glasnik/engine/framing/Framing" "MLLP" "Lcom/example/glasnik/glasnik/engine/framing/Framing;" (.ref sM)) (SS : Sta Z h0 "com/example/glasnik/glasnik/engine/framing/Framing" "STX_ETX" "Lcom/example/glasnik/glasnik/engine/framing/Framing;" (.ref sS)) :
    own_Met l Z x code maxLocals ret room_1 #[(.int x0)] h0 (fun v h L => v = some (.int 1) ∧ Fr n0 L) := by
  refine own_body (Ls := #[.val (.int x0), .unset, .unset, .unset, .unset]) (plainFor_of_name own_pn_com_example_glasnik_glasnik_engine_framing_FramingOpenedByPinLaw) (fun m => by first | (simp [entryFrame, mkF, argsToLocals, Value.category, maxLocals]; done) | rfl) ?_
  intro p e s m below meth c s₁ hx hZ hby hml hown hnm hret hlk X0 e0
  have N0 := Fr.nil n0
  refine own_iloadN X0 hx (hb hby at_0) rfl ?_
  refine own_i2b X0 hx (hb hby at_1) ?_
  refine own_istoreN X0 hx (l' := #[.val (.int x0), .val (.int (x0).toInt8.toInt32), .unset, .unset, .unset]) (hb hby at_2) rfl ?_
  have hb0 := own_b x0
  generalize (x0).toInt8.toInt32 = b at hb0 ⊢
  rcases hb0 with rfl | rfl | ⟨hb1, hb2, hu1, hu2⟩
  · skip
    refine own_iloadN X0 hx (hb hby at_3) rfl ?_
    refine own_stat X0 hx hZ hown (own_w0 hw) (own_w1 hw) (own_w3 hw) (own_w2 hw) (by decide) e0 (hb hby at_4) (by rw [hml]; rfl) own_pd__28B_29Lcom_2fexample_2fglasnik_2fglasnik_2fengine_2fframing_2fFraming_3b rfl (W := 0) (Nat.le_of_ble_eq_true rfl) (own_opened l Z a0 hw (11 : Int32) al sM sS cl h0 n0 S A hl hi0 hv0 hi1 hv1 FM FS) (by decide) (by decide) (by decide) (by decide) (argsL := [(.int (11 : Int32))]) (rest := []) rfl rfl fun v4 T4 L4 X4 q4 => ?_
    obtain ⟨rfl, M4, e4⟩ := q4
    rw [if_pos rfl]
    show own_Fin p e below _ (T4.setTop (mkF m 7 #[.val (.int x0), .val (.int (11 : Int32)), .unset, .unset, .unset] [(.ref sM)]))
    refine own_astoreN X4 hx (l' := #[.val (.int x0), .val (.int (11 : Int32)), .val (.ref sM), .unset, .unset]) (hb hby at_7) rfl rfl ?_
    refine own_iloadN X4 hx (hb hby at_8) rfl ?_
    refine own_sipush X4 hx (255 : Int32) (hb hby at_9) rfl ?_
    refine own_iand X4 hx (hb hby at_12) ?_
    refine own_istoreN X4 hx (l' := #[.val (.int x0), .val (.int (11 : Int32)), .val (.ref sM), .val (.int ((11 : Int32) &&& (255 : Int32))), .unset]) (hb hby at_13) rfl ?_
    refine own_iloadN X4 hx (hb hby at_14) rfl ?_
    refine own_bipush X4 hx (11 : Int32) (hb hby at_15) rfl ?_
    refine own_icmpNo X4 hx (hb hby at_17) (by decide) ?_
    refine own_getstatic X4 hx hZ (host := "") hown (Or.inl (own_w11 hw)) Via.refl e4 SM (hb hby at_20) fun T5 X5 e5 => ?_
    refine own_astore X5 hx (l' := #[.val (.int x0), .val (.int (11 : Int32)), .val (.ref sM), .val (.int ((11 : Int32) &&& (255 : Int32))), .val (.ref sM)]) (hb hby at_23) rfl rfl ?_
    refine own_goto X5 hx 44 (hb hby at_25) (by decide) (by decide) ?_
    refine own_aloadN X5 hx (hb hby at_44) rfl rfl ?_
    refine own_aload X5 hx (hb hby at_45) rfl rfl ?_
    refine own_acmpNo X5 hx (hb hby at_47) rfl rfl (Jvm.Free.XT.aa_ne_f rfl) ?_
    refine own_iconst X5 hx (1 : Int32) (hb hby at_50) rfl ?_
    refine own_goto X5 hx 55 (hb hby at_51) (by decide) (by decide) ?_
    refine own_retN X5 hx (t := .boolean) hret (by simp) (hb hby at_55) hlk (by decide) (by decide) ?_
    exact ⟨rfl, Fr.app N0 M4⟩
  · skip
    refine own_iloadN X0 hx (hb hby at_3) rfl ?_
    refine own_stat X0 hx hZ hown (own_w0 hw) (own_w1 hw) (own_w3 hw) (own_w2 hw) (by decide) e0 (hb hby at_4) (by rw [hml]; rfl) own_pd__28B_29Lcom_2fexample_2fglasnik_2fglasnik_2fengine_2fframing_2fFraming_3b rfl (W := 0) (Nat.le_of_ble_eq_true rfl) (own_opened l Z a0 hw (2 : Int32) al sM sS cl h0 n0 S A hl hi0 hv0 hi1 hv1 FM FS) (by decide) (by decide) (by decide) (by decide) (argsL := [(.int (2 : Int32))]) (rest := []) rfl rfl fun v6 T6 L6 X6 q6 => ?_
    obtain ⟨rfl, M6, e6⟩ := q6
    rw [if_neg (by decide), if_pos rfl]
    show own_Fin p e below _ (T6.setTop (mkF m 7 #[.val (.int x0), .val (.int (2 : Int32)), .unset, .unset, .unset] [(.ref sS)]))
    refine own_astoreN X6 hx (l' := #[.val (.int x0), .val (.int (2 : Int32)), .val (.ref sS), .unset, .unset]) (hb hby at_7) rfl rfl ?_
    refine own_iloadN X6 hx (hb hby at_8) rfl ?_
    refine own_sipush X6 hx (255 : Int32) (hb hby at_9) rfl ?_
    refine own_iand X6 hx (hb hby at_12) ?_
    refine own_istoreN X6 hx (l' := #[.val (.int x0), .val (.int (2 : Int32)), .val (.ref sS), .val (.int ((2 : Int32) &&& (255 : Int32))), .unset]) (hb hby at_13) rfl ?_
    refine own_iloadN X6 hx (hb hby at_14) rfl ?_
    refine own_bipush X6 hx (11 : Int32) (hb hby at_15) rfl ?_
    refine own_icmpYes X6 hx 28 (hb hby at_17) (by decide) (by decide) (by decide) ?_
    refine own_iloadN X6 hx (hb hby at_28) rfl ?_
    refine own_iconst X6 hx (2 : Int32) (hb hby at_29) rfl ?_
    refine own_icmpNo X6 hx (hb hby at_30) (by decide) ?_
    refine own_getstatic X6 hx hZ (host := "") hown (Or.inl (own_w10 hw)) Via.refl e6 SS (hb hby at_33) fun T7 X7 e7 => ?_
    refine own_astore X7 hx (l' := #[.val (.int x0), .val (.int (2 : Int32)), .val (.ref sS), .val (.int ((2 : Int32) &&& (255 : Int32))), .val (.ref sS)]) (hb hby at_36) rfl rfl ?_
    refine own_goto X7 hx 44 (hb hby at_38) (by decide) (by decide) ?_
    refine own_aloadN X7 hx (hb hby at_44) rfl rfl ?_
    refine own_aload X7 hx (hb hby at_45) rfl rfl ?_
    refine own_acmpNo X7 hx (hb hby at_47) rfl rfl (Jvm.Free.XT.aa_ne_f rfl) ?_
    refine own_iconst X7 hx (1 : Int32) (hb hby at_50) rfl ?_
    refine own_goto X7 hx 55 (hb hby at_51) (by decide) (by decide) ?_
    refine own_retN X7 hx (t := .boolean) hret (by simp) (hb hby at_55) hlk (by decide) (by decide) ?_
    exact ⟨rfl, Fr.app N0 M6⟩
  · skip
    refine own_iloadN X0 hx (hb hby at_3) rfl ?_
    refine own_stat X0 hx hZ hown (own_w0 hw) (own_w1 hw) (own_w3 hw) (own_w2 hw) (by decide) e0 (hb hby at_4) (by rw [hml]; rfl) own_pd__28B_29Lcom_2fexample_2fglasnik_2fglasnik_2fengine_2fframing_2fFraming_3b rfl (W := 0) (Nat.le_of_ble_eq_true rfl) (own_opened l Z a0 hw b al sM sS cl h0 n0 S A hl hi0 hv0 hi1 hv1 FM FS) (by decide) (by decide) (by decide) (by decide) (argsL := [(.int b)]) (rest := []) rfl rfl fun v8 T8 L8 X8 q8 => ?_
    obtain ⟨rfl, M8, e8⟩ := q8
    rw [if_neg hb1, if_neg hb2]
    show own_Fin p e below _ (T8.setTop (mkF m 7 #[.val (.int x0), .val (.int b), .unset, .unset, .unset] [.null]))
    refine own_astoreN X8 hx (l' := #[.val (.int x0), .val (.int b), .val .null, .unset, .unset]) (hb hby at_7) rfl rfl ?_
    refine own_iloadN X8 hx (hb hby at_8) rfl ?_
    refine own_sipush X8 hx (255 : Int32) (hb hby at_9) rfl ?_
    refine own_iand X8 hx (hb hby at_12) ?_
    refine own_istoreN X8 hx (l' := #[.val (.int x0), .val (.int b), .val .null, .val (.int (b &&& (255 : Int32))), .unset]) (hb hby at_13) rfl ?_
    refine own_iloadN X8 hx (hb hby at_14) rfl ?_
    refine own_bipush X8 hx (11 : Int32) (hb hby at_15) rfl ?_
    refine own_icmpYes X8 hx 28 (hb hby at_17) (by decide) (by decide) (Jvm.Free.XT.ii_ne_t hu1) ?_
    refine own_iloadN X8 hx (hb hby at_28) rfl ?_
    refine own_iconst X8 hx (2 : Int32) (hb hby at_29) rfl ?_
    refine own_icmpYes X8 hx 41 (hb hby at_30) (by decide) (by decide) (Jvm.Free.XT.ii_ne_t hu2) ?_
    refine own_aconst_null X8 hx (hb hby at_41) ?_
    refine own_astore X8 hx (l' := #[.val (.int x0), .val (.int b), .val .null, .val (.int (b &&& (255 : Int32))), .val .null]) (hb hby at_42) rfl rfl ?_
    refine own_aloadN X8 hx (hb hby at_44) rfl rfl ?_
    refine own_aload X8 hx (hb hby at_45) rfl rfl ?_
    refine own_acmpNo X8 hx (hb hby at_47) rfl rfl (Jvm.Free.XT.aa_ne_f rfl) ?_
    refine own_iconst X8 hx (1 : Int32) (hb hby at_50) rfl ?_
    refine own_goto X8 hx 55 (hb hby at_51) (by decide) (by decide) ?_
    refine own_retN X8 hx (t := .boolean) hret (by simp) (hb hby at_55) hlk (by decide) (by decide) ?_
    exact ⟨rfl, Fr.app N0 M8⟩
set_option maxRecDepth 65536 in
set_option maxHeartbeats 40000000 in
theorem own_comes {Post : Tables → Env → Array Value → State → Outcome → State → Prop} (hpost : ∀ tb e args s v u, (limb_1_1.after args s (.returned v) u = true ∧ limb_1_2.after args s (.returned v) u = true) → FrameEnd s (.returned v) u (Jvm.fieldLocs frame_1_writes args s ++ Jvm.arrayLocs frame_1_arrays args s ++ Jvm.staticLocs frame_1_statics s) 0 0 → Post tb e args s (.returned v) u) :
    ArmFor flags0 classFile x code maxLocals ret World_1 tables_1 room_1 Calls_1 rest_1 Pre_1 Post := by
  intro l hfl _ _ p e ha hc hk s m args below hf hA hF happ hP
  obtain ⟨hcalls, hrest, hpre⟩ := hP
  obtain ⟨-, -, -, hnamed, -, -, -, hat⟩ := (Spec.applies_iff hf).mp happ
  obtain ⟨hg, hn⟩ := and_e (Cond.before_iff.mp (show (Jvm.Cond.and given_1 narrow_1).before args s = true from hpre))
  obtain ⟨hcount, hgs⟩ := and_e hg
  obtain ⟨w0, rfl⟩ : ∃ w0 : Value, args = #[w0] := by
    have hs : args.size = 1 := by simpa [Cond.value, given_1] using hcount
    obtain ⟨L⟩ := args
    match L, hs with
    | [w0], _ => exact ⟨w0, rfl⟩
  have hw := fun d (hd : d ∈ tables_1) => atoms_spec (ws := Jvm.Cond.code x code maxLocals ret :: tables_1) hat d (List.mem_cons_of_mem _ hd)
  have hfit : Fit s := fun {y c} hc i hi => by
    obtain ⟨ha, rfl⟩ := Array.getElem?_eq_some_iff.mp hc
    have q := List.all_eq_true.mp ((Array.all_eq_true_iff_forall_mem.mp hF) _ (Array.getElem_mem ha)) i (List.mem_range.mpr hi)
    simpa [Array.getElem?_eq_getElem hi] using q
  obtain ⟨i0, ei0⟩ := is_v hgs
  obtain rfl : w0 = (.int i0) := Option.some.inj ei0
  obtain ⟨n0, t0⟩ := and_e hn
  obtain ⟨n1, t1⟩ := and_e t0
  obtain ⟨n2, t2⟩ := and_e t1
  obtain ⟨n3, t3⟩ := and_e t2
  obtain ⟨n4, t4⟩ := and_e t3
  obtain ⟨n5, t5⟩ := and_e t4
  obtain ⟨n6, t6⟩ := and_e t5
  have n7 := t6
  obtain ⟨al, ev_ALL⟩ := arr_v n0
  obtain ⟨cl, A⟩ := Arr.start ev_ALL n0
  have S := Sta.start ev_ALL (Or.inr ⟨(own_w2 hw), (own_w5 hw)⟩)
  have hl := own_len ev_ALL A (own_eqI n1)
  obtain ⟨sM, ev_M, EM⟩ := own_exa n2
  have SM := Sta.start ev_M (Or.inr ⟨(own_w2 hw), (own_w6 hw)⟩)
  obtain ⟨hi0, hv0⟩ := elem_in (own_eqR ev_M n3) ev_ALL rfl A.1
  have FM := own_fld ev_M (own_eqI n4)
  obtain ⟨sS, ev_S, ES⟩ := own_exa n5
  have SS := Sta.start ev_S (Or.inr ⟨(own_w2 hw), (own_w9 hw)⟩)
  obtain ⟨hi1, hv1⟩ := elem_in (own_eqR ev_S n6) ev_ALL rfl A.1
  have FS := own_fld ev_S (own_eqI n7)
  have M := own_law l s _ hw i0 al sM sS cl s.heap s.heap.size S A hl hi0 hv0 hi1 hv1 FM FS SM SS
  obtain ⟨n, o, h1, h2, h3, _, L, rfl, ⟨rfl, N⟩, hq⟩ := M tables_1 p e ha hc hk s m _ below hf ((Spec.applies_iff_loose hf).mp happ).1 ⟨rfl, State.Warmed39.refl s, rfl⟩ trivial
  exact ⟨n, _, h1, h2, h3, hpost _ _ _ _ _ _ ⟨Cond.after_iff.mpr rfl, Cond.after_iff.mpr (eq_i res_at (Term.int_eval (1)) rfl)⟩ ⟨hq.1, hq.2.1, (hq.2.2.sift fun y hy => Or.inr (N y hy)).mono (by decide) (by decide)⟩⟩
theorem main_1_1 : Claimed_1_1 := own_comes fun _ _ _ _ _ _ h hF => ⟨h.1, hF⟩
theorem main_1_2 : Claimed_1_2 := own_comes fun _ _ _ _ _ _ h hF => ⟨h.2, hF⟩
end Jvm.Pilot.@@N@@
namespace Jvm.Pilot.@@N@@
open Jvm Jvm.ClassFile Sem Op Lib Jvm.Free Jvm.Stand Jvm.Pilot.@@N@@.Jvm.D
/-! MADE BY PROGRAM (witnessworld.py) out of the Statement's table words and the real class files: 13 classes; the members and pool entries that the words name. The judged class is class 1, her method 1. -/
namespace start1
open Jvm.ClassFile
def u (s : String) : CpInfo := .utf8 (stringToUtf16 s)
/-- a pool by its gaps: so many unusable entries, then the entry; so many at the end -/
def gap : Nat → List CpInfo → List CpInfo
  | 0, r => r
  | n + 1, r => .unusable :: gap n r
def poolList (es : List (Nat × CpInfo)) (last : Nat) : List CpInfo := es.foldr (fun e r => gap e.1 (e.2 :: r)) (gap last [])
def pool (es : List (Nat × CpInfo)) (last : Nat) : Array CpInfo := ⟨poolList es last⟩
def fileOf (pool : Array CpInfo) (this : Nat) (attrs : Array Attribute := #[]) (ms : Array MethodInfo := #[]) (fl : Nat := 33) (sup : Nat := 0) (ifs : Array Nat := #[]) (fds : Array FieldInfo := #[]) : ClassFile where
  minorVersion := 0
  majorVersion := 65
  constantPool := pool
  accessFlags := fl
  thisClass := this
  superClass := sup
  interfaces := ifs
  fields := fds
  methods := ms
  attributes := attrs
def plain (name : String) (sup : Option ClassId) : Class where
  name := name
  kind := .ordinary
  loader := none
  accessFlags := 33
  super := sup
  interfaces := #[]
  cf := none
  fields := #[]
  methods := #[]
  instanceTypes := #[]
  staticTypes := #[]
  resolved := #[]
  callSites := []
  init := .initialized
  statics := none
  mirror := none

def pool0 : Array CpInfo := pool [(5, u "<init>"), (0, u "()V"), (1, .class_ 10), (1, u "java/lang/Object")] 113

def k0m0 : Method := { name := "<init>", desc := "()V", sig := { parameters := [], returnType := none }, accessFlags := 1, code := none }
/-- java/lang/Object -/
def k0 : Class := { plain "java/lang/Object" none with
  accessFlags := 33
  interfaces := #[]
  cf := some (fileOf pool0 8 #[] #[{ accessFlags := 1, nameIndex := 5, descriptorIndex := 6, attributes := #[] }] 33 0 #[] #[])
  fields := #[]
  methods := #[k0m0]
  instanceTypes := #[]
  staticTypes := #[]
  resolved := Array.replicate 124 none
  statics := none }

def pool1 : Array CpInfo := pool [(2, .class_ 4), (1, u "java/lang/Object"), (0, u "<init>"), (0, u "()V"), (0, .methodref 8 9), (0, .class_ 10), (0, .nameAndType 11 12), (0, u "com/example/glasnik/glasnik/engine/framing/Framing"), (0, u "openedBy"), (0, u "(B)Lcom/example/glasnik/glasnik/engine/framing/Framing;"), (0, .fieldref 8 14), (0, .nameAndType 15 16), (0, u "MLLP"), (0, u "Lcom/example/glasnik/glasnik/engine/framing/Framing;"), (0, .fieldref 8 18), (0, .nameAndType 19 16), (0, u "STX_ETX"), (0, .class_ 21), (0, u "com/example/glasnik/glasnik/engine/framing/FramingOpenedByPinLaw"), (2, u "law"), (0, u "(I)Z")] 3

def k1m0 : Method := { name := "<init>", desc := "()V", sig := { parameters := [], returnType := none }, accessFlags := 2, code := none }
def k1c1 : Code := { maxStack := 2, maxLocals := 5, code := code, exceptionTable := #[], attributes := #[] }
def k1m1 : Method := { name := "law", desc := "(I)Z", sig := { parameters := [.int], returnType := some .boolean }, accessFlags := 9, code := some k1c1 }
/-- com/example/glasnik/glasnik/engine/framing/FramingOpenedByPinLaw -/
def k1 : Class := { plain "com/example/glasnik/glasnik/engine/framing/FramingOpenedByPinLaw" (some 0) with
  accessFlags := 49
  interfaces := #[]
  cf := some (fileOf pool1 20 #[] #[{ accessFlags := 2, nameIndex := 5, descriptorIndex := 6, attributes := #[] }, { accessFlags := 9, nameIndex := 24, descriptorIndex := 25, attributes := #[] }] 49 2 #[] #[])
  fields := #[]
  methods := #[k1m0, k1m1]
  instanceTypes := #[]
  staticTypes := #[]
  resolved := Array.replicate 29 none
  statics := none }

def pool2 : Array CpInfo := pool [(1, .class_ 2), (0, u "java/lang/constant/Constable"), (0, .class_ 4), (0, u "java/lang/Object")] 6

/-- java/lang/constant/Constable -/
def k2 : Class := { plain "java/lang/constant/Constable" (some 0) with
  accessFlags := 1537
  interfaces := #[]
  cf := some (fileOf pool2 1 #[] #[] 1537 3 #[] #[])
  fields := #[]
  methods := #[]
  instanceTypes := #[]
  staticTypes := #[]
  resolved := Array.replicate 11 none
  statics := none }

def pool3 : Array CpInfo := pool [(1, .class_ 2), (0, u "java/lang/Comparable"), (0, .class_ 4), (0, u "java/lang/Object")] 7

/-- java/lang/Comparable -/
def k3 : Class := { plain "java/lang/Comparable" (some 0) with
  accessFlags := 1537
  interfaces := #[]
  cf := some (fileOf pool3 1 #[] #[] 1537 3 #[] #[])
  fields := #[]
  methods := #[]
  instanceTypes := #[]
  staticTypes := #[]
  resolved := Array.replicate 12 none
  statics := none }

def pool4 : Array CpInfo := pool [(1, .class_ 2), (0, u "java/io/Serializable"), (0, .class_ 4), (0, u "java/lang/Object")] 2

/-- java/io/Serializable -/
def k4 : Class := { plain "java/io/Serializable" (some 0) with
  accessFlags := 1537
  interfaces := #[]
  cf := some (fileOf pool4 1 #[] #[] 1537 3 #[] #[])
  fields := #[]
  methods := #[]
  instanceTypes := #[]
  staticTypes := #[]
  resolved := Array.replicate 7 none
  statics := none }

def pool5 : Array CpInfo := pool [(2, .class_ 4), (1, u "java/lang/Enum"), (0, u "name"), (0, u "Ljava/lang/String;"), (2, u "ordinal"), (0, u "I"), (1, .class_ 14), (1, u "java/lang/Object"), (4, u "hash"), (86, .class_ 108), (1, u "java/lang/Enum$EnumDesc"), (2, .class_ 112), (0, u "java/lang/constant/Constable"), (0, .class_ 114), (0, u "java/lang/Comparable"), (0, .class_ 116), (0, u "java/io/Serializable")] 87

/-- java/lang/Enum -/
def k5 : Class := { plain "java/lang/Enum" (some 0) with
  accessFlags := 1057
  interfaces := #[2, 3, 4]
  cf := some (fileOf pool5 2 #[.nestMembers #[106]] #[] 1057 12 #[111, 113, 115] #[{ accessFlags := 18, nameIndex := 5, descriptorIndex := 6, attributes := #[] }, { accessFlags := 18, nameIndex := 9, descriptorIndex := 10, attributes := #[] }, { accessFlags := 2, nameIndex := 19, descriptorIndex := 10, attributes := #[] }])
  fields := #[{ name := "name", type := (.object "java/lang/String"), accessFlags := 18, slot := 0, constantValue := 0 }, { name := "ordinal", type := .int, accessFlags := 18, slot := 1, constantValue := 0 }, { name := "hash", type := .int, accessFlags := 2, slot := 2, constantValue := 0 }]
  methods := #[]
  instanceTypes := #[(.object "java/lang/String"), .int, .int]
  staticTypes := #[]
  resolved := Array.replicate 204 none
  statics := none }

def pool6 : Array CpInfo := pool [(1, .class_ 2), (0, u "com/example/glasnik/glasnik/engine/framing/Framing"), (2, u "MLLP"), (0, u "Lcom/example/glasnik/glasnik/engine/framing/Framing;"), (2, u "STX_ETX"), (2, u "$VALUES"), (0, u "[Lcom/example/glasnik/glasnik/engine/framing/Framing;"), (6, .class_ 22), (1, u "java/lang/Enum"), (6, .fieldref 1 30), (0, .nameAndType 31 32), (0, u "start"), (0, u "B"), (2, u "end"), (0, u "[B"), (14, u "openedBy"), (0, u "(B)Lcom/example/glasnik/glasnik/engine/framing/Framing;"), (28, .fieldref 1 82), (0, .nameAndType 83 13), (0, u "ALL"), (8, u "MARKS"), (0, u "[Z")] 42

def k6c0 : Code := { maxStack := 2, maxLocals := 5, code := prog_96_method_6_code, exceptionTable := #[], attributes := #[] }
def k6m0 : Method := { name := "openedBy", desc := "(B)Lcom/example/glasnik/glasnik/engine/framing/Framing;", sig := { parameters := [.byte], returnType := some (.object "com/example/glasnik/glasnik/engine/framing/Framing") }, accessFlags := 8, code := some k6c0 }
/-- com/example/glasnik/glasnik/engine/framing/Framing -/
def k6 : Class := { plain "com/example/glasnik/glasnik/engine/framing/Framing" (some 5) with
  accessFlags := 16433
  interfaces := #[]
  cf := some (fileOf pool6 1 #[] #[{ accessFlags := 8, nameIndex := 51, descriptorIndex := 52, attributes := #[] }] 16433 20 #[] #[{ accessFlags := 16409, nameIndex := 5, descriptorIndex := 6, attributes := #[] }, { accessFlags := 16409, nameIndex := 9, descriptorIndex := 6, attributes := #[] }, { accessFlags := 26, nameIndex := 83, descriptorIndex := 13, attributes := #[] }, { accessFlags := 26, nameIndex := 92, descriptorIndex := 93, attributes := #[] }, { accessFlags := 18, nameIndex := 31, descriptorIndex := 32, attributes := #[] }, { accessFlags := 18, nameIndex := 35, descriptorIndex := 36, attributes := #[] }, { accessFlags := 4122, nameIndex := 12, descriptorIndex := 13, attributes := #[] }])
  fields := #[{ name := "MLLP", type := (.object "com/example/glasnik/glasnik/engine/framing/Framing"), accessFlags := 16409, slot := 0, constantValue := 0 }, { name := "STX_ETX", type := (.object "com/example/glasnik/glasnik/engine/framing/Framing"), accessFlags := 16409, slot := 1, constantValue := 0 }, { name := "ALL", type := (.array (.object "com/example/glasnik/glasnik/engine/framing/Framing")), accessFlags := 26, slot := 2, constantValue := 0 }, { name := "MARKS", type := (.array .boolean), accessFlags := 26, slot := 3, constantValue := 0 }, { name := "start", type := .byte, accessFlags := 18, slot := 3, constantValue := 0 }, { name := "end", type := (.array .byte), accessFlags := 18, slot := 4, constantValue := 0 }, { name := "$VALUES", type := (.array (.object "com/example/glasnik/glasnik/engine/framing/Framing")), accessFlags := 4122, slot := 4, constantValue := 0 }]
  methods := #[k6m0]
  instanceTypes := #[(.object "java/lang/String"), .int, .int, .byte, (.array .byte)]
  staticTypes := #[(.object "com/example/glasnik/glasnik/engine/framing/Framing"), (.object "com/example/glasnik/glasnik/engine/framing/Framing"), (.array (.object "com/example/glasnik/glasnik/engine/framing/Framing")), (.array .boolean), (.array (.object "com/example/glasnik/glasnik/engine/framing/Framing"))]
  resolved := Array.replicate 136 none
  statics := some 0 }

def pool7 : Array CpInfo := pool [(1, u "java/lang/Cloneable"), (0, .class_ 1), (0, u "java/lang/Object"), (0, .class_ 3)] 3

/-- java/lang/Cloneable -/
def k7 : Class := { plain "java/lang/Cloneable" (some 0) with
  accessFlags := 1537
  interfaces := #[]
  cf := some (fileOf pool7 2 #[] #[] 1537 4 #[] #[])
  fields := #[]
  methods := #[]
  instanceTypes := #[]
  staticTypes := #[]
  resolved := Array.replicate 8 none
  statics := none }

/-- the primitive byte -/
def k8 : Class := { plain "byte" none with kind := .primitive 'B', accessFlags := 0x411 }
/-- [B -/
def k9 : Class := { plain "[B" (some 0) with kind := .array 8 .byte, interfaces := #[7, 4], accessFlags := 1041 }

/-- the primitive int -/
def k10 : Class := { plain "int" none with kind := .primitive 'I', accessFlags := 0x411 }
/-- [I -/
def k11 : Class := { plain "[I" (some 0) with kind := .array 10 .int, interfaces := #[7, 4], accessFlags := 1041 }

/-- [Lcom/example/glasnik/glasnik/engine/framing/Framing; -/
def k12 : Class := { plain "[Lcom/example/glasnik/glasnik/engine/framing/Framing;" (some 0) with kind := .array 6 (.object "com/example/glasnik/glasnik/engine/framing/Framing"), interfaces := #[7, 4], accessFlags := 1041 }

def heap : Heap := #[{ cls := 6, slots := #[.ref 2, .ref 3, .ref 1, .null, .null], vm := .statics 6 },
  { cls := 12, slots := #[.ref 2, .ref 3], vm := .none },
  { cls := 6, slots := #[.null, .int 0, .int 0, .int 11, .null], vm := .none },
  { cls := 6, slots := #[.null, .int 1, .int 0, .int 2, .null], vm := .none }]
def classes : Array Class := #[k0, k1, k2, k3, k4, k5, k6, k7, k8, k9, k10, k11, k12]
def interned : List (Array UInt16 × Addr) := []
def slotsUsed : Nat := 17
def theMethod : MethodId := ⟨1, 1⟩
def args0 : Array Value := #[.int 11]
def aboutOver (below : List Frame) : State where
  vm := { classes := classes, interned := interned.toArray }
  heap := heap
  slotsUsed := slotsUsed
  threads := #[{ frames := .invoking theMethod args0 :: below }]
def below0 : List Frame := [.native { method := ⟨0, 0⟩, args := #[] }]
def about1 : State := aboutOver below0
def p0 : Program := .bare "" "" ""
def e0 : Env := launch0.env 0 0 0
theorem w_frames : about1.frames = Frame.invoking theMethod args0 :: below0 := rfl
set_option maxRecDepth 65536 in
theorem w_args : argsFit about1.vm theMethod args0 = true := by decide +kernel
set_option maxRecDepth 65536 in
theorem w_heap : heapFits about1 = true := by decide +kernel
set_option maxRecDepth 65536 in
theorem w_runnable : about1.curStatus? = some .runnable := by decide +kernel
set_option maxRecDepth 65536 in
theorem w_alone : about1.alone = true := by decide +kernel
set_option maxRecDepth 65536 in
theorem w_named : about1.methodNamed? x = some theMethod := by decide +kernel
set_option maxRecDepth 65536 in
theorem w_hears : about1.hears theMethod below0 = true := by decide +kernel
set_option maxRecDepth 65536 in
theorem w_ripe : about1.ripe theMethod args0 below0 = true := by decide +kernel
theorem w_running : about1.status = .running := rfl
set_option maxRecDepth 65536 in
theorem w_room : about1.hasRoom e0.platform room_1 = true :=
  launch0.hasRoom_least _ room_1 (by decide +kernel) (by decide +kernel) (by decide +kernel) (by decide +kernel) (by decide +kernel) (by decide +kernel)
theorem allAtoms_all (ts : List Jvm.Cond) (a : Array Jvm.Value) (st : Jvm.State) : (allAtoms ts).before a st = ts.all (fun c => c.before a st) := by
  induction ts with
  | nil => rfl
  | cons c t ih =>
    show (Jvm.Cond.and c (allAtoms t)).before a st = _
    rw [Jvm.Cond.before_and, ih, List.all_cons]
def words1 : List Jvm.Cond := Jvm.Cond.code x code maxLocals ret :: tables_1
/-- a 'code' word, met by the world's own term for the bytes: nothing is compared byte by byte -/
theorem code_word {y : MethodName} {bytes : ByteArray} {mx : Nat} {rt : Option FieldType} {a : Array Value} {s : State} {m : MethodId} {meth : Method} {c : Code} (h1 : s.methodNamed? y = some m) (h2 : s.vm.method? m = some meth) (h3 : meth.code = some c) (h4 : c.code = bytes)
    (h5 : (c.maxLocals == mx && c.exceptionTable.isEmpty && decide (c.maxStack ≤ mostOperands) && decide (meth.sig.returnType = rt) && !meth.locks && decide (parseMethodDescriptor y.desc = some meth.sig)) = true) : (Jvm.Cond.code y bytes mx rt).before a s = true := by
  simp only [Bool.and_eq_true, beq_iff_eq, Bool.not_eq_true', decide_eq_true_eq] at h5
  obtain ⟨⟨⟨⟨⟨g1, g2⟩, g3⟩, g4⟩, g5⟩, g6⟩ := h5
  simp [Cond.before, Cond.holds, Cond.value, h1, h2, h3, h4, g1, g2, g3, g4, g5, g6]
def isCode : Jvm.Cond → Bool
  | .code _ _ _ _ => true
  | _ => false
theorem all_split {L : List Jvm.Cond} {P : Jvm.Cond → Bool} (h1 : L.all (fun c => isCode c || P c) = true) (h2 : ∀ c ∈ L.filter isCode, P c = true) : L.all P = true := by
  refine List.all_eq_true.mpr fun c hc => ?_
  have h := List.all_eq_true.mp h1 c hc
  rcases Bool.eq_false_or_eq_true (isCode c) with hi | hi
  · exact h2 c (List.mem_filter.mpr ⟨hc, hi⟩)
  · simpa [hi] using h
set_option maxRecDepth 65536 in
theorem w_c0 : (Jvm.Cond.code x code maxLocals ret).before args0 about1 = true := code_word (m := ⟨1, 1⟩) (meth := k1m1) (c := k1c1) (by decide +kernel) rfl rfl rfl (by decide +kernel)
set_option maxRecDepth 65536 in
theorem w_c1 : (Jvm.Cond.code ({ cls := "com/example/glasnik/glasnik/engine/framing/Framing", name := "openedBy", desc := "(B)Lcom/example/glasnik/glasnik/engine/framing/Framing;" } : Jvm.MethodName) prog_96_method_6_code (5 : Nat) (Option.some (Jvm.ClassFile.FieldType.object "com/example/glasnik/glasnik/engine/framing/Framing"))).before args0 about1 = true := code_word (m := ⟨6, 0⟩) (meth := k6m0) (c := k6c0) (by decide +kernel) rfl rfl rfl (by decide +kernel)
def codes1 : List Jvm.Cond := [Jvm.Cond.code x code maxLocals ret, Jvm.Cond.code ({ cls := "com/example/glasnik/glasnik/engine/framing/Framing", name := "openedBy", desc := "(B)Lcom/example/glasnik/glasnik/engine/framing/Framing;" } : Jvm.MethodName) prog_96_method_6_code (5 : Nat) (Option.some (Jvm.ClassFile.FieldType.object "com/example/glasnik/glasnik/engine/framing/Framing"))]
set_option maxRecDepth 65536 in
theorem codes_eq : words1.filter isCode = codes1 := rfl
theorem w_codes : ∀ c ∈ words1.filter isCode, c.before args0 about1 = true := by
  rw [codes_eq]
  intro c hc
  simp only [codes1, List.mem_cons, List.not_mem_nil, or_false] at hc
  rcases hc with rfl | rfl
  · exact w_c0
  · exact w_c1
set_option maxRecDepth 65536 in
theorem w_t1 : words1.all (fun c => isCode c || c.before args0 about1) = true := by decide +kernel
theorem w_tables : (allAtoms (Jvm.Cond.code x code maxLocals ret :: tables_1)).before args0 about1 = true := by
  rw [allAtoms_all]
  show words1.all (fun c => c.before args0 about1) = true
  refine all_split ?_ w_codes
  rw [w_t1]
set_option maxRecDepth 65536 in
theorem w_case : (Jvm.Cond.and given_1 narrow_1).before args0 about1 = true := by decide +kernel
theorem w_applies : (headSpec (Jvm.Cond.code x code maxLocals ret :: tables_1) room_1).applies x e0.platform about1 = true :=
  (Spec.applies_iff w_frames).mpr ⟨w_running, w_runnable, w_alone, w_named, w_hears, w_ripe, w_room, w_tables⟩
theorem atStart : AtStart classFile x code maxLocals ret World_1 tables_1 room_1 Calls_1 rest_1 Pre_1 launch0 p0 e0 about1 theMethod args0 below0 :=
  ⟨lists_1, trivial, launch0.admits_env _ _ _, launch0.least_env, fairChoices_fair.cas, fairChoices_fair.clock, w_frames, w_args, w_heap, w_applies, trivial, trivial, w_case⟩
end start1
theorem witness_1 : WitnessClaimed_1 := ⟨start1.p0, start1.e0, start1.about1, start1.theMethod, start1.args0, start1.below0, start1.atStart⟩
end Jvm.Pilot.@@N@@
