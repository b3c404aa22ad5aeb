import JvmDerived
import JvmDerived.Pilot.@@N@@Statement
import JvmDerived.Pilot.@@N@@Code
set_option linter.unusedVariables false
set_option linter.unusedSimpArgs false
namespace Jvm.Pilot.@@N@@
open Jvm Jvm.ClassFile Sem Op Lib Jvm.Free Jvm.Stand Jvm.LawKit Jvm.RoadKit Bundle Jvm.Pilot.@@N@@.Jvm.D
def own_Fin (p : Program) (e : Env) (below : List Frame) (E : Outcome → State → Prop) (σ : State) : Prop :=
  ∃ s₂ o, Steps p.tables e below σ s₂ ∧ s₂.status = .running ∧ Ended s₂ below o ∧ E o s₂
def own_End (s : State) (Q : Option Value → Heap → List Loc → Prop) (kc ks : Nat) (o : Outcome) (t : State) : Prop :=
  ∃ v L, o = .returned v ∧ Q v t.heap L ∧ FrameEnd s o t L kc ks
def own_Met (l : Launch) (Z : State) (y : MethodName) (bytes : ByteArray) (maxL : Nat) (ret : Option FieldType) (rm : Room) (as' : Array Value) (h : Heap) (Q : Option Value → Heap → List Loc → Prop) : Prop :=
  ∀ ws : List Jvm.Cond, MetFree l y (head1 (Jvm.Cond.code y bytes maxL ret :: ws) rm) (fun a U => a = as' ∧ Z.Warmed39 U.vm ∧ U.heap = h) (fun _ _ _ _ _ => True) (fun _ U o U' => ∃ v L, o = .returned v ∧ Q v U'.heap L ∧ FrameEnd U o U' L rm.cells rm.slots)
section Own
variable {p : Program} {l : Launch} {e : Env} {R : Room} {s : State} {m : MethodId} {args : Array Value} {below : List Frame} {meth : Method} {c : Code} {T : State} {locs : List Loc} {cells slots : Nat} {E : Outcome → State → Prop} {Q : Option Value → Heap → List Loc → Prop} {kc ks : Nat} {Z : State} {a0 : Array Value} {h : Heap} {pc : Nat} {Ls : Array Slot} {st : List Value}
theorem own_via {σ σ' : State} (h : own_Fin p e below E σ') (k : ∀ t, Steps p.tables e below σ' t → Steps p.tables e below σ t) : own_Fin p e below E σ := by
  obtain ⟨s₂, o, h1, r⟩ := h
  exact ⟨s₂, o, k _ h1, r⟩
theorem own_mono {σ : State} {Q' : Option Value → Heap → List Loc → Prop} (k : ∀ v h L, Q v h L → Q' v h L) (h : own_Fin p e below (own_End s Q kc ks) σ) : own_Fin p e below (own_End s Q' kc ks) σ := by
  obtain ⟨s₂, o, h1, h2, h3, v, L, h4, h5, r⟩ := h
  exact ⟨s₂, o, h1, h2, h3, v, L, h4, k _ _ _ h5, r⟩
theorem own_body {y : MethodName} {bytes : ByteArray} {maxL : Nat} {ret : Option FieldType} {rm : Room} {as' : Array Value} (hp : plainFor y = true) (hef : ∀ m, entryFrame m as' maxL = mkF m 0 Ls [])
    (K : ∀ (p : Program) (e : Env) (s : State) (m : MethodId) (below : List Frame) (meth : Method) (c : Code) (s₁ : State), p.tables.exec = Jvm.exec → Z.Warmed39 s.vm → c.code = bytes → c.maxLocals = maxL → s.vm.findClass y.cls = some m.cls → meth.name = y.name → meth.sig.returnType = ret → meth.locks = false →
      Stand p l e rm s m as' below meth c s₁ [] 0 0 → s₁.heap = h → own_Fin p e below (own_End s Q rm.cells rm.slots) (s₁.setTop (mkF m 0 Ls []))) : own_Met l Z y bytes maxL ret rm as' h Q := by
  intro ws
  refine MetFree.of_bodySF hp hisR ?_
  intro p e s m args below meth c s₁ Bd hml0 hP hK
  obtain ⟨rfl, hZ, hh⟩ := hP
  obtain ⟨s₂, o, h1, r⟩ := K p e s m below meth c s₁ Bd.exec hZ Bd.bytes hml0 (findClass_of_methodNamed Bd.named) (name_of_methodNamed Bd.named Bd.method).1 Bd.returns Bd.notSynchronized (Stand.of_body Bd) (by rw [← hh, Bd.state]; rfl)
  exact ⟨s₂, o, castTop (hef m) h1, r⟩
theorem own_aloadN (X : Stand p l e R s m args below meth c T locs cells slots) (hx : p.tables.exec = Jvm.exec) {k : Fin 4} {v : Value} (hd : decode c.code pc = .ok (.aload_n k, 1)) (hl : Ls[k.val]? = some (.val v)) (hv : v.isRef = true)
    (K : own_Fin p e below E (T.setTop (mkF m (pc + 1) Ls (v :: st)))) : own_Fin p e below E (T.setTop (mkF m pc Ls st)) :=
  own_via K fun t k => XS.aloadN X.here hx rfl hd hl hv k
theorem own_aload (X : Stand p l e R s m args below meth c T locs cells slots) (hx : p.tables.exec = Jvm.exec) {k : Nat} {v : Value} (hd : decode c.code pc = .ok (.aload k, 2)) (hl : Ls[k]? = some (.val v)) (hv : v.isRef = true)
    (K : own_Fin p e below E (T.setTop (mkF m (pc + 2) Ls (v :: st)))) : own_Fin p e below E (T.setTop (mkF m pc Ls st)) :=
  own_via K fun t k => XS.aload X.here hx rfl hd hl hv k
theorem own_iloadN (X : Stand p l e R s m args below meth c T locs cells slots) (hx : p.tables.exec = Jvm.exec) {k : Fin 4} {v : Int32} (hd : decode c.code pc = .ok (.iload_n k, 1)) (hl : Ls[k.val]? = some (.val (.int v)))
    (K : own_Fin p e below E (T.setTop (mkF m (pc + 1) Ls (.int v :: st)))) : own_Fin p e below E (T.setTop (mkF m pc Ls st)) :=
  own_via K fun t k => XS.iloadN X.here hx rfl hd hl k
theorem own_iload (X : Stand p l e R s m args below meth c T locs cells slots) (hx : p.tables.exec = Jvm.exec) {k : Nat} {v : Int32} (hd : decode c.code pc = .ok (.iload k, 2)) (hl : Ls[k]? = some (.val (.int v)))
    (K : own_Fin p e below E (T.setTop (mkF m (pc + 2) Ls (.int v :: st)))) : own_Fin p e below E (T.setTop (mkF m pc Ls st)) :=
  own_via K fun t k => XS.iload X.here hx rfl hd hl k
theorem own_lloadN (X : Stand p l e R s m args below meth c T locs cells slots) (hx : p.tables.exec = Jvm.exec) {k : Fin 4} {v : Int64} (hd : decode c.code pc = .ok (.lload_n k, 1)) (hl : Ls[k.val]? = some (.val (.long v)))
    (K : own_Fin p e below E (T.setTop (mkF m (pc + 1) Ls (.long v :: st)))) : own_Fin p e below E (T.setTop (mkF m pc Ls st)) :=
  own_via K fun t k => Jvm.Free.XT.lloadN X.here hx rfl hd hl k
theorem own_lload (X : Stand p l e R s m args below meth c T locs cells slots) (hx : p.tables.exec = Jvm.exec) {k : Nat} {v : Int64} (hd : decode c.code pc = .ok (.lload k, 2)) (hl : Ls[k]? = some (.val (.long v)))
    (K : own_Fin p e below E (T.setTop (mkF m (pc + 2) Ls (.long v :: st)))) : own_Fin p e below E (T.setTop (mkF m pc Ls st)) :=
  own_via K fun t k => Jvm.Free.XT.lload X.here hx rfl hd hl k
theorem own_iconst (X : Stand p l e R s m args below meth c T locs cells slots) (hx : p.tables.exec = Jvm.exec) {i : Int} (v : Int32) (hd : decode c.code pc = .ok (.iconst i, 1)) (hv : Int32.ofInt i = v)
    (K : own_Fin p e below E (T.setTop (mkF m (pc + 1) Ls (.int v :: st)))) : own_Fin p e below E (T.setTop (mkF m pc Ls st)) :=
  own_via K fun t k => Jvm.Free.XT.iconstV X.here hx rfl v hd hv k
theorem own_bipush (X : Stand p l e R s m args below meth c T locs cells slots) (hx : p.tables.exec = Jvm.exec) {i : Int} (v : Int32) (hd : decode c.code pc = .ok (.bipush i, 2)) (hv : (Int8.ofInt i).toInt32 = v)
    (K : own_Fin p e below E (T.setTop (mkF m (pc + 2) Ls (.int v :: st)))) : own_Fin p e below E (T.setTop (mkF m pc Ls st)) :=
  own_via K fun t k => Jvm.Free.XT.bipushV X.here hx rfl v hd hv k
theorem own_sipush (X : Stand p l e R s m args below meth c T locs cells slots) (hx : p.tables.exec = Jvm.exec) {i : Int} (v : Int32) (hd : decode c.code pc = .ok (.sipush i, 3)) (hv : (Int16.ofInt i).toInt32 = v)
    (K : own_Fin p e below E (T.setTop (mkF m (pc + 3) Ls (.int v :: st)))) : own_Fin p e below E (T.setTop (mkF m pc Ls st)) :=
  own_via K fun t k => Jvm.Free.XT.sipushV X.here hx rfl v hd hv k
theorem own_lconst (X : Stand p l e R s m args below meth c T locs cells slots) (hx : p.tables.exec = Jvm.exec) {i : Fin 2} (v : Int64) (hd : decode c.code pc = .ok (.lconst i, 1)) (hv : Int64.ofNat i = v)
    (K : own_Fin p e below E (T.setTop (mkF m (pc + 1) Ls (.long v :: st)))) : own_Fin p e below E (T.setTop (mkF m pc Ls st)) :=
  own_via K fun t k => Jvm.Free.XT.lconstV X.here hx rfl v hd hv k
theorem own_aconst_null (X : Stand p l e R s m args below meth c T locs cells slots) (hx : p.tables.exec = Jvm.exec) (hd : decode c.code pc = .ok (.aconst_null, 1))
    (K : own_Fin p e below E (T.setTop (mkF m (pc + 1) Ls (.null :: st)))) : own_Fin p e below E (T.setTop (mkF m pc Ls st)) :=
  own_via K fun t k => XS.aconstNull X.here hx rfl hd k
theorem own_ldcI (X : Stand p l e R s m args below meth c T locs cells slots) (hx : p.tables.exec = Jvm.exec) (hZ : Z.Warmed39 s.vm) {own : String} {index : Nat} {v : Int32} (hown : s.vm.findClass own = some m.cls) (w : (Jvm.Cond.constant own index v).before a0 Z = true) (hd : decode c.code pc = .ok (.ldc index, 2))
    (K : own_Fin p e below E (T.setTop (mkF m (pc + 2) Ls (.int v :: st)))) : own_Fin p e below E (T.setTop (mkF m pc Ls st)) :=
  own_via K fun t k => Jvm.Stand.ldcI X hx hown (mv hZ w) rfl hd k
theorem own_ldc2J (X : Stand p l e R s m args below meth c T locs cells slots) (hx : p.tables.exec = Jvm.exec) (hZ : Z.Warmed39 s.vm) {own : String} {index : Nat} {v : Int64} (hown : s.vm.findClass own = some m.cls) (w : (Jvm.Cond.constantLong own index v).before a0 Z = true) (hd : decode c.code pc = .ok (.ldc2_w index, 3))
    (K : own_Fin p e below E (T.setTop (mkF m (pc + 3) Ls (.long v :: st)))) : own_Fin p e below E (T.setTop (mkF m pc Ls st)) :=
  own_via K fun t k => Jvm.Stand.ldc2J X hx hown (mv hZ w) rfl hd k
theorem own_iadd (X : Stand p l e R s m args below meth c T locs cells slots) (hx : p.tables.exec = Jvm.exec) {x y : Int32} (hd : decode c.code pc = .ok (.iadd, 1))
    (K : own_Fin p e below E (T.setTop (mkF m (pc + 1) Ls (.int (x + y) :: st)))) : own_Fin p e below E (T.setTop (mkF m pc Ls (.int y :: .int x :: st))) :=
  own_via K fun t k => XS.iadd X.here hx rfl hd rfl k
theorem own_isub (X : Stand p l e R s m args below meth c T locs cells slots) (hx : p.tables.exec = Jvm.exec) {x y : Int32} (hd : decode c.code pc = .ok (.isub, 1))
    (K : own_Fin p e below E (T.setTop (mkF m (pc + 1) Ls (.int (x - y) :: st)))) : own_Fin p e below E (T.setTop (mkF m pc Ls (.int y :: .int x :: st))) :=
  own_via K fun t k => XS.isub X.here hx rfl hd rfl k
theorem own_imul (X : Stand p l e R s m args below meth c T locs cells slots) (hx : p.tables.exec = Jvm.exec) {x y : Int32} (hd : decode c.code pc = .ok (.imul, 1))
    (K : own_Fin p e below E (T.setTop (mkF m (pc + 1) Ls (.int (x * y) :: st)))) : own_Fin p e below E (T.setTop (mkF m pc Ls (.int y :: .int x :: st))) :=
  own_via K fun t k => XS.imul X.here hx rfl hd rfl k
theorem own_iand (X : Stand p l e R s m args below meth c T locs cells slots) (hx : p.tables.exec = Jvm.exec) {x y : Int32} (hd : decode c.code pc = .ok (.iand, 1))
    (K : own_Fin p e below E (T.setTop (mkF m (pc + 1) Ls (.int (x &&& y) :: st)))) : own_Fin p e below E (T.setTop (mkF m pc Ls (.int y :: .int x :: st))) :=
  own_via K fun t k => XS.iand X.here hx rfl hd rfl k
theorem own_ixor (X : Stand p l e R s m args below meth c T locs cells slots) (hx : p.tables.exec = Jvm.exec) {x y : Int32} (hd : decode c.code pc = .ok (.ixor, 1))
    (K : own_Fin p e below E (T.setTop (mkF m (pc + 1) Ls (.int (x ^^^ y) :: st)))) : own_Fin p e below E (T.setTop (mkF m pc Ls (.int y :: .int x :: st))) :=
  own_via K fun t k => Jvm.Free.XT.ixor X.here hx rfl hd rfl k
theorem own_ior (X : Stand p l e R s m args below meth c T locs cells slots) (hx : p.tables.exec = Jvm.exec) {x y : Int32} (hd : decode c.code pc = .ok (.ior, 1))
    (K : own_Fin p e below E (T.setTop (mkF m (pc + 1) Ls (.int (x ||| y) :: st)))) : own_Fin p e below E (T.setTop (mkF m pc Ls (.int y :: .int x :: st))) :=
  own_via K fun t k => Jvm.Free.XT.ior X.here hx rfl hd rfl k
theorem own_iushr (X : Stand p l e R s m args below meth c T locs cells slots) (hx : p.tables.exec = Jvm.exec) {x y : Int32} (hd : decode c.code pc = .ok (.iushr, 1))
    (K : own_Fin p e below E (T.setTop (mkF m (pc + 1) Ls (.int (Jvm.Free.XT.ushr x y) :: st)))) : own_Fin p e below E (T.setTop (mkF m pc Ls (.int y :: .int x :: st))) :=
  own_via K fun t k => Jvm.Free.XT.iushr X.here hx rfl hd rfl k
theorem own_irem (X : Stand p l e R s m args below meth c T locs cells slots) (hx : p.tables.exec = Jvm.exec) {x y : Int32} (hd : decode c.code pc = .ok (.irem, 1)) (hy : y ≠ 0)
    (K : own_Fin p e below E (T.setTop (mkF m (pc + 1) Ls (.int (x % y) :: st)))) : own_Fin p e below E (T.setTop (mkF m pc Ls (.int y :: .int x :: st))) :=
  own_via K fun t k => iremM X hx rfl hd rfl hy k
theorem own_ladd (X : Stand p l e R s m args below meth c T locs cells slots) (hx : p.tables.exec = Jvm.exec) {x y : Int64} (hd : decode c.code pc = .ok (.ladd, 1))
    (K : own_Fin p e below E (T.setTop (mkF m (pc + 1) Ls (.long (x + y) :: st)))) : own_Fin p e below E (T.setTop (mkF m pc Ls (.long y :: .long x :: st))) :=
  own_via K fun t k => Jvm.Free.XT.ladd X.here hx rfl hd rfl k
theorem own_lsub (X : Stand p l e R s m args below meth c T locs cells slots) (hx : p.tables.exec = Jvm.exec) {x y : Int64} (hd : decode c.code pc = .ok (.lsub, 1))
    (K : own_Fin p e below E (T.setTop (mkF m (pc + 1) Ls (.long (x - y) :: st)))) : own_Fin p e below E (T.setTop (mkF m pc Ls (.long y :: .long x :: st))) :=
  own_via K fun t k => Jvm.Free.XT.lsub X.here hx rfl hd rfl k
theorem own_lxor (X : Stand p l e R s m args below meth c T locs cells slots) (hx : p.tables.exec = Jvm.exec) {x y : Int64} (hd : decode c.code pc = .ok (.lxor, 1))
    (K : own_Fin p e below E (T.setTop (mkF m (pc + 1) Ls (.long (x ^^^ y) :: st)))) : own_Fin p e below E (T.setTop (mkF m pc Ls (.long y :: .long x :: st))) :=
  own_via K fun t k => Jvm.Free.XT.lxor X.here hx rfl hd rfl k
theorem own_lcmp (X : Stand p l e R s m args below meth c T locs cells slots) (hx : p.tables.exec = Jvm.exec) {x y : Int64} (hd : decode c.code pc = .ok (.lcmp, 1))
    (K : own_Fin p e below E (T.setTop (mkF m (pc + 1) Ls (.int (Jvm.Free.XT.cmpL x y) :: st)))) : own_Fin p e below E (T.setTop (mkF m pc Ls (.long y :: .long x :: st))) :=
  own_via K fun t k => Jvm.Free.XT.lcmp X.here hx rfl hd rfl k
theorem own_i2b (X : Stand p l e R s m args below meth c T locs cells slots) (hx : p.tables.exec = Jvm.exec) {x : Int32} (hd : decode c.code pc = .ok (.i2b, 1))
    (K : own_Fin p e below E (T.setTop (mkF m (pc + 1) Ls (.int (x.toInt8.toInt32) :: st)))) : own_Fin p e below E (T.setTop (mkF m pc Ls (.int x :: st))) :=
  own_via K fun t k => Jvm.Free.XT.i2b X.here hx rfl hd rfl k
theorem own_i2l (X : Stand p l e R s m args below meth c T locs cells slots) (hx : p.tables.exec = Jvm.exec) {x : Int32} (hd : decode c.code pc = .ok (.i2l, 1))
    (K : own_Fin p e below E (T.setTop (mkF m (pc + 1) Ls (.long (x.toInt64) :: st)))) : own_Fin p e below E (T.setTop (mkF m pc Ls (.int x :: st))) :=
  own_via K fun t k => Jvm.Free.XT.i2l X.here hx rfl hd rfl k
theorem own_l2i (X : Stand p l e R s m args below meth c T locs cells slots) (hx : p.tables.exec = Jvm.exec) {x : Int64} (hd : decode c.code pc = .ok (.l2i, 1))
    (K : own_Fin p e below E (T.setTop (mkF m (pc + 1) Ls (.int (x.toInt32) :: st)))) : own_Fin p e below E (T.setTop (mkF m pc Ls (.long x :: st))) :=
  own_via K fun t k => Jvm.Free.XT.l2i X.here hx rfl hd rfl k
theorem own_dup (X : Stand p l e R s m args below meth c T locs cells slots) (hx : p.tables.exec = Jvm.exec) {v : Value} (hd : decode c.code pc = .ok (.dup, 1)) (hc : v.category = 1)
    (K : own_Fin p e below E (T.setTop (mkF m (pc + 1) Ls (v :: v :: st)))) : own_Fin p e below E (T.setTop (mkF m pc Ls (v :: st))) :=
  own_via K fun t k => XS.dup X.here hx rfl hd rfl hc k
theorem own_pop (X : Stand p l e R s m args below meth c T locs cells slots) (hx : p.tables.exec = Jvm.exec) {v : Value} (hd : decode c.code pc = .ok (.pop, 1)) (hc : v.category = 1)
    (K : own_Fin p e below E (T.setTop (mkF m (pc + 1) Ls st))) : own_Fin p e below E (T.setTop (mkF m pc Ls (v :: st))) :=
  own_via K fun t k => Jvm.Free.XT.pop X.here hx rfl hd rfl hc k
theorem own_istoreN (X : Stand p l e R s m args below meth c T locs cells slots) (hx : p.tables.exec = Jvm.exec) {k : Fin 4} {x : Int32} {l' : Array Slot} (hd : decode c.code pc = .ok (.istore_n k, 1)) (hl : storeLocals Ls k.val (.int x) = some l')
    (K : own_Fin p e below E (T.setTop (mkF m (pc + 1) l' st))) : own_Fin p e below E (T.setTop (mkF m pc Ls (.int x :: st))) :=
  own_via K fun t k => XS.istoreN X.here hx rfl hd rfl hl k
theorem own_istore (X : Stand p l e R s m args below meth c T locs cells slots) (hx : p.tables.exec = Jvm.exec) {k : Nat} {x : Int32} {l' : Array Slot} (hd : decode c.code pc = .ok (.istore k, 2)) (hl : storeLocals Ls k (.int x) = some l')
    (K : own_Fin p e below E (T.setTop (mkF m (pc + 2) l' st))) : own_Fin p e below E (T.setTop (mkF m pc Ls (.int x :: st))) :=
  own_via K fun t k => XS.istore X.here hx rfl hd rfl hl k
theorem own_astoreN (X : Stand p l e R s m args below meth c T locs cells slots) (hx : p.tables.exec = Jvm.exec) {k : Fin 4} {x : Value} {l' : Array Slot} (hd : decode c.code pc = .ok (.astore_n k, 1)) (hv : x.isRef = true) (hl : storeLocals Ls k.val x = some l')
    (K : own_Fin p e below E (T.setTop (mkF m (pc + 1) l' st))) : own_Fin p e below E (T.setTop (mkF m pc Ls (x :: st))) :=
  own_via K fun t k => XS.astoreN X.here hx rfl hd rfl hv hl k
theorem own_astore (X : Stand p l e R s m args below meth c T locs cells slots) (hx : p.tables.exec = Jvm.exec) {k : Nat} {x : Value} {l' : Array Slot} (hd : decode c.code pc = .ok (.astore k, 2)) (hv : x.isRef = true) (hl : storeLocals Ls k x = some l')
    (K : own_Fin p e below E (T.setTop (mkF m (pc + 2) l' st))) : own_Fin p e below E (T.setTop (mkF m pc Ls (x :: st))) :=
  own_via K fun t k => XS.astore X.here hx rfl hd rfl hv hl k
theorem own_lstore (X : Stand p l e R s m args below meth c T locs cells slots) (hx : p.tables.exec = Jvm.exec) {k : Nat} {x : Int64} {l' : Array Slot} (hd : decode c.code pc = .ok (.lstore k, 2)) (hl : storeLocals Ls k (.long x) = some l')
    (K : own_Fin p e below E (T.setTop (mkF m (pc + 2) l' st))) : own_Fin p e below E (T.setTop (mkF m pc Ls (.long x :: st))) :=
  own_via K fun t k => Jvm.Free.XT.lstore X.here hx rfl hd rfl hl k
theorem own_iinc (X : Stand p l e R s m args below meth c T locs cells slots) (hx : p.tables.exec = Jvm.exec) {k : Nat} {cst : Int} {x : Int32} {l' : Array Slot} (v : Int32) (hd : decode c.code pc = .ok (.iinc k cst, 3)) (hv : Int32.ofInt cst = v) (hl : Ls[k]? = some (.val (.int x))) (hl' : storeLocals Ls k (.int (x + v)) = some l')
    (K : own_Fin p e below E (T.setTop (mkF m (pc + 3) l' st))) : own_Fin p e below E (T.setTop (mkF m pc Ls st)) :=
  own_via K fun t k => Jvm.Free.XT.iincV X.here hx rfl v hd hv hl hl' k
theorem own_goto (X : Stand p l e R s m args below meth c T locs cells slots) (hx : p.tables.exec = Jvm.exec) {o : Int} (pc' : Nat)  (hd : decode c.code pc = .ok (.goto o, 3)) (ho : 0 ≤ (pc : Int) + o) (hp : ((pc : Int) + o).toNat = pc')
    (K : own_Fin p e below E (T.setTop (mkF m pc' Ls st))) : own_Fin p e below E (T.setTop (mkF m pc Ls st)) :=
  own_via K fun t k => XS.goto X.here hx rfl rfl hd ho hp k
theorem own_ifYes (X : Stand p l e R s m args below meth c T locs cells slots) (hx : p.tables.exec = Jvm.exec) {cd : ClassFile.Cond} {x : Int32} {o : Int} (pc' : Nat)  (hd : decode c.code pc = .ok (.ifCond cd o, 3)) (ho : 0 ≤ (pc : Int) + o) (hp : ((pc : Int) + o).toNat = pc') (hc : ifCond.holds cd x = true)
    (K : own_Fin p e below E (T.setTop (mkF m pc' Ls st))) : own_Fin p e below E (T.setTop (mkF m pc Ls (.int x :: st))) :=
  own_via K fun t k => XS.ifYes X.here hx rfl rfl hd rfl hc ho hp k
theorem own_ifNo (X : Stand p l e R s m args below meth c T locs cells slots) (hx : p.tables.exec = Jvm.exec) {cd : ClassFile.Cond} {x : Int32} {o : Int} (hd : decode c.code pc = .ok (.ifCond cd o, 3)) (hc : ifCond.holds cd x = false)
    (K : own_Fin p e below E (T.setTop (mkF m (pc + 3) Ls st))) : own_Fin p e below E (T.setTop (mkF m pc Ls (.int x :: st))) :=
  own_via K fun t k => XS.ifNo X.here hx rfl hd rfl hc k
theorem own_icmpYes (X : Stand p l e R s m args below meth c T locs cells slots) (hx : p.tables.exec = Jvm.exec) {cd : ClassFile.Cond} {x y : Int32} {o : Int} (pc' : Nat)  (hd : decode c.code pc = .ok (.if_icmp cd o, 3)) (ho : 0 ≤ (pc : Int) + o) (hp : ((pc : Int) + o).toNat = pc') (hc : if_icmp.holds cd x y = true)
    (K : own_Fin p e below E (T.setTop (mkF m pc' Ls st))) : own_Fin p e below E (T.setTop (mkF m pc Ls (.int y :: .int x :: st))) :=
  own_via K fun t k => XS.icmpYes X.here hx rfl rfl hd rfl hc ho hp k
theorem own_icmpNo (X : Stand p l e R s m args below meth c T locs cells slots) (hx : p.tables.exec = Jvm.exec) {cd : ClassFile.Cond} {x y : Int32} {o : Int} (hd : decode c.code pc = .ok (.if_icmp cd o, 3)) (hc : if_icmp.holds cd x y = false)
    (K : own_Fin p e below E (T.setTop (mkF m (pc + 3) Ls st))) : own_Fin p e below E (T.setTop (mkF m pc Ls (.int y :: .int x :: st))) :=
  own_via K fun t k => XS.icmpNo X.here hx rfl hd rfl hc k
theorem own_acmpYes (X : Stand p l e R s m args below meth c T locs cells slots) (hx : p.tables.exec = Jvm.exec) {cd : ClassFile.ACond} {x y : Value} {o : Int} (pc' : Nat)  (hd : decode c.code pc = .ok (.if_acmp cd o, 3)) (ho : 0 ≤ (pc : Int) + o) (hp : ((pc : Int) + o).toNat = pc') (hx' : x.isRef = true) (hy' : y.isRef = true) (hc : Jvm.Free.XT.acmp cd x y = true)
    (K : own_Fin p e below E (T.setTop (mkF m pc' Ls st))) : own_Fin p e below E (T.setTop (mkF m pc Ls (y :: x :: st))) :=
  own_via K fun t k => Jvm.Free.XT.acmpYes X.here hx rfl rfl hd rfl hx' hy' hc ho hp k
theorem own_acmpNo (X : Stand p l e R s m args below meth c T locs cells slots) (hx : p.tables.exec = Jvm.exec) {cd : ClassFile.ACond} {x y : Value} {o : Int} (hd : decode c.code pc = .ok (.if_acmp cd o, 3)) (hx' : x.isRef = true) (hy' : y.isRef = true) (hc : Jvm.Free.XT.acmp cd x y = false)
    (K : own_Fin p e below E (T.setTop (mkF m (pc + 3) Ls st))) : own_Fin p e below E (T.setTop (mkF m pc Ls (y :: x :: st))) :=
  own_via K fun t k => Jvm.Free.XT.acmpNo X.here hx rfl hd rfl hx' hy' hc k
theorem own_ifnullYes (X : Stand p l e R s m args below meth c T locs cells slots) (hx : p.tables.exec = Jvm.exec) {o : Int} (pc' : Nat)  (hd : decode c.code pc = .ok (.ifnull o, 3)) (ho : 0 ≤ (pc : Int) + o) (hp : ((pc : Int) + o).toNat = pc')
    (K : own_Fin p e below E (T.setTop (mkF m pc' Ls st))) : own_Fin p e below E (T.setTop (mkF m pc Ls (.null :: st))) :=
  own_via K fun t k => XS.ifnullYes X.here hx rfl rfl hd rfl ho hp k
theorem own_ifnullNo (X : Stand p l e R s m args below meth c T locs cells slots) (hx : p.tables.exec = Jvm.exec) {o : Int} {b : Addr} (hd : decode c.code pc = .ok (.ifnull o, 3))
    (K : own_Fin p e below E (T.setTop (mkF m (pc + 3) Ls st))) : own_Fin p e below E (T.setTop (mkF m pc Ls (.ref b :: st))) :=
  own_via K fun t k => XS.ifnullNo X.here hx rfl hd rfl k
theorem own_ifnonnullYes (X : Stand p l e R s m args below meth c T locs cells slots) (hx : p.tables.exec = Jvm.exec) {o : Int} {b : Addr} (pc' : Nat)  (hd : decode c.code pc = .ok (.ifnonnull o, 3)) (ho : 0 ≤ (pc : Int) + o) (hp : ((pc : Int) + o).toNat = pc')
    (K : own_Fin p e below E (T.setTop (mkF m pc' Ls st))) : own_Fin p e below E (T.setTop (mkF m pc Ls (.ref b :: st))) :=
  own_via K fun t k => Jvm.Free.XT.ifnonnullYes X.here hx rfl rfl hd rfl ho hp k
theorem own_ifnonnullNo (X : Stand p l e R s m args below meth c T locs cells slots) (hx : p.tables.exec = Jvm.exec) {o : Int} (hd : decode c.code pc = .ok (.ifnonnull o, 3))
    (K : own_Fin p e below E (T.setTop (mkF m (pc + 3) Ls st))) : own_Fin p e below E (T.setTop (mkF m pc Ls (.null :: st))) :=
  own_via K fun t k => Jvm.Free.XT.ifnonnullNo X.here hx rfl hd rfl k
theorem own_getstatic (X : Stand p l e R s m args below meth c T locs cells slots) (hx : p.tables.exec = Jvm.exec) (hZ : Z.Warmed39 s.vm) {own R0 O n d host : String} {index : Nat} (hown : s.vm.findClass own = some m.cls) (w : (Jvm.Cond.fieldLink own index R0 n d).before a0 Z = true ∨ (Jvm.Cond.fieldLinkNest own index R0 n d host).before a0 Z = true) (via : Via Z R0 O n d) (eT : T.heap = h) {v : Value} (F : Sta Z h O n d v) (hd : decode c.code pc = .ok (.getstatic index, 3))
    (K : ∀ T', Stand p l e R s m args below meth c T' locs cells slots → T'.heap = h → own_Fin p e below E (T'.setTop (mkF m (pc + 3) Ls (v :: st)))) : own_Fin p e below E (T.setTop (mkF m pc Ls st)) := by
  obtain ⟨T', X', e', sp⟩ := getS2 X hx hZ hown w via eT F (g := mkF m pc Ls st) rfl hd
  exact own_via (K T' X' e') sp
theorem own_getfield (X : Stand p l e R s m args below meth c T locs cells slots) (hx : p.tables.exec = Jvm.exec) (hZ : Z.Warmed39 s.vm) {own R0 O n d host : String} {index : Nat} (hown : s.vm.findClass own = some m.cls) (w : (Jvm.Cond.fieldLink own index R0 n d).before a0 Z = true ∨ (Jvm.Cond.fieldLinkNest own index R0 n d host).before a0 Z = true) (via : Via Z R0 O n d) (eT : T.heap = h) {a : Addr} {v : Value} (F : Fld Z h a O n d v) (hd : decode c.code pc = .ok (.getfield index, 3))
    (K : ∀ T', Stand p l e R s m args below meth c T' locs cells slots → T'.heap = h → own_Fin p e below E (T'.setTop (mkF m (pc + 3) Ls (v :: st)))) : own_Fin p e below E (T.setTop (mkF m pc Ls (.ref a :: st))) := by
  obtain ⟨T', X', e', sp⟩ := getF X hx hZ hown w via eT F (g := mkF m pc Ls (.ref a :: st)) rfl rfl hd
  exact own_via (K T' X' e') sp
theorem own_putfield (X : Stand p l e R s m args below meth c T locs cells slots) (hx : p.tables.exec = Jvm.exec) (hZ : Z.Warmed39 s.vm) {own R0 O n d host : String} {index : Nat} (hown : s.vm.findClass own = some m.cls) (w : (Jvm.Cond.fieldLink own index R0 n d).before a0 Z = true ∨ (Jvm.Cond.fieldLinkNest own index R0 n d host).before a0 Z = true) (via : Via Z R0 O n d) (eT : T.heap = h) {C : String} {kk : Nat} {ty : FieldType} {a : Addr} {v old : Value} (F : Fld Z h a O n d old) (EX : Exa Z h a C) (L : (Jvm.Cond.lays C O n d).before a0 Z = true ∨ ((Jvm.Cond.laysFinal C O n d).before a0 Z = true ∧ own = O ∧ meth.name = "<init>")) (wi : (Jvm.Cond.instantiable C kk).before a0 Z = true)
    (hty : parseFieldDescriptor d = some ty) (hn : narrow ty v = v) (hf : fits ty v = true) (hd : decode c.code pc = .ok (.putfield index, 3))
    (K : ∀ T' h', Stand p l e R s m args below meth c T' (locs ++ [⟨a, Jvm.RoadKit.slotOf Z O n d⟩]) cells slots → T'.heap = h' → Wr h h' a (Jvm.RoadKit.slotOf Z O n d) v → own_Fin p e below E (T'.setTop (mkF m (pc + 3) Ls st))) : own_Fin p e below E (T.setTop (mkF m pc Ls (v :: .ref a :: st))) := by
  obtain ⟨T', h', X', e', W, sp⟩ := putF X hx hZ hown w via eT F EX L wi hty hn hf (g := mkF m pc Ls (v :: .ref a :: st)) rfl rfl hd
  exact own_via (K T' h' X' e' W) sp
theorem own_new (X : Stand p l e R s m args below meth c T locs cells slots) (hx : p.tables.exec = Jvm.exec) (hZ : Z.Warmed39 s.vm) {own C : String} {index n : Nat} (hown : s.vm.findClass own = some m.cls) (w : (Jvm.Cond.classLink own index C).before a0 Z = true) (wi : (Jvm.Cond.instantiable C n).before a0 Z = true) (wz : (Jvm.Cond.initialized C).before a0 Z = true) (eT : T.heap = h)
    (hd : decode c.code pc = .ok (.new index, 3)) (hc : cells + 1 ≤ R.cells) (hl : slots + n ≤ R.slots)
    (K : ∀ T' h' b, Stand p l e R s m args below meth c T' locs (cells + 1) (slots + n) → T'.heap = h' → b = h.size → Ext h h' → Exa Z h' b C → (∀ {O nm d : String} {ty : FieldType}, Laid Z a0 C O nm d → parseFieldDescriptor d = some ty → Fld Z h' b O nm d (defaultValue ty)) → own_Fin p e below E (T'.setTop (mkF m (pc + 3) Ls (.ref b :: st)))) : own_Fin p e below E (T.setTop (mkF m pc Ls st)) := by
  obtain ⟨T', h', X', e', EE, A, D, -, sp⟩ := newO X hx hZ hown w wi wz eT (g := mkF m pc Ls st) rfl hd hc hl
  exact own_via (K T' h' _ X' e' rfl EE A D) sp
theorem own_arraylength (X : Stand p l e R s m args below meth c T locs cells slots) (hx : p.tables.exec = Jvm.exec) (hZ : Z.Warmed39 s.vm) {a : Addr} {cl : Cell} {ty : FieldType} {n : Int32} (eT : T.heap = h) (A : Arr Z h a cl ty) (hn : cl.slots.size.toInt32 = n) (hd : decode c.code pc = .ok (.arraylength, 1))
    (K : own_Fin p e below E (T.setTop (mkF m (pc + 1) Ls (.int n :: st)))) : own_Fin p e below E (T.setTop (mkF m pc Ls (.ref a :: st))) := by
  subst hn
  exact own_via K fun t k => X.arraylength hx (by rw [eT]; exact A.1) (State.isArrayOf_alike hZ.alike A.2.1) (g := mkF m pc Ls (.ref a :: st)) rfl rfl hd t k
theorem own_aaload (X : Stand p l e R s m args below meth c T locs cells slots) (hx : p.tables.exec = Jvm.exec) (hZ : Z.Warmed39 s.vm) {a : Addr} {cl : Cell} {j : Int32} {v : Value} (eT : T.heap = h) {ty : FieldType} (A : Arr Z h a cl ty) (hty : ty.isReference = true) (hin : ¬ (j < 0 ∨ cl.slots.size ≤ j.toNatClampNeg)) (hv : cl.slots[j.toNatClampNeg]? = some v) (hd : decode c.code pc = .ok (.aaload, 1))
    (K : own_Fin p e below E (T.setTop (mkF m (pc + 1) Ls (v :: st)))) : own_Fin p e below E (T.setTop (mkF m pc Ls (.int j :: .ref a :: st))) :=
  own_via K fun t k => X.aaload hx (by rw [eT]; exact A.1) (State.isArrayOf_alike hZ.alike A.2.1) hty A.2.2 hin hv (g := mkF m pc Ls (.int j :: .ref a :: st)) rfl rfl hd t k
theorem own_baload (X : Stand p l e R s m args below meth c T locs cells slots) (hx : p.tables.exec = Jvm.exec) (hZ : Z.Warmed39 s.vm) {a : Addr} {cl : Cell} {j : Int32} {v : Value} (eT : T.heap = h) (A : Arr Z h a cl .byte)  (hin : ¬ (j < 0 ∨ cl.slots.size ≤ j.toNatClampNeg)) (hv : cl.slots[j.toNatClampNeg]? = some v) (hd : decode c.code pc = .ok (.baload, 1))
    (K : own_Fin p e below E (T.setTop (mkF m (pc + 1) Ls (v :: st)))) : own_Fin p e below E (T.setTop (mkF m pc Ls (.int j :: .ref a :: st))) :=
  own_via K fun t k => X.baloadBytes hx (by rw [eT]; exact A.1) (State.isArrayOf_alike hZ.alike A.2.1) A.2.2 hin hv (g := mkF m pc Ls (.int j :: .ref a :: st)) rfl rfl hd t k
theorem own_baloadZ (X : Stand p l e R s m args below meth c T locs cells slots) (hx : p.tables.exec = Jvm.exec) (hZ : Z.Warmed39 s.vm) {a : Addr} {cl : Cell} {j : Int32} {v : Value} (eT : T.heap = h) (A : Arr Z h a cl .boolean)  (hin : ¬ (j < 0 ∨ cl.slots.size ≤ j.toNatClampNeg)) (hv : cl.slots[j.toNatClampNeg]? = some v) (hd : decode c.code pc = .ok (.baload, 1))
    (K : own_Fin p e below E (T.setTop (mkF m (pc + 1) Ls (v :: st)))) : own_Fin p e below E (T.setTop (mkF m pc Ls (.int j :: .ref a :: st))) :=
  own_via K fun t k => X.baloadBooleans hx (by rw [eT]; exact A.1) (State.isArrayOf_alike hZ.alike A.2.1) A.2.2 hin hv (g := mkF m pc Ls (.int j :: .ref a :: st)) rfl rfl hd t k
theorem own_newarray (X : Stand p l e R s m args below meth c T locs cells slots) (hx : p.tables.exec = Jvm.exec) (hZ : Z.Warmed39 s.vm) {aty : ArrayType} (w : (Jvm.Cond.arrayClass (newarray.typeOf aty)).before a0 Z = true) (eT : T.heap = h) (hd : decode c.code pc = .ok (.newarray aty, 2)) {n : Int32} (hn : ¬ n < 0) (cap : Nat) (hcap : n.toNatClampNeg ≤ cap) (hb : cap * 8 ≤ 536870912) (hc : cells + 1 ≤ R.cells) (hl : slots + cap ≤ R.slots)
    (K : ∀ T' h' b cA, Stand p l e R s m args below meth c T' locs (cells + 1) (slots + cap) → T'.heap = h' → b = h.size → Ext h h' → Arr Z h' b (newA cA (newarray.typeOf aty) n) (newarray.typeOf aty) → own_Fin p e below E (T'.setTop (mkF m (pc + 2) Ls (.ref b :: st)))) : own_Fin p e below E (T.setTop (mkF m pc Ls (.int n :: st))) := by
  obtain ⟨T', h', cA, X', e', EE, A, sp⟩ := newP X hx hZ w eT (g := mkF m pc Ls (.int n :: st)) rfl hd rfl hn hcap hb hc hl
  exact own_via (K T' h' _ cA X' e' rfl EE A) sp
theorem own_bastore (X : Stand p l e R s m args below meth c T locs cells slots) (hx : p.tables.exec = Jvm.exec) (hZ : Z.Warmed39 s.vm) {a : Addr} {cl : Cell} {j x : Int32} (eT : T.heap = h) (A : Arr Z h a cl .byte) (hj : ¬ (j < 0 ∨ cl.slots.size ≤ j.toNatClampNeg)) (hd : decode c.code pc = .ok (.bastore, 1))
    (K : ∀ T' h', Stand p l e R s m args below meth c T' (locs ++ [⟨a, j.toNatClampNeg⟩]) cells slots → T'.heap = h' → Wr h h' a j.toNatClampNeg (.int (nar .byte x)) → own_Fin p e below E (T'.setTop (mkF m (pc + 1) Ls st))) : own_Fin p e below E (T.setTop (mkF m pc Ls (.int x :: .int j :: .ref a :: st))) := by
  obtain ⟨T', h', X', e', W, sp⟩ := stB X hx hZ eT A (x := x) hj (g := mkF m pc Ls (.int x :: .int j :: .ref a :: st)) rfl rfl hd
  exact own_via (K T' h' X' e' W) sp
theorem own_virt (X : Stand p l e R s m args below meth c T locs cells slots) (hx : p.tables.exec = Jvm.exec) (hZ : Z.Warmed39 s.vm) {own C : String} {index : Nat} {y z : MethodName} {bytes : ByteArray} {maxL : Nat} {ret : Option FieldType} {rm : Room} {W : Nat} {as' : Array Value} {Q' : Option Value → Heap → List Loc → Prop} {argsL rest : List Value} {a : Addr} (hown : s.vm.findClass own = some m.cls) (w1 : (Jvm.Cond.methodLink own index y).before a0 Z = true) (w2 : (Jvm.Cond.declares y).before a0 Z = true) (w3 : (Jvm.Cond.selects y.cls y y).before a0 Z = true) (w4 : (Jvm.Cond.selects C y z).before a0 Z = true) (w5 : (Jvm.Cond.instanceMethod z).before a0 Z = true)
    (w6 : (Jvm.Cond.code z bytes maxL ret).before a0 Z = true) (w7 : (Jvm.Cond.initialized z.cls).before a0 Z = true) (hy : y.cls ≠ "java/lang/invoke/MethodHandle" ∧ y.cls ≠ "java/lang/invoke/VarHandle") (eT : T.heap = h) (EX : Exa Z h a C) (hd : decode c.code pc = .ok (.invokevirtual index, 3)) (hsz : Ls.size = c.maxLocals) {ps : List FieldType} {rt : Option FieldType} (hpd : parseMethodDescriptor y.desc = some ⟨ps, rt⟩) (hlen : argsL.length = ps.length) (hW : (rest.map fun v => v.category).sum ≤ W)
    (hM : own_Met l Z z bytes maxL ret rm as' h Q') (hf : rm.frames + 1 ≤ R.frames) (hl : W + (maxL + 11) + rm.locals ≤ R.locals) (hcc : cells + rm.cells ≤ R.cells) (hss : slots + rm.slots ≤ R.slots) (hst : st = argsL.reverse ++ .ref a :: rest) (has : as' = (.ref a :: argsL).toArray)
    (K : ∀ v T' L', Stand p l e R s m args below meth c T' (locs ++ L') (cells + rm.cells) (slots + rm.slots) → Q' v T'.heap L' → own_Fin p e below E (T'.setTop (mkF m (pc + 3) Ls (v.toList ++ rest)))) : own_Fin p e below E (T.setTop (mkF m pc Ls st)) := by
  subst hst has
  obtain ⟨cq, kq, qa, -, qc⟩ := isOf hZ eT EX
  obtain ⟨v, _, ⟨T', L', k', n'⟩, -, X', ⟨L2, hQ, l1, y1, z1⟩, sp⟩ := X.virtualBack hx (y := y) (z := z) hown (mvT hZ w1) (mvT hZ w2) (notFace_of_selects (args := #[]) (mvT hZ w3)) (mvT hZ w4) (mvT hZ w5) hy (backOf (W := W) (hM []) hZ w6 w7 hf hl) qa qc (g := mkF m pc Ls (argsL.reverse ++ .ref a :: rest)) rfl hsz (Steps.refl _) (argsL := argsL) (rest := rest) (lenOf hpd hlen) rfl (by show 2 * 0 + _ ≤ _; omega) hd (fun _ _ => ⟨rfl, eT, hcc, hss⟩)
  dsimp only [Pt.U, Pt.locs, Pt.cells, Pt.slots] at X' l1 y1 z1 sp hQ
  subst l1 y1 z1
  exact own_via (K v T' L2 X' hQ) fun t k => sp.trans k
theorem own_stat (X : Stand p l e R s m args below meth c T locs cells slots) (hx : p.tables.exec = Jvm.exec) (hZ : Z.Warmed39 s.vm) {own : String} {index : Nat} {y : MethodName} {bytes : ByteArray} {maxL : Nat} {ret : Option FieldType} {rm : Room} {W : Nat} {as' : Array Value} {Q' : Option Value → Heap → List Loc → Prop} {argsL rest : List Value} (hown : s.vm.findClass own = some m.cls) (w1 : (Jvm.Cond.methodLink own index y).before a0 Z = true) (w2 : (Jvm.Cond.static y).before a0 Z = true)
    (w6 : (Jvm.Cond.code y bytes maxL ret).before a0 Z = true) (w7 : (Jvm.Cond.initialized y.cls).before a0 Z = true) (hy : y.cls ≠ "java/lang/invoke/MethodHandle" ∧ y.cls ≠ "java/lang/invoke/VarHandle") (eT : T.heap = h) (hd : decode c.code pc = .ok (.invokestatic index, 3)) (hsz : Ls.size = c.maxLocals) {ps : List FieldType} {rt : Option FieldType} (hpd : parseMethodDescriptor y.desc = some ⟨ps, rt⟩) (hlen : argsL.length = ps.length) (hW : (rest.map fun v => v.category).sum ≤ W)
    (hM : own_Met l Z y bytes maxL ret rm as' h Q') (hf : rm.frames + 1 ≤ R.frames) (hl : W + (maxL + 11) + rm.locals ≤ R.locals) (hcc : cells + rm.cells ≤ R.cells) (hss : slots + rm.slots ≤ R.slots) (hst : st = argsL.reverse ++ rest) (has : as' = argsL.toArray)
    (K : ∀ v T' L', Stand p l e R s m args below meth c T' (locs ++ L') (cells + rm.cells) (slots + rm.slots) → Q' v T'.heap L' → own_Fin p e below E (T'.setTop (mkF m (pc + 3) Ls (v.toList ++ rest)))) : own_Fin p e below E (T.setTop (mkF m pc Ls st)) := by
  subst hst has
  obtain ⟨v, _, ⟨T', L', k', n'⟩, -, X', ⟨L2, hQ, l1, y1, z1⟩, sp⟩ := Jvm.LawKit.callS X hx (y := y) hown (mvT hZ w1) (mvT hZ w2) (mvT hZ w7) (mvT hZ w6) hy (backOf (W := W) (hM []) hZ w6 w7 hf hl) (g := mkF m pc Ls (argsL.reverse ++ rest)) rfl hsz (argsL := argsL) (rest := rest) (lenOf hpd hlen) rfl (by show 2 * 0 + _ ≤ _; omega) hd (fun _ _ => ⟨rfl, eT, hcc, hss⟩)
  dsimp only [Pt.U, Pt.locs, Pt.cells, Pt.slots] at X' l1 y1 z1 sp hQ
  subst l1 y1 z1
  exact own_via (K v T' L2 X' hQ) sp
theorem own_spec (X : Stand p l e R s m args below meth c T locs cells slots) (hx : p.tables.exec = Jvm.exec) (hZ : Z.Warmed39 s.vm) {own : String} {index : Nat} {y : MethodName} {bytes : ByteArray} {maxL : Nat} {rm : Room} {W : Nat} {as' : Array Value} {Q' : Option Value → Heap → List Loc → Prop} {argsL rest : List Value} {a : Addr} (hy1 : y.name = "<init>") (hown : s.vm.findClass own = some m.cls) (w1 : (Jvm.Cond.methodLink own index y).before a0 Z = true) (w5 : (Jvm.Cond.instanceMethod y).before a0 Z = true)
    (w6 : (Jvm.Cond.code y bytes maxL none).before a0 Z = true) (w7 : (Jvm.Cond.initialized y.cls).before a0 Z = true) (hy : y.cls ≠ "java/lang/invoke/MethodHandle" ∧ y.cls ≠ "java/lang/invoke/VarHandle") (eT : T.heap = h) (hd : decode c.code pc = .ok (.invokespecial index, 3)) (hsz : Ls.size = c.maxLocals) {ps : List FieldType} {rt : Option FieldType} (hpd : parseMethodDescriptor y.desc = some ⟨ps, rt⟩) (hlen : argsL.length = ps.length) (hW : (rest.map fun v => v.category).sum ≤ W)
    (hM : own_Met l Z y bytes maxL none rm as' h Q') (hf : rm.frames + 1 ≤ R.frames) (hl : W + (maxL + 11) + rm.locals ≤ R.locals) (hcc : cells + rm.cells ≤ R.cells) (hss : slots + rm.slots ≤ R.slots) (hst : st = argsL.reverse ++ .ref a :: rest) (has : as' = (.ref a :: argsL).toArray)
    (K : ∀ v T' L', Stand p l e R s m args below meth c T' (locs ++ L') (cells + rm.cells) (slots + rm.slots) → Q' v T'.heap L' → own_Fin p e below E (T'.setTop (mkF m (pc + 3) Ls (v.toList ++ rest)))) : own_Fin p e below E (T.setTop (mkF m pc Ls st)) := by
  subst hst has
  obtain ⟨v, _, ⟨T', L', k', n'⟩, -, X', ⟨L2, hQ, l1, y1, z1⟩, sp⟩ := X.specialBack hx (y := y) hy1 hown (mvT hZ w1) (mvT hZ w5) (mvT hZ w6) hy (backOf (W := W) (hM []) hZ w6 w7 hf hl) (g := mkF m pc Ls (argsL.reverse ++ .ref a :: rest)) rfl hsz (Steps.refl _) (a := a) (argsL := argsL) (rest := rest) (lenOf hpd hlen) rfl (by show 2 * 0 + _ ≤ _; omega) hd (fun _ _ => ⟨rfl, eT, hcc, hss⟩)
  dsimp only [Pt.U, Pt.locs, Pt.cells, Pt.slots] at X' l1 y1 z1 sp hQ
  subst l1 y1 z1
  exact own_via (K v T' L2 X' hQ) fun t k => sp.trans k
theorem own_retN (X : Stand p l e R s m args below meth c T locs cells slots) (hx : p.tables.exec = Jvm.exec) {t : FieldType} {z : Int32} (hret : meth.sig.returnType = some t) (ht : t = .boolean ∨ t = .byte ∨ t = .char ∨ t = .short) (hd : decode c.code pc = .ok (.ireturn, 1)) (hlk : meth.locks = false) (hc : cells ≤ kc) (hs : slots ≤ ks) (hQ : Q (some (.int (nar t z))) T.heap locs) : own_Fin p e below (own_End s Q kc ks) (T.setTop (mkF m pc Ls (.int z :: st))) := by
  obtain ⟨fs, hr, hrun, hended, hW, hsame⟩ := X.leave (v := some (.int (nar t z))) (fun h => by rw [hret] at h; cases h) hlk
  exact ⟨_, _, retN X hx hret ht hd hr, hrun, hended, _, _, rfl, hQ, ⟨_, rfl⟩, hW, hsame.mono hc hs⟩
theorem own_retI (X : Stand p l e R s m args below meth c T locs cells slots) (hx : p.tables.exec = Jvm.exec) {z : Int32} (hret : meth.sig.returnType = some .int) (hd : decode c.code pc = .ok (.ireturn, 1)) (hlk : meth.locks = false) (hc : cells ≤ kc) (hs : slots ≤ ks) (hQ : Q (some (.int z)) T.heap locs) : own_Fin p e below (own_End s Q kc ks) (T.setTop (mkF m pc Ls (.int z :: st))) := by
  obtain ⟨fs, hr, hrun, hended, hW, hsame⟩ := X.leave (v := some (.int z)) (fun h => by rw [hret] at h; cases h) hlk
  exact ⟨_, _, retOut X hx hret rfl (Or.inl ⟨rfl, Or.inl rfl, z, rfl⟩) hd hr, hrun, hended, _, _, rfl, hQ, ⟨_, rfl⟩, hW, hsame.mono hc hs⟩
theorem own_retJ (X : Stand p l e R s m args below meth c T locs cells slots) (hx : p.tables.exec = Jvm.exec) {z : Int64} (hret : meth.sig.returnType = some .long) (hd : decode c.code pc = .ok (.lreturn, 1)) (hlk : meth.locks = false) (hc : cells ≤ kc) (hs : slots ≤ ks) (hQ : Q (some (.long z)) T.heap locs) : own_Fin p e below (own_End s Q kc ks) (T.setTop (mkF m pc Ls (.long z :: st))) := by
  obtain ⟨fs, hr, hrun, hended, hW, hsame⟩ := X.leave (v := some (.long z)) (fun h => by rw [hret] at h; cases h) hlk
  exact ⟨_, _, retOut X hx hret rfl (Or.inr (Or.inl ⟨rfl, rfl, z, rfl⟩)) hd hr, hrun, hended, _, _, rfl, hQ, ⟨_, rfl⟩, hW, hsame.mono hc hs⟩
theorem own_retA (X : Stand p l e R s m args below meth c T locs cells slots) (hx : p.tables.exec = Jvm.exec) {t : FieldType} {v : Value} (hret : meth.sig.returnType = some t) (ht : t.isReference = true) (hv : v.isRef = true) (hn : narrow t v = v) (hd : decode c.code pc = .ok (.areturn, 1)) (hlk : meth.locks = false) (hc : cells ≤ kc) (hs : slots ≤ ks) (hQ : Q (some v) T.heap locs) : own_Fin p e below (own_End s Q kc ks) (T.setTop (mkF m pc Ls (v :: st))) := by
  obtain ⟨fs, hr, hrun, hended, hW, hsame⟩ := X.leave (v := some v) (fun h => by rw [hret] at h; cases h) hlk
  exact ⟨_, _, retOut X hx hret hn (Or.inr (Or.inr (Or.inr (Or.inr ⟨rfl, ht, hv⟩)))) hd hr, hrun, hended, _, _, rfl, hQ, ⟨_, rfl⟩, hW, hsame.mono hc hs⟩
theorem own_retV (X : Stand p l e R s m args below meth c T locs cells slots) (hx : p.tables.exec = Jvm.exec) (hret : meth.sig.returnType = none) (hd : decode c.code pc = .ok (.return_, 1)) (hlk : meth.locks = false) (hc : cells ≤ kc) (hs : slots ≤ ks) (hQ : Q none T.heap locs) : own_Fin p e below (own_End s Q kc ks) (T.setTop (mkF m pc Ls [])) := by
  obtain ⟨fs, hr, hrun, hended, hW, hsame⟩ := X.leave (v := none) (fun _ => rfl) hlk
  exact ⟨_, _, X.returnOut hx hret hd hr, hrun, hended, _, _, rfl, hQ, ⟨_, rfl⟩, hW, hsame.mono hc hs⟩
theorem own_exa {t : Term} {C : String} (hx : (Jvm.Cond.exactly t C).value args s none s [] = some true) : ∃ a, t.eval args s none [] s = some (.ref a) ∧ Exa s s.heap a C := by
  obtain ⟨a, ev⟩ := exa_v hx
  exact ⟨a, ev, Exa.start ev hx⟩
theorem own_eqI {t : Term} {v : Int32} {idx : List Nat} (h : (Jvm.Cond.eq t (.int v)).value args s none s idx = some true) : t.eval args s none idx s = some (.int v) := by
  simp only [Cond.value, Term.eval] at h
  cases ht : t.eval args s none idx s with
  | none => simp [ht] at h
  | some x => cases x <;> simp [ht] at h ⊢; exact h
theorem own_eqR {t u : Term} {b : Addr} {idx : List Nat} (hu : u.eval args s none idx s = some (.ref b)) (h : (Jvm.Cond.eq t u).value args s none s idx = some true) : t.eval args s none idx s = some (.ref b) := by
  simp only [Cond.value, hu] at h
  cases ht : t.eval args s none idx s with
  | none => simp [ht] at h
  | some x => cases x <;> simp [ht] at h ⊢; exact h
theorem own_len2 {t : Term} {a : Addr} {cl : Cell} {ty : FieldType} {n : Int32} (ev : t.eval args s none [] s = some (.ref a)) (A : Arr s s.heap a cl ty) (h : (Term.length t).eval args s none [] s = some (.int n)) : cl.slots.size < 2 ^ 31 ∧ cl.slots.size.toInt32 = n := by
  have hA := A.fin (Vm.Alike.refl _)
  simp only [Term.eval, ev, hA, Option.bind_eq_bind, Option.bind_some] at h
  by_cases q : cl.slots.size < 2 ^ 31
  · rw [if_pos q] at h
    exact ⟨q, Value.int.inj (Option.some.inj h)⟩
  · rw [if_neg q] at h
    cases h
theorem own_len {t : Term} {a : Addr} {cl : Cell} {ty : FieldType} {n : Int32} (ev : t.eval args s none [] s = some (.ref a)) (A : Arr s s.heap a cl ty) (h : (Term.length t).eval args s none [] s = some (.int n)) : cl.slots.size.toInt32 = n := (own_len2 ev A h).2
theorem own_fld {t : Term} {O n d : String} {a : Addr} {v : Value} (ev : t.eval args s none [] s = some (.ref a)) (h : (Term.field t O n d).eval args s none [] s = some v) : Fld s s.heap a O n d v := Fld.start (by rw [← fld_at ev]; exact h)
end Own


theorem own_w0 {a0 : Array Value} {Z : State} (hw : ∀ d ∈ tables_1, d.before a0 Z = true) : (Jvm.Cond.arrayClass Jvm.ClassFile.FieldType.byte).before a0 Z = true := hw _ (List.mem_of_getElem? (i := 0) rfl)
theorem own_w1 {a0 : Array Value} {Z : State} (hw : ∀ d ∈ tables_1, d.before a0 Z = true) : (Jvm.Cond.constant "com/example/glasnik/glasnik/engine/framing/FramingNextMarkPinLaw" (7 : Nat) (2147483647 : Int32)).before a0 Z = true := hw _ (List.mem_of_getElem? (i := 1) rfl)
theorem own_w2 {a0 : Array Value} {Z : State} (hw : ∀ d ∈ tables_1, d.before a0 Z = true) : (Jvm.Cond.methodLink "com/example/glasnik/glasnik/engine/framing/FramingNextMarkPinLaw" (8 : Nat) ({ cls := "java/lang/Math", name := "min", desc := "(II)I" } : Jvm.MethodName)).before a0 Z = true := hw _ (List.mem_of_getElem? (i := 2) rfl)
theorem own_w3 {a0 : Array Value} {Z : State} (hw : ∀ d ∈ tables_1, d.before a0 Z = true) : (Jvm.Cond.static ({ cls := "java/lang/Math", name := "min", desc := "(II)I" } : Jvm.MethodName)).before a0 Z = true := hw _ (List.mem_of_getElem? (i := 3) rfl)
theorem own_w4 {a0 : Array Value} {Z : State} (hw : ∀ d ∈ tables_1, d.before a0 Z = true) : (Jvm.Cond.initialized "java/lang/Math").before a0 Z = true := hw _ (List.mem_of_getElem? (i := 4) rfl)
theorem own_w5 {a0 : Array Value} {Z : State} (hw : ∀ d ∈ tables_1, d.before a0 Z = true) : (Jvm.Cond.code ({ cls := "java/lang/Math", name := "min", desc := "(II)I" } : Jvm.MethodName) jdk_29_method_69_code (2 : Nat) (Option.some Jvm.ClassFile.FieldType.int)).before a0 Z = true := hw _ (List.mem_of_getElem? (i := 5) rfl)
theorem own_w6 {a0 : Array Value} {Z : State} (hw : ∀ d ∈ tables_1, d.before a0 Z = true) : (Jvm.Cond.methodLink "com/example/glasnik/glasnik/engine/framing/FramingNextMarkPinLaw" (14 : Nat) ({ cls := "java/lang/Math", name := "max", desc := "(II)I" } : Jvm.MethodName)).before a0 Z = true := hw _ (List.mem_of_getElem? (i := 6) rfl)
theorem own_w7 {a0 : Array Value} {Z : State} (hw : ∀ d ∈ tables_1, d.before a0 Z = true) : (Jvm.Cond.static ({ cls := "java/lang/Math", name := "max", desc := "(II)I" } : Jvm.MethodName)).before a0 Z = true := hw _ (List.mem_of_getElem? (i := 7) rfl)
theorem own_w8 {a0 : Array Value} {Z : State} (hw : ∀ d ∈ tables_1, d.before a0 Z = true) : (Jvm.Cond.code ({ cls := "java/lang/Math", name := "max", desc := "(II)I" } : Jvm.MethodName) jdk_29_method_65_code (2 : Nat) (Option.some Jvm.ClassFile.FieldType.int)).before a0 Z = true := hw _ (List.mem_of_getElem? (i := 8) rfl)
theorem own_w9 {a0 : Array Value} {Z : State} (hw : ∀ d ∈ tables_1, d.before a0 Z = true) : (Jvm.Cond.methodLink "com/example/glasnik/glasnik/engine/framing/FramingNextMarkPinLaw" (17 : Nat) ({ cls := "com/example/glasnik/glasnik/engine/framing/FramingNextMarkPinLaw", name := "mark", desc := "(B)Z" } : Jvm.MethodName)).before a0 Z = true := hw _ (List.mem_of_getElem? (i := 9) rfl)
theorem own_w10 {a0 : Array Value} {Z : State} (hw : ∀ d ∈ tables_1, d.before a0 Z = true) : (Jvm.Cond.static ({ cls := "com/example/glasnik/glasnik/engine/framing/FramingNextMarkPinLaw", name := "mark", desc := "(B)Z" } : Jvm.MethodName)).before a0 Z = true := hw _ (List.mem_of_getElem? (i := 10) rfl)
theorem own_w11 {a0 : Array Value} {Z : State} (hw : ∀ d ∈ tables_1, d.before a0 Z = true) : (Jvm.Cond.initialized "com/example/glasnik/glasnik/engine/framing/FramingNextMarkPinLaw").before a0 Z = true := hw _ (List.mem_of_getElem? (i := 11) rfl)
theorem own_w12 {a0 : Array Value} {Z : State} (hw : ∀ d ∈ tables_1, d.before a0 Z = true) : (Jvm.Cond.code ({ cls := "com/example/glasnik/glasnik/engine/framing/FramingNextMarkPinLaw", name := "mark", desc := "(B)Z" } : Jvm.MethodName) method_2_code (2 : Nat) (Option.some Jvm.ClassFile.FieldType.boolean)).before a0 Z = true := hw _ (List.mem_of_getElem? (i := 12) rfl)
theorem own_w13 {a0 : Array Value} {Z : State} (hw : ∀ d ∈ tables_1, d.before a0 Z = true) : (Jvm.Cond.methodLink "com/example/glasnik/glasnik/engine/framing/FramingNextMarkPinLaw" (23 : Nat) ({ cls := "com/example/glasnik/glasnik/engine/framing/Framing", name := "nextMark", desc := "([BII)I" } : Jvm.MethodName)).before a0 Z = true := hw _ (List.mem_of_getElem? (i := 13) rfl)
theorem own_w14 {a0 : Array Value} {Z : State} (hw : ∀ d ∈ tables_1, d.before a0 Z = true) : (Jvm.Cond.static ({ cls := "com/example/glasnik/glasnik/engine/framing/Framing", name := "nextMark", desc := "([BII)I" } : Jvm.MethodName)).before a0 Z = true := hw _ (List.mem_of_getElem? (i := 14) rfl)
theorem own_w15 {a0 : Array Value} {Z : State} (hw : ∀ d ∈ tables_1, d.before a0 Z = true) : (Jvm.Cond.initialized "com/example/glasnik/glasnik/engine/framing/Framing").before a0 Z = true := hw _ (List.mem_of_getElem? (i := 15) rfl)
theorem own_w16 {a0 : Array Value} {Z : State} (hw : ∀ d ∈ tables_1, d.before a0 Z = true) : (Jvm.Cond.code ({ cls := "com/example/glasnik/glasnik/engine/framing/Framing", name := "nextMark", desc := "([BII)I" } : Jvm.MethodName) prog_96_method_9_code (4 : Nat) (Option.some Jvm.ClassFile.FieldType.int)).before a0 Z = true := hw _ (List.mem_of_getElem? (i := 16) rfl)
theorem own_w17 {a0 : Array Value} {Z : State} (hw : ∀ d ∈ tables_1, d.before a0 Z = true) : (Jvm.Cond.fieldLink "com/example/glasnik/glasnik/engine/framing/Framing" (90 : Nat) "com/example/glasnik/glasnik/engine/framing/Framing" "MARKS" "[Z").before a0 Z = true := hw _ (List.mem_of_getElem? (i := 17) rfl)
theorem own_w18 {a0 : Array Value} {Z : State} (hw : ∀ d ∈ tables_1, d.before a0 Z = true) : (Jvm.Cond.laysStatic "com/example/glasnik/glasnik/engine/framing/Framing" "MARKS" "[Z").before a0 Z = true := hw _ (List.mem_of_getElem? (i := 18) rfl)
def own_mk (u : Int32) : Int32 := if u = 11 then 1 else if u = 28 then 1 else if u = 2 then 1 else if u = 3 then 1 else 0
def own_r4 : Int32 := 4
def own_r3 (c3 t : Int32) : Int32 := if (3 : Int32) < t then (if own_mk (c3 &&& (255 : Int32)) = 0 then own_r4 else 3) else 3
def own_r2 (c2 c3 t : Int32) : Int32 := if (2 : Int32) < t then (if own_mk (c2 &&& (255 : Int32)) = 0 then own_r3 c3 t else 2) else 2
def own_r1 (c1 c2 c3 t : Int32) : Int32 := if (1 : Int32) < t then (if own_mk (c1 &&& (255 : Int32)) = 0 then own_r2 c2 c3 t else 1) else 1
def own_r0 (c0 c1 c2 c3 t : Int32) : Int32 := if (0 : Int32) < t then (if own_mk (c0 &&& (255 : Int32)) = 0 then own_r1 c1 c2 c3 t else 0) else 0
def own_rf (c0 c1 c2 c3 f t : Int32) : Int32 := if f = 0 then own_r0 c0 c1 c2 c3 t else if f = 1 then own_r1 c1 c2 c3 t else if f = 2 then own_r2 c2 c3 t else if f = 3 then own_r3 c3 t else own_r4
def own_e (k c f t E : Int32) : Int32 := if k < f then E else if k < t then (if own_mk (c &&& (255 : Int32)) = 0 then E else k) else E
theorem own_same {c0 c1 c2 c3 f t : Int32} (hf : f = 0 ∨ f = 1 ∨ f = 2 ∨ f = 3 ∨ f = 4) (ht : t = 0 ∨ t = 1 ∨ t = 2 ∨ t = 3 ∨ t = 4) (h : ¬ t < f) :
    own_rf c0 c1 c2 c3 f t = own_e 0 c0 f t (own_e 1 c1 f t (own_e 2 c2 f t (own_e 3 c3 f t t))) := by
  unfold own_rf own_r0 own_r1 own_r2 own_r3 own_r4 own_e
  generalize own_mk (c0 &&& (255 : Int32)) = m0
  generalize own_mk (c1 &&& (255 : Int32)) = m1
  generalize own_mk (c2 &&& (255 : Int32)) = m2
  generalize own_mk (c3 &&& (255 : Int32)) = m3
  rcases hf with rfl | rfl | rfl | rfl | rfl <;> rcases ht with rfl | rfl | rfl | rfl | rfl <;> first | exact absurd (by decide) h | simp +decide
theorem own_pq {p q : Int32} (hp : p = 0 ∨ p = 1 ∨ p = 2 ∨ p = 3 ∨ p = 4) (hq : q = 0 ∨ q = 1 ∨ q = 2 ∨ q = 3 ∨ q = 4) : ∀ f t : Int32, f = (if q < p then q else p) → t = (if p < q then q else p) → (f = 0 ∨ f = 1 ∨ f = 2 ∨ f = 3 ∨ f = 4) ∧ (t = 0 ∨ t = 1 ∨ t = 2 ∨ t = 3 ∨ t = 4) ∧ ¬ t < f := by
  intro f t hf ht
  subst hf ht
  rcases hp with rfl | rfl | rfl | rfl | rfl <;> rcases hq with rfl | rfl | rfl | rfl | rfl <;> decide
theorem own_u (c : Int32) : ¬ c &&& (255 : Int32) < 0 ∧ c &&& (255 : Int32) < 256 := by
  have h := c_mask c 255 8 (by decide) (by decide)
  have e0 : (0 : Int32).toInt = 0 := by decide
  have e1 : (256 : Int32).toInt = 256 := by decide
  rw [Int32.lt_iff_toInt_lt, Int32.lt_iff_toInt_lt, h, e0, e1]
  omega
theorem own_slot {cl : Cell} {v0 v1 v2 v3 : Value} (hs : cl.slots = #[v0, v1, v2, v3]) : (¬ ((0 : Int32) < 0 ∨ cl.slots.size ≤ (0 : Int32).toNatClampNeg) ∧ cl.slots[(0 : Int32).toNatClampNeg]? = some v0) ∧ (¬ ((1 : Int32) < 0 ∨ cl.slots.size ≤ (1 : Int32).toNatClampNeg) ∧ cl.slots[(1 : Int32).toNatClampNeg]? = some v1) ∧ (¬ ((2 : Int32) < 0 ∨ cl.slots.size ≤ (2 : Int32).toNatClampNeg) ∧ cl.slots[(2 : Int32).toNatClampNeg]? = some v2) ∧ (¬ ((3 : Int32) < 0 ∨ cl.slots.size ≤ (3 : Int32).toNatClampNeg) ∧ cl.slots[(3 : Int32).toNatClampNeg]? = some v3) := by
  rw [hs]
  refine ⟨⟨?_, rfl⟩, ⟨?_, rfl⟩, ⟨?_, rfl⟩, ⟨?_, rfl⟩⟩ <;> (show ¬ (_ ∨ 4 ≤ _); decide)
theorem own_four (cA : ClassId) (v0 v1 v2 v3 : Value) : (((((newA cA (newarray.typeOf .byte) 4).setSlot (0 : Int32).toNatClampNeg v0).setSlot (1 : Int32).toNatClampNeg v1).setSlot (2 : Int32).toNatClampNeg v2).setSlot (3 : Int32).toNatClampNeg v3).slots = #[v0, v1, v2, v3] := by
  have e0 : (0 : Int32).toNatClampNeg = 0 := by decide
  have e1 : (1 : Int32).toNatClampNeg = 1 := by decide
  have e2 : (2 : Int32).toNatClampNeg = 2 := by decide
  have e3 : (3 : Int32).toNatClampNeg = 3 := by decide
  have e4 : (4 : Int32).toNatClampNeg = 4 := by decide
  rw [e0, e1, e2, e3]
  simp only [newA, Cell.setSlot, e4]
  rfl
def own_Marks (ml : Cell) : Prop := ∀ j : Int32, ¬ j < 0 → j < 256 → ¬ (j < 0 ∨ ml.slots.size ≤ j.toNatClampNeg) ∧ ml.slots[j.toNatClampNeg]? = some (.int (own_mk j))
theorem own_k (x : Int32) : (x &&& (2147483647 : Int32)) % (5 : Int32) = 0 ∨ (x &&& (2147483647 : Int32)) % (5 : Int32) = 1 ∨ (x &&& (2147483647 : Int32)) % (5 : Int32) = 2 ∨ (x &&& (2147483647 : Int32)) % (5 : Int32) = 3 ∨ (x &&& (2147483647 : Int32)) % (5 : Int32) = 4 := by
  have h1 := (c_and x 2147483647 (by decide)).1
  have h2 := (c_irem (x &&& 2147483647) 5 5 (by decide)).1 h1
  have e0 : (0 : Int32).toInt = 0 := by decide
  have e1 : (1 : Int32).toInt = 1 := by decide
  have e2 : (2 : Int32).toInt = 2 := by decide
  have e3 : (3 : Int32).toInt = 3 := by decide
  have e4 : (4 : Int32).toInt = 4 := by decide
  simp only [← Int32.toInt_inj, h2, e0, e1, e2, e3, e4]
  omega
theorem own_mn_0 : decode jdk_29_method_69_code 0 = .ok (.iload_n 0, 1) := by decide +kernel
theorem own_mn_1 : decode jdk_29_method_69_code 1 = .ok (.iload_n 1, 1) := by decide +kernel
theorem own_mn_2 : decode jdk_29_method_69_code 2 = .ok (.if_icmp .gt 7, 3) := by decide +kernel
theorem own_mn_5 : decode jdk_29_method_69_code 5 = .ok (.iload_n 0, 1) := by decide +kernel
theorem own_mn_6 : decode jdk_29_method_69_code 6 = .ok (.goto 4, 3) := by decide +kernel
theorem own_mn_9 : decode jdk_29_method_69_code 9 = .ok (.iload_n 1, 1) := by decide +kernel
theorem own_mn_10 : decode jdk_29_method_69_code 10 = .ok (.ireturn, 1) := by decide +kernel
set_option maxRecDepth 65536 in
set_option maxHeartbeats 40000000 in
theorem own_min (l : Launch) (Z : State) (a0 : Array Value) (hw : ∀ d ∈ tables_1, d.before a0 Z = true) (a b : Int32) (h0 : Heap) (n0 : Nat)  :
    own_Met l Z (⟨"java/lang/Math", "min", "(II)I"⟩ : MethodName) jdk_29_method_69_code 2 (some .int) ({ frames := 0, cells := 0, slots := 0, locals := 0 } : Room) #[(.int a), (.int b)] h0 (fun v h L => v = some (.int (if b < a then b else a)) ∧ Fr n0 L ∧ h = h0) := by
  refine own_body (Ls := #[.val (.int a), .val (.int b)]) (Jvm.Free.JP.mathPlain rfl (by decide +kernel)) (fun m => by first | (simp [entryFrame, mkF, argsToLocals, Value.category]; done) | rfl) ?_
  intro p e s m below meth c s₁ hx hZ hby hml hown hnm hret hlk X0 e0
  have N0 := Fr.nil n0
  refine own_iloadN X0 hx (hb hby own_mn_0) rfl ?_
  refine own_iloadN X0 hx (hb hby own_mn_1) rfl ?_
  by_cases hc : b < a
  · skip
    refine own_icmpYes X0 hx 9 (hb hby own_mn_2) (by decide) (by decide) (Jvm.Free.XT.ii_gt_t hc) ?_
    refine own_iloadN X0 hx (hb hby own_mn_9) rfl ?_
    refine own_retI X0 hx hret (hb hby own_mn_10) hlk (by decide) (by decide) ?_
    exact ⟨by rw [if_pos hc], N0, e0⟩
  · skip
    refine own_icmpNo X0 hx (hb hby own_mn_2) (Jvm.Free.XT.ii_gt_f hc) ?_
    refine own_iloadN X0 hx (hb hby own_mn_5) rfl ?_
    refine own_goto X0 hx 10 (hb hby own_mn_6) (by decide) (by decide) ?_
    refine own_retI X0 hx hret (hb hby own_mn_10) hlk (by decide) (by decide) ?_
    exact ⟨by rw [if_neg hc], N0, e0⟩
theorem own_mx_0 : decode jdk_29_method_65_code 0 = .ok (.iload_n 0, 1) := by decide +kernel
theorem own_mx_1 : decode jdk_29_method_65_code 1 = .ok (.iload_n 1, 1) := by decide +kernel
theorem own_mx_2 : decode jdk_29_method_65_code 2 = .ok (.if_icmp .lt 7, 3) := by decide +kernel
theorem own_mx_5 : decode jdk_29_method_65_code 5 = .ok (.iload_n 0, 1) := by decide +kernel
theorem own_mx_6 : decode jdk_29_method_65_code 6 = .ok (.goto 4, 3) := by decide +kernel
theorem own_mx_9 : decode jdk_29_method_65_code 9 = .ok (.iload_n 1, 1) := by decide +kernel
theorem own_mx_10 : decode jdk_29_method_65_code 10 = .ok (.ireturn, 1) := by decide +kernel
set_option maxRecDepth 65536 in
set_option maxHeartbeats 40000000 in
theorem own_max (l : Launch) (Z : State) (a0 : Array Value) (hw : ∀ d ∈ tables_1, d.before a0 Z = true) (a b : Int32) (h0 : Heap) (n0 : Nat)  :
    own_Met l Z (⟨"java/lang/Math", "max", "(II)I"⟩ : MethodName) jdk_29_method_65_code 2 (some .int) ({ frames := 0, cells := 0, slots := 0, locals := 0 } : Room) #[(.int a), (.int b)] h0 (fun v h L => v = some (.int (if a < b then b else a)) ∧ Fr n0 L ∧ h = h0) := by
  refine own_body (Ls := #[.val (.int a), .val (.int b)]) (Jvm.Free.JP.mathPlain rfl (by decide +kernel)) (fun m => by first | (simp [entryFrame, mkF, argsToLocals, Value.category]; done) | rfl) ?_
  intro p e s m below meth c s₁ hx hZ hby hml hown hnm hret hlk X0 e0
  have N0 := Fr.nil n0
  refine own_iloadN X0 hx (hb hby own_mx_0) rfl ?_
  refine own_iloadN X0 hx (hb hby own_mx_1) rfl ?_
  by_cases hc : a < b
  · skip
    refine own_icmpYes X0 hx 9 (hb hby own_mx_2) (by decide) (by decide) (Jvm.Free.XT.ii_lt_t hc) ?_
    refine own_iloadN X0 hx (hb hby own_mx_9) rfl ?_
    refine own_retI X0 hx hret (hb hby own_mx_10) hlk (by decide) (by decide) ?_
    exact ⟨by rw [if_pos hc], N0, e0⟩
  · skip
    refine own_icmpNo X0 hx (hb hby own_mx_2) (Jvm.Free.XT.ii_lt_f hc) ?_
    refine own_iloadN X0 hx (hb hby own_mx_5) rfl ?_
    refine own_goto X0 hx 10 (hb hby own_mx_6) (by decide) (by decide) ?_
    refine own_retI X0 hx hret (hb hby own_mx_10) hlk (by decide) (by decide) ?_
    exact ⟨by rw [if_neg hc], N0, e0⟩
theorem own_mk_0 : decode method_2_code 0 = .ok (.iload_n 0, 1) := by decide +kernel
theorem own_mk_1 : decode method_2_code 1 = .ok (.sipush 255, 3) := by decide +kernel
theorem own_mk_4 : decode method_2_code 4 = .ok (.iand, 1) := by decide +kernel
theorem own_mk_5 : decode method_2_code 5 = .ok (.istore_n 1, 1) := by decide +kernel
theorem own_mk_6 : decode method_2_code 6 = .ok (.iload_n 1, 1) := by decide +kernel
theorem own_mk_7 : decode method_2_code 7 = .ok (.bipush 11, 2) := by decide +kernel
theorem own_mk_9 : decode method_2_code 9 = .ok (.if_icmp .eq 19, 3) := by decide +kernel
theorem own_mk_12 : decode method_2_code 12 = .ok (.iload_n 1, 1) := by decide +kernel
theorem own_mk_13 : decode method_2_code 13 = .ok (.bipush 28, 2) := by decide +kernel
theorem own_mk_15 : decode method_2_code 15 = .ok (.if_icmp .eq 13, 3) := by decide +kernel
theorem own_mk_18 : decode method_2_code 18 = .ok (.iload_n 1, 1) := by decide +kernel
theorem own_mk_19 : decode method_2_code 19 = .ok (.iconst 2, 1) := by decide +kernel
theorem own_mk_20 : decode method_2_code 20 = .ok (.if_icmp .eq 8, 3) := by decide +kernel
theorem own_mk_23 : decode method_2_code 23 = .ok (.iload_n 1, 1) := by decide +kernel
theorem own_mk_24 : decode method_2_code 24 = .ok (.iconst 3, 1) := by decide +kernel
theorem own_mk_25 : decode method_2_code 25 = .ok (.if_icmp .ne 7, 3) := by decide +kernel
theorem own_mk_28 : decode method_2_code 28 = .ok (.iconst 1, 1) := by decide +kernel
theorem own_mk_29 : decode method_2_code 29 = .ok (.goto 4, 3) := by decide +kernel
theorem own_mk_32 : decode method_2_code 32 = .ok (.iconst 0, 1) := by decide +kernel
theorem own_mk_33 : decode method_2_code 33 = .ok (.ireturn, 1) := by decide +kernel
theorem own_pn_com_example_glasnik_glasnik_engine_framing_FramingNextMarkPinLaw : plainName "com/example/glasnik/glasnik/engine/framing/FramingNextMarkPinLaw" = true := by first | (simp [plainName, overriddenIn]; done) | decide +kernel
theorem own_pd__28II_29I : parseMethodDescriptor "(II)I" = some ⟨[.int, .int], some .int⟩ := by decide +kernel
theorem own_pd__28B_29Z : parseMethodDescriptor "(B)Z" = some ⟨[.byte], some .boolean⟩ := by decide +kernel
theorem own_pd__28_5bBII_29I : parseMethodDescriptor "([BII)I" = some ⟨[(.array .byte), .int, .int], some .int⟩ := by decide +kernel
set_option maxRecDepth 65536 in
set_option maxHeartbeats 40000000 in
theorem own_mark (l : Launch) (Z : State) (a0 : Array Value) (hw : ∀ d ∈ tables_1, d.before a0 Z = true) (b : Int32) (h0 : Heap) (n0 : Nat)  :
    own_Met l Z (⟨"com/example/glasnik/glasnik/engine/framing/FramingNextMarkPinLaw", "mark", "(B)Z"⟩ : MethodName) method_2_code 2 (some .boolean) ({ frames := 0, cells := 0, slots := 0, locals := 0 } : Room) #[(.int b)] h0 (fun v h L => v = some (.int (own_mk (b &&& (255 : Int32)))) ∧ Fr n0 L ∧ h = h0) := by
  refine own_body (Ls := #[.val (.int b), .unset]) (plainFor_of_name own_pn_com_example_glasnik_glasnik_engine_framing_FramingNextMarkPinLaw) (fun m => by first | (simp [entryFrame, mkF, argsToLocals, Value.category]; done) | rfl) ?_
  intro p e s m below meth c s₁ hx hZ hby hml hown hnm hret hlk X0 e0
  have N0 := Fr.nil n0
  generalize hu : own_mk (b &&& (255 : Int32)) = u
  rw [own_mk] at hu
  refine own_iloadN X0 hx (hb hby own_mk_0) rfl ?_
  refine own_sipush X0 hx (255 : Int32) (hb hby own_mk_1) rfl ?_
  refine own_iand X0 hx (hb hby own_mk_4) ?_
  refine own_istoreN X0 hx (l' := #[.val (.int b), .val (.int (b &&& (255 : Int32)))]) (hb hby own_mk_5) rfl ?_
  refine own_iloadN X0 hx (hb hby own_mk_6) rfl ?_
  refine own_bipush X0 hx (11 : Int32) (hb hby own_mk_7) rfl ?_
  by_cases g0 : (b &&& (255 : Int32)) = (11 : Int32)
  · skip
    refine own_icmpYes X0 hx 28 (hb hby own_mk_9) (by decide) (by decide) (Jvm.Free.XT.ii_eq_t g0) ?_
    refine own_iconst X0 hx (1 : Int32) (hb hby own_mk_28) rfl ?_
    refine own_goto X0 hx 33 (hb hby own_mk_29) (by decide) (by decide) ?_
    refine own_retN X0 hx (t := .boolean) hret (by simp) (hb hby own_mk_33) hlk (by decide) (by decide) ?_
    exact ⟨by rw [← hu, if_pos g0]; rfl, N0, e0⟩
  · skip
    refine own_icmpNo X0 hx (hb hby own_mk_9) (Jvm.Free.XT.ii_eq_f g0) ?_
    refine own_iloadN X0 hx (hb hby own_mk_12) rfl ?_
    refine own_bipush X0 hx (28 : Int32) (hb hby own_mk_13) rfl ?_
    by_cases g1 : (b &&& (255 : Int32)) = (28 : Int32)
    · skip
      refine own_icmpYes X0 hx 28 (hb hby own_mk_15) (by decide) (by decide) (Jvm.Free.XT.ii_eq_t g1) ?_
      refine own_iconst X0 hx (1 : Int32) (hb hby own_mk_28) rfl ?_
      refine own_goto X0 hx 33 (hb hby own_mk_29) (by decide) (by decide) ?_
      refine own_retN X0 hx (t := .boolean) hret (by simp) (hb hby own_mk_33) hlk (by decide) (by decide) ?_
      exact ⟨by rw [← hu, if_neg g0, if_pos g1]; rfl, N0, e0⟩
    · skip
      refine own_icmpNo X0 hx (hb hby own_mk_15) (Jvm.Free.XT.ii_eq_f g1) ?_
      refine own_iloadN X0 hx (hb hby own_mk_18) rfl ?_
      refine own_iconst X0 hx (2 : Int32) (hb hby own_mk_19) rfl ?_
      by_cases g2 : (b &&& (255 : Int32)) = (2 : Int32)
      · skip
        refine own_icmpYes X0 hx 28 (hb hby own_mk_20) (by decide) (by decide) (Jvm.Free.XT.ii_eq_t g2) ?_
        refine own_iconst X0 hx (1 : Int32) (hb hby own_mk_28) rfl ?_
        refine own_goto X0 hx 33 (hb hby own_mk_29) (by decide) (by decide) ?_
        refine own_retN X0 hx (t := .boolean) hret (by simp) (hb hby own_mk_33) hlk (by decide) (by decide) ?_
        exact ⟨by rw [← hu, if_neg g0, if_neg g1, if_pos g2]; rfl, N0, e0⟩
      · skip
        refine own_icmpNo X0 hx (hb hby own_mk_20) (Jvm.Free.XT.ii_eq_f g2) ?_
        refine own_iloadN X0 hx (hb hby own_mk_23) rfl ?_
        refine own_iconst X0 hx (3 : Int32) (hb hby own_mk_24) rfl ?_
        by_cases g3 : (b &&& (255 : Int32)) = (3 : Int32)
        · skip
          refine own_icmpNo X0 hx (hb hby own_mk_25) (Jvm.Free.XT.ii_ne_f g3) ?_
          refine own_iconst X0 hx (1 : Int32) (hb hby own_mk_28) rfl ?_
          refine own_goto X0 hx 33 (hb hby own_mk_29) (by decide) (by decide) ?_
          refine own_retN X0 hx (t := .boolean) hret (by simp) (hb hby own_mk_33) hlk (by decide) (by decide) ?_
          exact ⟨by rw [← hu, if_neg g0, if_neg g1, if_neg g2, if_pos g3]; rfl, N0, e0⟩
        · skip
          refine own_icmpYes X0 hx 32 (hb hby own_mk_25) (by decide) (by decide) (Jvm.Free.XT.ii_ne_t g3) ?_
          refine own_iconst X0 hx (0 : Int32) (hb hby own_mk_32) rfl ?_
          refine own_retN X0 hx (t := .boolean) hret (by simp) (hb hby own_mk_33) hlk (by decide) (by decide) ?_
          exact ⟨by rw [← hu, if_neg g0, if_neg g1, if_neg g2, if_neg g3]; rfl, N0, e0⟩
theorem own_nm_0 : decode prog_96_method_9_code 0 = .ok (.iload_n 1, 1) := by decide +kernel
theorem own_nm_1 : decode prog_96_method_9_code 1 = .ok (.istore_n 3, 1) := by decide +kernel
theorem own_nm_2 : decode prog_96_method_9_code 2 = .ok (.iload_n 3, 1) := by decide +kernel
theorem own_nm_3 : decode prog_96_method_9_code 3 = .ok (.iload_n 2, 1) := by decide +kernel
theorem own_nm_4 : decode prog_96_method_9_code 4 = .ok (.if_icmp .ge 23, 3) := by decide +kernel
theorem own_nm_7 : decode prog_96_method_9_code 7 = .ok (.getstatic 90, 3) := by decide +kernel
theorem own_nm_10 : decode prog_96_method_9_code 10 = .ok (.aload_n 0, 1) := by decide +kernel
theorem own_nm_11 : decode prog_96_method_9_code 11 = .ok (.iload_n 3, 1) := by decide +kernel
theorem own_nm_12 : decode prog_96_method_9_code 12 = .ok (.baload, 1) := by decide +kernel
theorem own_nm_13 : decode prog_96_method_9_code 13 = .ok (.sipush 255, 3) := by decide +kernel
theorem own_nm_16 : decode prog_96_method_9_code 16 = .ok (.iand, 1) := by decide +kernel
theorem own_nm_17 : decode prog_96_method_9_code 17 = .ok (.baload, 1) := by decide +kernel
theorem own_nm_18 : decode prog_96_method_9_code 18 = .ok (.ifCond .ne 9, 3) := by decide +kernel
theorem own_nm_21 : decode prog_96_method_9_code 21 = .ok (.iinc 3 1, 3) := by decide +kernel
theorem own_nm_24 : decode prog_96_method_9_code 24 = .ok (.goto (-22), 3) := by decide +kernel
theorem own_nm_27 : decode prog_96_method_9_code 27 = .ok (.iload_n 3, 1) := by decide +kernel
theorem own_nm_28 : decode prog_96_method_9_code 28 = .ok (.ireturn, 1) := by decide +kernel
set_option maxRecDepth 65536 in
set_option maxHeartbeats 40000000 in
theorem own_nm4 {p : Program} {l : Launch} {e : Env} {R : Room} {s : State} {m : MethodId} {args : Array Value} {below : List Frame} {meth : Method} {c : Code} {T0 : State} {Z : State} {a0 : Array Value} {h0 : Heap} {n0 : Nat} (hw : ∀ d ∈ tables_1, d.before a0 Z = true) (b mk : Addr) (cl ml : Cell) (c0 c1 c2 c3 : Int32) (f t : Int32) (ht : ¬ (4 : Int32) < t) (S : Sta Z h0 "com/example/glasnik/glasnik/engine/framing/Framing" "MARKS" "[Z" (.ref mk)) (B : Arr Z h0 mk ml .boolean) (hM : own_Marks ml) (A : Arr Z h0 b cl .byte) (hs : cl.slots = #[.int c0, .int c1, .int c2, .int c3])
    (X0 : Stand p l e R s m args below meth c T0 [] 0 0) (hx : p.tables.exec = Jvm.exec) (hZ : Z.Warmed39 s.vm) (hby : c.code = prog_96_method_9_code) (hown : s.vm.findClass "com/example/glasnik/glasnik/engine/framing/Framing" = some m.cls) (hret : meth.sig.returnType = some .int) (hlk : meth.locks = false) (e0 : T0.heap = h0) :
    own_Fin p e below (own_End s (fun v h L => v = some (.int (own_r4)) ∧ Fr n0 L ∧ h = h0) 0 0) (T0.setTop (mkF m 2 #[.val (.ref b), .val (.int f), .val (.int t), .val (.int (4 : Int32))] [])) := by
  have N0 := Fr.nil n0
  obtain ⟨⟨hi0, hv0⟩, ⟨hi1, hv1⟩, ⟨hi2, hv2⟩, ⟨hi3, hv3⟩⟩ := own_slot hs
  refine own_iloadN X0 hx (hb hby own_nm_2) rfl ?_
  refine own_iloadN X0 hx (hb hby own_nm_3) rfl ?_
  by_cases h1 : (4 : Int32) < t
  · exact absurd h1 ht
  · skip
    refine own_icmpYes X0 hx 27 (hb hby own_nm_4) (by decide) (by decide) (Jvm.Free.XT.ii_ge_t h1) ?_
    refine own_iloadN X0 hx (hb hby own_nm_27) rfl ?_
    refine own_retI X0 hx hret (hb hby own_nm_28) hlk (by decide) (by decide) ?_
    exact ⟨by rw [own_r4], N0, e0⟩
set_option maxRecDepth 65536 in
set_option maxHeartbeats 40000000 in
theorem own_nm3 {p : Program} {l : Launch} {e : Env} {R : Room} {s : State} {m : MethodId} {args : Array Value} {below : List Frame} {meth : Method} {c : Code} {T0 : State} {Z : State} {a0 : Array Value} {h0 : Heap} {n0 : Nat} (hw : ∀ d ∈ tables_1, d.before a0 Z = true) (b mk : Addr) (cl ml : Cell) (c0 c1 c2 c3 : Int32) (f t : Int32) (ht : ¬ (4 : Int32) < t) (S : Sta Z h0 "com/example/glasnik/glasnik/engine/framing/Framing" "MARKS" "[Z" (.ref mk)) (B : Arr Z h0 mk ml .boolean) (hM : own_Marks ml) (A : Arr Z h0 b cl .byte) (hs : cl.slots = #[.int c0, .int c1, .int c2, .int c3])
    (X0 : Stand p l e R s m args below meth c T0 [] 0 0) (hx : p.tables.exec = Jvm.exec) (hZ : Z.Warmed39 s.vm) (hby : c.code = prog_96_method_9_code) (hown : s.vm.findClass "com/example/glasnik/glasnik/engine/framing/Framing" = some m.cls) (hret : meth.sig.returnType = some .int) (hlk : meth.locks = false) (e0 : T0.heap = h0) :
    own_Fin p e below (own_End s (fun v h L => v = some (.int (own_r3 c3 t)) ∧ Fr n0 L ∧ h = h0) 0 0) (T0.setTop (mkF m 2 #[.val (.ref b), .val (.int f), .val (.int t), .val (.int (3 : Int32))] [])) := by
  have N0 := Fr.nil n0
  obtain ⟨⟨hi0, hv0⟩, ⟨hi1, hv1⟩, ⟨hi2, hv2⟩, ⟨hi3, hv3⟩⟩ := own_slot hs
  refine own_iloadN X0 hx (hb hby own_nm_2) rfl ?_
  refine own_iloadN X0 hx (hb hby own_nm_3) rfl ?_
  by_cases h1 : (3 : Int32) < t
  · skip
    refine own_icmpNo X0 hx (hb hby own_nm_4) (Jvm.Free.XT.ii_ge_f h1) ?_
    refine own_getstatic X0 hx hZ (host := "") hown (Or.inl (own_w17 hw)) Via.refl e0 S (hb hby own_nm_7) fun T1 X1 e1 => ?_
    refine own_aloadN X1 hx (hb hby own_nm_10) rfl rfl ?_
    refine own_iloadN X1 hx (hb hby own_nm_11) rfl ?_
    refine own_baload X1 hx hZ e1 A hi3 hv3 (hb hby own_nm_12) ?_
    refine own_sipush X1 hx (255 : Int32) (hb hby own_nm_13) rfl ?_
    refine own_iand X1 hx (hb hby own_nm_16) ?_
    refine own_baloadZ X1 hx hZ e1 B (hM _ (own_u c3).1 (own_u c3).2).1 (hM _ (own_u c3).1 (own_u c3).2).2 (hb hby own_nm_17) ?_
    by_cases h2 : (own_mk (c3 &&& (255 : Int32))) = (0 : Int32)
    · skip
      refine own_ifNo X1 hx (hb hby own_nm_18) (Jvm.Free.XT.i0_ne_f h2) ?_
      refine own_iinc X1 hx (l' := #[.val (.ref b), .val (.int f), .val (.int t), .val (.int (4 : Int32))]) (1 : Int32) (hb hby own_nm_21) rfl rfl rfl ?_
      refine own_goto X1 hx 2 (hb hby own_nm_24) (by decide) (by decide) ?_
      refine own_mono (fun v h L q => ?_) (own_nm4 (n0 := n0) hw b mk cl ml c0 c1 c2 c3 f t ht S B hM A hs X1 hx hZ hby hown hret hlk e1)
      rw [own_r3, if_pos h1, if_pos h2]
      exact q
    · skip
      refine own_ifYes X1 hx 27 (hb hby own_nm_18) (by decide) (by decide) (Jvm.Free.XT.i0_ne_t h2) ?_
      refine own_iloadN X1 hx (hb hby own_nm_27) rfl ?_
      refine own_retI X1 hx hret (hb hby own_nm_28) hlk (by decide) (by decide) ?_
      exact ⟨by rw [own_r3, if_pos h1, if_neg h2], N0, e1⟩
  · skip
    refine own_icmpYes X0 hx 27 (hb hby own_nm_4) (by decide) (by decide) (Jvm.Free.XT.ii_ge_t h1) ?_
    refine own_iloadN X0 hx (hb hby own_nm_27) rfl ?_
    refine own_retI X0 hx hret (hb hby own_nm_28) hlk (by decide) (by decide) ?_
    exact ⟨by rw [own_r3, if_neg h1], N0, e0⟩
set_option maxRecDepth 65536 in
set_option maxHeartbeats 40000000 in
theorem own_nm2 {p : Program} {l : Launch} {e : Env} {R : Room} {s : State} {m : MethodId} {args : Array Value} {below : List Frame} {meth : Method} {c : Code} {T0 : State} {Z : State} {a0 : Array Value} {h0 : Heap} {n0 : Nat} (hw : ∀ d ∈ tables_1, d.before a0 Z = true) (b mk : Addr) (cl ml : Cell) (c0 c1 c2 c3 : Int32) (f t : Int32) (ht : ¬ (4 : Int32) < t) (S : Sta Z h0 "com/example/glasnik/glasnik/engine/framing/Framing" "MARKS" "[Z" (.ref mk)) (B : Arr Z h0 mk ml .boolean) (hM : own_Marks ml) (A : Arr Z h0 b cl .byte) (hs : cl.slots = #[.int c0, .int c1, .int c2, .int c3])
    (X0 : Stand p l e R s m args below meth c T0 [] 0 0) (hx : p.tables.exec = Jvm.exec) (hZ : Z.Warmed39 s.vm) (hby : c.code = prog_96_method_9_code) (hown : s.vm.findClass "com/example/glasnik/glasnik/engine/framing/Framing" = some m.cls) (hret : meth.sig.returnType = some .int) (hlk : meth.locks = false) (e0 : T0.heap = h0) :
    own_Fin p e below (own_End s (fun v h L => v = some (.int (own_r2 c2 c3 t)) ∧ Fr n0 L ∧ h = h0) 0 0) (T0.setTop (mkF m 2 #[.val (.ref b), .val (.int f), .val (.int t), .val (.int (2 : Int32))] [])) := by
  have N0 := Fr.nil n0
  obtain ⟨⟨hi0, hv0⟩, ⟨hi1, hv1⟩, ⟨hi2, hv2⟩, ⟨hi3, hv3⟩⟩ := own_slot hs
  refine own_iloadN X0 hx (hb hby own_nm_2) rfl ?_
  refine own_iloadN X0 hx (hb hby own_nm_3) rfl ?_
  by_cases h1 : (2 : Int32) < t
  · skip
    refine own_icmpNo X0 hx (hb hby own_nm_4) (Jvm.Free.XT.ii_ge_f h1) ?_
    refine own_getstatic X0 hx hZ (host := "") hown (Or.inl (own_w17 hw)) Via.refl e0 S (hb hby own_nm_7) fun T2 X2 e2 => ?_
    refine own_aloadN X2 hx (hb hby own_nm_10) rfl rfl ?_
    refine own_iloadN X2 hx (hb hby own_nm_11) rfl ?_
    refine own_baload X2 hx hZ e2 A hi2 hv2 (hb hby own_nm_12) ?_
    refine own_sipush X2 hx (255 : Int32) (hb hby own_nm_13) rfl ?_
    refine own_iand X2 hx (hb hby own_nm_16) ?_
    refine own_baloadZ X2 hx hZ e2 B (hM _ (own_u c2).1 (own_u c2).2).1 (hM _ (own_u c2).1 (own_u c2).2).2 (hb hby own_nm_17) ?_
    by_cases h2 : (own_mk (c2 &&& (255 : Int32))) = (0 : Int32)
    · skip
      refine own_ifNo X2 hx (hb hby own_nm_18) (Jvm.Free.XT.i0_ne_f h2) ?_
      refine own_iinc X2 hx (l' := #[.val (.ref b), .val (.int f), .val (.int t), .val (.int (3 : Int32))]) (1 : Int32) (hb hby own_nm_21) rfl rfl rfl ?_
      refine own_goto X2 hx 2 (hb hby own_nm_24) (by decide) (by decide) ?_
      refine own_mono (fun v h L q => ?_) (own_nm3 (n0 := n0) hw b mk cl ml c0 c1 c2 c3 f t ht S B hM A hs X2 hx hZ hby hown hret hlk e2)
      rw [own_r2, if_pos h1, if_pos h2]
      exact q
    · skip
      refine own_ifYes X2 hx 27 (hb hby own_nm_18) (by decide) (by decide) (Jvm.Free.XT.i0_ne_t h2) ?_
      refine own_iloadN X2 hx (hb hby own_nm_27) rfl ?_
      refine own_retI X2 hx hret (hb hby own_nm_28) hlk (by decide) (by decide) ?_
      exact ⟨by rw [own_r2, if_pos h1, if_neg h2], N0, e2⟩
  · skip
    refine own_icmpYes X0 hx 27 (hb hby own_nm_4) (by decide) (by decide) (Jvm.Free.XT.ii_ge_t h1) ?_
    refine own_iloadN X0 hx (hb hby own_nm_27) rfl ?_
    refine own_retI X0 hx hret (hb hby own_nm_28) hlk (by decide) (by decide) ?_
    exact ⟨by rw [own_r2, if_neg h1], N0, e0⟩
set_option maxRecDepth 65536 in
set_option maxHeartbeats 40000000 in
theorem own_nm1 {p : Program} {l : Launch} {e : Env} {R : Room} {s : State} {m : MethodId} {args : Array Value} {below : List Frame} {meth : Method} {c : Code} {T0 : State} {Z : State} {a0 : Array Value} {h0 : Heap} {n0 : Nat} (hw : ∀ d ∈ tables_1, d.before a0 Z = true) (b mk : Addr) (cl ml : Cell) (c0 c1 c2 c3 : Int32) (f t : Int32) (ht : ¬ (4 : Int32) < t) (S : Sta Z h0 "com/example/glasnik/glasnik/engine/framing/Framing" "MARKS" "[Z" (.ref mk)) (B : Arr Z h0 mk ml .boolean) (hM : own_Marks ml) (A : Arr Z h0 b cl .byte) (hs : cl.slots = #[.int c0, .int c1, .int c2, .int c3])
    (X0 : Stand p l e R s m args below meth c T0 [] 0 0) (hx : p.tables.exec = Jvm.exec) (hZ : Z.Warmed39 s.vm) (hby : c.code = prog_96_method_9_code) (hown : s.vm.findClass "com/example/glasnik/glasnik/engine/framing/Framing" = some m.cls) (hret : meth.sig.returnType = some .int) (hlk : meth.locks = false) (e0 : T0.heap = h0) :
    own_Fin p e below (own_End s (fun v h L => v = some (.int (own_r1 c1 c2 c3 t)) ∧ Fr n0 L ∧ h = h0) 0 0) (T0.setTop (mkF m 2 #[.val (.ref b), .val (.int f), .val (.int t), .val (.int (1 : Int32))] [])) := by
  have N0 := Fr.nil n0
  obtain ⟨⟨hi0, hv0⟩, ⟨hi1, hv1⟩, ⟨hi2, hv2⟩, ⟨hi3, hv3⟩⟩ := own_slot hs
  refine own_iloadN X0 hx (hb hby own_nm_2) rfl ?_
  refine own_iloadN X0 hx (hb hby own_nm_3) rfl ?_
  by_cases h1 : (1 : Int32) < t
  · skip
    refine own_icmpNo X0 hx (hb hby own_nm_4) (Jvm.Free.XT.ii_ge_f h1) ?_
    refine own_getstatic X0 hx hZ (host := "") hown (Or.inl (own_w17 hw)) Via.refl e0 S (hb hby own_nm_7) fun T3 X3 e3 => ?_
    refine own_aloadN X3 hx (hb hby own_nm_10) rfl rfl ?_
    refine own_iloadN X3 hx (hb hby own_nm_11) rfl ?_
    refine own_baload X3 hx hZ e3 A hi1 hv1 (hb hby own_nm_12) ?_
    refine own_sipush X3 hx (255 : Int32) (hb hby own_nm_13) rfl ?_
    refine own_iand X3 hx (hb hby own_nm_16) ?_
    refine own_baloadZ X3 hx hZ e3 B (hM _ (own_u c1).1 (own_u c1).2).1 (hM _ (own_u c1).1 (own_u c1).2).2 (hb hby own_nm_17) ?_
    by_cases h2 : (own_mk (c1 &&& (255 : Int32))) = (0 : Int32)
    · skip
      refine own_ifNo X3 hx (hb hby own_nm_18) (Jvm.Free.XT.i0_ne_f h2) ?_
      refine own_iinc X3 hx (l' := #[.val (.ref b), .val (.int f), .val (.int t), .val (.int (2 : Int32))]) (1 : Int32) (hb hby own_nm_21) rfl rfl rfl ?_
      refine own_goto X3 hx 2 (hb hby own_nm_24) (by decide) (by decide) ?_
      refine own_mono (fun v h L q => ?_) (own_nm2 (n0 := n0) hw b mk cl ml c0 c1 c2 c3 f t ht S B hM A hs X3 hx hZ hby hown hret hlk e3)
      rw [own_r1, if_pos h1, if_pos h2]
      exact q
    · skip
      refine own_ifYes X3 hx 27 (hb hby own_nm_18) (by decide) (by decide) (Jvm.Free.XT.i0_ne_t h2) ?_
      refine own_iloadN X3 hx (hb hby own_nm_27) rfl ?_
      refine own_retI X3 hx hret (hb hby own_nm_28) hlk (by decide) (by decide) ?_
      exact ⟨by rw [own_r1, if_pos h1, if_neg h2], N0, e3⟩
  · skip
    refine own_icmpYes X0 hx 27 (hb hby own_nm_4) (by decide) (by decide) (Jvm.Free.XT.ii_ge_t h1) ?_
    refine own_iloadN X0 hx (hb hby own_nm_27) rfl ?_
    refine own_retI X0 hx hret (hb hby own_nm_28) hlk (by decide) (by decide) ?_
    exact ⟨by rw [own_r1, if_neg h1], N0, e0⟩
set_option maxRecDepth 65536 in
set_option maxHeartbeats 40000000 in
theorem own_nm0 {p : Program} {l : Launch} {e : Env} {R : Room} {s : State} {m : MethodId} {args : Array Value} {below : List Frame} {meth : Method} {c : Code} {T0 : State} {Z : State} {a0 : Array Value} {h0 : Heap} {n0 : Nat} (hw : ∀ d ∈ tables_1, d.before a0 Z = true) (b mk : Addr) (cl ml : Cell) (c0 c1 c2 c3 : Int32) (f t : Int32) (ht : ¬ (4 : Int32) < t) (S : Sta Z h0 "com/example/glasnik/glasnik/engine/framing/Framing" "MARKS" "[Z" (.ref mk)) (B : Arr Z h0 mk ml .boolean) (hM : own_Marks ml) (A : Arr Z h0 b cl .byte) (hs : cl.slots = #[.int c0, .int c1, .int c2, .int c3])
    (X0 : Stand p l e R s m args below meth c T0 [] 0 0) (hx : p.tables.exec = Jvm.exec) (hZ : Z.Warmed39 s.vm) (hby : c.code = prog_96_method_9_code) (hown : s.vm.findClass "com/example/glasnik/glasnik/engine/framing/Framing" = some m.cls) (hret : meth.sig.returnType = some .int) (hlk : meth.locks = false) (e0 : T0.heap = h0) :
    own_Fin p e below (own_End s (fun v h L => v = some (.int (own_r0 c0 c1 c2 c3 t)) ∧ Fr n0 L ∧ h = h0) 0 0) (T0.setTop (mkF m 2 #[.val (.ref b), .val (.int f), .val (.int t), .val (.int (0 : Int32))] [])) := by
  have N0 := Fr.nil n0
  obtain ⟨⟨hi0, hv0⟩, ⟨hi1, hv1⟩, ⟨hi2, hv2⟩, ⟨hi3, hv3⟩⟩ := own_slot hs
  refine own_iloadN X0 hx (hb hby own_nm_2) rfl ?_
  refine own_iloadN X0 hx (hb hby own_nm_3) rfl ?_
  by_cases h1 : (0 : Int32) < t
  · skip
    refine own_icmpNo X0 hx (hb hby own_nm_4) (Jvm.Free.XT.ii_ge_f h1) ?_
    refine own_getstatic X0 hx hZ (host := "") hown (Or.inl (own_w17 hw)) Via.refl e0 S (hb hby own_nm_7) fun T4 X4 e4 => ?_
    refine own_aloadN X4 hx (hb hby own_nm_10) rfl rfl ?_
    refine own_iloadN X4 hx (hb hby own_nm_11) rfl ?_
    refine own_baload X4 hx hZ e4 A hi0 hv0 (hb hby own_nm_12) ?_
    refine own_sipush X4 hx (255 : Int32) (hb hby own_nm_13) rfl ?_
    refine own_iand X4 hx (hb hby own_nm_16) ?_
    refine own_baloadZ X4 hx hZ e4 B (hM _ (own_u c0).1 (own_u c0).2).1 (hM _ (own_u c0).1 (own_u c0).2).2 (hb hby own_nm_17) ?_
    by_cases h2 : (own_mk (c0 &&& (255 : Int32))) = (0 : Int32)
    · skip
      refine own_ifNo X4 hx (hb hby own_nm_18) (Jvm.Free.XT.i0_ne_f h2) ?_
      refine own_iinc X4 hx (l' := #[.val (.ref b), .val (.int f), .val (.int t), .val (.int (1 : Int32))]) (1 : Int32) (hb hby own_nm_21) rfl rfl rfl ?_
      refine own_goto X4 hx 2 (hb hby own_nm_24) (by decide) (by decide) ?_
      refine own_mono (fun v h L q => ?_) (own_nm1 (n0 := n0) hw b mk cl ml c0 c1 c2 c3 f t ht S B hM A hs X4 hx hZ hby hown hret hlk e4)
      rw [own_r0, if_pos h1, if_pos h2]
      exact q
    · skip
      refine own_ifYes X4 hx 27 (hb hby own_nm_18) (by decide) (by decide) (Jvm.Free.XT.i0_ne_t h2) ?_
      refine own_iloadN X4 hx (hb hby own_nm_27) rfl ?_
      refine own_retI X4 hx hret (hb hby own_nm_28) hlk (by decide) (by decide) ?_
      exact ⟨by rw [own_r0, if_pos h1, if_neg h2], N0, e4⟩
  · skip
    refine own_icmpYes X0 hx 27 (hb hby own_nm_4) (by decide) (by decide) (Jvm.Free.XT.ii_ge_t h1) ?_
    refine own_iloadN X0 hx (hb hby own_nm_27) rfl ?_
    refine own_retI X0 hx hret (hb hby own_nm_28) hlk (by decide) (by decide) ?_
    exact ⟨by rw [own_r0, if_neg h1], N0, e0⟩
theorem own_pn_com_example_glasnik_glasnik_engine_framing_Framing : plainName "com/example/glasnik/glasnik/engine/framing/Framing" = true := by first | (simp [plainName, overriddenIn]; done) | decide +kernel
set_option maxRecDepth 65536 in
set_option maxHeartbeats 40000000 in
theorem own_next (l : Launch) (Z : State) (a0 : Array Value) (hw : ∀ d ∈ tables_1, d.before a0 Z = true) (b mk : Addr) (cl ml : Cell) (c0 c1 c2 c3 : Int32) (f t : Int32) (h0 : Heap) (n0 : Nat) (hf : f = 0 ∨ f = 1 ∨ f = 2 ∨ f = 3 ∨ f = 4) (ht : ¬ (4 : Int32) < t) (S : Sta Z h0 "com/example/glasnik/glasnik/engine/framing/Framing" "MARKS" "[Z" (.ref mk)) (B : Arr Z h0 mk ml .boolean) (hM : own_Marks ml) (A : Arr Z h0 b cl .byte) (hs : cl.slots = #[.int c0, .int c1, .int c2, .int c3]) :
    own_Met l Z (⟨"com/example/glasnik/glasnik/engine/framing/Framing", "nextMark", "([BII)I"⟩ : MethodName) prog_96_method_9_code 4 (some .int) ({ frames := 0, cells := 0, slots := 0, locals := 0 } : Room) #[(.ref b), (.int f), (.int t)] h0 (fun v h L => v = some (.int (own_rf c0 c1 c2 c3 f t)) ∧ Fr n0 L ∧ h = h0) := by
  refine own_body (Ls := #[.val (.ref b), .val (.int f), .val (.int t), .unset]) (plainFor_of_name own_pn_com_example_glasnik_glasnik_engine_framing_Framing) (fun m => by first | (simp [entryFrame, mkF, argsToLocals, Value.category]; done) | rfl) ?_
  intro p e s m below meth c s₁ hx hZ hby hml hown hnm hret hlk X0 e0
  have N0 := Fr.nil n0
  refine own_iloadN X0 hx (hb hby own_nm_0) rfl ?_
  refine own_istoreN X0 hx (l' := #[.val (.ref b), .val (.int f), .val (.int t), .val (.int f)]) (hb hby own_nm_1) rfl ?_
  rcases hf with rfl | rfl | rfl | rfl | rfl
  · exact own_nm0 hw b mk cl ml c0 c1 c2 c3 _ t ht S B hM A hs X0 hx hZ hby hown hret hlk e0
  · exact own_nm1 hw b mk cl ml c0 c1 c2 c3 _ t ht S B hM A hs X0 hx hZ hby hown hret hlk e0
  · exact own_nm2 hw b mk cl ml c0 c1 c2 c3 _ t ht S B hM A hs X0 hx hZ hby hown hret hlk e0
  · exact own_nm3 hw b mk cl ml c0 c1 c2 c3 _ t ht S B hM A hs X0 hx hZ hby hown hret hlk e0
  · exact own_nm4 hw b mk cl ml c0 c1 c2 c3 _ t ht S B hM A hs X0 hx hZ hby hown hret hlk e0
set_option maxRecDepth 65536 in
set_option maxHeartbeats 40000000 in
theorem own_law (l : Launch) (Z : State) (a0 : Array Value) (hw : ∀ d ∈ tables_1, d.before a0 Z = true) (b0 b1 b2 b3 px py : Int32) (mk : Addr) (ml : Cell) (h0 : Heap) (n0 : Nat) (Z0 : n0 ≤ h0.size) (S : Sta Z h0 "com/example/glasnik/glasnik/engine/framing/Framing" "MARKS" "[Z" (.ref mk)) (B : Arr Z h0 mk ml .boolean) (hM : own_Marks ml) :
    own_Met l Z x code maxLocals ret room_1 #[(.int b0), (.int b1), (.int b2), (.int b3), (.int px), (.int py)] h0 (fun v h L => v = some (.int 1) ∧ Fr n0 L) := by
  refine own_body (Ls := #[.val (.int b0), .val (.int b1), .val (.int b2), .val (.int b3), .val (.int px), .val (.int py), .unset, .unset, .unset, .unset, .unset, .unset, .unset]) (plainFor_of_name own_pn_com_example_glasnik_glasnik_engine_framing_FramingNextMarkPinLaw) (fun m => by first | (simp [entryFrame, mkF, argsToLocals, Value.category, maxLocals]; done) | rfl) ?_
  intro p e s m below meth c s₁ hx hZ hby hml hown hnm hret hlk X0 e0
  have N0 := Fr.nil n0
  refine own_iconst X0 hx (4 : Int32) (hb hby at_0) rfl ?_
  refine own_newarray X0 hx hZ (aty := .byte) (own_w0 hw) e0 (hb hby at_1) (by decide) 4 (by decide) (by decide) (by decide) (by decide) fun T1 h1 bb cA X1 e1 gb E1 A1 => ?_
  have gn : n0 ≤ bb := Nat.le_trans Z0 (Nat.le_of_eq gb.symm)
  have nb : mk ≠ bb := Nat.ne_of_lt (Nat.lt_of_lt_of_le B.lt (Nat.le_of_eq gb.symm))
  have S1 := S.ext E1
  have B1 := B.ext E1
  refine own_astore X1 hx (l' := #[.val (.int b0), .val (.int b1), .val (.int b2), .val (.int b3), .val (.int px), .val (.int py), .val (.ref bb), .unset, .unset, .unset, .unset, .unset, .unset]) (hb hby at_3) rfl rfl ?_
  refine own_aload X1 hx (hb hby at_5) rfl rfl ?_
  refine own_iconst X1 hx (0 : Int32) (hb hby at_7) rfl ?_
  refine own_iloadN X1 hx (hb hby at_8) rfl ?_
  refine own_i2b X1 hx (hb hby at_9) ?_
  refine own_bastore X1 hx hZ e1 A1 (by simp only [sz_set, sz_new]; decide) (hb hby at_10) fun T2 h2 X2 e2 W2 => ?_
  have A2 := A1.same W2
  have S2 := S1.wr W2
  have B2 := B1.other W2 nb
  have N2 := Fr.snoc X2 N0 gn
  refine own_aload X2 hx (hb hby at_11) rfl rfl ?_
  refine own_iconst X2 hx (1 : Int32) (hb hby at_13) rfl ?_
  refine own_iloadN X2 hx (hb hby at_14) rfl ?_
  refine own_i2b X2 hx (hb hby at_15) ?_
  refine own_bastore X2 hx hZ e2 A2 (by simp only [sz_set, sz_new]; decide) (hb hby at_16) fun T3 h3 X3 e3 W3 => ?_
  have A3 := A2.same W3
  have S3 := S2.wr W3
  have B3 := B2.other W3 nb
  have N3 := Fr.snoc X3 N2 gn
  refine own_aload X3 hx (hb hby at_17) rfl rfl ?_
  refine own_iconst X3 hx (2 : Int32) (hb hby at_19) rfl ?_
  refine own_iloadN X3 hx (hb hby at_20) rfl ?_
  refine own_i2b X3 hx (hb hby at_21) ?_
  refine own_bastore X3 hx hZ e3 A3 (by simp only [sz_set, sz_new]; decide) (hb hby at_22) fun T4 h4 X4 e4 W4 => ?_
  have A4 := A3.same W4
  have S4 := S3.wr W4
  have B4 := B3.other W4 nb
  have N4 := Fr.snoc X4 N3 gn
  refine own_aload X4 hx (hb hby at_23) rfl rfl ?_
  refine own_iconst X4 hx (3 : Int32) (hb hby at_25) rfl ?_
  refine own_iloadN X4 hx (hb hby at_26) rfl ?_
  refine own_i2b X4 hx (hb hby at_27) ?_
  refine own_bastore X4 hx hZ e4 A4 (by simp only [sz_set, sz_new]; decide) (hb hby at_28) fun T5 h5 X5 e5 W5 => ?_
  have A5 := A4.same W5
  have S5 := S4.wr W5
  have B5 := B4.other W5 nb
  have N5 := Fr.snoc X5 N4 gn
  obtain ⟨c0, hc0⟩ : ∃ c0, c0 = nar .byte (b0).toInt8.toInt32 := ⟨_, rfl⟩
  obtain ⟨c1, hc1⟩ : ∃ c1, c1 = nar .byte (b1).toInt8.toInt32 := ⟨_, rfl⟩
  obtain ⟨c2, hc2⟩ : ∃ c2, c2 = nar .byte (b2).toInt8.toInt32 := ⟨_, rfl⟩
  obtain ⟨c3, hc3⟩ : ∃ c3, c3 = nar .byte (b3).toInt8.toInt32 := ⟨_, rfl⟩
  rw [← hc0, ← hc1, ← hc2, ← hc3] at A5
  obtain ⟨cl, hcl⟩ : ∃ cl, cl = ((((newA cA (newarray.typeOf .byte) 4).setSlot (0 : Int32).toNatClampNeg (.int c0)).setSlot (1 : Int32).toNatClampNeg (.int c1)).setSlot (2 : Int32).toNatClampNeg (.int c2)).setSlot (3 : Int32).toNatClampNeg (.int c3) := ⟨_, rfl⟩
  rw [← hcl] at A5
  have hs : cl.slots = #[.int c0, .int c1, .int c2, .int c3] := by rw [hcl]; exact own_four cA _ _ _ _
  have A6 : Arr Z h5 bb cl .byte := A5
  obtain ⟨⟨hi0, hv0⟩, ⟨hi1, hv1⟩, ⟨hi2, hv2⟩, ⟨hi3, hv3⟩⟩ := own_slot hs
  clear A1 A2 A3 A4 A5 hcl hc0 hc1 hc2 hc3
  have hp := own_k px
  have hq := own_k py
  refine own_iload X5 hx (hb hby at_29) rfl ?_
  refine own_ldcI X5 hx hZ hown (own_w1 hw) (hb hby at_31) ?_
  refine own_iand X5 hx (hb hby at_33) ?_
  refine own_iconst X5 hx (5 : Int32) (hb hby at_34) rfl ?_
  refine own_irem X5 hx (hb hby at_35) (by decide) ?_
  refine own_istore X5 hx (l' := #[.val (.int b0), .val (.int b1), .val (.int b2), .val (.int b3), .val (.int px), .val (.int py), .val (.ref bb), .val (.int ((px &&& (2147483647 : Int32)) % (5 : Int32))), .unset, .unset, .unset, .unset, .unset]) (hb hby at_36) rfl ?_
  refine own_iload X5 hx (hb hby at_38) rfl ?_
  refine own_ldcI X5 hx hZ hown (own_w1 hw) (hb hby at_40) ?_
  refine own_iand X5 hx (hb hby at_42) ?_
  refine own_iconst X5 hx (5 : Int32) (hb hby at_43) rfl ?_
  refine own_irem X5 hx (hb hby at_44) (by decide) ?_
  refine own_istore X5 hx (l' := #[.val (.int b0), .val (.int b1), .val (.int b2), .val (.int b3), .val (.int px), .val (.int py), .val (.ref bb), .val (.int ((px &&& (2147483647 : Int32)) % (5 : Int32))), .val (.int ((py &&& (2147483647 : Int32)) % (5 : Int32))), .unset, .unset, .unset, .unset]) (hb hby at_45) rfl ?_
  generalize (px &&& (2147483647 : Int32)) % (5 : Int32) = pp at hp ⊢
  generalize (py &&& (2147483647 : Int32)) % (5 : Int32) = qq at hq ⊢
  show own_Fin p e below _ (T5.setTop (mkF m 47 #[.val (.int b0), .val (.int b1), .val (.int b2), .val (.int b3), .val (.int px), .val (.int py), .val (.ref bb), .val (.int pp), .val (.int qq), .unset, .unset, .unset, .unset] []))
  refine own_iload X5 hx (hb hby at_47) rfl ?_
  refine own_iload X5 hx (hb hby at_49) rfl ?_
  refine own_stat X5 hx hZ hown (own_w2 hw) (own_w3 hw) (own_w5 hw) (own_w4 hw) (by decide) e5 (hb hby at_51) (by rw [hml]; rfl) own_pd__28II_29I rfl (W := 0) (Nat.le_of_ble_eq_true rfl) (own_min l Z a0 hw pp qq h5 n0) (by decide) (by decide) (by decide) (by decide) (argsL := [(.int pp), (.int qq)]) (rest := []) rfl rfl fun v11 T11 L11 X11 q11 => ?_
  obtain ⟨rfl, M11, e11⟩ := q11
  have N11 := Fr.app N5 M11
  show own_Fin p e below _ (T11.setTop (mkF m 54 #[.val (.int b0), .val (.int b1), .val (.int b2), .val (.int b3), .val (.int px), .val (.int py), .val (.ref bb), .val (.int pp), .val (.int qq), .unset, .unset, .unset, .unset] [(.int (if qq < pp then qq else pp))]))
  refine own_istore X11 hx (l' := #[.val (.int b0), .val (.int b1), .val (.int b2), .val (.int b3), .val (.int px), .val (.int py), .val (.ref bb), .val (.int pp), .val (.int qq), .val (.int (if qq < pp then qq else pp)), .unset, .unset, .unset]) (hb hby at_54) rfl ?_
  refine own_iload X11 hx (hb hby at_56) rfl ?_
  refine own_iload X11 hx (hb hby at_58) rfl ?_
  refine own_stat X11 hx hZ hown (own_w6 hw) (own_w7 hw) (own_w8 hw) (own_w4 hw) (by decide) e11 (hb hby at_60) (by rw [hml]; rfl) own_pd__28II_29I rfl (W := 0) (Nat.le_of_ble_eq_true rfl) (own_max l Z a0 hw pp qq h5 n0) (by decide) (by decide) (by decide) (by decide) (argsL := [(.int pp), (.int qq)]) (rest := []) rfl rfl fun v12 T12 L12 X12 q12 => ?_
  obtain ⟨rfl, M12, e12⟩ := q12
  have N12 := Fr.app N11 M12
  show own_Fin p e below _ (T12.setTop (mkF m 63 #[.val (.int b0), .val (.int b1), .val (.int b2), .val (.int b3), .val (.int px), .val (.int py), .val (.ref bb), .val (.int pp), .val (.int qq), .val (.int (if qq < pp then qq else pp)), .unset, .unset, .unset] [(.int (if pp < qq then qq else pp))]))
  obtain ⟨f, hf⟩ : ∃ f, f = (if qq < pp then qq else pp) := ⟨_, rfl⟩
  obtain ⟨t, ht⟩ : ∃ t, t = (if pp < qq then qq else pp) := ⟨_, rfl⟩
  rw [← hf, ← ht]
  obtain ⟨hF, hT, hFT⟩ := own_pq hp hq f t hf ht
  have h4t : ¬ (4 : Int32) < t := by rcases hT with rfl | rfl | rfl | rfl | rfl <;> decide
  have hE := own_same (c0 := c0) (c1 := c1) (c2 := c2) (c3 := c3) hF hT hFT
  clear hf ht
  show own_Fin p e below _ (T12.setTop (mkF m 63 #[.val (.int b0), .val (.int b1), .val (.int b2), .val (.int b3), .val (.int px), .val (.int py), .val (.ref bb), .val (.int pp), .val (.int qq), .val (.int f), .unset, .unset, .unset] [(.int t)]))
  refine own_istore X12 hx (l' := #[.val (.int b0), .val (.int b1), .val (.int b2), .val (.int b3), .val (.int px), .val (.int py), .val (.ref bb), .val (.int pp), .val (.int qq), .val (.int f), .val (.int t), .unset, .unset]) (hb hby at_63) rfl ?_
  refine own_iload X12 hx (hb hby at_65) rfl ?_
  refine own_istore X12 hx (l' := #[.val (.int b0), .val (.int b1), .val (.int b2), .val (.int b3), .val (.int px), .val (.int py), .val (.ref bb), .val (.int pp), .val (.int qq), .val (.int f), .val (.int t), .val (.int t), .unset]) (hb hby at_67) rfl ?_
  have J168 : ∀ (E : Int32), E = (own_e 0 c0 f t (own_e 1 c1 f t (own_e 2 c2 f t (own_e 3 c3 f t t)))) → ∀ (T : State) (L : List Loc), Stand p l e room_1 s m #[(.int b0), (.int b1), (.int b2), (.int b3), (.int px), (.int py)] below meth c T L 1 4 → T.heap = h5 → Fr n0 L → own_Fin p e below (own_End s (fun v h L => v = some (.int 1) ∧ Fr n0 L) room_1.cells room_1.slots) (T.setTop (mkF m 168 #[.val (.int b0), .val (.int b1), .val (.int b2), .val (.int b3), .val (.int px), .val (.int py), .val (.ref bb), .val (.int pp), .val (.int qq), .val (.int f), .val (.int t), .val (.int E), .unset] [])) := by
    intro E hEE T L X eT NL
    refine own_aload X hx (hb hby at_168) rfl rfl ?_
    refine own_iload X hx (hb hby at_170) rfl ?_
    refine own_iload X hx (hb hby at_172) rfl ?_
    refine own_stat X hx hZ hown (own_w13 hw) (own_w14 hw) (own_w16 hw) (own_w15 hw) (by decide) eT (hb hby at_174) (by rw [hml]; rfl) own_pd__28_5bBII_29I rfl (W := 0) (Nat.le_of_ble_eq_true rfl) (own_next l Z a0 hw bb mk cl ml c0 c1 c2 c3 f t h5 n0 hF h4t S5 B5 hM A6 hs) (by decide) (by decide) (by decide) (by decide) (argsL := [(.ref bb), (.int f), (.int t)]) (rest := []) rfl rfl fun v13 T13 L13 X13 q13 => ?_
    obtain ⟨rfl, M13, e13⟩ := q13
    show own_Fin p e below _ (T13.setTop (mkF m 177 #[.val (.int b0), .val (.int b1), .val (.int b2), .val (.int b3), .val (.int px), .val (.int py), .val (.ref bb), .val (.int pp), .val (.int qq), .val (.int f), .val (.int t), .val (.int E), .unset] [(.int (own_rf c0 c1 c2 c3 f t))]))
    refine own_istore X13 hx (l' := #[.val (.int b0), .val (.int b1), .val (.int b2), .val (.int b3), .val (.int px), .val (.int py), .val (.ref bb), .val (.int pp), .val (.int qq), .val (.int f), .val (.int t), .val (.int E), .val (.int (own_rf c0 c1 c2 c3 f t))]) (hb hby at_177) rfl ?_
    refine own_iload X13 hx (hb hby at_179) rfl ?_
    refine own_iload X13 hx (hb hby at_181) rfl ?_
    refine own_icmpNo X13 hx (hb hby at_183) (Jvm.Free.XT.ii_ne_f (hE.trans hEE.symm)) ?_
    refine own_iconst X13 hx (1 : Int32) (hb hby at_186) rfl ?_
    refine own_goto X13 hx 191 (hb hby at_187) (by decide) (by decide) ?_
    refine own_retN X13 hx (t := .boolean) hret (by simp) (hb hby at_191) hlk (by decide) (by decide) ?_
    exact ⟨rfl, Fr.app NL M13⟩
  have J144 : ∀ (E : Int32), E = (own_e 1 c1 f t (own_e 2 c2 f t (own_e 3 c3 f t t))) → ∀ (T : State) (L : List Loc), Stand p l e room_1 s m #[(.int b0), (.int b1), (.int b2), (.int b3), (.int px), (.int py)] below meth c T L 1 4 → T.heap = h5 → Fr n0 L → own_Fin p e below (own_End s (fun v h L => v = some (.int 1) ∧ Fr n0 L) room_1.cells room_1.slots) (T.setTop (mkF m 144 #[.val (.int b0), .val (.int b1), .val (.int b2), .val (.int b3), .val (.int px), .val (.int py), .val (.ref bb), .val (.int pp), .val (.int qq), .val (.int f), .val (.int t), .val (.int E), .unset] [])) := by
    intro E hEE T L X eT NL
    refine own_iload X hx (hb hby at_144) rfl ?_
    by_cases g1 : (0 : Int32) < f
    · skip
      refine own_ifYes X hx 168 (hb hby at_146) (by decide) (by decide) (Jvm.Free.XT.i0_gt_t g1) ?_
      exact J168 E (by rw [own_e, if_pos g1]; exact hEE) T _ X eT NL
    · skip
      refine own_ifNo X hx (hb hby at_146) (Jvm.Free.XT.i0_gt_f g1) ?_
      refine own_iconst X hx (0 : Int32) (hb hby at_149) rfl ?_
      refine own_iload X hx (hb hby at_150) rfl ?_
      by_cases g2 : (0 : Int32) < t
      · skip
        refine own_icmpNo X hx (hb hby at_152) (Jvm.Free.XT.ii_ge_f g2) ?_
        refine own_aload X hx (hb hby at_155) rfl rfl ?_
        refine own_iconst X hx (0 : Int32) (hb hby at_157) rfl ?_
        refine own_baload X hx hZ eT A6 hi0 hv0 (hb hby at_158) ?_
        refine own_stat X hx hZ hown (own_w9 hw) (own_w10 hw) (own_w12 hw) (own_w11 hw) (by decide) eT (hb hby at_159) (by rw [hml]; rfl) own_pd__28B_29Z rfl (W := 0) (Nat.le_of_ble_eq_true rfl) (own_mark l Z a0 hw c0 h5 n0) (by decide) (by decide) (by decide) (by decide) (argsL := [(.int c0)]) (rest := []) rfl rfl fun v14 T14 L14 X14 q14 => ?_
        obtain ⟨rfl, M14, e14⟩ := q14
        have N14 := Fr.app NL M14
        show own_Fin p e below _ (T14.setTop (mkF m 162 #[.val (.int b0), .val (.int b1), .val (.int b2), .val (.int b3), .val (.int px), .val (.int py), .val (.ref bb), .val (.int pp), .val (.int qq), .val (.int f), .val (.int t), .val (.int E), .unset] [(.int (own_mk (c0 &&& (255 : Int32))))]))
        by_cases g3 : (own_mk (c0 &&& (255 : Int32))) = (0 : Int32)
        · skip
          refine own_ifYes X14 hx 168 (hb hby at_162) (by decide) (by decide) (Jvm.Free.XT.i0_eq_t g3) ?_
          exact J168 E (by rw [own_e, if_neg g1, if_pos g2, if_pos g3]; exact hEE) T14 _ X14 e14 N14
        · skip
          refine own_ifNo X14 hx (hb hby at_162) (Jvm.Free.XT.i0_eq_f g3) ?_
          refine own_iconst X14 hx (0 : Int32) (hb hby at_165) rfl ?_
          refine own_istore X14 hx (l' := #[.val (.int b0), .val (.int b1), .val (.int b2), .val (.int b3), .val (.int px), .val (.int py), .val (.ref bb), .val (.int pp), .val (.int qq), .val (.int f), .val (.int t), .val (.int (0 : Int32)), .unset]) (hb hby at_166) rfl ?_
          exact J168 (0 : Int32) (by rw [own_e, if_neg g1, if_pos g2, if_neg g3]) T14 _ X14 e14 N14
      · skip
        refine own_icmpYes X hx 168 (hb hby at_152) (by decide) (by decide) (Jvm.Free.XT.ii_ge_t g2) ?_
        exact J168 E (by rw [own_e, if_neg g1, if_neg g2]; exact hEE) T _ X eT NL
  have J119 : ∀ (E : Int32), E = (own_e 2 c2 f t (own_e 3 c3 f t t)) → ∀ (T : State) (L : List Loc), Stand p l e room_1 s m #[(.int b0), (.int b1), (.int b2), (.int b3), (.int px), (.int py)] below meth c T L 1 4 → T.heap = h5 → Fr n0 L → own_Fin p e below (own_End s (fun v h L => v = some (.int 1) ∧ Fr n0 L) room_1.cells room_1.slots) (T.setTop (mkF m 119 #[.val (.int b0), .val (.int b1), .val (.int b2), .val (.int b3), .val (.int px), .val (.int py), .val (.ref bb), .val (.int pp), .val (.int qq), .val (.int f), .val (.int t), .val (.int E), .unset] [])) := by
    intro E hEE T L X eT NL
    refine own_iload X hx (hb hby at_119) rfl ?_
    refine own_iconst X hx (1 : Int32) (hb hby at_121) rfl ?_
    by_cases g1 : (1 : Int32) < f
    · skip
      refine own_icmpYes X hx 144 (hb hby at_122) (by decide) (by decide) (Jvm.Free.XT.ii_gt_t g1) ?_
      exact J144 E (by rw [own_e, if_pos g1]; exact hEE) T _ X eT NL
    · skip
      refine own_icmpNo X hx (hb hby at_122) (Jvm.Free.XT.ii_gt_f g1) ?_
      refine own_iconst X hx (1 : Int32) (hb hby at_125) rfl ?_
      refine own_iload X hx (hb hby at_126) rfl ?_
      by_cases g2 : (1 : Int32) < t
      · skip
        refine own_icmpNo X hx (hb hby at_128) (Jvm.Free.XT.ii_ge_f g2) ?_
        refine own_aload X hx (hb hby at_131) rfl rfl ?_
        refine own_iconst X hx (1 : Int32) (hb hby at_133) rfl ?_
        refine own_baload X hx hZ eT A6 hi1 hv1 (hb hby at_134) ?_
        refine own_stat X hx hZ hown (own_w9 hw) (own_w10 hw) (own_w12 hw) (own_w11 hw) (by decide) eT (hb hby at_135) (by rw [hml]; rfl) own_pd__28B_29Z rfl (W := 0) (Nat.le_of_ble_eq_true rfl) (own_mark l Z a0 hw c1 h5 n0) (by decide) (by decide) (by decide) (by decide) (argsL := [(.int c1)]) (rest := []) rfl rfl fun v15 T15 L15 X15 q15 => ?_
        obtain ⟨rfl, M15, e15⟩ := q15
        have N15 := Fr.app NL M15
        show own_Fin p e below _ (T15.setTop (mkF m 138 #[.val (.int b0), .val (.int b1), .val (.int b2), .val (.int b3), .val (.int px), .val (.int py), .val (.ref bb), .val (.int pp), .val (.int qq), .val (.int f), .val (.int t), .val (.int E), .unset] [(.int (own_mk (c1 &&& (255 : Int32))))]))
        by_cases g3 : (own_mk (c1 &&& (255 : Int32))) = (0 : Int32)
        · skip
          refine own_ifYes X15 hx 144 (hb hby at_138) (by decide) (by decide) (Jvm.Free.XT.i0_eq_t g3) ?_
          exact J144 E (by rw [own_e, if_neg g1, if_pos g2, if_pos g3]; exact hEE) T15 _ X15 e15 N15
        · skip
          refine own_ifNo X15 hx (hb hby at_138) (Jvm.Free.XT.i0_eq_f g3) ?_
          refine own_iconst X15 hx (1 : Int32) (hb hby at_141) rfl ?_
          refine own_istore X15 hx (l' := #[.val (.int b0), .val (.int b1), .val (.int b2), .val (.int b3), .val (.int px), .val (.int py), .val (.ref bb), .val (.int pp), .val (.int qq), .val (.int f), .val (.int t), .val (.int (1 : Int32)), .unset]) (hb hby at_142) rfl ?_
          exact J144 (1 : Int32) (by rw [own_e, if_neg g1, if_pos g2, if_neg g3]) T15 _ X15 e15 N15
      · skip
        refine own_icmpYes X hx 144 (hb hby at_128) (by decide) (by decide) (Jvm.Free.XT.ii_ge_t g2) ?_
        exact J144 E (by rw [own_e, if_neg g1, if_neg g2]; exact hEE) T _ X eT NL
  have J94 : ∀ (E : Int32), E = (own_e 3 c3 f t t) → ∀ (T : State) (L : List Loc), Stand p l e room_1 s m #[(.int b0), (.int b1), (.int b2), (.int b3), (.int px), (.int py)] below meth c T L 1 4 → T.heap = h5 → Fr n0 L → own_Fin p e below (own_End s (fun v h L => v = some (.int 1) ∧ Fr n0 L) room_1.cells room_1.slots) (T.setTop (mkF m 94 #[.val (.int b0), .val (.int b1), .val (.int b2), .val (.int b3), .val (.int px), .val (.int py), .val (.ref bb), .val (.int pp), .val (.int qq), .val (.int f), .val (.int t), .val (.int E), .unset] [])) := by
    intro E hEE T L X eT NL
    refine own_iload X hx (hb hby at_94) rfl ?_
    refine own_iconst X hx (2 : Int32) (hb hby at_96) rfl ?_
    by_cases g1 : (2 : Int32) < f
    · skip
      refine own_icmpYes X hx 119 (hb hby at_97) (by decide) (by decide) (Jvm.Free.XT.ii_gt_t g1) ?_
      exact J119 E (by rw [own_e, if_pos g1]; exact hEE) T _ X eT NL
    · skip
      refine own_icmpNo X hx (hb hby at_97) (Jvm.Free.XT.ii_gt_f g1) ?_
      refine own_iconst X hx (2 : Int32) (hb hby at_100) rfl ?_
      refine own_iload X hx (hb hby at_101) rfl ?_
      by_cases g2 : (2 : Int32) < t
      · skip
        refine own_icmpNo X hx (hb hby at_103) (Jvm.Free.XT.ii_ge_f g2) ?_
        refine own_aload X hx (hb hby at_106) rfl rfl ?_
        refine own_iconst X hx (2 : Int32) (hb hby at_108) rfl ?_
        refine own_baload X hx hZ eT A6 hi2 hv2 (hb hby at_109) ?_
        refine own_stat X hx hZ hown (own_w9 hw) (own_w10 hw) (own_w12 hw) (own_w11 hw) (by decide) eT (hb hby at_110) (by rw [hml]; rfl) own_pd__28B_29Z rfl (W := 0) (Nat.le_of_ble_eq_true rfl) (own_mark l Z a0 hw c2 h5 n0) (by decide) (by decide) (by decide) (by decide) (argsL := [(.int c2)]) (rest := []) rfl rfl fun v16 T16 L16 X16 q16 => ?_
        obtain ⟨rfl, M16, e16⟩ := q16
        have N16 := Fr.app NL M16
        show own_Fin p e below _ (T16.setTop (mkF m 113 #[.val (.int b0), .val (.int b1), .val (.int b2), .val (.int b3), .val (.int px), .val (.int py), .val (.ref bb), .val (.int pp), .val (.int qq), .val (.int f), .val (.int t), .val (.int E), .unset] [(.int (own_mk (c2 &&& (255 : Int32))))]))
        by_cases g3 : (own_mk (c2 &&& (255 : Int32))) = (0 : Int32)
        · skip
          refine own_ifYes X16 hx 119 (hb hby at_113) (by decide) (by decide) (Jvm.Free.XT.i0_eq_t g3) ?_
          exact J119 E (by rw [own_e, if_neg g1, if_pos g2, if_pos g3]; exact hEE) T16 _ X16 e16 N16
        · skip
          refine own_ifNo X16 hx (hb hby at_113) (Jvm.Free.XT.i0_eq_f g3) ?_
          refine own_iconst X16 hx (2 : Int32) (hb hby at_116) rfl ?_
          refine own_istore X16 hx (l' := #[.val (.int b0), .val (.int b1), .val (.int b2), .val (.int b3), .val (.int px), .val (.int py), .val (.ref bb), .val (.int pp), .val (.int qq), .val (.int f), .val (.int t), .val (.int (2 : Int32)), .unset]) (hb hby at_117) rfl ?_
          exact J119 (2 : Int32) (by rw [own_e, if_neg g1, if_pos g2, if_neg g3]) T16 _ X16 e16 N16
      · skip
        refine own_icmpYes X hx 119 (hb hby at_103) (by decide) (by decide) (Jvm.Free.XT.ii_ge_t g2) ?_
        exact J119 E (by rw [own_e, if_neg g1, if_neg g2]; exact hEE) T _ X eT NL
  refine own_iload X12 hx (hb hby at_69) rfl ?_
  refine own_iconst X12 hx (3 : Int32) (hb hby at_71) rfl ?_
  by_cases g1 : (3 : Int32) < f
  · skip
    refine own_icmpYes X12 hx 94 (hb hby at_72) (by decide) (by decide) (Jvm.Free.XT.ii_gt_t g1) ?_
    exact J94 t (by rw [own_e, if_pos g1]) T12 _ X12 e12 N12
  · skip
    refine own_icmpNo X12 hx (hb hby at_72) (Jvm.Free.XT.ii_gt_f g1) ?_
    refine own_iconst X12 hx (3 : Int32) (hb hby at_75) rfl ?_
    refine own_iload X12 hx (hb hby at_76) rfl ?_
    by_cases g2 : (3 : Int32) < t
    · skip
      refine own_icmpNo X12 hx (hb hby at_78) (Jvm.Free.XT.ii_ge_f g2) ?_
      refine own_aload X12 hx (hb hby at_81) rfl rfl ?_
      refine own_iconst X12 hx (3 : Int32) (hb hby at_83) rfl ?_
      refine own_baload X12 hx hZ e12 A6 hi3 hv3 (hb hby at_84) ?_
      refine own_stat X12 hx hZ hown (own_w9 hw) (own_w10 hw) (own_w12 hw) (own_w11 hw) (by decide) e12 (hb hby at_85) (by rw [hml]; rfl) own_pd__28B_29Z rfl (W := 0) (Nat.le_of_ble_eq_true rfl) (own_mark l Z a0 hw c3 h5 n0) (by decide) (by decide) (by decide) (by decide) (argsL := [(.int c3)]) (rest := []) rfl rfl fun v17 T17 L17 X17 q17 => ?_
      obtain ⟨rfl, M17, e17⟩ := q17
      have N17 := Fr.app N12 M17
      show own_Fin p e below _ (T17.setTop (mkF m 88 #[.val (.int b0), .val (.int b1), .val (.int b2), .val (.int b3), .val (.int px), .val (.int py), .val (.ref bb), .val (.int pp), .val (.int qq), .val (.int f), .val (.int t), .val (.int t), .unset] [(.int (own_mk (c3 &&& (255 : Int32))))]))
      by_cases g3 : (own_mk (c3 &&& (255 : Int32))) = (0 : Int32)
      · skip
        refine own_ifYes X17 hx 94 (hb hby at_88) (by decide) (by decide) (Jvm.Free.XT.i0_eq_t g3) ?_
        exact J94 t (by rw [own_e, if_neg g1, if_pos g2, if_pos g3]) T17 _ X17 e17 N17
      · skip
        refine own_ifNo X17 hx (hb hby at_88) (Jvm.Free.XT.i0_eq_f g3) ?_
        refine own_iconst X17 hx (3 : Int32) (hb hby at_91) rfl ?_
        refine own_istore X17 hx (l' := #[.val (.int b0), .val (.int b1), .val (.int b2), .val (.int b3), .val (.int px), .val (.int py), .val (.ref bb), .val (.int pp), .val (.int qq), .val (.int f), .val (.int t), .val (.int (3 : Int32)), .unset]) (hb hby at_92) rfl ?_
        exact J94 (3 : Int32) (by rw [own_e, if_neg g1, if_pos g2, if_neg g3]) T17 _ X17 e17 N17
    · skip
      refine own_icmpYes X12 hx 94 (hb hby at_78) (by decide) (by decide) (Jvm.Free.XT.ii_ge_t g2) ?_
      exact J94 t (by rw [own_e, if_neg g1, if_neg g2]) T12 _ X12 e12 N12
theorem own_tab (j z : Int32) (j0 : ¬ j < 0) (p2 : ¬ j = 0 ∨ z = 0) (p3 : ¬ j = 1 ∨ z = 0) (p4 : ¬ j = 2 ∨ z = 1) (p5 : ¬ j = 3 ∨ z = 1) (p6 : j < 4 ∨ ¬ j < 11 ∨ z = 0) (p7 : ¬ j = 11 ∨ z = 1) (p8 : j < 12 ∨ ¬ j < 28 ∨ z = 0) (p9 : ¬ j = 28 ∨ z = 1) (p10 : j < 29 ∨ z = 0) : z = own_mk j := by
  unfold own_mk
  simp only [← Int32.toInt_inj, Int32.lt_iff_toInt_lt] at j0 p2 p3 p4 p5 p6 p7 p8 p9 p10 ⊢
  have e0 : (0 : Int32).toInt = 0 := by decide
  have e1 : (1 : Int32).toInt = 1 := by decide
  have e2 : (2 : Int32).toInt = 2 := by decide
  have e3 : (3 : Int32).toInt = 3 := by decide
  have e4 : (4 : Int32).toInt = 4 := by decide
  have e11 : (11 : Int32).toInt = 11 := by decide
  have e12 : (12 : Int32).toInt = 12 := by decide
  have e28 : (28 : Int32).toInt = 28 := by decide
  have e29 : (29 : Int32).toInt = 29 := by decide
  simp only [e0, e1, e2, e3, e4, e11, e12, e28, e29] at j0 p2 p3 p4 p5 p6 p7 p8 p9 p10 ⊢
  split
  · rw [e1]; omega
  · split
    · rw [e1]; omega
    · split
      · rw [e1]; omega
      · split
        · rw [e1]; omega
        · rw [e0]; omega
set_option maxRecDepth 65536 in
set_option maxHeartbeats 40000000 in
theorem own_comes {Post : Tables → Env → Array Value → State → Outcome → State → Prop} (hpost : ∀ tb e args s v u, (limb_1_1.after args s (.returned v) u = true ∧ limb_1_2.after args s (.returned v) u = true) → FrameEnd s (.returned v) u (Jvm.fieldLocs frame_1_writes args s ++ Jvm.arrayLocs frame_1_arrays args s ++ Jvm.staticLocs frame_1_statics s) 16 128 → Post tb e args s (.returned v) u) :
    ArmFor flags0 classFile x code maxLocals ret World_1 tables_1 room_1 Calls_1 rest_1 Pre_1 Post := by
  intro l hfl _ _ p e ha hc hk s m args below hf hA hF happ hP
  obtain ⟨hcalls, hrest, hpre⟩ := hP
  obtain ⟨-, -, -, hnamed, -, -, -, hat⟩ := (Spec.applies_iff hf).mp happ
  obtain ⟨hg, hn⟩ := and_e (Cond.before_iff.mp (show (Jvm.Cond.and given_1 narrow_1).before args s = true from hpre))
  obtain ⟨hcount, hgs⟩ := and_e hg
  obtain ⟨w0, w1, w2, w3, w4, w5, rfl⟩ : ∃ w0 w1 w2 w3 w4 w5 : Value, args = #[w0, w1, w2, w3, w4, w5] := by
    have hs : args.size = 6 := by simpa [Cond.value, given_1] using hcount
    obtain ⟨L⟩ := args
    match L, hs with
    | [w0, w1, w2, w3, w4, w5], _ => exact ⟨w0, w1, w2, w3, w4, w5, rfl⟩
  have hw := fun d (hd : d ∈ tables_1) => atoms_spec (ws := Jvm.Cond.code x code maxLocals ret :: tables_1) hat d (List.mem_cons_of_mem _ hd)
  have hfit : Fit s := fun {y c} hc i hi => by
    obtain ⟨ha, rfl⟩ := Array.getElem?_eq_some_iff.mp hc
    have q := List.all_eq_true.mp ((Array.all_eq_true_iff_forall_mem.mp hF) _ (Array.getElem_mem ha)) i (List.mem_range.mpr hi)
    simpa [Array.getElem?_eq_getElem hi] using q
  obtain ⟨hg0, hr0⟩ := and_e hgs
  obtain ⟨i0, ei0⟩ := is_v hg0
  obtain rfl : w0 = (.int i0) := Option.some.inj ei0
  obtain ⟨hg1, hr1⟩ := and_e hr0
  obtain ⟨i1, ei1⟩ := is_v hg1
  obtain rfl : w1 = (.int i1) := Option.some.inj ei1
  obtain ⟨hg2, hr2⟩ := and_e hr1
  obtain ⟨i2, ei2⟩ := is_v hg2
  obtain rfl : w2 = (.int i2) := Option.some.inj ei2
  obtain ⟨hg3, hr3⟩ := and_e hr2
  obtain ⟨i3, ei3⟩ := is_v hg3
  obtain rfl : w3 = (.int i3) := Option.some.inj ei3
  obtain ⟨hg4, hr4⟩ := and_e hr3
  obtain ⟨i4, ei4⟩ := is_v hg4
  obtain rfl : w4 = (.int i4) := Option.some.inj ei4
  obtain ⟨i5, ei5⟩ := is_v hr4
  obtain rfl : w5 = (.int i5) := Option.some.inj ei5
  obtain ⟨n0, t0⟩ := and_e hn
  obtain ⟨n1, t1⟩ := and_e t0
  obtain ⟨n2, t2⟩ := and_e t1
  obtain ⟨n3, t3⟩ := and_e t2
  obtain ⟨n4, t4⟩ := and_e t3
  obtain ⟨n5, t5⟩ := and_e t4
  obtain ⟨n6, t6⟩ := and_e t5
  obtain ⟨n7, t7⟩ := and_e t6
  obtain ⟨n8, t8⟩ := and_e t7
  obtain ⟨n9, t9⟩ := and_e t8
  have n10 := t9
  obtain ⟨mk, ev⟩ := arr_v n0
  obtain ⟨ml, B⟩ := Arr.start ev n0
  have S := Sta.start ev (Or.inr ⟨(own_w15 hw), (own_w18 hw)⟩)
  obtain ⟨hl1, hl2⟩ := own_len2 ev B (own_eqI n1)
  have hT := Tab.start hfit B (Or.inr (Or.inl rfl)) hl1 hl2 (by decide)
  have et : ∀ idx, (Term.static "com/example/glasnik/glasnik/engine/framing/Framing" "MARKS" "[Z").eval #[.int i0, .int i1, .int i2, .int i3, .int i4, .int i5] s none idx s = some (.ref mk) := fun _ => ev
  have hM : own_Marks ml := by
    intro j j0 j1
    have hin : ¬ (j < 0 ∨ ml.slots.size ≤ j.toNatClampNeg) := inb_of hT.2.1 ⟨j0, j1⟩
    refine ⟨hin, ?_⟩
    have hat := hT.2.2.2 j hin
    rw [hat]
    have el := (elem_f (et _) (idx_at j0) (B.fin (Vm.Alike.refl _)) j0).trans hat
    have p2 : ¬ j = 0 ∨ atv ml j = 0 := one_at (atv_of (elem_in (own_eqI n2) ev rfl B.1).2) j
    have p3 : ¬ j = 1 ∨ atv ml j = 0 := one_at (atv_of (elem_in (own_eqI n3) ev rfl B.1).2) j
    have p4 : ¬ j = 2 ∨ atv ml j = 1 := one_at (atv_of (elem_in (own_eqI n4) ev rfl B.1).2) j
    have p5 : ¬ j = 3 ∨ atv ml j = 1 := one_at (atv_of (elem_in (own_eqI n5) ev rfl B.1).2) j
    have a6 := Cond.all_elim (et []) (B.fin (Vm.Alike.refl _)) n6 j.toNatClampNeg (Nat.lt_of_not_le fun x => hin (Or.inr x))
    have p6 := or3 a6 (Cond.lt_ints (idx_at j0) rfl) (Cond.le_ints rfl (idx_at j0)) (Cond.eq_ints el rfl)
    have p7 : ¬ j = 11 ∨ atv ml j = 1 := one_at (atv_of (elem_in (own_eqI n7) ev rfl B.1).2) j
    have a8 := Cond.all_elim (et []) (B.fin (Vm.Alike.refl _)) n8 j.toNatClampNeg (Nat.lt_of_not_le fun x => hin (Or.inr x))
    have p8 := or3 a8 (Cond.lt_ints (idx_at j0) rfl) (Cond.le_ints rfl (idx_at j0)) (Cond.eq_ints el rfl)
    have p9 : ¬ j = 28 ∨ atv ml j = 1 := one_at (atv_of (elem_in (own_eqI n9) ev rfl B.1).2) j
    have a10 := Cond.all_elim (et []) (B.fin (Vm.Alike.refl _)) n10 j.toNatClampNeg (Nat.lt_of_not_le fun x => hin (Or.inr x))
    have p10 : j < 29 ∨ atv ml j = 0 := by
      by_cases g : j < 29
      · exact Or.inl g
      · rw [Cond.or_of_right (nay (Cond.lt_ints (idx_at j0) rfl) g)] at a10; exact Or.inr (gotT (Cond.eq_ints el rfl) a10)
    congr 2
    generalize atv ml j = z at *
    clear hat el
    exact own_tab j z j0 p2 p3 p4 p5 p6 p7 p8 p9 p10
  have M := own_law l s _ hw i0 i1 i2 i3 i4 i5 mk ml s.heap s.heap.size (Nat.le_refl _) S B hM
  obtain ⟨n, o, h1, h2, h3, _, L, rfl, ⟨rfl, N⟩, hq⟩ := M tables_1 p e ha hc hk s m _ below hf ((Spec.applies_iff_loose hf).mp happ).1 ⟨rfl, State.Warmed39.refl s, rfl⟩ trivial
  exact ⟨n, _, h1, h2, h3, hpost _ _ _ _ _ _ ⟨Cond.after_iff.mpr rfl, Cond.after_iff.mpr (eq_i res_at (Term.int_eval (1)) rfl)⟩ ⟨hq.1, hq.2.1, (hq.2.2.sift fun y hy => Or.inr (N y hy)).mono (by decide) (by decide)⟩⟩
theorem main_1_1 : Claimed_1_1 := own_comes fun _ _ _ _ _ _ h hF => ⟨h.1, hF⟩
theorem main_1_2 : Claimed_1_2 := own_comes fun _ _ _ _ _ _ h hF => ⟨h.2, hF⟩
end Jvm.Pilot.@@N@@
namespace Jvm.Pilot.@@N@@
open Jvm Jvm.ClassFile Sem Op Lib Jvm.Free Jvm.Stand Jvm.Pilot.@@N@@.Jvm.D
/-! MADE BY PROGRAM (witnessworld.py) out of the Statement's table words and the real class files: 15 classes; the members and pool entries that the words name. The judged class is class 1, her method 2. -/
namespace start1
open Jvm.ClassFile
def u (s : String) : CpInfo := .utf8 (stringToUtf16 s)
/-- a pool by its gaps: so many unusable entries, then the entry; so many at the end -/
def gap : Nat → List CpInfo → List CpInfo
  | 0, r => r
  | n + 1, r => .unusable :: gap n r
def poolList (es : List (Nat × CpInfo)) (last : Nat) : List CpInfo := es.foldr (fun e r => gap e.1 (e.2 :: r)) (gap last [])
def pool (es : List (Nat × CpInfo)) (last : Nat) : Array CpInfo := ⟨poolList es last⟩
def fileOf (pool : Array CpInfo) (this : Nat) (attrs : Array Attribute := #[]) (ms : Array MethodInfo := #[]) (fl : Nat := 33) (sup : Nat := 0) (ifs : Array Nat := #[]) (fds : Array FieldInfo := #[]) : ClassFile where
  minorVersion := 0
  majorVersion := 65
  constantPool := pool
  accessFlags := fl
  thisClass := this
  superClass := sup
  interfaces := ifs
  fields := fds
  methods := ms
  attributes := attrs
def plain (name : String) (sup : Option ClassId) : Class where
  name := name
  kind := .ordinary
  loader := none
  accessFlags := 33
  super := sup
  interfaces := #[]
  cf := none
  fields := #[]
  methods := #[]
  instanceTypes := #[]
  staticTypes := #[]
  resolved := #[]
  callSites := []
  init := .initialized
  statics := none
  mirror := none

def pool0 : Array CpInfo := pool [(5, u "<init>"), (0, u "()V"), (1, .class_ 10), (1, u "java/lang/Object")] 113

def k0m0 : Method := { name := "<init>", desc := "()V", sig := { parameters := [], returnType := none }, accessFlags := 1, code := none }
/-- java/lang/Object -/
def k0 : Class := { plain "java/lang/Object" none with
  accessFlags := 33
  interfaces := #[]
  cf := some (fileOf pool0 8 #[] #[{ accessFlags := 1, nameIndex := 5, descriptorIndex := 6, attributes := #[] }] 33 0 #[] #[])
  fields := #[]
  methods := #[k0m0]
  instanceTypes := #[]
  staticTypes := #[]
  resolved := Array.replicate 124 none
  statics := none }

def pool1 : Array CpInfo := pool [(2, .class_ 4), (1, u "java/lang/Object"), (0, u "<init>"), (0, u "()V"), (0, .integer 2147483647), (0, .methodref 9 10), (0, .class_ 11), (0, .nameAndType 12 13), (0, u "java/lang/Math"), (0, u "min"), (0, u "(II)I"), (0, .methodref 9 15), (0, .nameAndType 16 13), (0, u "max"), (0, .methodref 18 19), (0, .class_ 20), (0, .nameAndType 21 22), (0, u "com/example/glasnik/glasnik/engine/framing/FramingNextMarkPinLaw"), (0, u "mark"), (0, u "(B)Z"), (0, .methodref 24 25), (0, .class_ 26), (0, .nameAndType 27 28), (0, u "com/example/glasnik/glasnik/engine/framing/Framing"), (0, u "nextMark"), (0, u "([BII)I"), (3, u "law"), (0, u "(IIIIII)Z")] 4

def k1m0 : Method := { name := "<init>", desc := "()V", sig := { parameters := [], returnType := none }, accessFlags := 1, code := none }
def k1c1 : Code := { maxStack := 2, maxLocals := 2, code := method_2_code, exceptionTable := #[], attributes := #[] }
def k1m1 : Method := { name := "mark", desc := "(B)Z", sig := { parameters := [.byte], returnType := some .boolean }, accessFlags := 10, code := some k1c1 }
def k1c2 : Code := { maxStack := 3, maxLocals := 13, code := code, exceptionTable := #[], attributes := #[] }
def k1m2 : Method := { name := "law", desc := "(IIIIII)Z", sig := { parameters := [.int, .int, .int, .int, .int, .int], returnType := some .boolean }, accessFlags := 9, code := some k1c2 }
/-- com/example/glasnik/glasnik/engine/framing/FramingNextMarkPinLaw -/
def k1 : Class := { plain "com/example/glasnik/glasnik/engine/framing/FramingNextMarkPinLaw" (some 0) with
  accessFlags := 49
  interfaces := #[]
  cf := some (fileOf pool1 18 #[] #[{ accessFlags := 1, nameIndex := 5, descriptorIndex := 6, attributes := #[] }, { accessFlags := 10, nameIndex := 21, descriptorIndex := 22, attributes := #[] }, { accessFlags := 9, nameIndex := 32, descriptorIndex := 33, attributes := #[] }] 49 2 #[] #[])
  fields := #[]
  methods := #[k1m0, k1m1, k1m2]
  instanceTypes := #[]
  staticTypes := #[]
  resolved := Array.replicate 38 none
  statics := none }

def pool2 : Array CpInfo := pool [(1, .class_ 2), (0, u "java/lang/Math"), (1, .class_ 6), (1, u "java/lang/Object"), (0, u "<init>"), (0, u "()V"), (89, .class_ 100), (1, u "java/lang/Math$RandomNumberGeneratorHolder"), (71, u "negativeZeroFloatBits"), (0, u "J"), (2, u "negativeZeroDoubleBits"), (21, u "max"), (2, u "min"), (43, u "$assertionsDisabled"), (0, u "Z"), (88, u "(II)I"), (2, u "twoToTheDoubleScaleDown"), (0, u "D"), (4, u "twoToTheDoubleScaleUp"), (9, u "E"), (3, u "PI"), (2, u "TAU"), (2, u "DEGREES_TO_RADIANS"), (0, u "RADIANS_TO_DEGREES")] 94

def k2m0 : Method := { name := "<init>", desc := "()V", sig := { parameters := [], returnType := none }, accessFlags := 2, code := none }
def k2c1 : Code := { maxStack := 2, maxLocals := 2, code := jdk_29_method_65_code, exceptionTable := #[], attributes := #[] }
def k2m1 : Method := { name := "max", desc := "(II)I", sig := { parameters := [.int, .int], returnType := some .int }, accessFlags := 9, code := some k2c1 }
def k2c2 : Code := { maxStack := 2, maxLocals := 2, code := jdk_29_method_69_code, exceptionTable := #[], attributes := #[] }
def k2m2 : Method := { name := "min", desc := "(II)I", sig := { parameters := [.int, .int], returnType := some .int }, accessFlags := 9, code := some k2c2 }
/-- java/lang/Math -/
def k2 : Class := { plain "java/lang/Math" (some 0) with
  accessFlags := 49
  interfaces := #[]
  cf := some (fileOf pool2 1 #[.nestMembers #[98]] #[{ accessFlags := 2, nameIndex := 7, descriptorIndex := 8, attributes := #[] }, { accessFlags := 9, nameIndex := 198, descriptorIndex := 335, attributes := #[] }, { accessFlags := 9, nameIndex := 201, descriptorIndex := 335, attributes := #[] }] 49 4 #[] #[{ accessFlags := 25, nameIndex := 354, descriptorIndex := 339, attributes := #[] }, { accessFlags := 25, nameIndex := 358, descriptorIndex := 339, attributes := #[] }, { accessFlags := 25, nameIndex := 361, descriptorIndex := 339, attributes := #[] }, { accessFlags := 26, nameIndex := 364, descriptorIndex := 339, attributes := #[] }, { accessFlags := 26, nameIndex := 365, descriptorIndex := 339, attributes := #[] }, { accessFlags := 26, nameIndex := 172, descriptorIndex := 173, attributes := #[] }, { accessFlags := 26, nameIndex := 176, descriptorIndex := 173, attributes := #[] }, { accessFlags := 8, nameIndex := 344, descriptorIndex := 339, attributes := #[] }, { accessFlags := 8, nameIndex := 338, descriptorIndex := 339, attributes := #[] }, { accessFlags := 4120, nameIndex := 245, descriptorIndex := 246, attributes := #[] }])
  fields := #[{ name := "E", type := .double, accessFlags := 25, slot := 0, constantValue := 0 }, { name := "PI", type := .double, accessFlags := 25, slot := 1, constantValue := 0 }, { name := "TAU", type := .double, accessFlags := 25, slot := 2, constantValue := 0 }, { name := "DEGREES_TO_RADIANS", type := .double, accessFlags := 26, slot := 3, constantValue := 0 }, { name := "RADIANS_TO_DEGREES", type := .double, accessFlags := 26, slot := 4, constantValue := 0 }, { name := "negativeZeroFloatBits", type := .long, accessFlags := 26, slot := 5, constantValue := 0 }, { name := "negativeZeroDoubleBits", type := .long, accessFlags := 26, slot := 6, constantValue := 0 }, { name := "twoToTheDoubleScaleUp", type := .double, accessFlags := 8, slot := 7, constantValue := 0 }, { name := "twoToTheDoubleScaleDown", type := .double, accessFlags := 8, slot := 8, constantValue := 0 }, { name := "$assertionsDisabled", type := .boolean, accessFlags := 4120, slot := 9, constantValue := 0 }]
  methods := #[k2m0, k2m1, k2m2]
  instanceTypes := #[]
  staticTypes := #[.double, .double, .double, .double, .double, .long, .long, .double, .double, .boolean]
  resolved := Array.replicate 460 none
  statics := none }

def pool3 : Array CpInfo := pool [(1, .class_ 2), (0, u "java/lang/constant/Constable"), (0, .class_ 4), (0, u "java/lang/Object")] 6

/-- java/lang/constant/Constable -/
def k3 : Class := { plain "java/lang/constant/Constable" (some 0) with
  accessFlags := 1537
  interfaces := #[]
  cf := some (fileOf pool3 1 #[] #[] 1537 3 #[] #[])
  fields := #[]
  methods := #[]
  instanceTypes := #[]
  staticTypes := #[]
  resolved := Array.replicate 11 none
  statics := none }

def pool4 : Array CpInfo := pool [(1, .class_ 2), (0, u "java/lang/Comparable"), (0, .class_ 4), (0, u "java/lang/Object")] 7

/-- java/lang/Comparable -/
def k4 : Class := { plain "java/lang/Comparable" (some 0) with
  accessFlags := 1537
  interfaces := #[]
  cf := some (fileOf pool4 1 #[] #[] 1537 3 #[] #[])
  fields := #[]
  methods := #[]
  instanceTypes := #[]
  staticTypes := #[]
  resolved := Array.replicate 12 none
  statics := none }

def pool5 : Array CpInfo := pool [(1, .class_ 2), (0, u "java/io/Serializable"), (0, .class_ 4), (0, u "java/lang/Object")] 2

/-- java/io/Serializable -/
def k5 : Class := { plain "java/io/Serializable" (some 0) with
  accessFlags := 1537
  interfaces := #[]
  cf := some (fileOf pool5 1 #[] #[] 1537 3 #[] #[])
  fields := #[]
  methods := #[]
  instanceTypes := #[]
  staticTypes := #[]
  resolved := Array.replicate 7 none
  statics := none }

def pool6 : Array CpInfo := pool [(2, .class_ 4), (1, u "java/lang/Enum"), (0, u "name"), (0, u "Ljava/lang/String;"), (2, u "ordinal"), (0, u "I"), (1, .class_ 14), (1, u "java/lang/Object"), (4, u "hash"), (86, .class_ 108), (1, u "java/lang/Enum$EnumDesc"), (2, .class_ 112), (0, u "java/lang/constant/Constable"), (0, .class_ 114), (0, u "java/lang/Comparable"), (0, .class_ 116), (0, u "java/io/Serializable")] 87

/-- java/lang/Enum -/
def k6 : Class := { plain "java/lang/Enum" (some 0) with
  accessFlags := 1057
  interfaces := #[3, 4, 5]
  cf := some (fileOf pool6 2 #[.nestMembers #[106]] #[] 1057 12 #[111, 113, 115] #[{ accessFlags := 18, nameIndex := 5, descriptorIndex := 6, attributes := #[] }, { accessFlags := 18, nameIndex := 9, descriptorIndex := 10, attributes := #[] }, { accessFlags := 2, nameIndex := 19, descriptorIndex := 10, attributes := #[] }])
  fields := #[{ name := "name", type := (.object "java/lang/String"), accessFlags := 18, slot := 0, constantValue := 0 }, { name := "ordinal", type := .int, accessFlags := 18, slot := 1, constantValue := 0 }, { name := "hash", type := .int, accessFlags := 2, slot := 2, constantValue := 0 }]
  methods := #[]
  instanceTypes := #[(.object "java/lang/String"), .int, .int]
  staticTypes := #[]
  resolved := Array.replicate 204 none
  statics := none }

def pool7 : Array CpInfo := pool [(1, .class_ 2), (0, u "com/example/glasnik/glasnik/engine/framing/Framing"), (2, u "MLLP"), (0, u "Lcom/example/glasnik/glasnik/engine/framing/Framing;"), (2, u "STX_ETX"), (2, u "$VALUES"), (0, u "[Lcom/example/glasnik/glasnik/engine/framing/Framing;"), (6, .class_ 22), (1, u "java/lang/Enum"), (8, u "start"), (0, u "B"), (2, u "end"), (0, u "[B"), (10, u "nextMark"), (0, u "([BII)I"), (34, u "ALL"), (6, .fieldref 1 91), (0, .nameAndType 92 93), (0, u "MARKS"), (0, u "[Z")] 42

def k7c0 : Code := { maxStack := 3, maxLocals := 4, code := prog_96_method_9_code, exceptionTable := #[], attributes := #[] }
def k7m0 : Method := { name := "nextMark", desc := "([BII)I", sig := { parameters := [(.array .byte), .int, .int], returnType := some .int }, accessFlags := 8, code := some k7c0 }
/-- com/example/glasnik/glasnik/engine/framing/Framing -/
def k7 : Class := { plain "com/example/glasnik/glasnik/engine/framing/Framing" (some 6) with
  accessFlags := 16433
  interfaces := #[]
  cf := some (fileOf pool7 1 #[] #[{ accessFlags := 8, nameIndex := 47, descriptorIndex := 48, attributes := #[] }] 16433 20 #[] #[{ accessFlags := 16409, nameIndex := 5, descriptorIndex := 6, attributes := #[] }, { accessFlags := 16409, nameIndex := 9, descriptorIndex := 6, attributes := #[] }, { accessFlags := 26, nameIndex := 83, descriptorIndex := 13, attributes := #[] }, { accessFlags := 26, nameIndex := 92, descriptorIndex := 93, attributes := #[] }, { accessFlags := 18, nameIndex := 31, descriptorIndex := 32, attributes := #[] }, { accessFlags := 18, nameIndex := 35, descriptorIndex := 36, attributes := #[] }, { accessFlags := 4122, nameIndex := 12, descriptorIndex := 13, attributes := #[] }])
  fields := #[{ name := "MLLP", type := (.object "com/example/glasnik/glasnik/engine/framing/Framing"), accessFlags := 16409, slot := 0, constantValue := 0 }, { name := "STX_ETX", type := (.object "com/example/glasnik/glasnik/engine/framing/Framing"), accessFlags := 16409, slot := 1, constantValue := 0 }, { name := "ALL", type := (.array (.object "com/example/glasnik/glasnik/engine/framing/Framing")), accessFlags := 26, slot := 2, constantValue := 0 }, { name := "MARKS", type := (.array .boolean), accessFlags := 26, slot := 3, constantValue := 0 }, { name := "start", type := .byte, accessFlags := 18, slot := 3, constantValue := 0 }, { name := "end", type := (.array .byte), accessFlags := 18, slot := 4, constantValue := 0 }, { name := "$VALUES", type := (.array (.object "com/example/glasnik/glasnik/engine/framing/Framing")), accessFlags := 4122, slot := 4, constantValue := 0 }]
  methods := #[k7m0]
  instanceTypes := #[(.object "java/lang/String"), .int, .int, .byte, (.array .byte)]
  staticTypes := #[(.object "com/example/glasnik/glasnik/engine/framing/Framing"), (.object "com/example/glasnik/glasnik/engine/framing/Framing"), (.array (.object "com/example/glasnik/glasnik/engine/framing/Framing")), (.array .boolean), (.array (.object "com/example/glasnik/glasnik/engine/framing/Framing"))]
  resolved := Array.replicate 136 none
  statics := some 0 }

def pool8 : Array CpInfo := pool [(1, u "java/lang/Cloneable"), (0, .class_ 1), (0, u "java/lang/Object"), (0, .class_ 3)] 3

/-- java/lang/Cloneable -/
def k8 : Class := { plain "java/lang/Cloneable" (some 0) with
  accessFlags := 1537
  interfaces := #[]
  cf := some (fileOf pool8 2 #[] #[] 1537 4 #[] #[])
  fields := #[]
  methods := #[]
  instanceTypes := #[]
  staticTypes := #[]
  resolved := Array.replicate 8 none
  statics := none }

/-- the primitive boolean -/
def k9 : Class := { plain "boolean" none with kind := .primitive 'Z', accessFlags := 0x411 }
/-- [Z -/
def k10 : Class := { plain "[Z" (some 0) with kind := .array 9 .boolean, interfaces := #[8, 5], accessFlags := 1041 }

/-- the primitive byte -/
def k11 : Class := { plain "byte" none with kind := .primitive 'B', accessFlags := 0x411 }
/-- [B -/
def k12 : Class := { plain "[B" (some 0) with kind := .array 11 .byte, interfaces := #[8, 5], accessFlags := 1041 }

/-- the primitive int -/
def k13 : Class := { plain "int" none with kind := .primitive 'I', accessFlags := 0x411 }
/-- [I -/
def k14 : Class := { plain "[I" (some 0) with kind := .array 13 .int, interfaces := #[8, 5], accessFlags := 1041 }

def heap : Heap := #[{ cls := 7, slots := #[.null, .null, .null, .ref 1, .null], vm := .statics 7 },
  { cls := 10, slots := #[.int 0, .int 0, .int 1, .int 1, .int 0, .int 0, .int 0, .int 0, .int 0, .int 0, .int 0, .int 1, .int 0, .int 0, .int 0, .int 0, .int 0, .int 0, .int 0, .int 0, .int 0, .int 0, .int 0, .int 0, .int 0, .int 0, .int 0, .int 0, .int 1, .int 0, .int 0, .int 0, .int 0, .int 0, .int 0, .int 0, .int 0, .int 0, .int 0, .int 0, .int 0, .int 0, .int 0, .int 0, .int 0, .int 0, .int 0, .int 0, .int 0, .int 0, .int 0, .int 0, .int 0, .int 0, .int 0, .int 0, .int 0, .int 0, .int 0, .int 0, .int 0, .int 0, .int 0, .int 0, .int 0, .int 0, .int 0, .int 0, .int 0, .int 0, .int 0, .int 0, .int 0, .int 0, .int 0, .int 0, .int 0, .int 0, .int 0, .int 0, .int 0, .int 0, .int 0, .int 0, .int 0, .int 0, .int 0, .int 0, .int 0, .int 0, .int 0, .int 0, .int 0, .int 0, .int 0, .int 0, .int 0, .int 0, .int 0, .int 0, .int 0, .int 0, .int 0, .int 0, .int 0, .int 0, .int 0, .int 0, .int 0, .int 0, .int 0, .int 0, .int 0, .int 0, .int 0, .int 0, .int 0, .int 0, .int 0, .int 0, .int 0, .int 0, .int 0, .int 0, .int 0, .int 0, .int 0, .int 0, .int 0, .int 0, .int 0, .int 0, .int 0, .int 0, .int 0, .int 0, .int 0, .int 0, .int 0, .int 0, .int 0, .int 0, .int 0, .int 0, .int 0, .int 0, .int 0, .int 0, .int 0, .int 0, .int 0, .int 0, .int 0, .int 0, .int 0, .int 0, .int 0, .int 0, .int 0, .int 0, .int 0, .int 0, .int 0, .int 0, .int 0, .int 0, .int 0, .int 0, .int 0, .int 0, .int 0, .int 0, .int 0, .int 0, .int 0, .int 0, .int 0, .int 0, .int 0, .int 0, .int 0, .int 0, .int 0, .int 0, .int 0, .int 0, .int 0, .int 0, .int 0, .int 0, .int 0, .int 0, .int 0, .int 0, .int 0, .int 0, .int 0, .int 0, .int 0, .int 0, .int 0, .int 0, .int 0, .int 0, .int 0, .int 0, .int 0, .int 0, .int 0, .int 0, .int 0, .int 0, .int 0, .int 0, .int 0, .int 0, .int 0, .int 0, .int 0, .int 0, .int 0, .int 0, .int 0, .int 0, .int 0, .int 0, .int 0, .int 0, .int 0, .int 0, .int 0, .int 0, .int 0, .int 0, .int 0, .int 0, .int 0, .int 0, .int 0, .int 0, .int 0, .int 0, .int 0, .int 0, .int 0, .int 0, .int 0, .int 0, .int 0, .int 0, .int 0, .int 0, .int 0, .int 0, .int 0, .int 0], vm := .none }]
def classes : Array Class := #[k0, k1, k2, k3, k4, k5, k6, k7, k8, k9, k10, k11, k12, k13, k14]
def interned : List (Array UInt16 × Addr) := []
def slotsUsed : Nat := 261
def theMethod : MethodId := ⟨1, 2⟩
def args0 : Array Value := #[.int 1, .int 2, .int 11, .int 4, .int 5, .int 8]
def aboutOver (below : List Frame) : State where
  vm := { classes := classes, interned := interned.toArray }
  heap := heap
  slotsUsed := slotsUsed
  threads := #[{ frames := .invoking theMethod args0 :: below }]
def below0 : List Frame := [.native { method := ⟨0, 0⟩, args := #[] }]
def about1 : State := aboutOver below0
def p0 : Program := .bare "" "" ""
def e0 : Env := launch0.env 0 0 0
theorem w_frames : about1.frames = Frame.invoking theMethod args0 :: below0 := rfl
set_option maxRecDepth 65536 in
theorem w_args : argsFit about1.vm theMethod args0 = true := by decide +kernel
set_option maxRecDepth 65536 in
theorem w_heap : heapFits about1 = true := by decide +kernel
set_option maxRecDepth 65536 in
theorem w_runnable : about1.curStatus? = some .runnable := by decide +kernel
set_option maxRecDepth 65536 in
theorem w_alone : about1.alone = true := by decide +kernel
set_option maxRecDepth 65536 in
theorem w_named : about1.methodNamed? x = some theMethod := by decide +kernel
set_option maxRecDepth 65536 in
theorem w_hears : about1.hears theMethod below0 = true := by decide +kernel
set_option maxRecDepth 65536 in
theorem w_ripe : about1.ripe theMethod args0 below0 = true := by decide +kernel
theorem w_running : about1.status = .running := rfl
set_option maxRecDepth 65536 in
theorem w_room : about1.hasRoom e0.platform room_1 = true :=
  launch0.hasRoom_least _ room_1 (by decide +kernel) (by decide +kernel) (by decide +kernel) (by decide +kernel) (by decide +kernel) (by decide +kernel)
theorem allAtoms_all (ts : List Jvm.Cond) (a : Array Jvm.Value) (st : Jvm.State) : (allAtoms ts).before a st = ts.all (fun c => c.before a st) := by
  induction ts with
  | nil => rfl
  | cons c t ih =>
    show (Jvm.Cond.and c (allAtoms t)).before a st = _
    rw [Jvm.Cond.before_and, ih, List.all_cons]
def words1 : List Jvm.Cond := Jvm.Cond.code x code maxLocals ret :: tables_1
/-- a 'code' word, met by the world's own term for the bytes: nothing is compared byte by byte -/
theorem code_word {y : MethodName} {bytes : ByteArray} {mx : Nat} {rt : Option FieldType} {a : Array Value} {s : State} {m : MethodId} {meth : Method} {c : Code} (h1 : s.methodNamed? y = some m) (h2 : s.vm.method? m = some meth) (h3 : meth.code = some c) (h4 : c.code = bytes)
    (h5 : (c.maxLocals == mx && c.exceptionTable.isEmpty && decide (c.maxStack ≤ mostOperands) && decide (meth.sig.returnType = rt) && !meth.locks && decide (parseMethodDescriptor y.desc = some meth.sig)) = true) : (Jvm.Cond.code y bytes mx rt).before a s = true := by
  simp only [Bool.and_eq_true, beq_iff_eq, Bool.not_eq_true', decide_eq_true_eq] at h5
  obtain ⟨⟨⟨⟨⟨g1, g2⟩, g3⟩, g4⟩, g5⟩, g6⟩ := h5
  simp [Cond.before, Cond.holds, Cond.value, h1, h2, h3, h4, g1, g2, g3, g4, g5, g6]
def isCode : Jvm.Cond → Bool
  | .code _ _ _ _ => true
  | _ => false
theorem all_split {L : List Jvm.Cond} {P : Jvm.Cond → Bool} (h1 : L.all (fun c => isCode c || P c) = true) (h2 : ∀ c ∈ L.filter isCode, P c = true) : L.all P = true := by
  refine List.all_eq_true.mpr fun c hc => ?_
  have h := List.all_eq_true.mp h1 c hc
  rcases Bool.eq_false_or_eq_true (isCode c) with hi | hi
  · exact h2 c (List.mem_filter.mpr ⟨hc, hi⟩)
  · simpa [hi] using h
set_option maxRecDepth 65536 in
theorem w_c0 : (Jvm.Cond.code x code maxLocals ret).before args0 about1 = true := code_word (m := ⟨1, 2⟩) (meth := k1m2) (c := k1c2) (by decide +kernel) rfl rfl rfl (by decide +kernel)
set_option maxRecDepth 65536 in
theorem w_c1 : (Jvm.Cond.code ({ cls := "java/lang/Math", name := "min", desc := "(II)I" } : Jvm.MethodName) jdk_29_method_69_code (2 : Nat) (Option.some Jvm.ClassFile.FieldType.int)).before args0 about1 = true := code_word (m := ⟨2, 2⟩) (meth := k2m2) (c := k2c2) (by decide +kernel) rfl rfl rfl (by decide +kernel)
set_option maxRecDepth 65536 in
theorem w_c2 : (Jvm.Cond.code ({ cls := "java/lang/Math", name := "max", desc := "(II)I" } : Jvm.MethodName) jdk_29_method_65_code (2 : Nat) (Option.some Jvm.ClassFile.FieldType.int)).before args0 about1 = true := code_word (m := ⟨2, 1⟩) (meth := k2m1) (c := k2c1) (by decide +kernel) rfl rfl rfl (by decide +kernel)
set_option maxRecDepth 65536 in
theorem w_c3 : (Jvm.Cond.code ({ cls := "com/example/glasnik/glasnik/engine/framing/FramingNextMarkPinLaw", name := "mark", desc := "(B)Z" } : Jvm.MethodName) method_2_code (2 : Nat) (Option.some Jvm.ClassFile.FieldType.boolean)).before args0 about1 = true := code_word (m := ⟨1, 1⟩) (meth := k1m1) (c := k1c1) (by decide +kernel) rfl rfl rfl (by decide +kernel)
set_option maxRecDepth 65536 in
theorem w_c4 : (Jvm.Cond.code ({ cls := "com/example/glasnik/glasnik/engine/framing/Framing", name := "nextMark", desc := "([BII)I" } : Jvm.MethodName) prog_96_method_9_code (4 : Nat) (Option.some Jvm.ClassFile.FieldType.int)).before args0 about1 = true := code_word (m := ⟨7, 0⟩) (meth := k7m0) (c := k7c0) (by decide +kernel) rfl rfl rfl (by decide +kernel)
def codes1 : List Jvm.Cond := [Jvm.Cond.code x code maxLocals ret, Jvm.Cond.code ({ cls := "java/lang/Math", name := "min", desc := "(II)I" } : Jvm.MethodName) jdk_29_method_69_code (2 : Nat) (Option.some Jvm.ClassFile.FieldType.int), Jvm.Cond.code ({ cls := "java/lang/Math", name := "max", desc := "(II)I" } : Jvm.MethodName) jdk_29_method_65_code (2 : Nat) (Option.some Jvm.ClassFile.FieldType.int), Jvm.Cond.code ({ cls := "com/example/glasnik/glasnik/engine/framing/FramingNextMarkPinLaw", name := "mark", desc := "(B)Z" } : Jvm.MethodName) method_2_code (2 : Nat) (Option.some Jvm.ClassFile.FieldType.boolean), Jvm.Cond.code ({ cls := "com/example/glasnik/glasnik/engine/framing/Framing", name := "nextMark", desc := "([BII)I" } : Jvm.MethodName) prog_96_method_9_code (4 : Nat) (Option.some Jvm.ClassFile.FieldType.int)]
set_option maxRecDepth 65536 in
theorem codes_eq : words1.filter isCode = codes1 := rfl
theorem w_codes : ∀ c ∈ words1.filter isCode, c.before args0 about1 = true := by
  rw [codes_eq]
  intro c hc
  simp only [codes1, List.mem_cons, List.not_mem_nil, or_false] at hc
  rcases hc with rfl | rfl | rfl | rfl | rfl
  · exact w_c0
  · exact w_c1
  · exact w_c2
  · exact w_c3
  · exact w_c4
set_option maxRecDepth 65536 in
theorem w_t1 : words1.all (fun c => isCode c || c.before args0 about1) = true := by decide +kernel
theorem w_tables : (allAtoms (Jvm.Cond.code x code maxLocals ret :: tables_1)).before args0 about1 = true := by
  rw [allAtoms_all]
  show words1.all (fun c => c.before args0 about1) = true
  refine all_split ?_ w_codes
  rw [w_t1]
set_option maxRecDepth 65536 in
theorem w_case : (Jvm.Cond.and given_1 narrow_1).before args0 about1 = true := by decide +kernel
theorem w_applies : (headSpec (Jvm.Cond.code x code maxLocals ret :: tables_1) room_1).applies x e0.platform about1 = true :=
  (Spec.applies_iff w_frames).mpr ⟨w_running, w_runnable, w_alone, w_named, w_hears, w_ripe, w_room, w_tables⟩
theorem atStart : AtStart classFile x code maxLocals ret World_1 tables_1 room_1 Calls_1 rest_1 Pre_1 launch0 p0 e0 about1 theMethod args0 below0 :=
  ⟨lists_1, trivial, launch0.admits_env _ _ _, launch0.least_env, fairChoices_fair.cas, fairChoices_fair.clock, w_frames, w_args, w_heap, w_applies, trivial, trivial, w_case⟩
end start1
theorem witness_1 : WitnessClaimed_1 := ⟨start1.p0, start1.e0, start1.about1, start1.theMethod, start1.args0, start1.below0, start1.atStart⟩
end Jvm.Pilot.@@N@@
