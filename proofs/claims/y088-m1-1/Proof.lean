import JvmDerived
import JvmDerived.Pilot.@@N@@Statement
import JvmDerived.Pilot.@@N@@Code
set_option linter.unusedVariables false
set_option linter.unusedSimpArgs false
namespace Jvm.RoadKit
open Sem ClassFile Op Lib Jvm.Stand Jvm.Free Jvm.LawKit
section New
variable {p : Program} {l : Launch} {e : Env} {R : Room} {s : State} {m : MethodId} {args : Array Value} {below : List Frame} {meth : Method} {c : Code} {T : State} {locs : List Loc} {cells slots : Nat}
theorem retI (X : Stand p l e R s m args below meth c T locs cells slots) (hx : p.tables.exec = Jvm.exec) {pc : Nat} {Ls : Array Slot} {z : Int32} {rest : List Value} (hret : meth.sig.returnType = some .int) (hd : decode c.code pc = .ok (.ireturn, 1)) {fs : List Frame}
    (hl : ∀ (f : JFrame) (acts : List Action), f.method = m → f.locked = none → f.entered = [] → (doReturn e (T.setTop f) acts (some (.int z))).1 = T.setFrames fs) : Steps p.tables e below (T.setTop (mkF m pc Ls (.int z :: rest))) (T.setFrames fs) := by
  have hm' : T.vm.method? m = some meth := X.method'
  have hn : narrow .int (.int z) = .int z := rfl
  show Steps p.tables e below (T.setTop { method := m, pc := pc, locals := Ls, stack := _ :: rest, locked := none }) _
  jvm_step X.here [X.here.top, hx, hd, hm', hret, hn]
  first | (intro acts; rw [hl _ acts rfl rfl rfl]) | rw [hl _ _ rfl rfl rfl]
  exact Steps.refl _
end New
end Jvm.RoadKit
namespace Jvm.OwnKit
open Jvm Jvm.ClassFile Sem Op Lib Jvm.Free Jvm.Stand Jvm.LawKit Jvm.RoadKit
/-- the walk comes to an end as Q says -/
def Go (p : Program) (e : Env) (below : List Frame) (F : Option Value → State → Prop) (S0 : State) : Prop :=
  ∃ (t : State) (o : Outcome), Steps p.tables e below S0 t ∧ t.status = .running ∧ Ended t below o ∧ ∃ v, o = .returned v ∧ F v t
/-- the end as a contract says it -/
def NF (s : State) (cs ss : Nat) (Q : Option Value → Heap → List Loc → Prop) : Option Value → State → Prop := fun v t => ∃ L, Q v t.heap L ∧ FrameEnd s (.returned v) t L cs ss
/-- where the walk stands: what is fixed for the whole body, the Stand, the heap -/
def Pos (p : Program) (l : Launch) (e : Env) (R : Room) (s : State) (m : MethodId) (args : Array Value) (below : List Frame) (meth : Method) (c : Code) (Z : State) (own : String) (bytes : ByteArray) (ml : Nat) (ret : Option FieldType) (nm : String) (T : State) (h : Heap) (locs : List Loc) (cells slots : Nat) : Prop :=
  (p.tables.exec = Jvm.exec ∧ Z.Warmed39 s.vm ∧ s.vm.findClass own = some m.cls ∧ c.code = bytes ∧ c.maxLocals = ml ∧ meth.sig.returnType = ret ∧ meth.locks = false ∧ meth.name = nm) ∧ Stand p l e R s m args below meth c T locs cells slots ∧ T.heap = h
def ushr (x y : Int32) : Int32 := (x.toUInt32 >>> (y &&& 31).toUInt32).toInt32
def ushrJ (x : Int64) (y : Int32) : Int64 := (x.toUInt64 >>> (y &&& 0x3f).toInt64.toUInt64).toInt64
def lcmpO (x y : Int64) : Int32 := if x > y then 1 else if x = y then 0 else -1
/-- a callee's contract, at one heap, for one list of arguments -/
abbrev OMeets (l : Launch) (Z : State) (y : MethodName) (bytes : ByteArray) (ml : Nat) (ret : Option FieldType) (rm : Room) (as' : Array Value) (h0 : Heap) (Q : Option Value → Heap → List Loc → Prop) : Prop :=
  MetFree l y (head1 [Jvm.Cond.code y bytes ml ret] rm) (fun a U => a = as' ∧ Z.Warmed39 U.vm ∧ U.heap = h0) (fun _ _ _ _ _ => True) (fun _ U o U' => ∃ v L, o = .returned v ∧ Q v U'.heap L ∧ FrameEnd U o U' L rm.cells rm.slots)
/-- it returns v and has moved nothing -/
def OPure (v0 : Option Value) (h0 : Heap) (v : Option Value) (h : Heap) (L : List Loc) : Prop := v = v0 ∧ h = h0 ∧ L = []
theorem wk {ws : List Jvm.Cond} {a0 : Array Value} {Z : State} (hw : ∀ d ∈ ws, d.before a0 Z = true) (i : Nat) {d : Jvm.Cond} (h : ws[i]? = some d) : d.before a0 Z = true := hw _ (List.mem_of_getElem? h)
section Own
variable {p : Program} {l : Launch} {e : Env} {R : Room} {s : State} {m : MethodId} {args : Array Value} {below : List Frame} {meth : Method} {c : Code} {Z : State} {own : String} {bytes : ByteArray} {ml : Nat} {ret : Option FieldType} {nm : String} {T : State} {h : Heap} {locs : List Loc} {cells slots : Nat} {cs ss : Nat} {Q : Option Value → Heap → List Loc → Prop} {FF : Option Value → State → Prop} {a0 : Array Value} {pc pc' : Nat} {Ls : Array Slot} {St : List Value}
theorem Pos.x (P : Pos p l e R s m args below meth c Z own bytes ml ret nm T h locs cells slots) : p.tables.exec = Jvm.exec := P.1.1
theorem Pos.z (P : Pos p l e R s m args below meth c Z own bytes ml ret nm T h locs cells slots) : Z.Warmed39 s.vm := P.1.2.1
theorem Pos.ow (P : Pos p l e R s m args below meth c Z own bytes ml ret nm T h locs cells slots) : s.vm.findClass own = some m.cls := P.1.2.2.1
theorem Pos.bt (P : Pos p l e R s m args below meth c Z own bytes ml ret nm T h locs cells slots) : c.code = bytes := P.1.2.2.2.1
theorem Pos.mx (P : Pos p l e R s m args below meth c Z own bytes ml ret nm T h locs cells slots) : c.maxLocals = ml := P.1.2.2.2.2.1
theorem Pos.rt (P : Pos p l e R s m args below meth c Z own bytes ml ret nm T h locs cells slots) : meth.sig.returnType = ret := P.1.2.2.2.2.2.1
theorem Pos.lk (P : Pos p l e R s m args below meth c Z own bytes ml ret nm T h locs cells slots) : meth.locks = false := P.1.2.2.2.2.2.2.1
theorem Pos.mn (P : Pos p l e R s m args below meth c Z own bytes ml ret nm T h locs cells slots) : meth.name = nm := P.1.2.2.2.2.2.2.2
theorem Pos.st (P : Pos p l e R s m args below meth c Z own bytes ml ret nm T h locs cells slots) : Stand p l e R s m args below meth c T locs cells slots := P.2.1
theorem Pos.eh (P : Pos p l e R s m args below meth c Z own bytes ml ret nm T h locs cells slots) : T.heap = h := P.2.2
theorem Pos.here (P : Pos p l e R s m args below meth c Z own bytes ml ret nm T h locs cells slots) : At T m c below := P.2.1.here
theorem Go.via {S0 S1 : State} (st : ∀ target, Steps p.tables e below S1 target → Steps p.tables e below S0 target) (k : Go p e below FF S1) : Go p e below FF S0 := by
  obtain ⟨t, o, h1, r⟩ := k
  exact ⟨t, o, st t h1, r⟩
theorem Go.come {S0 S1 : State} (st : Steps p.tables e below S0 S1) (k : Go p e below FF S1) : Go p e below FF S0 := by
  obtain ⟨t, o, h1, r⟩ := k
  exact ⟨t, o, st.trans h1, r⟩
theorem Go.dia {S0 S1 : State} (hh : Go p e below FF S1 → Go p e below FF S0) (kk : Go p e below FF S1) : Go p e below FF S0 := hh kk
theorem Go.all {ι : Type} {S0 : State} {A : ι → Prop} {S1 : ι → State} (hh : (∀ i, A i → Go p e below FF (S1 i)) → Go p e below FF S0) (kk : ∀ i, A i → Go p e below FF (S1 i)) : Go p e below FF S0 := hh kk
theorem sI {a b : Int32} (q : a = b) : some (Value.int a) = some (Value.int b) := by rw [q]
theorem sJ {a b : Int64} (q : a = b) : some (Value.long a) = some (Value.long b) := by rw [q]
theorem sR {a b : Addr} (q : a = b) : some (Value.ref a) = some (Value.ref b) := by rw [q]
theorem met {l : Launch} {Z : State} {y : MethodName} {bytes : ByteArray} {ml : Nat} {ret : Option FieldType} {ws : List Jvm.Cond} {rm : Room} {as' : Array Value} {h0 : Heap} {Ls : Array Slot} {Q : Option Value → Heap → List Loc → Prop} (hn : plainFor y = true) (hf : ∀ m, entryFrame m as' ml = mkF m 0 Ls [])
    (body : ∀ p e s m below meth c T, Pos p l e rm s m as' below meth c Z y.cls bytes ml ret y.name T h0 [] 0 0 → Go p e below (NF s rm.cells rm.slots Q) (T.setTop (mkF m 0 Ls []))) :
    MetFree l y (head1 (Jvm.Cond.code y bytes ml ret :: ws) rm) (fun a U => a = as' ∧ Z.Warmed39 U.vm ∧ U.heap = h0) (fun _ _ _ _ _ => True) (fun _ U o U' => ∃ v L, o = .returned v ∧ Q v U'.heap L ∧ FrameEnd U o U' L rm.cells rm.slots) := by
  refine MetFree.of_bodySF hn hisR ?_
  intro p e s m args below meth c s₁ Bd hml0 hP hK
  obtain ⟨rfl, hZ, hh⟩ := hP
  have X0 : Stand p l e rm s m args below meth c s₁ [] 0 0 := Stand.of_body Bd
  have e0 : s₁.heap = h0 := by rw [← hh, Bd.state]; rfl
  have hlk : meth.locks = false := by first | exact BodyLoose.notSynchronized Bd | exact Bd.locks
  have P : Pos p l e rm s m args below meth c Z y.cls bytes ml ret y.name s₁ h0 [] 0 0 := ⟨⟨Bd.exec, hZ, findClass_of_methodNamed Bd.named, Bd.bytes, hml0, Bd.returns, hlk, (name_of_methodNamed Bd.named Bd.method).1⟩, X0, e0⟩
  obtain ⟨t, o, h1, h2, h3, v, rfl, L, hQ, hF⟩ := body p e s m below meth c s₁ P
  exact ⟨t, _, castTop (hf m) h1, h2, h3, v, L, rfl, hQ, hF⟩
/-! ### plain steps -/
theorem G.aloadN (P : Pos p l e R s m args below meth c Z own bytes ml ret nm T h locs cells slots) {k : Fin 4} {v : Value} (hd : decode bytes pc = .ok (.aload_n k, 1)) (hl : Ls[k.val]? = some (.val v)) (hv : v.isRef = true) (hp : pc + 1 = pc') (kk : Go p e below FF (T.setTop (mkF m pc' Ls (v :: St)))) : Go p e below FF (T.setTop (mkF m pc Ls St)) := by
  subst hp; exact Go.via (fun _ => XS.aloadN P.here P.x rfl (hb P.bt hd) hl hv) kk
theorem G.iloadN (P : Pos p l e R s m args below meth c Z own bytes ml ret nm T h locs cells slots) {k : Fin 4} {v : Int32} (hd : decode bytes pc = .ok (.iload_n k, 1)) (hl : Ls[k.val]? = some (.val (.int v))) (hp : pc + 1 = pc') (kk : Go p e below FF (T.setTop (mkF m pc' Ls (.int v :: St)))) : Go p e below FF (T.setTop (mkF m pc Ls St)) := by
  subst hp; exact Go.via (fun _ => XS.iloadN P.here P.x rfl (hb P.bt hd) hl) kk
theorem G.lloadN (P : Pos p l e R s m args below meth c Z own bytes ml ret nm T h locs cells slots) {k : Fin 4} {v : Int64} (hd : decode bytes pc = .ok (.lload_n k, 1)) (hl : Ls[k.val]? = some (.val (.long v))) (hp : pc + 1 = pc') (kk : Go p e below FF (T.setTop (mkF m pc' Ls (.long v :: St)))) : Go p e below FF (T.setTop (mkF m pc Ls St)) := by
  subst hp; exact Go.via (fun _ => XS.lloadN P.here P.x rfl (hb P.bt hd) hl) kk
theorem G.istoreN (P : Pos p l e R s m args below meth c Z own bytes ml ret nm T h locs cells slots) {k : Fin 4} {x : Int32} {l' : Array Slot} (hd : decode bytes pc = .ok (.istore_n k, 1)) (hl : storeLocals Ls k.val (.int x) = some l') (hp : pc + 1 = pc') (kk : Go p e below FF (T.setTop (mkF m pc' l' St))) : Go p e below FF (T.setTop (mkF m pc Ls (.int x :: St))) := by
  subst hp; exact Go.via (fun _ => XS.istoreN P.here P.x rfl (hb P.bt hd) rfl hl) kk
theorem G.lstoreN (P : Pos p l e R s m args below meth c Z own bytes ml ret nm T h locs cells slots) {k : Fin 4} {x : Int64} {l' : Array Slot} (hd : decode bytes pc = .ok (.lstore_n k, 1)) (hl : storeLocals Ls k.val (.long x) = some l') (hp : pc + 1 = pc') (kk : Go p e below FF (T.setTop (mkF m pc' l' St))) : Go p e below FF (T.setTop (mkF m pc Ls (.long x :: St))) := by
  subst hp; exact Go.via (fun _ => XS.lstoreN P.here P.x rfl (hb P.bt hd) rfl hl) kk
theorem G.astoreN (P : Pos p l e R s m args below meth c Z own bytes ml ret nm T h locs cells slots) {k : Fin 4} {x : Value} {l' : Array Slot} (hd : decode bytes pc = .ok (.astore_n k, 1)) (hv : x.isRef = true) (hl : storeLocals Ls k.val x = some l') (hp : pc + 1 = pc') (kk : Go p e below FF (T.setTop (mkF m pc' l' St))) : Go p e below FF (T.setTop (mkF m pc Ls (x :: St))) := by
  subst hp; exact Go.via (fun _ => XS.astoreN P.here P.x rfl (hb P.bt hd) rfl hv hl) kk
theorem G.aload (P : Pos p l e R s m args below meth c Z own bytes ml ret nm T h locs cells slots) {k : Nat} {v : Value} (hd : decode bytes pc = .ok (.aload k, 2)) (hl : Ls[k]? = some (.val v)) (hv : v.isRef = true) (hp : pc + 2 = pc') (kk : Go p e below FF (T.setTop (mkF m pc' Ls (v :: St)))) : Go p e below FF (T.setTop (mkF m pc Ls St)) := by
  subst hp; exact Go.via (fun _ => XS.aload P.here P.x rfl (hb P.bt hd) hl hv) kk
theorem G.iload (P : Pos p l e R s m args below meth c Z own bytes ml ret nm T h locs cells slots) {k : Nat} {v : Int32} (hd : decode bytes pc = .ok (.iload k, 2)) (hl : Ls[k]? = some (.val (.int v))) (hp : pc + 2 = pc') (kk : Go p e below FF (T.setTop (mkF m pc' Ls (.int v :: St)))) : Go p e below FF (T.setTop (mkF m pc Ls St)) := by
  subst hp; exact Go.via (fun _ => XS.iload P.here P.x rfl (hb P.bt hd) hl) kk
theorem G.lload (P : Pos p l e R s m args below meth c Z own bytes ml ret nm T h locs cells slots) {k : Nat} {v : Int64} (hd : decode bytes pc = .ok (.lload k, 2)) (hl : Ls[k]? = some (.val (.long v))) (hp : pc + 2 = pc') (kk : Go p e below FF (T.setTop (mkF m pc' Ls (.long v :: St)))) : Go p e below FF (T.setTop (mkF m pc Ls St)) := by
  subst hp; exact Go.via (fun _ => XS.lload P.here P.x rfl (hb P.bt hd) hl) kk
theorem G.istore (P : Pos p l e R s m args below meth c Z own bytes ml ret nm T h locs cells slots) {k : Nat} {x : Int32} {l' : Array Slot} (hd : decode bytes pc = .ok (.istore k, 2)) (hl : storeLocals Ls k (.int x) = some l') (hp : pc + 2 = pc') (kk : Go p e below FF (T.setTop (mkF m pc' l' St))) : Go p e below FF (T.setTop (mkF m pc Ls (.int x :: St))) := by
  subst hp; exact Go.via (fun _ => XS.istore P.here P.x rfl (hb P.bt hd) rfl hl) kk
theorem G.lstore (P : Pos p l e R s m args below meth c Z own bytes ml ret nm T h locs cells slots) {k : Nat} {x : Int64} {l' : Array Slot} (hd : decode bytes pc = .ok (.lstore k, 2)) (hl : storeLocals Ls k (.long x) = some l') (hp : pc + 2 = pc') (kk : Go p e below FF (T.setTop (mkF m pc' l' St))) : Go p e below FF (T.setTop (mkF m pc Ls (.long x :: St))) := by
  subst hp; exact Go.via (fun _ => XS.lstore P.here P.x rfl (hb P.bt hd) rfl hl) kk
theorem G.astore (P : Pos p l e R s m args below meth c Z own bytes ml ret nm T h locs cells slots) {k : Nat} {x : Value} {l' : Array Slot} (hd : decode bytes pc = .ok (.astore k, 2)) (hv : x.isRef = true) (hl : storeLocals Ls k x = some l') (hp : pc + 2 = pc') (kk : Go p e below FF (T.setTop (mkF m pc' l' St))) : Go p e below FF (T.setTop (mkF m pc Ls (x :: St))) := by
  subst hp; exact Go.via (fun _ => XS.astore P.here P.x rfl (hb P.bt hd) rfl hv hl) kk
theorem G.iconst (P : Pos p l e R s m args below meth c Z own bytes ml ret nm T h locs cells slots) {i : Int} {z : Int32} (hd : decode bytes pc = .ok (.iconst i, 1)) (hz : Int32.ofInt i = z) (hp : pc + 1 = pc') (kk : Go p e below FF (T.setTop (mkF m pc' Ls (.int z :: St)))) : Go p e below FF (T.setTop (mkF m pc Ls St)) := by
  subst hp hz; exact Go.via (fun _ => XS.iconst P.here P.x rfl (hb P.bt hd) ) kk
theorem G.bipush (P : Pos p l e R s m args below meth c Z own bytes ml ret nm T h locs cells slots) {i : Int} {z : Int32} (hd : decode bytes pc = .ok (.bipush i, 2)) (hz : (Int8.ofInt i).toInt32 = z) (hp : pc + 2 = pc') (kk : Go p e below FF (T.setTop (mkF m pc' Ls (.int z :: St)))) : Go p e below FF (T.setTop (mkF m pc Ls St)) := by
  subst hp hz; exact Go.via (fun _ => XS.bipush P.here P.x rfl (hb P.bt hd) ) kk
theorem G.sipush (P : Pos p l e R s m args below meth c Z own bytes ml ret nm T h locs cells slots) {i : Int} {z : Int32} (hd : decode bytes pc = .ok (.sipush i, 3)) (hz : (Int16.ofInt i).toInt32 = z) (hp : pc + 3 = pc') (kk : Go p e below FF (T.setTop (mkF m pc' Ls (.int z :: St)))) : Go p e below FF (T.setTop (mkF m pc Ls St)) := by
  subst hp hz; exact Go.via (fun _ => XS.sipush P.here P.x rfl (hb P.bt hd) ) kk
theorem G.lconst (P : Pos p l e R s m args below meth c Z own bytes ml ret nm T h locs cells slots) {k : Fin 2} {z : Int64} (hd : decode bytes pc = .ok (.lconst k, 1)) (hz : Int64.ofNat k = z) (hp : pc + 1 = pc') (kk : Go p e below FF (T.setTop (mkF m pc' Ls (.long z :: St)))) : Go p e below FF (T.setTop (mkF m pc Ls St)) := by
  subst hp hz; exact Go.via (fun _ => XS.lconst P.here P.x rfl (hb P.bt hd) ) kk
theorem G.aconstNull (P : Pos p l e R s m args below meth c Z own bytes ml ret nm T h locs cells slots)  (hd : decode bytes pc = .ok (.aconst_null, 1))  (hp : pc + 1 = pc') (kk : Go p e below FF (T.setTop (mkF m pc' Ls (.null :: St)))) : Go p e below FF (T.setTop (mkF m pc Ls St)) := by
  subst hp; exact Go.via (fun _ => XS.aconstNull P.here P.x rfl (hb P.bt hd) ) kk
theorem G.iadd (P : Pos p l e R s m args below meth c Z own bytes ml ret nm T h locs cells slots) {x y z : Int32} (hd : decode bytes pc = .ok (.iadd, 1)) (hz : x + y = z) (hp : pc + 1 = pc') (kk : Go p e below FF (T.setTop (mkF m pc' Ls (.int z :: St)))) : Go p e below FF (T.setTop (mkF m pc Ls (.int y :: .int x :: St))) := by
  subst hp hz; exact Go.via (fun _ => XS.iadd P.here P.x rfl (hb P.bt hd) rfl) kk
theorem G.isub (P : Pos p l e R s m args below meth c Z own bytes ml ret nm T h locs cells slots) {x y z : Int32} (hd : decode bytes pc = .ok (.isub, 1)) (hz : x - y = z) (hp : pc + 1 = pc') (kk : Go p e below FF (T.setTop (mkF m pc' Ls (.int z :: St)))) : Go p e below FF (T.setTop (mkF m pc Ls (.int y :: .int x :: St))) := by
  subst hp hz; exact Go.via (fun _ => XS.isub P.here P.x rfl (hb P.bt hd) rfl) kk
theorem G.imul (P : Pos p l e R s m args below meth c Z own bytes ml ret nm T h locs cells slots) {x y z : Int32} (hd : decode bytes pc = .ok (.imul, 1)) (hz : x * y = z) (hp : pc + 1 = pc') (kk : Go p e below FF (T.setTop (mkF m pc' Ls (.int z :: St)))) : Go p e below FF (T.setTop (mkF m pc Ls (.int y :: .int x :: St))) := by
  subst hp hz; exact Go.via (fun _ => XS.imul P.here P.x rfl (hb P.bt hd) rfl) kk
theorem G.iand (P : Pos p l e R s m args below meth c Z own bytes ml ret nm T h locs cells slots) {x y z : Int32} (hd : decode bytes pc = .ok (.iand, 1)) (hz : x &&& y = z) (hp : pc + 1 = pc') (kk : Go p e below FF (T.setTop (mkF m pc' Ls (.int z :: St)))) : Go p e below FF (T.setTop (mkF m pc Ls (.int y :: .int x :: St))) := by
  subst hp hz; exact Go.via (fun _ => XS.iand P.here P.x rfl (hb P.bt hd) rfl) kk
theorem G.ior (P : Pos p l e R s m args below meth c Z own bytes ml ret nm T h locs cells slots) {x y z : Int32} (hd : decode bytes pc = .ok (.ior, 1)) (hz : x ||| y = z) (hp : pc + 1 = pc') (kk : Go p e below FF (T.setTop (mkF m pc' Ls (.int z :: St)))) : Go p e below FF (T.setTop (mkF m pc Ls (.int y :: .int x :: St))) := by
  subst hp hz; exact Go.via (fun _ => XS.ior P.here P.x rfl (hb P.bt hd) rfl) kk
theorem G.ixor (P : Pos p l e R s m args below meth c Z own bytes ml ret nm T h locs cells slots) {x y z : Int32} (hd : decode bytes pc = .ok (.ixor, 1)) (hz : x ^^^ y = z) (hp : pc + 1 = pc') (kk : Go p e below FF (T.setTop (mkF m pc' Ls (.int z :: St)))) : Go p e below FF (T.setTop (mkF m pc Ls (.int y :: .int x :: St))) := by
  subst hp hz; exact Go.via (fun _ => XS.ixor P.here P.x rfl (hb P.bt hd) rfl) kk
theorem G.ishl (P : Pos p l e R s m args below meth c Z own bytes ml ret nm T h locs cells slots) {x y z : Int32} (hd : decode bytes pc = .ok (.ishl, 1)) (hz : x <<< (y &&& 31) = z) (hp : pc + 1 = pc') (kk : Go p e below FF (T.setTop (mkF m pc' Ls (.int z :: St)))) : Go p e below FF (T.setTop (mkF m pc Ls (.int y :: .int x :: St))) := by
  subst hp hz; exact Go.via (fun _ => XS.ishl P.here P.x rfl (hb P.bt hd) rfl) kk
theorem G.ishr (P : Pos p l e R s m args below meth c Z own bytes ml ret nm T h locs cells slots) {x y z : Int32} (hd : decode bytes pc = .ok (.ishr, 1)) (hz : x >>> (y &&& 31) = z) (hp : pc + 1 = pc') (kk : Go p e below FF (T.setTop (mkF m pc' Ls (.int z :: St)))) : Go p e below FF (T.setTop (mkF m pc Ls (.int y :: .int x :: St))) := by
  subst hp hz; exact Go.via (fun _ => XS.ishr P.here P.x rfl (hb P.bt hd) rfl) kk
theorem G.iushr (P : Pos p l e R s m args below meth c Z own bytes ml ret nm T h locs cells slots) {x y z : Int32} (hd : decode bytes pc = .ok (.iushr, 1)) (hz : ushr x y = z) (hp : pc + 1 = pc') (kk : Go p e below FF (T.setTop (mkF m pc' Ls (.int z :: St)))) : Go p e below FF (T.setTop (mkF m pc Ls (.int y :: .int x :: St))) := by
  subst hp hz; exact Go.via (fun _ => XS.iushr P.here P.x rfl (hb P.bt hd) rfl) kk
theorem G.idiv (P : Pos p l e R s m args below meth c Z own bytes ml ret nm T h locs cells slots) {x y z : Int32} (hd : decode bytes pc = .ok (.idiv, 1)) (hy : y ≠ 0) (hz : x / y = z) (hp : pc + 1 = pc') (kk : Go p e below FF (T.setTop (mkF m pc' Ls (.int z :: St)))) : Go p e below FF (T.setTop (mkF m pc Ls (.int y :: .int x :: St))) := by
  subst hp hz; exact Go.via (fun _ => XS.idiv P.here P.x rfl (hb P.bt hd) rfl hy) kk
theorem G.ladd (P : Pos p l e R s m args below meth c Z own bytes ml ret nm T h locs cells slots) {x y z : Int64} (hd : decode bytes pc = .ok (.ladd, 1)) (hz : x + y = z) (hp : pc + 1 = pc') (kk : Go p e below FF (T.setTop (mkF m pc' Ls (.long z :: St)))) : Go p e below FF (T.setTop (mkF m pc Ls (.long y :: .long x :: St))) := by
  subst hp hz; exact Go.via (fun _ => XS.ladd P.here P.x rfl (hb P.bt hd) rfl) kk
theorem G.lsub (P : Pos p l e R s m args below meth c Z own bytes ml ret nm T h locs cells slots) {x y z : Int64} (hd : decode bytes pc = .ok (.lsub, 1)) (hz : x - y = z) (hp : pc + 1 = pc') (kk : Go p e below FF (T.setTop (mkF m pc' Ls (.long z :: St)))) : Go p e below FF (T.setTop (mkF m pc Ls (.long y :: .long x :: St))) := by
  subst hp hz; exact Go.via (fun _ => XS.lsub P.here P.x rfl (hb P.bt hd) rfl) kk
theorem G.lmul (P : Pos p l e R s m args below meth c Z own bytes ml ret nm T h locs cells slots) {x y z : Int64} (hd : decode bytes pc = .ok (.lmul, 1)) (hz : x * y = z) (hp : pc + 1 = pc') (kk : Go p e below FF (T.setTop (mkF m pc' Ls (.long z :: St)))) : Go p e below FF (T.setTop (mkF m pc Ls (.long y :: .long x :: St))) := by
  subst hp hz; exact Go.via (fun _ => XS.lmul P.here P.x rfl (hb P.bt hd) rfl) kk
theorem G.land (P : Pos p l e R s m args below meth c Z own bytes ml ret nm T h locs cells slots) {x y z : Int64} (hd : decode bytes pc = .ok (.land, 1)) (hz : x &&& y = z) (hp : pc + 1 = pc') (kk : Go p e below FF (T.setTop (mkF m pc' Ls (.long z :: St)))) : Go p e below FF (T.setTop (mkF m pc Ls (.long y :: .long x :: St))) := by
  subst hp hz; exact Go.via (fun _ => XS.land P.here P.x rfl (hb P.bt hd) rfl) kk
theorem G.lor (P : Pos p l e R s m args below meth c Z own bytes ml ret nm T h locs cells slots) {x y z : Int64} (hd : decode bytes pc = .ok (.lor, 1)) (hz : x ||| y = z) (hp : pc + 1 = pc') (kk : Go p e below FF (T.setTop (mkF m pc' Ls (.long z :: St)))) : Go p e below FF (T.setTop (mkF m pc Ls (.long y :: .long x :: St))) := by
  subst hp hz; exact Go.via (fun _ => XS.lor P.here P.x rfl (hb P.bt hd) rfl) kk
theorem G.lxor (P : Pos p l e R s m args below meth c Z own bytes ml ret nm T h locs cells slots) {x y z : Int64} (hd : decode bytes pc = .ok (.lxor, 1)) (hz : x ^^^ y = z) (hp : pc + 1 = pc') (kk : Go p e below FF (T.setTop (mkF m pc' Ls (.long z :: St)))) : Go p e below FF (T.setTop (mkF m pc Ls (.long y :: .long x :: St))) := by
  subst hp hz; exact Go.via (fun _ => XS.lxor P.here P.x rfl (hb P.bt hd) rfl) kk
theorem G.ldiv (P : Pos p l e R s m args below meth c Z own bytes ml ret nm T h locs cells slots) {x y z : Int64} (hd : decode bytes pc = .ok (.ldiv, 1)) (hy : y ≠ 0) (hz : x / y = z) (hp : pc + 1 = pc') (kk : Go p e below FF (T.setTop (mkF m pc' Ls (.long z :: St)))) : Go p e below FF (T.setTop (mkF m pc Ls (.long y :: .long x :: St))) := by
  subst hp hz; exact Go.via (fun _ => XS.ldiv P.here P.x rfl (hb P.bt hd) rfl hy) kk
theorem G.lushr (P : Pos p l e R s m args below meth c Z own bytes ml ret nm T h locs cells slots) {x z : Int64} {y : Int32} (hd : decode bytes pc = .ok (.lushr, 1)) (hz : ushrJ x y = z) (hp : pc + 1 = pc') (kk : Go p e below FF (T.setTop (mkF m pc' Ls (.long z :: St)))) : Go p e below FF (T.setTop (mkF m pc Ls (.int y :: .long x :: St))) := by
  subst hp hz; exact Go.via (fun _ => XS.lushr P.here P.x rfl (hb P.bt hd) rfl) kk
theorem G.lcmp (P : Pos p l e R s m args below meth c Z own bytes ml ret nm T h locs cells slots) {x y : Int64} {z : Int32} (hd : decode bytes pc = .ok (.lcmp, 1)) (hz : lcmpO x y = z) (hp : pc + 1 = pc') (kk : Go p e below FF (T.setTop (mkF m pc' Ls (.int z :: St)))) : Go p e below FF (T.setTop (mkF m pc Ls (.long y :: .long x :: St))) := by
  subst hp hz; exact Go.via (fun _ => XS.lcmp P.here P.x rfl (hb P.bt hd) rfl) kk
theorem G.ineg (P : Pos p l e R s m args below meth c Z own bytes ml ret nm T h locs cells slots) {x : Int32} {z : Int32} (hd : decode bytes pc = .ok (.ineg, 1)) (hz : -x = z) (hp : pc + 1 = pc') (kk : Go p e below FF (T.setTop (mkF m pc' Ls (.int z :: St)))) : Go p e below FF (T.setTop (mkF m pc Ls (.int x :: St))) := by
  subst hp hz; exact Go.via (fun _ => XS.ineg P.here P.x rfl (hb P.bt hd) rfl) kk
theorem G.i2b (P : Pos p l e R s m args below meth c Z own bytes ml ret nm T h locs cells slots) {x : Int32} {z : Int32} (hd : decode bytes pc = .ok (.i2b, 1)) (hz : x.toInt8.toInt32 = z) (hp : pc + 1 = pc') (kk : Go p e below FF (T.setTop (mkF m pc' Ls (.int z :: St)))) : Go p e below FF (T.setTop (mkF m pc Ls (.int x :: St))) := by
  subst hp hz; exact Go.via (fun _ => XS.i2b P.here P.x rfl (hb P.bt hd) rfl) kk
theorem G.i2c (P : Pos p l e R s m args below meth c Z own bytes ml ret nm T h locs cells slots) {x : Int32} {z : Int32} (hd : decode bytes pc = .ok (.i2c, 1)) (hz : x.toUInt32.toUInt16.toUInt32.toInt32 = z) (hp : pc + 1 = pc') (kk : Go p e below FF (T.setTop (mkF m pc' Ls (.int z :: St)))) : Go p e below FF (T.setTop (mkF m pc Ls (.int x :: St))) := by
  subst hp hz; exact Go.via (fun _ => XS.i2c P.here P.x rfl (hb P.bt hd) rfl) kk
theorem G.i2s (P : Pos p l e R s m args below meth c Z own bytes ml ret nm T h locs cells slots) {x : Int32} {z : Int32} (hd : decode bytes pc = .ok (.i2s, 1)) (hz : x.toInt16.toInt32 = z) (hp : pc + 1 = pc') (kk : Go p e below FF (T.setTop (mkF m pc' Ls (.int z :: St)))) : Go p e below FF (T.setTop (mkF m pc Ls (.int x :: St))) := by
  subst hp hz; exact Go.via (fun _ => XS.i2s P.here P.x rfl (hb P.bt hd) rfl) kk
theorem G.i2l (P : Pos p l e R s m args below meth c Z own bytes ml ret nm T h locs cells slots) {x : Int32} {z : Int64} (hd : decode bytes pc = .ok (.i2l, 1)) (hz : x.toInt64 = z) (hp : pc + 1 = pc') (kk : Go p e below FF (T.setTop (mkF m pc' Ls (.long z :: St)))) : Go p e below FF (T.setTop (mkF m pc Ls (.int x :: St))) := by
  subst hp hz; exact Go.via (fun _ => XS.i2l P.here P.x rfl (hb P.bt hd) rfl) kk
theorem G.l2i (P : Pos p l e R s m args below meth c Z own bytes ml ret nm T h locs cells slots) {x : Int64} {z : Int32} (hd : decode bytes pc = .ok (.l2i, 1)) (hz : x.toInt32 = z) (hp : pc + 1 = pc') (kk : Go p e below FF (T.setTop (mkF m pc' Ls (.int z :: St)))) : Go p e below FF (T.setTop (mkF m pc Ls (.long x :: St))) := by
  subst hp hz; exact Go.via (fun _ => XS.l2i P.here P.x rfl (hb P.bt hd) rfl) kk
theorem G.lneg (P : Pos p l e R s m args below meth c Z own bytes ml ret nm T h locs cells slots) {x : Int64} {z : Int64} (hd : decode bytes pc = .ok (.lneg, 1)) (hz : -x = z) (hp : pc + 1 = pc') (kk : Go p e below FF (T.setTop (mkF m pc' Ls (.long z :: St)))) : Go p e below FF (T.setTop (mkF m pc Ls (.long x :: St))) := by
  subst hp hz; exact Go.via (fun _ => XS.lneg P.here P.x rfl (hb P.bt hd) rfl) kk
theorem G.pop (P : Pos p l e R s m args below meth c Z own bytes ml ret nm T h locs cells slots) {x : Value} (hd : decode bytes pc = .ok (.pop, 1)) (hc : x.category = 1) (hp : pc + 1 = pc') (kk : Go p e below FF (T.setTop (mkF m pc' Ls St))) : Go p e below FF (T.setTop (mkF m pc Ls (x :: St))) := by
  subst hp; exact Go.via (fun _ => XS.pop P.here P.x rfl (hb P.bt hd) rfl hc) kk
theorem G.dup (P : Pos p l e R s m args below meth c Z own bytes ml ret nm T h locs cells slots) {x : Value} (hd : decode bytes pc = .ok (.dup, 1)) (hc : x.category = 1) (hp : pc + 1 = pc') (kk : Go p e below FF (T.setTop (mkF m pc' Ls (x :: x :: St)))) : Go p e below FF (T.setTop (mkF m pc Ls (x :: St))) := by
  subst hp; exact Go.via (fun _ => XS.dup P.here P.x rfl (hb P.bt hd) rfl hc) kk
theorem G.dupX1 (P : Pos p l e R s m args below meth c Z own bytes ml ret nm T h locs cells slots) {x y : Value} (hd : decode bytes pc = .ok (.dup_x1, 1)) (hc : x.category = 1) (hc2 : y.category = 1) (hp : pc + 1 = pc') (kk : Go p e below FF (T.setTop (mkF m pc' Ls (x :: y :: x :: St)))) : Go p e below FF (T.setTop (mkF m pc Ls (x :: y :: St))) := by
  subst hp; exact Go.via (fun _ => XS.dupX1 P.here P.x rfl (hb P.bt hd) rfl hc hc2) kk
theorem G.iinc (P : Pos p l e R s m args below meth c Z own bytes ml ret nm T h locs cells slots) {k : Nat} {cst : Int} {x z : Int32} {l' : Array Slot} (hd : decode bytes pc = .ok (.iinc k cst, 3)) (hl : Ls[k]? = some (.val (.int x))) (hz : x + Int32.ofInt cst = z) (hl' : storeLocals Ls k (.int z) = some l') (hp : pc + 3 = pc') (kk : Go p e below FF (T.setTop (mkF m pc' l' St))) : Go p e below FF (T.setTop (mkF m pc Ls St)) := by
  subst hp hz; exact Go.via (fun _ => XS.iinc P.here P.x rfl (hb P.bt hd) hl hl') kk
theorem G.dup2 (P : Pos p l e R s m args below meth c Z own bytes ml ret nm T h locs cells slots) {x y : Value} (hd : decode bytes pc = .ok (.dup2, 1)) (hc : x.category = 1) (hc2 : y.category = 1) (hp : pc + 1 = pc') (kk : Go p e below FF (T.setTop (mkF m pc' Ls (x :: y :: x :: y :: St)))) : Go p e below FF (T.setTop (mkF m pc Ls (x :: y :: St))) := by
  subst hp; exact Go.via (fun _ => XT.dup2 P.here P.x rfl (hb P.bt hd) rfl hc hc2) kk
theorem G.dupX2 (P : Pos p l e R s m args below meth c Z own bytes ml ret nm T h locs cells slots) {x y w : Value} (hd : decode bytes pc = .ok (.dup_x2, 1)) (hc : x.category = 1) (hc2 : y.category = 1) (hc3 : w.category = 1) (hp : pc + 1 = pc') (kk : Go p e below FF (T.setTop (mkF m pc' Ls (x :: y :: w :: x :: St)))) : Go p e below FF (T.setTop (mkF m pc Ls (x :: y :: w :: St))) := by
  subst hp
  refine Go.via (S1 := T.setTop (mkF m (pc + 1) Ls (x :: y :: w :: x :: St))) (fun target hr => ?_) kk
  have hd' := hb P.bt hd
  have hx := P.x
  show Steps p.tables e below (T.setTop { method := m, pc := pc, locals := Ls, stack := x :: y :: w :: St, locked := none }) _
  jvm_step P.here [P.here.top, hx, hd', hc, hc2, hc3]
  exact hr
theorem G.goto (P : Pos p l e R s m args below meth c Z own bytes ml ret nm T h locs cells slots) {o : Int} (hd : decode bytes pc = .ok (.goto o, 3)) (ho : 0 ≤ (pc : Int) + o) (hp : ((pc : Int) + o).toNat = pc') (kk : Go p e below FF (T.setTop (mkF m pc' Ls St))) : Go p e below FF (T.setTop (mkF m pc Ls St)) :=
  Go.via (fun _ => XS.goto P.here P.x rfl (pc0 := pc) rfl (hb P.bt hd) ho hp) kk
theorem G.irem (P : Pos p l e R s m args below meth c Z own bytes ml ret nm T h locs cells slots) {x y z : Int32} (hd : decode bytes pc = .ok (.irem, 1)) (hy : y ≠ 0) (hz : x % y = z) (hp : pc + 1 = pc') (kk : Go p e below FF (T.setTop (mkF m pc' Ls (.int z :: St)))) : Go p e below FF (T.setTop (mkF m pc Ls (.int y :: .int x :: St))) := by
  subst hp hz; exact Go.via (fun _ => iremM (g := mkF m pc Ls (.int y :: .int x :: St)) P.st P.x rfl (hb P.bt hd) rfl hy) kk
theorem G.ldcI (P : Pos p l e R s m args below meth c Z own bytes ml ret nm T h locs cells slots) {i : Nat} {v : Int32} (w : (Jvm.Cond.constant own i v).before a0 Z = true) (hd : decode bytes pc = .ok (.ldc i, 2)) (hp : pc + 2 = pc') (kk : Go p e below FF (T.setTop (mkF m pc' Ls (.int v :: St)))) : Go p e below FF (T.setTop (mkF m pc Ls St)) := by
  subst hp; exact Go.via (P.st.ldcInt P.x P.ow (mvT P.z w) (g := mkF m pc Ls St) rfl (hb P.bt hd)) kk
theorem G.ldcJ (P : Pos p l e R s m args below meth c Z own bytes ml ret nm T h locs cells slots) {i : Nat} {v : Int64} (w : (Jvm.Cond.constantLong own i v).before a0 Z = true) (hd : decode bytes pc = .ok (.ldc2_w i, 3)) (hp : pc + 3 = pc') (kk : Go p e below FF (T.setTop (mkF m pc' Ls (.long v :: St)))) : Go p e below FF (T.setTop (mkF m pc Ls St)) := by
  subst hp; exact Go.via (P.st.ldc2Long P.x P.ow (mvT P.z w) (g := mkF m pc Ls St) rfl (hb P.bt hd)) kk
/-! ### branches -/
theorem G.icmp (P : Pos p l e R s m args below meth c Z own bytes ml ret nm T h locs cells slots) {cd : ClassFile.Cond} {x y : Int32} {o : Int} {pcY pcN : Nat} (hd : decode bytes pc = .ok (.if_icmp cd o, 3)) (ho : 0 ≤ (pc : Int) + o) (hp : ((pc : Int) + o).toNat = pcY) (hn : pc + 3 = pcN)
    (hY : if_icmp.holds cd x y = true → Go p e below FF (T.setTop (mkF m pcY Ls St))) (hN : if_icmp.holds cd x y = false → Go p e below FF (T.setTop (mkF m pcN Ls St))) : Go p e below FF (T.setTop (mkF m pc Ls (.int y :: .int x :: St))) := by
  subst hn
  cases hc : if_icmp.holds cd x y
  · exact Go.via (fun _ => XS.icmpNo P.here P.x rfl (hb P.bt hd) rfl hc) (hN hc)
  · exact Go.via (fun _ => XS.icmpYes P.here P.x rfl (pc0 := pc) rfl (hb P.bt hd) rfl hc ho hp) (hY hc)
theorem G.if0 (P : Pos p l e R s m args below meth c Z own bytes ml ret nm T h locs cells slots) {cd : ClassFile.Cond} {x : Int32} {o : Int} {pcY pcN : Nat} (hd : decode bytes pc = .ok (.ifCond cd o, 3)) (ho : 0 ≤ (pc : Int) + o) (hp : ((pc : Int) + o).toNat = pcY) (hn : pc + 3 = pcN)
    (hY : if_icmp.holds cd x 0 = true → Go p e below FF (T.setTop (mkF m pcY Ls St))) (hN : if_icmp.holds cd x 0 = false → Go p e below FF (T.setTop (mkF m pcN Ls St))) : Go p e below FF (T.setTop (mkF m pc Ls (.int x :: St))) := by
  subst hn
  cases hc : if_icmp.holds cd x 0
  · exact Go.via (fun _ => XS.ifNo P.here P.x rfl (hb P.bt hd) rfl ((Jvm.RoadKit.if0 _ _).trans hc)) (hN hc)
  · exact Go.via (fun _ => XS.ifYes P.here P.x rfl (pc0 := pc) rfl (hb P.bt hd) rfl ((Jvm.RoadKit.if0 _ _).trans hc) ho hp) (hY hc)
theorem h_eq {x y : Int32} : (if_icmp.holds .eq x y = true → x = y) ∧ (if_icmp.holds .eq x y = false → ¬ x = y) := ⟨fun h => Classical.byContradiction fun q => (by rw [(feq q).1] at h; cases h), fun h q => (by rw [(teq q).1] at h; cases h)⟩
theorem h_ne {x y : Int32} : (if_icmp.holds .ne x y = true → ¬ x = y) ∧ (if_icmp.holds .ne x y = false → x = y) := ⟨fun h q => (by rw [(teq q).2] at h; cases h), fun h => Classical.byContradiction fun q => (by rw [(feq q).2] at h; cases h)⟩
theorem h_lt {x y : Int32} : (if_icmp.holds .lt x y = true → x < y) ∧ (if_icmp.holds .lt x y = false → ¬ x < y) := ⟨fun h => Classical.byContradiction fun q => (by rw [(flt q).1] at h; cases h), fun h q => (by rw [(tlt q).1] at h; cases h)⟩
theorem h_ge {x y : Int32} : (if_icmp.holds .ge x y = true → ¬ x < y) ∧ (if_icmp.holds .ge x y = false → x < y) := ⟨fun h q => (by rw [(tlt q).2.1] at h; cases h), fun h => Classical.byContradiction fun q => (by rw [(flt q).2.1] at h; cases h)⟩
theorem h_gt {x y : Int32} : (if_icmp.holds .gt x y = true → y < x) ∧ (if_icmp.holds .gt x y = false → ¬ y < x) := ⟨fun h => Classical.byContradiction fun q => (by rw [(flt q).2.2.1] at h; cases h), fun h q => (by rw [(tlt q).2.2.1] at h; cases h)⟩
theorem h_le {x y : Int32} : (if_icmp.holds .le x y = true → ¬ y < x) ∧ (if_icmp.holds .le x y = false → y < x) := ⟨fun h q => (by rw [(tlt q).2.2.2] at h; cases h), fun h => Classical.byContradiction fun q => (by rw [(flt q).2.2.2] at h; cases h)⟩
theorem G.icmp_eq (P : Pos p l e R s m args below meth c Z own bytes ml ret nm T h locs cells slots) {x y : Int32} {o : Int} {pcY pcN : Nat} (hd : decode bytes pc = .ok (.if_icmp .eq o, 3)) (ho : 0 ≤ (pc : Int) + o) (hp : ((pc : Int) + o).toNat = pcY) (hn : pc + 3 = pcN) (hY : x = y → Go p e below FF (T.setTop (mkF m pcY Ls St))) (hN : ¬ x = y → Go p e below FF (T.setTop (mkF m pcN Ls St))) : Go p e below FF (T.setTop (mkF m pc Ls (.int y :: .int x :: St))) :=
  G.icmp P hd ho hp hn (fun q => hY (h_eq.1 q)) (fun q => hN (h_eq.2 q))
theorem G.if_eq (P : Pos p l e R s m args below meth c Z own bytes ml ret nm T h locs cells slots) {x : Int32} {o : Int} {pcY pcN : Nat} (hd : decode bytes pc = .ok (.ifCond .eq o, 3)) (ho : 0 ≤ (pc : Int) + o) (hp : ((pc : Int) + o).toNat = pcY) (hn : pc + 3 = pcN) (hY : x = 0 → Go p e below FF (T.setTop (mkF m pcY Ls St))) (hN : ¬ x = 0 → Go p e below FF (T.setTop (mkF m pcN Ls St))) : Go p e below FF (T.setTop (mkF m pc Ls (.int x :: St))) :=
  G.if0 P hd ho hp hn (fun q => hY (h_eq.1 q)) (fun q => hN (h_eq.2 q))
theorem G.icmp_ne (P : Pos p l e R s m args below meth c Z own bytes ml ret nm T h locs cells slots) {x y : Int32} {o : Int} {pcY pcN : Nat} (hd : decode bytes pc = .ok (.if_icmp .ne o, 3)) (ho : 0 ≤ (pc : Int) + o) (hp : ((pc : Int) + o).toNat = pcY) (hn : pc + 3 = pcN) (hY : ¬ x = y → Go p e below FF (T.setTop (mkF m pcY Ls St))) (hN : x = y → Go p e below FF (T.setTop (mkF m pcN Ls St))) : Go p e below FF (T.setTop (mkF m pc Ls (.int y :: .int x :: St))) :=
  G.icmp P hd ho hp hn (fun q => hY (h_ne.1 q)) (fun q => hN (h_ne.2 q))
theorem G.if_ne (P : Pos p l e R s m args below meth c Z own bytes ml ret nm T h locs cells slots) {x : Int32} {o : Int} {pcY pcN : Nat} (hd : decode bytes pc = .ok (.ifCond .ne o, 3)) (ho : 0 ≤ (pc : Int) + o) (hp : ((pc : Int) + o).toNat = pcY) (hn : pc + 3 = pcN) (hY : ¬ x = 0 → Go p e below FF (T.setTop (mkF m pcY Ls St))) (hN : x = 0 → Go p e below FF (T.setTop (mkF m pcN Ls St))) : Go p e below FF (T.setTop (mkF m pc Ls (.int x :: St))) :=
  G.if0 P hd ho hp hn (fun q => hY (h_ne.1 q)) (fun q => hN (h_ne.2 q))
theorem G.icmp_lt (P : Pos p l e R s m args below meth c Z own bytes ml ret nm T h locs cells slots) {x y : Int32} {o : Int} {pcY pcN : Nat} (hd : decode bytes pc = .ok (.if_icmp .lt o, 3)) (ho : 0 ≤ (pc : Int) + o) (hp : ((pc : Int) + o).toNat = pcY) (hn : pc + 3 = pcN) (hY : x < y → Go p e below FF (T.setTop (mkF m pcY Ls St))) (hN : ¬ x < y → Go p e below FF (T.setTop (mkF m pcN Ls St))) : Go p e below FF (T.setTop (mkF m pc Ls (.int y :: .int x :: St))) :=
  G.icmp P hd ho hp hn (fun q => hY (h_lt.1 q)) (fun q => hN (h_lt.2 q))
theorem G.if_lt (P : Pos p l e R s m args below meth c Z own bytes ml ret nm T h locs cells slots) {x : Int32} {o : Int} {pcY pcN : Nat} (hd : decode bytes pc = .ok (.ifCond .lt o, 3)) (ho : 0 ≤ (pc : Int) + o) (hp : ((pc : Int) + o).toNat = pcY) (hn : pc + 3 = pcN) (hY : x < 0 → Go p e below FF (T.setTop (mkF m pcY Ls St))) (hN : ¬ x < 0 → Go p e below FF (T.setTop (mkF m pcN Ls St))) : Go p e below FF (T.setTop (mkF m pc Ls (.int x :: St))) :=
  G.if0 P hd ho hp hn (fun q => hY (h_lt.1 q)) (fun q => hN (h_lt.2 q))
theorem G.icmp_ge (P : Pos p l e R s m args below meth c Z own bytes ml ret nm T h locs cells slots) {x y : Int32} {o : Int} {pcY pcN : Nat} (hd : decode bytes pc = .ok (.if_icmp .ge o, 3)) (ho : 0 ≤ (pc : Int) + o) (hp : ((pc : Int) + o).toNat = pcY) (hn : pc + 3 = pcN) (hY : ¬ x < y → Go p e below FF (T.setTop (mkF m pcY Ls St))) (hN : x < y → Go p e below FF (T.setTop (mkF m pcN Ls St))) : Go p e below FF (T.setTop (mkF m pc Ls (.int y :: .int x :: St))) :=
  G.icmp P hd ho hp hn (fun q => hY (h_ge.1 q)) (fun q => hN (h_ge.2 q))
theorem G.if_ge (P : Pos p l e R s m args below meth c Z own bytes ml ret nm T h locs cells slots) {x : Int32} {o : Int} {pcY pcN : Nat} (hd : decode bytes pc = .ok (.ifCond .ge o, 3)) (ho : 0 ≤ (pc : Int) + o) (hp : ((pc : Int) + o).toNat = pcY) (hn : pc + 3 = pcN) (hY : ¬ x < 0 → Go p e below FF (T.setTop (mkF m pcY Ls St))) (hN : x < 0 → Go p e below FF (T.setTop (mkF m pcN Ls St))) : Go p e below FF (T.setTop (mkF m pc Ls (.int x :: St))) :=
  G.if0 P hd ho hp hn (fun q => hY (h_ge.1 q)) (fun q => hN (h_ge.2 q))
theorem G.icmp_gt (P : Pos p l e R s m args below meth c Z own bytes ml ret nm T h locs cells slots) {x y : Int32} {o : Int} {pcY pcN : Nat} (hd : decode bytes pc = .ok (.if_icmp .gt o, 3)) (ho : 0 ≤ (pc : Int) + o) (hp : ((pc : Int) + o).toNat = pcY) (hn : pc + 3 = pcN) (hY : y < x → Go p e below FF (T.setTop (mkF m pcY Ls St))) (hN : ¬ y < x → Go p e below FF (T.setTop (mkF m pcN Ls St))) : Go p e below FF (T.setTop (mkF m pc Ls (.int y :: .int x :: St))) :=
  G.icmp P hd ho hp hn (fun q => hY (h_gt.1 q)) (fun q => hN (h_gt.2 q))
theorem G.if_gt (P : Pos p l e R s m args below meth c Z own bytes ml ret nm T h locs cells slots) {x : Int32} {o : Int} {pcY pcN : Nat} (hd : decode bytes pc = .ok (.ifCond .gt o, 3)) (ho : 0 ≤ (pc : Int) + o) (hp : ((pc : Int) + o).toNat = pcY) (hn : pc + 3 = pcN) (hY : 0 < x → Go p e below FF (T.setTop (mkF m pcY Ls St))) (hN : ¬ 0 < x → Go p e below FF (T.setTop (mkF m pcN Ls St))) : Go p e below FF (T.setTop (mkF m pc Ls (.int x :: St))) :=
  G.if0 P hd ho hp hn (fun q => hY (h_gt.1 q)) (fun q => hN (h_gt.2 q))
theorem G.icmp_le (P : Pos p l e R s m args below meth c Z own bytes ml ret nm T h locs cells slots) {x y : Int32} {o : Int} {pcY pcN : Nat} (hd : decode bytes pc = .ok (.if_icmp .le o, 3)) (ho : 0 ≤ (pc : Int) + o) (hp : ((pc : Int) + o).toNat = pcY) (hn : pc + 3 = pcN) (hY : ¬ y < x → Go p e below FF (T.setTop (mkF m pcY Ls St))) (hN : y < x → Go p e below FF (T.setTop (mkF m pcN Ls St))) : Go p e below FF (T.setTop (mkF m pc Ls (.int y :: .int x :: St))) :=
  G.icmp P hd ho hp hn (fun q => hY (h_le.1 q)) (fun q => hN (h_le.2 q))
theorem G.if_le (P : Pos p l e R s m args below meth c Z own bytes ml ret nm T h locs cells slots) {x : Int32} {o : Int} {pcY pcN : Nat} (hd : decode bytes pc = .ok (.ifCond .le o, 3)) (ho : 0 ≤ (pc : Int) + o) (hp : ((pc : Int) + o).toNat = pcY) (hn : pc + 3 = pcN) (hY : ¬ 0 < x → Go p e below FF (T.setTop (mkF m pcY Ls St))) (hN : 0 < x → Go p e below FF (T.setTop (mkF m pcN Ls St))) : Go p e below FF (T.setTop (mkF m pc Ls (.int x :: St))) :=
  G.if0 P hd ho hp hn (fun q => hY (h_le.1 q)) (fun q => hN (h_le.2 q))
theorem G.acmp_eq (P : Pos p l e R s m args below meth c Z own bytes ml ret nm T h locs cells slots) {a b : Addr} {o : Int} {pcY pcN : Nat} (hd : decode bytes pc = .ok (.if_acmp .eq o, 3)) (ho : 0 ≤ (pc : Int) + o) (hp : ((pc : Int) + o).toNat = pcY) (hn : pc + 3 = pcN)
    (hY : a = b → Go p e below FF (T.setTop (mkF m pcY Ls St))) (hN : ¬ a = b → Go p e below FF (T.setTop (mkF m pcN Ls St))) : Go p e below FF (T.setTop (mkF m pc Ls (.ref b :: .ref a :: St))) := by
  subst hn
  by_cases hc : a = b
  · refine Go.via (fun _ => XS.acmpYes P.here P.x rfl (pc0 := pc) rfl (hb P.bt hd) rfl ?_ ho hp) (hY hc)
    simp [if_acmp.holds, hc]
  · refine Go.via (fun _ => XS.acmpNo P.here P.x rfl (hb P.bt hd) rfl ?_) (hN hc)
    simp [if_acmp.holds, hc]
theorem G.acmp_ne (P : Pos p l e R s m args below meth c Z own bytes ml ret nm T h locs cells slots) {a b : Addr} {o : Int} {pcY pcN : Nat} (hd : decode bytes pc = .ok (.if_acmp .ne o, 3)) (ho : 0 ≤ (pc : Int) + o) (hp : ((pc : Int) + o).toNat = pcY) (hn : pc + 3 = pcN)
    (hY : ¬ a = b → Go p e below FF (T.setTop (mkF m pcY Ls St))) (hN : a = b → Go p e below FF (T.setTop (mkF m pcN Ls St))) : Go p e below FF (T.setTop (mkF m pc Ls (.ref b :: .ref a :: St))) := by
  subst hn
  by_cases hc : a = b
  · refine Go.via (fun _ => XS.acmpNo P.here P.x rfl (hb P.bt hd) rfl ?_) (hN hc)
    simp [if_acmp.holds, hc]
  · refine Go.via (fun _ => XS.acmpYes P.here P.x rfl (pc0 := pc) rfl (hb P.bt hd) rfl ?_ ho hp) (hY hc)
    simp [if_acmp.holds, hc]
theorem G.acmpNe (P : Pos p l e R s m args below meth c Z own bytes ml ret nm T h locs cells slots) {cd : ACond} {x y : Value} (h1 : x.isRef = true) (h2 : y.isRef = true) (hq : ¬ x = y) {o : Int} {pcT : Nat} (hd : decode bytes pc = .ok (.if_acmp cd o, 3)) (ho : 0 ≤ (pc : Int) + o) (hp : pcT = if acV cd false = true then ((pc : Int) + o).toNat else pc + 3)
    (kk : Go p e below FF (T.setTop (mkF m pcT Ls St))) : Go p e below FF (T.setTop (mkF m pc Ls (y :: x :: St))) :=
  Go.via (fun _ => Jvm.RoadKit.acmp (g := mkF m pc Ls (y :: x :: St)) P.st P.x rfl h1 h2 (pc0 := pc) rfl (hb P.bt hd) rfl (decide_eq_false hq) ho hp) kk
theorem G.acmpEq (P : Pos p l e R s m args below meth c Z own bytes ml ret nm T h locs cells slots) {cd : ACond} {x y : Value} (h1 : x.isRef = true) (h2 : y.isRef = true) (hq : x = y) {o : Int} {pcT : Nat} (hd : decode bytes pc = .ok (.if_acmp cd o, 3)) (ho : 0 ≤ (pc : Int) + o) (hp : pcT = if acV cd true = true then ((pc : Int) + o).toNat else pc + 3)
    (kk : Go p e below FF (T.setTop (mkF m pcT Ls St))) : Go p e below FF (T.setTop (mkF m pc Ls (y :: x :: St))) :=
  Go.via (fun _ => Jvm.RoadKit.acmp (g := mkF m pc Ls (y :: x :: St)) P.st P.x rfl h1 h2 (pc0 := pc) rfl (hb P.bt hd) rfl (decide_eq_true hq) ho hp) kk
theorem G.ifnullY (P : Pos p l e R s m args below meth c Z own bytes ml ret nm T h locs cells slots) {o : Int} (hd : decode bytes pc = .ok (.ifnull o, 3)) (ho : 0 ≤ (pc : Int) + o) (hp : ((pc : Int) + o).toNat = pc') (kk : Go p e below FF (T.setTop (mkF m pc' Ls St))) : Go p e below FF (T.setTop (mkF m pc Ls (.null :: St))) :=
  Go.via (fun _ => XS.ifnullYes P.here P.x rfl (pc0 := pc) rfl (hb P.bt hd) rfl ho hp) kk
theorem G.ifnullN (P : Pos p l e R s m args below meth c Z own bytes ml ret nm T h locs cells slots) {o : Int} {b : Addr} (hd : decode bytes pc = .ok (.ifnull o, 3)) (hp : pc + 3 = pc') (kk : Go p e below FF (T.setTop (mkF m pc' Ls St))) : Go p e below FF (T.setTop (mkF m pc Ls (.ref b :: St))) := by
  subst hp; exact Go.via (fun _ => XS.ifnullNo P.here P.x rfl (hb P.bt hd) rfl) kk
theorem G.ifnonnullY (P : Pos p l e R s m args below meth c Z own bytes ml ret nm T h locs cells slots) {o : Int} {b : Addr} (hd : decode bytes pc = .ok (.ifnonnull o, 3)) (ho : 0 ≤ (pc : Int) + o) (hp : ((pc : Int) + o).toNat = pc') (kk : Go p e below FF (T.setTop (mkF m pc' Ls St))) : Go p e below FF (T.setTop (mkF m pc Ls (.ref b :: St))) :=
  Go.via (fun _ => XS.ifnonnullYes P.here P.x rfl (pc0 := pc) rfl (hb P.bt hd) rfl ho hp) kk
theorem G.ifnonnullN (P : Pos p l e R s m args below meth c Z own bytes ml ret nm T h locs cells slots) {o : Int} (hd : decode bytes pc = .ok (.ifnonnull o, 3)) (hp : pc + 3 = pc') (kk : Go p e below FF (T.setTop (mkF m pc' Ls St))) : Go p e below FF (T.setTop (mkF m pc Ls (.null :: St))) := by
  subst hp; exact Go.via (fun _ => XS.ifnonnullNo P.here P.x rfl (hb P.bt hd) rfl) kk
/-! ### the heap -/
theorem G.getF (P : Pos p l e R s m args below meth c Z own bytes ml ret nm T h locs cells slots) {R0 O n d host : String} {i : Nat} (w : (Jvm.Cond.fieldLink own i R0 n d).before a0 Z = true ∨ (Jvm.Cond.fieldLinkNest own i R0 n d host).before a0 Z = true) (via : Via Z R0 O n d) {a : Addr} {v : Value} (F : Fld Z h a O n d v) (hd : decode bytes pc = .ok (.getfield i, 3)) (hp : pc + 3 = pc')
    (kk : ∀ T', Pos p l e R s m args below meth c Z own bytes ml ret nm T' h locs cells slots → Go p e below FF (T'.setTop (mkF m pc' Ls (v :: St)))) : Go p e below FF (T.setTop (mkF m pc Ls (.ref a :: St))) := by
  subst hp
  obtain ⟨T', X', e', st⟩ := Jvm.RoadKit.getF P.st P.x P.z P.ow w via P.eh F (g := mkF m pc Ls (.ref a :: St)) rfl rfl (hb P.bt hd)
  exact Go.via st (kk T' ⟨P.1, X', e'⟩)
theorem G.putF (P : Pos p l e R s m args below meth c Z own bytes ml ret nm T h locs cells slots) {R0 O n d host C : String} {i kn : Nat} {ty : FieldType} (w : (Jvm.Cond.fieldLink own i R0 n d).before a0 Z = true ∨ (Jvm.Cond.fieldLinkNest own i R0 n d host).before a0 Z = true) (via : Via Z R0 O n d) {a : Addr} {v old : Value} (F : Fld Z h a O n d old) (E : Exa Z h a C)
    (L : (Jvm.Cond.lays C O n d).before a0 Z = true ∨ ((Jvm.Cond.laysFinal C O n d).before a0 Z = true ∧ own = O ∧ nm = "<init>")) (wi : (Jvm.Cond.instantiable C kn).before a0 Z = true) (hty : parseFieldDescriptor d = some ty) (hn : narrow ty v = v) (hf : fits ty v = true) (hd : decode bytes pc = .ok (.putfield i, 3)) (hp : pc + 3 = pc')
    (kk : ∀ T' h', Pos p l e R s m args below meth c Z own bytes ml ret nm T' h' (locs ++ [⟨a, Jvm.RoadKit.slotOf Z O n d⟩]) cells slots → Wr h h' a (Jvm.RoadKit.slotOf Z O n d) v → Go p e below FF (T'.setTop (mkF m pc' Ls St))) : Go p e below FF (T.setTop (mkF m pc Ls (v :: .ref a :: St))) := by
  subst hp
  obtain ⟨T', h', X', e', W, st⟩ := Jvm.RoadKit.putF P.st P.x P.z P.ow w via P.eh F E (L.imp id fun q => ⟨q.1, q.2.1, P.mn.trans q.2.2⟩) wi hty hn hf (g := mkF m pc Ls (v :: .ref a :: St)) rfl rfl (hb P.bt hd)
  exact Go.via st (kk T' h' ⟨P.1, X', e'⟩ W)
theorem G.putFN (P : Pos p l e R s m args below meth c Z own bytes ml ret nm T h locs cells slots) {R0 O n d C : String} {i kn : Nat} {ty : FieldType} (w : (Jvm.Cond.fieldLink own i R0 n d).before a0 Z = true) (via : Via Z R0 O n d) {a : Addr} {v v' old : Value} (F : Fld Z h a O n d old) (E : Exa Z h a C)
    (L : (Jvm.Cond.lays C O n d).before a0 Z = true ∨ ((Jvm.Cond.laysFinal C O n d).before a0 Z = true ∧ own = O ∧ nm = "<init>")) (wi : (Jvm.Cond.instantiable C kn).before a0 Z = true) (hty : parseFieldDescriptor d = some ty) (hn : narrow ty v = v') (hf : fits ty v' = true) (hd : decode bytes pc = .ok (.putfield i, 3)) (hp : pc + 3 = pc')
    (kk : ∀ T' h', Pos p l e R s m args below meth c Z own bytes ml ret nm T' h' (locs ++ [⟨a, Jvm.RoadKit.slotOf Z O n d⟩]) cells slots → Wr h h' a (Jvm.RoadKit.slotOf Z O n d) v' → Go p e below FF (T'.setTop (mkF m pc' Ls St))) : Go p e below FF (T.setTop (mkF m pc Ls (v :: .ref a :: St))) := by
  subst hp
  obtain ⟨T', h', X', e', W, st⟩ := Jvm.RoadKit.putFN P.st P.x P.z P.ow w via P.eh F E (L.imp id fun q => ⟨q.1, q.2.1, P.mn.trans q.2.2⟩) wi hty hn hf (g := mkF m pc Ls (v :: .ref a :: St)) rfl rfl (hb P.bt hd)
  exact Go.via st (kk T' h' ⟨P.1, X', e'⟩ W)
theorem G.getS (P : Pos p l e R s m args below meth c Z own bytes ml ret nm T h locs cells slots) {R0 O n d host : String} {i : Nat} (w : (Jvm.Cond.fieldLink own i R0 n d).before a0 Z = true ∨ (Jvm.Cond.fieldLinkNest own i R0 n d host).before a0 Z = true) (via : Via Z R0 O n d) {v : Value} (F : Sta Z h O n d v) (hd : decode bytes pc = .ok (.getstatic i, 3)) (hp : pc + 3 = pc')
    (kk : ∀ T', Pos p l e R s m args below meth c Z own bytes ml ret nm T' h locs cells slots → Go p e below FF (T'.setTop (mkF m pc' Ls (v :: St)))) : Go p e below FF (T.setTop (mkF m pc Ls St)) := by
  subst hp
  obtain ⟨T', X', e', st⟩ := getS2 P.st P.x P.z P.ow w via P.eh F (g := mkF m pc Ls St) rfl (hb P.bt hd)
  exact Go.via st (kk T' ⟨P.1, X', e'⟩)
theorem G.newO (P : Pos p l e R s m args below meth c Z own bytes ml ret nm T h locs cells slots) {C : String} {i n : Nat} (w : (Jvm.Cond.classLink own i C).before a0 Z = true) (wi : (Jvm.Cond.instantiable C n).before a0 Z = true) (wz : (Jvm.Cond.initialized C).before a0 Z = true) (hd : decode bytes pc = .ok (.new i, 3)) (hro : cells + 1 ≤ R.cells ∧ slots + n ≤ R.slots) (hp : pc + 3 = pc')
    (kk : ∀ T' h' a, a = h.size → Pos p l e R s m args below meth c Z own bytes ml ret nm T' h' locs (cells + 1) (slots + n) → Ext h h' → Exa Z h' a C → (∀ {O fn d : String} {ty : FieldType}, Laid Z a0 C O fn d → parseFieldDescriptor d = some ty → Fld Z h' a O fn d (defaultValue ty)) → Go p e below FF (T'.setTop (mkF m pc' Ls (.ref a :: St)))) : Go p e below FF (T.setTop (mkF m pc Ls St)) := by
  subst hp
  obtain ⟨T', h', X', e', E, A, D, -, st⟩ := Jvm.RoadKit.newO P.st P.x P.z P.ow w wi wz P.eh (g := mkF m pc Ls St) rfl (hb P.bt hd) hro.1 hro.2
  exact Go.via st (kk T' h' h.size rfl ⟨P.1, X', e'⟩ E A D)
theorem G.newP (P : Pos p l e R s m args below meth c Z own bytes ml ret nm T h locs cells slots) {aty : ArrayType} (w : (Jvm.Cond.arrayClass (newarray.typeOf aty)).before a0 Z = true) {n : Int32} (hn : ¬ n < 0) {cap : Nat} (hcap : n.toNatClampNeg ≤ cap) (hbb : cap * 8 ≤ 536870912) (hro : cells + 1 ≤ R.cells ∧ slots + cap ≤ R.slots) (hd : decode bytes pc = .ok (.newarray aty, 2)) (hp : pc + 2 = pc')
    (kk : ∀ T' h' a k, a = h.size → Pos p l e R s m args below meth c Z own bytes ml ret nm T' h' locs (cells + 1) (slots + cap) → Ext h h' → Arv Z h' a k (newarray.typeOf aty) n [] (defaultValue (newarray.typeOf aty)) → Go p e below FF (T'.setTop (mkF m pc' Ls (.ref a :: St)))) : Go p e below FF (T.setTop (mkF m pc Ls (.int n :: St))) := by
  subst hp
  obtain ⟨T', h', k, X', e', E, A, st⟩ := Jvm.RoadKit.newP P.st P.x P.z w P.eh (g := mkF m pc Ls (.int n :: St)) rfl (hb P.bt hd) rfl hn hcap hbb hro.1 hro.2
  exact Go.via st (kk T' h' h.size k rfl ⟨P.1, X', e'⟩ E (Arv.new A hn))
theorem G.alen (P : Pos p l e R s m args below meth c Z own bytes ml ret nm T h locs cells slots) {a : Addr} {k : ClassId} {ty : FieldType} {z : Int32} {vs : List Value} {dv : Value} (V : Arv Z h a k ty z vs dv) (hd : decode bytes pc = .ok (.arraylength, 1)) (hp : pc + 1 = pc')
    (kk : Go p e below FF (T.setTop (mkF m pc' Ls (.int z :: St)))) : Go p e below FF (T.setTop (mkF m pc Ls (.ref a :: St))) := by
  subst hp
  obtain ⟨cl, A, -, S, N, -⟩ := V
  refine Go.via (fun t => P.st.arraylength P.x (cell := cl) (by rw [P.eh]; exact A.1) (State.isArrayOf_alike P.z.alike A.2.1) (g := mkF m pc Ls (.ref a :: St)) rfl rfl (hb P.bt hd) t) ?_
  rw [len_of S N]; exact kk
theorem G.stI (P : Pos p l e R s m args below meth c Z own bytes ml ret nm T h locs cells slots) {a : Addr} {k : ClassId} {z : Int32} {vs : List Value} {dv : Value} (V : Arv Z h a k .int z vs dv) {j x : Int32} (i : Nat) (hi : j.toNatClampNeg = i) (hin : ¬ j < 0 ∧ j < z) (hl : i < vs.length) (hd : decode bytes pc = .ok (.iastore, 1)) (hp : pc + 1 = pc')
    (kk : ∀ T' h', Pos p l e R s m args below meth c Z own bytes ml ret nm T' h' (locs ++ [⟨a, i⟩]) cells slots → Wr h h' a i (.int x) → Arv Z h' a k .int z (vs.set i (.int x)) dv → Go p e below FF (T'.setTop (mkF m pc' Ls St))) : Go p e below FF (T.setTop (mkF m pc Ls (.int x :: .int j :: .ref a :: St))) := by
  subst hp hi
  obtain ⟨cl, A, q1, S, N, H, Gf⟩ := V
  obtain ⟨T', h', X', e', W, st⟩ := Jvm.RoadKit.stI P.st P.x P.z P.eh A (inb_of S hin) (g := mkF m pc Ls (.int x :: .int j :: .ref a :: St)) rfl rfl (hb P.bt hd)
  exact Go.via st (kk T' h' ⟨P.1, X', e'⟩ W (Arv.set A q1 S N H Gf rfl W _ rfl hl))
theorem G.stB (P : Pos p l e R s m args below meth c Z own bytes ml ret nm T h locs cells slots) {a : Addr} {k : ClassId} {z : Int32} {vs : List Value} {dv : Value} (V : Arv Z h a k .byte z vs dv) {j x : Int32} (i : Nat) (hi : j.toNatClampNeg = i) (hin : ¬ j < 0 ∧ j < z) (hl : i < vs.length) (hd : decode bytes pc = .ok (.bastore, 1)) (hp : pc + 1 = pc')
    (kk : ∀ T' h', Pos p l e R s m args below meth c Z own bytes ml ret nm T' h' (locs ++ [⟨a, i⟩]) cells slots → Wr h h' a i (.int (nar .byte x)) → Arv Z h' a k .byte z (vs.set i (.int (nar .byte x))) dv → Go p e below FF (T'.setTop (mkF m pc' Ls St))) : Go p e below FF (T.setTop (mkF m pc Ls (.int x :: .int j :: .ref a :: St))) := by
  subst hp hi
  obtain ⟨cl, A, q1, S, N, H, Gf⟩ := V
  obtain ⟨T', h', X', e', W, st⟩ := Jvm.RoadKit.stB P.st P.x P.z P.eh A (inb_of S hin) (g := mkF m pc Ls (.int x :: .int j :: .ref a :: St)) rfl rfl (hb P.bt hd)
  exact Go.via st (kk T' h' ⟨P.1, X', e'⟩ W (Arv.set A q1 S N H Gf (fits_nar_byte _) W _ rfl hl))
theorem G.stZ (P : Pos p l e R s m args below meth c Z own bytes ml ret nm T h locs cells slots) {a : Addr} {k : ClassId} {z : Int32} {vs : List Value} {dv : Value} (V : Arv Z h a k .boolean z vs dv) {j x : Int32} (i : Nat) (hi : j.toNatClampNeg = i) (hin : ¬ j < 0 ∧ j < z) (hl : i < vs.length) (hd : decode bytes pc = .ok (.bastore, 1)) (hp : pc + 1 = pc')
    (kk : ∀ T' h', Pos p l e R s m args below meth c Z own bytes ml ret nm T' h' (locs ++ [⟨a, i⟩]) cells slots → Wr h h' a i (.int (nar .boolean x)) → Arv Z h' a k .boolean z (vs.set i (.int (nar .boolean x))) dv → Go p e below FF (T'.setTop (mkF m pc' Ls St))) : Go p e below FF (T.setTop (mkF m pc Ls (.int x :: .int j :: .ref a :: St))) := by
  subst hp hi
  obtain ⟨cl, A, q1, S, N, H, Gf⟩ := V
  obtain ⟨T', h', X', e', W, st⟩ := Jvm.RoadKit.stZ P.st P.x P.z P.eh A (inb_of S hin) (g := mkF m pc Ls (.int x :: .int j :: .ref a :: St)) rfl rfl (hb P.bt hd)
  exact Go.via st (kk T' h' ⟨P.1, X', e'⟩ W (Arv.set A q1 S N H Gf (fits_nar_bool _) W _ rfl hl))
theorem G.stC (P : Pos p l e R s m args below meth c Z own bytes ml ret nm T h locs cells slots) {a : Addr} {k : ClassId} {z : Int32} {vs : List Value} {dv : Value} (V : Arv Z h a k .char z vs dv) {j x : Int32} (i : Nat) (hi : j.toNatClampNeg = i) (hin : ¬ j < 0 ∧ j < z) (hl : i < vs.length) (hd : decode bytes pc = .ok (.castore, 1)) (hp : pc + 1 = pc')
    (kk : ∀ T' h', Pos p l e R s m args below meth c Z own bytes ml ret nm T' h' (locs ++ [⟨a, i⟩]) cells slots → Wr h h' a i (.int (nar .char x)) → Arv Z h' a k .char z (vs.set i (.int (nar .char x))) dv → Go p e below FF (T'.setTop (mkF m pc' Ls St))) : Go p e below FF (T.setTop (mkF m pc Ls (.int x :: .int j :: .ref a :: St))) := by
  subst hp hi
  obtain ⟨cl, A, q1, S, N, H, Gf⟩ := V
  obtain ⟨T', h', X', e', W, st⟩ := Jvm.RoadKit.stC P.st P.x P.z P.eh A (inb_of S hin) (g := mkF m pc Ls (.int x :: .int j :: .ref a :: St)) rfl rfl (hb P.bt hd)
  exact Go.via st (kk T' h' ⟨P.1, X', e'⟩ W (Arv.set A q1 S N H Gf (fits_nar_char _) W _ rfl hl))
theorem G.iaload (P : Pos p l e R s m args below meth c Z own bytes ml ret nm T h locs cells slots) {a : Addr} {k : ClassId} {z : Int32} {vs : List Value} {dv : Value} (V : Arv Z h a k .int z vs dv) {j : Int32} {v : Value} (hin : ¬ j < 0 ∧ j < z) (hv : vs.getD j.toNatClampNeg dv = v) (hd : decode bytes pc = .ok (.iaload, 1)) (hp : pc + 1 = pc')
    (kk : Go p e below FF (T.setTop (mkF m pc' Ls (v :: St)))) : Go p e below FF (T.setTop (mkF m pc Ls (.int j :: .ref a :: St))) := by
  subst hp
  obtain ⟨cl, A, q1, S, N, H, Gf⟩ := V
  have hb' := inb_of S hin
  exact Go.via (fun t => P.st.iaload P.x (by rw [P.eh]; exact A.1) (State.isArrayOf_alike P.z.alike A.2.1) A.2.2 hb' (Has.at H hb' hv) (g := mkF m pc Ls (.int j :: .ref a :: St)) rfl rfl (hb P.bt hd) t) kk
theorem G.baloadB (P : Pos p l e R s m args below meth c Z own bytes ml ret nm T h locs cells slots) {a : Addr} {k : ClassId} {z : Int32} {vs : List Value} {dv : Value} (V : Arv Z h a k .byte z vs dv) {j : Int32} {v : Value} (hin : ¬ j < 0 ∧ j < z) (hv : vs.getD j.toNatClampNeg dv = v) (hd : decode bytes pc = .ok (.baload, 1)) (hp : pc + 1 = pc')
    (kk : Go p e below FF (T.setTop (mkF m pc' Ls (v :: St)))) : Go p e below FF (T.setTop (mkF m pc Ls (.int j :: .ref a :: St))) := by
  subst hp
  obtain ⟨cl, A, q1, S, N, H, Gf⟩ := V
  have hb' := inb_of S hin
  exact Go.via (fun t => P.st.baloadBytes P.x (by rw [P.eh]; exact A.1) (State.isArrayOf_alike P.z.alike A.2.1) A.2.2 hb' (Has.at H hb' hv) (g := mkF m pc Ls (.int j :: .ref a :: St)) rfl rfl (hb P.bt hd) t) kk
theorem G.baloadZ (P : Pos p l e R s m args below meth c Z own bytes ml ret nm T h locs cells slots) {a : Addr} {k : ClassId} {z : Int32} {vs : List Value} {dv : Value} (V : Arv Z h a k .boolean z vs dv) {j : Int32} {v : Value} (hin : ¬ j < 0 ∧ j < z) (hv : vs.getD j.toNatClampNeg dv = v) (hd : decode bytes pc = .ok (.baload, 1)) (hp : pc + 1 = pc')
    (kk : Go p e below FF (T.setTop (mkF m pc' Ls (v :: St)))) : Go p e below FF (T.setTop (mkF m pc Ls (.int j :: .ref a :: St))) := by
  subst hp
  obtain ⟨cl, A, q1, S, N, H, Gf⟩ := V
  have hb' := inb_of S hin
  exact Go.via (fun t => P.st.baloadBooleans P.x (by rw [P.eh]; exact A.1) (State.isArrayOf_alike P.z.alike A.2.1) A.2.2 hb' (Has.at H hb' hv) (g := mkF m pc Ls (.int j :: .ref a :: St)) rfl rfl (hb P.bt hd) t) kk
theorem G.aaload (P : Pos p l e R s m args below meth c Z own bytes ml ret nm T h locs cells slots) {a : Addr} {k : ClassId} {ty : FieldType} {z : Int32} {vs : List Value} {dv : Value} (V : Arv Z h a k ty z vs dv) (hty : ty.isReference = true) {j : Int32} {v : Value} (hin : ¬ j < 0 ∧ j < z) (hv : vs.getD j.toNatClampNeg dv = v) (hd : decode bytes pc = .ok (.aaload, 1)) (hp : pc + 1 = pc')
    (kk : Go p e below FF (T.setTop (mkF m pc' Ls (v :: St)))) : Go p e below FF (T.setTop (mkF m pc Ls (.int j :: .ref a :: St))) := by
  subst hp
  obtain ⟨cl, A, q1, S, N, H, Gf⟩ := V
  have hb' := inb_of S hin
  exact Go.via (fun t => P.st.aaload P.x (by rw [P.eh]; exact A.1) (State.isArrayOf_alike P.z.alike A.2.1) hty A.2.2 hb' (Has.at H hb' hv) (g := mkF m pc Ls (.int j :: .ref a :: St)) rfl rfl (hb P.bt hd) t) kk
/-! ### returns -/
theorem Go.end_ {S0 : State} (P : Pos p l e R s m args below meth c Z own bytes ml ret nm T h locs cells slots) {v : Option Value} (hv : ret = none → v = none) (hc : cells ≤ cs) (hs : slots ≤ ss) (hq : Q v h locs)
    (st : ∀ fs, (∀ (f : JFrame) (acts : List Action), f.method = m → f.locked = none → f.entered = [] → (doReturn e (T.setTop f) acts v).1 = T.setFrames fs) → Steps p.tables e below S0 (T.setFrames fs)) : Go p e below (NF s cs ss Q) S0 := by
  have hlk := P.lk
  obtain ⟨fs, hr, hrun, hended, hW, hsame⟩ := P.st.leave (v := v) (fun q => hv (P.rt.symm.trans q)) hlk
  refine ⟨_, _, st fs hr, hrun, hended, _, rfl, _, ?_, ⟨_, rfl⟩, hW, hsame.mono hc hs⟩
  have q : (T.setFrames fs).heap = h := P.eh
  rw [q]; exact hq
theorem G.retI (P : Pos p l e R s m args below meth c Z own bytes ml (some .int) nm T h locs cells slots) {z : Int32} (hd : decode bytes pc = .ok (.ireturn, 1)) (hc : cells ≤ cs) (hs : slots ≤ ss) (hq : Q (some (.int z)) h locs) : Go p e below (NF s cs ss Q) (T.setTop (mkF m pc Ls (.int z :: St))) :=
  Go.end_ P (fun q => by cases q) hc hs hq (fun fs hr => Jvm.RoadKit.retI P.st P.x P.rt (hb P.bt hd) hr)
theorem G.retN (P : Pos p l e R s m args below meth c Z own bytes ml ret nm T h locs cells slots) {z : Int32} {t : FieldType} (ht : ret = some t) (ht2 : t = .boolean ∨ t = .byte ∨ t = .char ∨ t = .short) (hd : decode bytes pc = .ok (.ireturn, 1)) (hc : cells ≤ cs) (hs : slots ≤ ss) (hq : Q (some (.int (nar t z))) h locs) : Go p e below (NF s cs ss Q) (T.setTop (mkF m pc Ls (.int z :: St))) :=
  Go.end_ P (fun q => by rw [ht] at q; cases q) hc hs hq (fun fs hr => Jvm.RoadKit.retN P.st P.x (P.rt.trans ht) ht2 (hb P.bt hd) hr)
theorem G.retV (P : Pos p l e R s m args below meth c Z own bytes ml none nm T h locs cells slots) (hd : decode bytes pc = .ok (.return_, 1)) (hc : cells ≤ cs) (hs : slots ≤ ss) (hq : Q none h locs) : Go p e below (NF s cs ss Q) (T.setTop (mkF m pc Ls [])) :=
  Go.end_ P (fun _ => rfl) hc hs hq (fun fs hr => P.st.returnOut P.x P.rt (hb P.bt hd) hr)
theorem G.retA (P : Pos p l e R s m args below meth c Z own bytes ml ret nm T h locs cells slots) {w : Value} {t : FieldType} (ht : ret = some t) (ht2 : t.isReference = true) (hw : w.isRef = true) (hd : decode bytes pc = .ok (.areturn, 1)) (hc : cells ≤ cs) (hs : slots ≤ ss) (hq : Q (some w) h locs) : Go p e below (NF s cs ss Q) (T.setTop (mkF m pc Ls [w])) :=
  Go.end_ P (fun q => by rw [ht] at q; cases q) hc hs hq (fun fs hr => P.st.areturnOut P.x hw (P.rt.trans ht) ht2 (hb P.bt hd) hr)
theorem G.retJ (P : Pos p l e R s m args below meth c Z own bytes ml (some .long) nm T h locs cells slots) {w : Int64} (hd : decode bytes pc = .ok (.lreturn, 1)) (hc : cells ≤ cs) (hs : slots ≤ ss) (hq : Q (some (.long w)) h locs) : Go p e below (NF s cs ss Q) (T.setTop (mkF m pc Ls [.long w])) :=
  Go.end_ P (fun q => by cases q) hc hs hq (fun fs hr => P.st.lreturnOut P.x P.rt (hb P.bt hd) hr)
/-! ### calls -/
theorem Pos.re (P : Pos p l e R s m args below meth c Z own bytes ml ret nm T h locs cells slots) {T' : State} {h' : Heap} {locs' : List Loc} {cells' slots' : Nat} (X' : Stand p l e R s m args below meth c T' locs' cells' slots') (e' : T'.heap = h') : Pos p l e R s m args below meth c Z own bytes ml ret nm T' h' locs' cells' slots' := ⟨P.1, X', e'⟩
theorem G.callS (P : Pos p l e R s m args below meth c Z own bytes ml ret nm T h locs cells slots) {y : MethodName} {by' : ByteArray} {ml' : Nat} {ret' : Option FieldType} {i : Nat} {rm : Room} {as' : Array Value} {Qc : Option Value → Heap → List Loc → Prop} (hM : OMeets l Z y by' ml' ret' rm as' h Qc)
    (w1 : (Jvm.Cond.methodLink own i y).before a0 Z = true) (w2 : (Jvm.Cond.static y).before a0 Z = true) (w3 : (Jvm.Cond.initialized y.cls).before a0 Z = true) (w4 : (Jvm.Cond.code y by' ml' ret').before a0 Z = true)
    (hy : y.cls ≠ "java/lang/invoke/MethodHandle" ∧ y.cls ≠ "java/lang/invoke/VarHandle") {ps : List FieldType} {r : Option FieldType} (hds : parseMethodDescriptor y.desc = some ⟨ps, r⟩) {argsL rest : List Value} (hal : argsL.length = ps.length) (hst : argsL.reverse ++ rest = St) (has : argsL.toArray = as') (hsz : Ls.size = ml)
    {W : Nat} (hW : (rest.map fun v => v.category).sum ≤ W) (hro : rm.frames + 1 ≤ R.frames ∧ W + (ml' + 11) + rm.locals ≤ R.locals ∧ cells + rm.cells ≤ R.cells ∧ slots + rm.slots ≤ R.slots)
    (hd : decode bytes pc = .ok (.invokestatic i, 3)) (hp : pc + 3 = pc')
    (kk : ∀ T' L v, Pos p l e R s m args below meth c Z own bytes ml ret nm T' T'.heap (locs ++ L) (cells + rm.cells) (slots + rm.slots) → Qc v T'.heap L → Go p e below FF (T'.setTop (mkF m pc' Ls (v.toList ++ rest)))) : Go p e below FF (T.setTop (mkF m pc Ls St)) := by
  subst hp hst has
  obtain ⟨v, _, ⟨T', L', k', n'⟩, -, X', ⟨Lc, hQ, l1, l2, l3⟩, st⟩ := Jvm.LawKit.callS P.st P.x (y := y) P.ow (mvT P.z w1) (mvT P.z w2) (mvT P.z w3) (mvT P.z w4) hy (backOf (W := W) hM P.z w4 w3 hro.1 hro.2.1) (g := mkF m pc Ls (argsL.reverse ++ rest)) rfl (by rw [P.mx]; exact hsz) (argsL := argsL) (rest := rest) (lenOf hds hal) rfl (by show 2 * 0 + _ ≤ _; omega) (hb P.bt hd) (fun _ _ => ⟨rfl, P.eh, hro.2.2.1, hro.2.2.2⟩)
  dsimp only [Pt.U, Pt.locs, Pt.cells, Pt.slots] at X' l1 l2 l3 st hQ
  subst l1 l2 l3
  exact Go.via st (kk T' Lc v ⟨P.1, X', rfl⟩ hQ)
theorem G.callSP (P : Pos p l e R s m args below meth c Z own bytes ml ret nm T h locs cells slots) {y : MethodName} {by' : ByteArray} {ml' : Nat} {ret' : Option FieldType} {i fr lo : Nat} {as' : Array Value} {v0 : Option Value} (hM : OMeets l Z y by' ml' ret' ⟨fr, 0, 0, lo⟩ as' h (OPure v0 h))
    (w1 : (Jvm.Cond.methodLink own i y).before a0 Z = true) (w2 : (Jvm.Cond.static y).before a0 Z = true) (w3 : (Jvm.Cond.initialized y.cls).before a0 Z = true) (w4 : (Jvm.Cond.code y by' ml' ret').before a0 Z = true)
    (hy : y.cls ≠ "java/lang/invoke/MethodHandle" ∧ y.cls ≠ "java/lang/invoke/VarHandle") {ps : List FieldType} {r : Option FieldType} (hds : parseMethodDescriptor y.desc = some ⟨ps, r⟩) {argsL rest : List Value} (hal : argsL.length = ps.length) (hst : argsL.reverse ++ rest = St) (has : argsL.toArray = as') (hsz : Ls.size = ml)
    {W : Nat} (hW : (rest.map fun v => v.category).sum ≤ W) (hro : fr + 1 ≤ R.frames ∧ W + (ml' + 11) + lo ≤ R.locals ∧ cells ≤ R.cells ∧ slots ≤ R.slots)
    (hd : decode bytes pc = .ok (.invokestatic i, 3)) (hp : pc + 3 = pc')
    (kk : ∀ T', Pos p l e R s m args below meth c Z own bytes ml ret nm T' h locs cells slots → Go p e below FF (T'.setTop (mkF m pc' Ls (v0.toList ++ rest)))) : Go p e below FF (T.setTop (mkF m pc Ls St)) := by
  refine G.callS P hM w1 w2 w3 w4 hy hds hal hst has hsz hW hro hd hp fun T' L v P' hQ => ?_
  obtain ⟨rfl, e, rfl⟩ := hQ
  rw [List.append_nil] at P'
  exact kk T' ⟨P'.1, P'.2.1, e⟩
theorem G.callV (P : Pos p l e R s m args below meth c Z own bytes ml ret nm T h locs cells slots) {C : String} {y z : MethodName} {by' : ByteArray} {ml' : Nat} {ret' : Option FieldType} {i : Nat} {rm : Room} {as' : Array Value} {Qc : Option Value → Heap → List Loc → Prop} (hM : OMeets l Z z by' ml' ret' rm as' h Qc)
    (w1 : (Jvm.Cond.methodLink own i y).before a0 Z = true) (w2 : (Jvm.Cond.declares y).before a0 Z = true) (w3 : (Jvm.Cond.selects C y z).before a0 Z = true) (hyz : y = z) (w4 : (Jvm.Cond.instanceMethod z).before a0 Z = true) (w5 : (Jvm.Cond.initialized z.cls).before a0 Z = true) (w6 : (Jvm.Cond.code z by' ml' ret').before a0 Z = true)
    (hy : y.cls ≠ "java/lang/invoke/MethodHandle" ∧ y.cls ≠ "java/lang/invoke/VarHandle") {b : Addr} (E : Exa Z h b C) {ps : List FieldType} {r : Option FieldType} (hds : parseMethodDescriptor y.desc = some ⟨ps, r⟩) {argsL rest : List Value} (hal : argsL.length = ps.length) (hst : argsL.reverse ++ .ref b :: rest = St) (has : (.ref b :: argsL).toArray = as') (hsz : Ls.size = ml)
    {W : Nat} (hW : (rest.map fun v => v.category).sum ≤ W) (hro : rm.frames + 1 ≤ R.frames ∧ W + (ml' + 11) + rm.locals ≤ R.locals ∧ cells + rm.cells ≤ R.cells ∧ slots + rm.slots ≤ R.slots)
    (hd : decode bytes pc = .ok (.invokevirtual i, 3)) (hp : pc + 3 = pc')
    (kk : ∀ T' L v, Pos p l e R s m args below meth c Z own bytes ml ret nm T' T'.heap (locs ++ L) (cells + rm.cells) (slots + rm.slots) → Qc v T'.heap L → Go p e below FF (T'.setTop (mkF m pc' Ls (v.toList ++ rest)))) : Go p e below FF (T.setTop (mkF m pc Ls St)) := by
  subst hp hst has hyz
  obtain ⟨cB, kB, q1, q2, q3⟩ := isOf P.z P.eh E
  obtain ⟨v, _, ⟨T', L', k', n'⟩, -, X', ⟨Lc, hQ, l1, l2, l3⟩, st⟩ := P.st.virtualBack P.x (y := y) (z := y) P.ow (mvT P.z w1) (mvT P.z w2) (notFace_of_selects (args := #[]) (mvT P.z w3)) (mvT P.z w3) (mvT P.z w4) hy (backOf (W := W) hM P.z w6 w5 hro.1 hro.2.1) q1 q3 (g := mkF m pc Ls (argsL.reverse ++ .ref b :: rest)) rfl (by rw [P.mx]; exact hsz) (Steps.refl _) (argsL := argsL) (rest := rest) (lenOf hds hal) rfl (by show 2 * 0 + _ ≤ _; omega) (hb P.bt hd) (fun _ _ => ⟨rfl, P.eh, hro.2.2.1, hro.2.2.2⟩)
  dsimp only [Pt.U, Pt.locs, Pt.cells, Pt.slots] at X' l1 l2 l3 st hQ
  subst l1 l2 l3
  exact Go.come st (kk T' Lc v ⟨P.1, X', rfl⟩ hQ)
theorem G.callVP (P : Pos p l e R s m args below meth c Z own bytes ml ret nm T h locs cells slots) {C : String} {y z : MethodName} {by' : ByteArray} {ml' : Nat} {ret' : Option FieldType} {i fr lo : Nat} {as' : Array Value} {v0 : Option Value} (hM : OMeets l Z z by' ml' ret' ⟨fr, 0, 0, lo⟩ as' h (OPure v0 h))
    (w1 : (Jvm.Cond.methodLink own i y).before a0 Z = true) (w2 : (Jvm.Cond.declares y).before a0 Z = true) (w3 : (Jvm.Cond.selects C y z).before a0 Z = true) (hyz : y = z) (w4 : (Jvm.Cond.instanceMethod z).before a0 Z = true) (w5 : (Jvm.Cond.initialized z.cls).before a0 Z = true) (w6 : (Jvm.Cond.code z by' ml' ret').before a0 Z = true)
    (hy : y.cls ≠ "java/lang/invoke/MethodHandle" ∧ y.cls ≠ "java/lang/invoke/VarHandle") {b : Addr} (E : Exa Z h b C) {ps : List FieldType} {r : Option FieldType} (hds : parseMethodDescriptor y.desc = some ⟨ps, r⟩) {argsL rest : List Value} (hal : argsL.length = ps.length) (hst : argsL.reverse ++ .ref b :: rest = St) (has : (.ref b :: argsL).toArray = as') (hsz : Ls.size = ml)
    {W : Nat} (hW : (rest.map fun v => v.category).sum ≤ W) (hro : fr + 1 ≤ R.frames ∧ W + (ml' + 11) + lo ≤ R.locals ∧ cells ≤ R.cells ∧ slots ≤ R.slots)
    (hd : decode bytes pc = .ok (.invokevirtual i, 3)) (hp : pc + 3 = pc')
    (kk : ∀ T', Pos p l e R s m args below meth c Z own bytes ml ret nm T' h locs cells slots → Go p e below FF (T'.setTop (mkF m pc' Ls (v0.toList ++ rest)))) : Go p e below FF (T.setTop (mkF m pc Ls St)) := by
  refine G.callV P hM w1 w2 w3 hyz w4 w5 w6 hy E hds hal hst has hsz hW hro hd hp fun T' L v P' hQ => ?_
  obtain ⟨rfl, e, rfl⟩ := hQ
  rw [List.append_nil] at P'
  exact kk T' ⟨P'.1, P'.2.1, e⟩
theorem G.callI (P : Pos p l e R s m args below meth c Z own bytes ml ret nm T h locs cells slots) {y : MethodName} {by' : ByteArray} {ml' : Nat} {i : Nat} {rm : Room} {as' : Array Value} {Qc : Option Value → Heap → List Loc → Prop} (hM : OMeets l Z y by' ml' none rm as' h Qc) (hyn : y.name = "<init>")
    (w1 : (Jvm.Cond.methodLink own i y).before a0 Z = true) (w2 : (Jvm.Cond.instanceMethod y).before a0 Z = true) (w3 : (Jvm.Cond.initialized y.cls).before a0 Z = true) (w4 : (Jvm.Cond.code y by' ml' none).before a0 Z = true)
    (hy : y.cls ≠ "java/lang/invoke/MethodHandle" ∧ y.cls ≠ "java/lang/invoke/VarHandle") {b : Addr} {ps : List FieldType} {r : Option FieldType} (hds : parseMethodDescriptor y.desc = some ⟨ps, r⟩) {argsL rest : List Value} (hal : argsL.length = ps.length) (hst : argsL.reverse ++ .ref b :: rest = St) (has : (.ref b :: argsL).toArray = as') (hsz : Ls.size = ml)
    {W : Nat} (hW : (rest.map fun v => v.category).sum ≤ W) (hro : rm.frames + 1 ≤ R.frames ∧ W + (ml' + 11) + rm.locals ≤ R.locals ∧ cells + rm.cells ≤ R.cells ∧ slots + rm.slots ≤ R.slots)
    (hd : decode bytes pc = .ok (.invokespecial i, 3)) (hp : pc + 3 = pc')
    (kk : ∀ T' L v, Pos p l e R s m args below meth c Z own bytes ml ret nm T' T'.heap (locs ++ L) (cells + rm.cells) (slots + rm.slots) → Qc v T'.heap L → Go p e below FF (T'.setTop (mkF m pc' Ls (v.toList ++ rest)))) : Go p e below FF (T.setTop (mkF m pc Ls St)) := by
  subst hp hst has
  obtain ⟨v, _, ⟨T', L', k', n'⟩, -, X', ⟨Lc, hQ, l1, l2, l3⟩, st⟩ := P.st.specialBack P.x (y := y) hyn P.ow (mvT P.z w1) (mvT P.z w2) (mvT P.z w4) hy (backOf (W := W) hM P.z w4 w3 hro.1 hro.2.1) (g := mkF m pc Ls (argsL.reverse ++ .ref b :: rest)) rfl (by rw [P.mx]; exact hsz) (Steps.refl _) (a := b) (argsL := argsL) (rest := rest) (lenOf hds hal) rfl (by show 2 * 0 + _ ≤ _; omega) (hb P.bt hd) (fun _ _ => ⟨rfl, P.eh, hro.2.2.1, hro.2.2.2⟩)
  dsimp only [Pt.U, Pt.locs, Pt.cells, Pt.slots] at X' l1 l2 l3 st hQ
  subst l1 l2 l3
  exact Go.come st (kk T' Lc v ⟨P.1, X', rfl⟩ hQ)
theorem G.callIP (P : Pos p l e R s m args below meth c Z own bytes ml ret nm T h locs cells slots) {y : MethodName} {by' : ByteArray} {ml' : Nat} {i fr lo : Nat} {as' : Array Value} {v0 : Option Value} (hM : OMeets l Z y by' ml' none ⟨fr, 0, 0, lo⟩ as' h (OPure v0 h)) (hyn : y.name = "<init>")
    (w1 : (Jvm.Cond.methodLink own i y).before a0 Z = true) (w2 : (Jvm.Cond.instanceMethod y).before a0 Z = true) (w3 : (Jvm.Cond.initialized y.cls).before a0 Z = true) (w4 : (Jvm.Cond.code y by' ml' none).before a0 Z = true)
    (hy : y.cls ≠ "java/lang/invoke/MethodHandle" ∧ y.cls ≠ "java/lang/invoke/VarHandle") {b : Addr} {ps : List FieldType} {r : Option FieldType} (hds : parseMethodDescriptor y.desc = some ⟨ps, r⟩) {argsL rest : List Value} (hal : argsL.length = ps.length) (hst : argsL.reverse ++ .ref b :: rest = St) (has : (.ref b :: argsL).toArray = as') (hsz : Ls.size = ml)
    {W : Nat} (hW : (rest.map fun v => v.category).sum ≤ W) (hro : fr + 1 ≤ R.frames ∧ W + (ml' + 11) + lo ≤ R.locals ∧ cells ≤ R.cells ∧ slots ≤ R.slots)
    (hd : decode bytes pc = .ok (.invokespecial i, 3)) (hp : pc + 3 = pc')
    (kk : ∀ T', Pos p l e R s m args below meth c Z own bytes ml ret nm T' h locs cells slots → Go p e below FF (T'.setTop (mkF m pc' Ls (v0.toList ++ rest)))) : Go p e below FF (T.setTop (mkF m pc Ls St)) := by
  refine G.callI P hM hyn w1 w2 w3 w4 hy hds hal hst has hsz hW hro hd hp fun T' L v P' hQ => ?_
  obtain ⟨rfl, e, rfl⟩ := hQ
  rw [List.append_nil] at P'
  exact kk T' ⟨P'.1, P'.2.1, e⟩
theorem Pos.more (P : Pos p l e R s m args below meth c Z own bytes ml ret nm T h locs cells slots) {cells' slots' : Nat} (hc : cells ≤ cells') (hs : slots ≤ slots') : Pos p l e R s m args below meth c Z own bytes ml ret nm T h locs cells' slots' :=
  ⟨P.1, P.st.more hc hs, P.2.2⟩
theorem G.callF (P : Pos p l e R s m args below meth c Z own bytes ml ret nm T h locs cells slots) {C : String} {xi y : MethodName} {by' : ByteArray} {ml' : Nat} {ret' : Option FieldType} {i cnt : Nat} {rm : Room} {as' : Array Value} {Qc : Option Value → Heap → List Loc → Prop} (hM : OMeets l Z y by' ml' ret' rm as' h Qc)
    (w1 : (Jvm.Cond.methodLink own i xi).before a0 Z = true) (w2 : (Jvm.Cond.declares xi).before a0 Z = true) (w3 : (Jvm.Cond.interfaceMethod xi.cls xi.cls xi.name xi.desc).before a0 Z = true) (w4 : (Jvm.Cond.selects C xi y).before a0 Z = true) (w5 : (Jvm.Cond.instanceMethod y).before a0 Z = true)
    (w6 : (Jvm.Cond.publicMethod y).before a0 Z = true) (w7 : (Jvm.Cond.unhidden C xi.name xi.desc).before a0 Z = true) (w8 : (Jvm.Cond.castable C xi.cls).before a0 Z = true) (w9 : (Jvm.Cond.initialized y.cls).before a0 Z = true) (w10 : (Jvm.Cond.code y by' ml' ret').before a0 Z = true)
    (hy : xi.cls ≠ "java/lang/invoke/MethodHandle" ∧ xi.cls ≠ "java/lang/invoke/VarHandle") {b : Addr} (E : Exa Z h b C) {ps : List FieldType} {r : Option FieldType} (hds : parseMethodDescriptor xi.desc = some ⟨ps, r⟩) {argsL rest : List Value} (hal : argsL.length = ps.length) (hst : argsL.reverse ++ .ref b :: rest = St) (has : (.ref b :: argsL).toArray = as') (hsz : Ls.size = ml)
    {W : Nat} (hW : (rest.map fun v => v.category).sum ≤ W) (hro : rm.frames + 1 ≤ R.frames ∧ W + (ml' + 11) + rm.locals ≤ R.locals ∧ cells + rm.cells ≤ R.cells ∧ slots + rm.slots ≤ R.slots)
    (hd : decode bytes pc = .ok (.invokeinterface i cnt, 5)) (hp : pc + 5 = pc')
    (kk : ∀ T' L v, Pos p l e R s m args below meth c Z own bytes ml ret nm T' T'.heap (locs ++ L) (cells + rm.cells) (slots + rm.slots) → Qc v T'.heap L → Go p e below FF (T'.setTop (mkF m pc' Ls (v.toList ++ rest)))) : Go p e below FF (T.setTop (mkF m pc Ls St)) := by
  subst hp hst has
  obtain ⟨cB, kB, q1, q2, q3⟩ := isOf P.z P.eh E
  obtain ⟨v, _, ⟨T', L', k', n'⟩, -, X', ⟨Lc, hQ, l1, l2, l3⟩, st⟩ := P.st.interfaceBack P.x (xi := xi) (y := y) P.ow (mvT P.z w1) (mvT P.z w2) (mvT P.z w3 (by simp [Cond.onTables, Cond.keepsFace, Cond.keeps, Cond.steady, Cond.faceAtom, hy.1, hy.2])) (mvT P.z w4) (mvT P.z w5) (mvT P.z w6) (mvT P.z w7) (mvT P.z w8) hy (backOf (W := W) hM P.z w10 w9 hro.1 hro.2.1) q1 q2 q3 (g := mkF m pc Ls (argsL.reverse ++ .ref b :: rest)) rfl (by rw [P.mx]; exact hsz) (Steps.refl _) (argsL := argsL) (rest := rest) (lenOf hds hal) rfl (by show 2 * 0 + _ ≤ _; omega) (hb P.bt hd) (fun _ _ => ⟨rfl, P.eh, hro.2.2.1, hro.2.2.2⟩)
  dsimp only [Pt.U, Pt.locs, Pt.cells, Pt.slots] at X' l1 l2 l3 st hQ
  subst l1 l2 l3
  exact Go.come st (kk T' Lc v ⟨P.1, X', rfl⟩ hQ)
theorem G.callQ (P : Pos p l e R s m args below meth c Z own bytes ml ret nm T h locs cells slots) {y x0 z0 : MethodName} {C C0 : String} {by' : ByteArray} {ml' : Nat} {ret' : Option FieldType} {i : Nat} {rm : Room} {as' : Array Value} {Qc : Option Value → Heap → List Loc → Prop} (hM : OMeets l Z y by' ml' ret' rm as' h Qc)
    (w1 : (Jvm.Cond.methodLink own i y).before a0 Z = true) (w2 : (Jvm.Cond.instanceMethod y).before a0 Z = true) (w3 : (Jvm.Cond.selects C0 x0 z0).before a0 Z = true) (hz0 : z0.cls = y.cls) (w4 : (Jvm.Cond.privateMethod y).before a0 Z = true) (w5 : (Jvm.Cond.initialized y.cls).before a0 Z = true) (w6 : (Jvm.Cond.code y by' ml' ret').before a0 Z = true)
    (hy : y.cls ≠ "java/lang/invoke/MethodHandle" ∧ y.cls ≠ "java/lang/invoke/VarHandle") {b : Addr} (E : Exa Z h b C) {ps : List FieldType} {r : Option FieldType} (hds : parseMethodDescriptor y.desc = some ⟨ps, r⟩) {argsL rest : List Value} (hal : argsL.length = ps.length) (hst : argsL.reverse ++ .ref b :: rest = St) (has : (.ref b :: argsL).toArray = as') (hsz : Ls.size = ml)
    {W : Nat} (hW : (rest.map fun v => v.category).sum ≤ W) (hro : rm.frames + 1 ≤ R.frames ∧ W + (ml' + 11) + rm.locals ≤ R.locals ∧ cells + rm.cells ≤ R.cells ∧ slots + rm.slots ≤ R.slots)
    (hd : decode bytes pc = .ok (.invokevirtual i, 3)) (hp : pc + 3 = pc')
    (kk : ∀ T' L v, Pos p l e R s m args below meth c Z own bytes ml ret nm T' T'.heap (locs ++ L) (cells + rm.cells) (slots + rm.slots) → Qc v T'.heap L → Go p e below FF (T'.setTop (mkF m pc' Ls (v.toList ++ rest)))) : Go p e below FF (T.setTop (mkF m pc Ls St)) := by
  subst hp hst has
  obtain ⟨cq, q1, q2⟩ := E.cell
  obtain ⟨mk, mM, hn, hmM, hsM, haM⟩ := Cond.instanceMethod_spec (mvT (args := args) P.z w2)
  obtain ⟨mM', cM, hmM', -, -, -, -, -, -, hsg⟩ := Cond.code_spec hn (mvT (args := args) P.z w6)
  cases hmM.symm.trans hmM'
  obtain ⟨-, -, m2, -, -, q3, -, kP, hkP, hkI⟩ := Cond.selects_spec (mvT (args := args) P.z w3)
  have e1 := findClass_of_methodNamed q3
  rw [hz0] at e1
  have hcl : m2.cls = mk.cls := Option.some.inj (e1.symm.trans (findClass_of_methodNamed hn))
  rw [hcl] at hkP
  have hs0 : selectMethod e.platform s.vm cq.cls mk = .method mk := selectMethod_private hmM (Cond.privateMethod_at (mvP P.z w4 (args := #[])) mk mM hn hmM)
  obtain ⟨vm₁, X₁, st₁⟩ := P.st.invokevirtual P.x P.ow (mvT P.z w1) hn hmM hsM hkP hkI hy (a := b) (cell := cq) (by rw [P.eh]; exact q1) q2 hs0 hmM haM hkP hkI (g := mkF m pc Ls (argsL.reverse ++ .ref b :: rest)) rfl (argsL := argsL) (rest := rest) (lenOf hds hal _ hsg) rfl (hb P.bt hd)
  obtain ⟨v, ⟨T', L', k', n'⟩, X', ⟨Lc, hQ, l1, l2, l3⟩, st₂⟩ := (backOf (W := W) (len := 3) (R := R) (p := p) (e := e) (below := below) (args := args) hM P.z w6 w5 hro.1 hro.2.1) m meth c ⟨T.setVm vm₁, locs, cells, slots⟩ (mkF m pc Ls rest) (.invokevirtual i) mk (.ref b :: argsL).toArray X₁ rfl (by rw [P.mx]; exact hsz) (hb P.bt hd) (by show 2 * 0 + (rest.map fun v => v.category).sum ≤ _; omega) (X₁.named hn) ⟨rfl, P.eh, hro.2.2.1, hro.2.2.2⟩
  dsimp only [Pt.U, Pt.locs, Pt.cells, Pt.slots] at X' l1 l2 l3 st₂ hQ
  subst l1 l2 l3
  exact Go.come ((st₁ _ fun acts => by rw [doInvoke_state]; exact Steps.refl _).trans st₂) (kk T' Lc v ⟨P.1, X', rfl⟩ hQ)
theorem pureK {v0 : Option Value} (kk : ∀ T', Pos p l e R s m args below meth c Z own bytes ml ret nm T' h locs cells slots → Go p e below FF (T'.setTop (mkF m pc' Ls (v0.toList ++ St)))) : ∀ T' L v, Pos p l e R s m args below meth c Z own bytes ml ret nm T' T'.heap (locs ++ L) (cells + 0) (slots + 0) → OPure v0 h v T'.heap L → Go p e below FF (T'.setTop (mkF m pc' Ls (v.toList ++ St))) := by
  intro T' L v P' hQ
  obtain ⟨rfl, e, rfl⟩ := hQ
  rw [List.append_nil] at P'
  exact kk T' ⟨P'.1, P'.2.1, e⟩
theorem hacw {W n : Nat} (q : W + 18 ≤ n) : W + (nativeFrameWords "java/lang/System" "arraycopy" 5 + 11) ≤ n := by
  have e : nativeFrameWords "java/lang/System" "arraycopy" 5 = 7 := by decide
  rw [e]; omega
theorem G.acopy (P : Pos p l e R s m args below meth c Z own bytes ml ret nm T h locs cells slots) {i : Nat} (w1 : (Jvm.Cond.methodLink own i Jvm.Stand.acN).before a0 Z = true) (w2 : (Jvm.Cond.native Jvm.Stand.acN).before a0 Z = true) (w3 : (Jvm.Cond.static Jvm.Stand.acN).before a0 Z = true) (w4 : (Jvm.Cond.initialized "java/lang/System").before a0 Z = true)
    {a b : Addr} {k k' : ClassId} {ty ty' : FieldType} {z z' sp dp nn : Int32} {vs vd us : List Value} {dv dd : Value} (A : Arv Z h a k ty z vs dv) (B : Arv Z h b k' ty' z' vd dd) (hty : (ty = ty' ∧ refKind ty = false) ∨ (refKind ty = true ∧ refKind ty' = true ∧ StoL Z h b us))
    (h1 : ¬ sp < 0) (h2 : ¬ dp < 0) (h3 : ¬ nn < 0) (h4 : sp.toNatClampNeg + nn.toNatClampNeg ≤ z.toNatClampNeg) (h5 : dp.toNatClampNeg + nn.toNatClampNeg ≤ z'.toNatClampNeg)
    (hus : us = (List.range nn.toNatClampNeg).map fun i => vs.getD (sp.toNatClampNeg + i) dv) (hl : dp.toNatClampNeg + nn.toNatClampNeg ≤ vd.length) {n0 : Nat} (N : Fr n0 locs) (ge : n0 ≤ b) (hsz : Ls.size = ml)
    {W : Nat} (hW : (St.map fun v => v.category).sum ≤ W) (hro : 1 ≤ R.frames ∧ W + 18 ≤ R.locals) (hd : decode bytes pc = .ok (.invokestatic i, 3)) (hp : pc + 3 = pc')
    (kk : ∀ T' h' L, Pos p l e R s m args below meth c Z own bytes ml ret nm T' h' L cells slots → Fr n0 L → Keep h h' [b] → Arv Z h' b k' ty' z' (vd.take dp.toNatClampNeg ++ us ++ vd.drop (dp.toNatClampNeg + nn.toNatClampNeg)) dd → Go p e below FF (T'.setTop (mkF m pc' Ls St))) :
    Go p e below FF (T.setTop (mkF m pc Ls (.int nn :: .int dp :: .ref b :: .int sp :: .ref a :: St))) := by
  subst hp
  obtain ⟨T', h', L, X', e', N', K, V, st⟩ := cpA P.st P.x P.z P.ow w1 w2 w3 w4 P.eh A B hty h1 h2 h3 h4 h5 hus hl N ge (g := mkF m pc Ls (.int nn :: .int dp :: .ref b :: .int sp :: .ref a :: St)) rfl (by rw [P.mx]; exact hsz) rfl (hb P.bt hd) hro.1 (W := W) (by show 2 * 0 + _ ≤ _; omega) (hacw hro.2)
  exact Go.via st (kk T' h' L ⟨P.1, X', e'⟩ N' K V)
theorem G.newR (P : Pos p l e R s m args below meth c Z own bytes ml ret nm T h locs cells slots) {C : String} {i : Nat} (w1 : (Jvm.Cond.classLink own i C).before a0 Z = true) (w2 : (Jvm.Cond.arrayOver (.object C)).before a0 Z = true) {n : Int32} (hn : ¬ n < 0) {cap : Nat} (hcap : n.toNatClampNeg ≤ cap) (hbb : cap * 8 ≤ 536870912) (hro : cells + 1 ≤ R.cells ∧ slots + cap ≤ R.slots) (hd : decode bytes pc = .ok (.anewarray i, 3)) (hp : pc + 3 = pc')
    (kk : ∀ T' h' a k, a = h.size → Pos p l e R s m args below meth c Z own bytes ml ret nm T' h' locs (cells + 1) (slots + cap) → Ext h h' → Arv Z h' a k (.object C) n [] .null → Ovr Z k C → Go p e below FF (T'.setTop (mkF m pc' Ls (.ref a :: St)))) : Go p e below FF (T.setTop (mkF m pc Ls (.int n :: St))) := by
  subst hp
  obtain ⟨T', h', k, X', e', E, A, O, st⟩ := Jvm.RoadKit.newR P.st P.x P.z P.ow w1 w2 P.eh (g := mkF m pc Ls (.int n :: St)) rfl (hb P.bt hd) rfl hn hcap hbb hro.1 hro.2
  exact Go.via st (kk T' h' h.size k rfl ⟨P.1, X', e'⟩ E (Arv.new A hn) O)
theorem G.stR (P : Pos p l e R s m args below meth c Z own bytes ml ret nm T h locs cells slots) {a : Addr} {k : ClassId} {ty : FieldType} {z : Int32} {vs : List Value} {dv : Value} (V : Arv Z h a k ty z vs dv) (hty : ty.isReference = true) {j : Int32} {y : Addr} {C : String} (O : Ovr Z k C) (I : Ins Z h y C true) (hft : fits ty (.ref y) = true) (i : Nat) (hi : j.toNatClampNeg = i) (hin : ¬ j < 0 ∧ j < z) (hl : i < vs.length) (hd : decode bytes pc = .ok (.aastore, 1)) (hp : pc + 1 = pc')
    (kk : ∀ T' h', Pos p l e R s m args below meth c Z own bytes ml ret nm T' h' (locs ++ [⟨a, i⟩]) cells slots → Wr h h' a i (.ref y) → Arv Z h' a k ty z (vs.set i (.ref y)) dv → Go p e below FF (T'.setTop (mkF m pc' Ls St))) : Go p e below FF (T.setTop (mkF m pc Ls (.ref y :: .int j :: .ref a :: St))) := by
  subst hp hi
  obtain ⟨cl, A, q1, S, N, H, Gf⟩ := V
  obtain ⟨T', h', X', e', W, st⟩ := Jvm.RoadKit.stR P.st P.x P.z P.eh A (inb_of S hin) hty (Sto.ofV A q1 O I) (g := mkF m pc Ls (.ref y :: .int j :: .ref a :: St)) rfl rfl (hb P.bt hd)
  exact Go.via st (kk T' h' ⟨P.1, X', e'⟩ W (Arv.set A q1 S N H Gf hft W _ rfl hl))
theorem G.cast (P : Pos p l e R s m args below meth c Z own bytes ml ret nm T h locs cells slots) {K : String} {i : Nat} (w : (Jvm.Cond.classLink own i K).before a0 Z = true) {a : Addr} (I : Ins Z h a K true) (hd : decode bytes pc = .ok (.checkcast i, 3)) (hp : pc + 3 = pc')
    (kk : ∀ T', Pos p l e R s m args below meth c Z own bytes ml ret nm T' h locs cells slots → Go p e below FF (T'.setTop (mkF m pc' Ls (.ref a :: St)))) : Go p e below FF (T.setTop (mkF m pc Ls (.ref a :: St))) := by
  subst hp
  obtain ⟨T', X', e', st⟩ := castY P.st P.x P.z P.ow w P.eh I (g := mkF m pc Ls (.ref a :: St)) rfl rfl (hb P.bt hd)
  exact Go.via st (kk T' ⟨P.1, X', e'⟩)
theorem G.instY (P : Pos p l e R s m args below meth c Z own bytes ml ret nm T h locs cells slots) {K : String} {i : Nat} (w : (Jvm.Cond.classLink own i K).before a0 Z = true) {a : Addr} (I : Ins Z h a K true) (hd : decode bytes pc = .ok (.instanceof i, 3)) (hp : pc + 3 = pc')
    (kk : ∀ T', Pos p l e R s m args below meth c Z own bytes ml ret nm T' h locs cells slots → Go p e below FF (T'.setTop (mkF m pc' Ls (.int 1 :: St)))) : Go p e below FF (T.setTop (mkF m pc Ls (.ref a :: St))) := by
  subst hp
  obtain ⟨T', X', e', st⟩ := Jvm.RoadKit.instY P.st P.x P.z P.ow w P.eh I (g := mkF m pc Ls (.ref a :: St)) rfl rfl (hb P.bt hd)
  exact Go.via st (kk T' ⟨P.1, X', e'⟩)
theorem G.newPE (P : Pos p l e R s m args below meth c Z own bytes ml ret nm T h locs cells slots) {aty : ArrayType} (w : (Jvm.Cond.arrayClass (newarray.typeOf aty)).before a0 Z = true) {n : Int32} (hn : ¬ n < 0) {cap : Nat} (hcap : n.toNatClampNeg ≤ cap) (hbb : cap * 8 ≤ 536870912) (hro : cells + 1 ≤ R.cells ∧ slots + cap ≤ R.slots) {ad : String} (had : "[" ++ (newarray.typeOf aty).toString = ad) (hd : decode bytes pc = .ok (.newarray aty, 2)) (hp : pc + 2 = pc')
    (kk : ∀ T' h' a k, a = h.size → Pos p l e R s m args below meth c Z own bytes ml ret nm T' h' locs (cells + 1) (slots + cap) → Ext h h' → Arv Z h' a k (newarray.typeOf aty) n [] (defaultValue (newarray.typeOf aty)) → Exa Z h' a ad → Go p e below FF (T'.setTop (mkF m pc' Ls (.ref a :: St)))) : Go p e below FF (T.setTop (mkF m pc Ls (.int n :: St))) := by
  subst hp
  obtain ⟨T', h', k, X', e', E, A, B, st⟩ := Jvm.RoadKit.newPE P.st P.x P.z w P.eh (g := mkF m pc Ls (.int n :: St)) rfl (hb P.bt hd) rfl hn hcap hbb hro.1 hro.2 had
  exact Go.via st (kk T' h' h.size k rfl ⟨P.1, X', e'⟩ E (Arv.new A hn) B)
theorem G.clone (P : Pos p l e R s m args below meth c Z own bytes ml ret nm T h locs cells slots) {ad : String} {i : Nat} (w1 : (Jvm.Cond.methodLink own i ⟨ad, "clone", "()Ljava/lang/Object;"⟩).before a0 Z = true) (w2 : (Jvm.Cond.sameMethod ad "java/lang/Object" "clone" "()Ljava/lang/Object;").before a0 Z = true) (w3 : (Jvm.Cond.native ⟨"java/lang/Object", "clone", "()Ljava/lang/Object;"⟩).before a0 Z = true)
    (w4 : (Jvm.Cond.instanceMethod ⟨"java/lang/Object", "clone", "()Ljava/lang/Object;"⟩).before a0 Z = true) (w5 : (Jvm.Cond.selects ad ⟨ad, "clone", "()Ljava/lang/Object;"⟩ ⟨"java/lang/Object", "clone", "()Ljava/lang/Object;"⟩).before a0 Z = true) (w6 : (Jvm.Cond.castable ad "java/lang/Cloneable").before a0 Z = true)
    {a : Addr} {k : ClassId} {ty : FieldType} {z : Int32} {vs : List Value} {dv : Value} (V : Arv Z h a k ty z vs dv) (E : Exa Z h a ad) (hsz : Ls.size = ml) {W cap : Nat} (hW : (St.map fun v => v.category).sum ≤ W) (hcap : z.toNatClampNeg ≤ cap) (hro : 1 ≤ R.frames ∧ W + 14 ≤ R.locals ∧ cells + 1 ≤ R.cells ∧ slots + cap ≤ R.slots)
    (hd : decode bytes pc = .ok (.invokevirtual i, 3)) (hp : pc + 3 = pc')
    (kk : ∀ T' h' a', a' = h.size → Pos p l e R s m args below meth c Z own bytes ml ret nm T' h' locs (cells + 1) (slots + cap) → Ext h h' → Arv Z h' a' k ty z vs dv → Exa Z h' a' ad → Go p e below FF (T'.setTop (mkF m pc' Ls (.ref a' :: St)))) : Go p e below FF (T.setTop (mkF m pc Ls (.ref a :: St))) := by
  subst hp
  obtain ⟨T', h', X', e', ex, A, B, st⟩ := cloneH P.st P.x P.z P.ow w1 w2 w3 w4 w5 w6 P.eh V.arh E (g := mkF m pc Ls (.ref a :: St)) rfl (by rw [P.mx]; exact hsz) rfl (hb P.bt hd) hro.1 (W := W) (by show 2 * 0 + _ ≤ _; omega) hro.2.1 hcap hro.2.2.1 hro.2.2.2
  exact Go.via st (kk T' h' h.size rfl ⟨P.1, X', e'⟩ ex A B)
theorem G.tsw (P : Pos p l e R s m args below meth c Z own bytes ml ret nm T h locs cells slots) {dflt low high o : Int} {offs : Array Int} {len : Nat} {x : Int32} (hd : decode bytes pc = .ok (.tableswitch dflt low high offs, len)) (hin : ¬ (x.toInt < low ∨ x.toInt > high)) (hoff : offs[(x.toInt - low).toNat]? = some o) (ho : 0 ≤ (pc : Int) + o) (hp : ((pc : Int) + o).toNat = pc')
    (kk : Go p e below FF (T.setTop (mkF m pc' Ls St))) : Go p e below FF (T.setTop (mkF m pc Ls (.int x :: St))) :=
  Go.via (fun _ => XS.tswIn (g := mkF m pc Ls (.int x :: St)) P.here P.x rfl (pc0 := pc) rfl (hb P.bt hd) rfl hin hoff ho hp) kk
theorem G.callU (P : Pos p l e R s m args below meth c Z own bytes ml ret nm T h locs cells slots) {C owner : String} {x y : MethodName} {by' : ByteArray} {ml' : Nat} {ret' : Option FieldType} {i : Nat} {rm : Room} {as' : Array Value} {Qc : Option Value → Heap → List Loc → Prop} (hM : OMeets l Z y by' ml' ret' rm as' h Qc)
    (w1 : (Jvm.Cond.methodLink own i x).before a0 Z = true) (w2 : (Jvm.Cond.sameMethod x.cls owner x.name x.desc).before a0 Z = true) (w3 : (Jvm.Cond.declares ⟨owner, x.name, x.desc⟩).before a0 Z = true) (hy : owner ≠ "java/lang/invoke/MethodHandle" ∧ owner ≠ "java/lang/invoke/VarHandle") (w4 : (Jvm.Cond.selects C x y).before a0 Z = true) (w5 : (Jvm.Cond.instanceMethod y).before a0 Z = true) (w6 : (Jvm.Cond.initialized y.cls).before a0 Z = true) (w7 : (Jvm.Cond.code y by' ml' ret').before a0 Z = true)
    {b : Addr} (E : Exa Z h b C) {ps : List FieldType} {r : Option FieldType} (hds : parseMethodDescriptor x.desc = some ⟨ps, r⟩) {argsL rest : List Value} (hal : argsL.length = ps.length) (hst : argsL.reverse ++ .ref b :: rest = St) (has : (.ref b :: argsL).toArray = as') (hsz : Ls.size = ml)
    {W : Nat} (hW : (rest.map fun v => v.category).sum ≤ W) (hro : rm.frames + 1 ≤ R.frames ∧ W + (ml' + 11) + rm.locals ≤ R.locals ∧ cells + rm.cells ≤ R.cells ∧ slots + rm.slots ≤ R.slots)
    (hd : decode bytes pc = .ok (.invokevirtual i, 3)) (hp : pc + 3 = pc')
    (kk : ∀ T' L v, Pos p l e R s m args below meth c Z own bytes ml ret nm T' T'.heap (locs ++ L) (cells + rm.cells) (slots + rm.slots) → Qc v T'.heap L → Go p e below FF (T'.setTop (mkF m pc' Ls (v.toList ++ rest)))) : Go p e below FF (T.setTop (mkF m pc Ls St)) := by
  subst hp hst has
  obtain ⟨cB, kB, q1, q2, q3⟩ := isOf P.z P.eh E
  obtain ⟨v, _, ⟨T', L', k', n'⟩, -, X', ⟨Lc, hQ, l1, l2, l3⟩, st⟩ := P.st.virtualBackUp P.x (x := x) (y := y) P.ow (mvT P.z w1) (mvT P.z w2) (mvT P.z w3) hy (mvT P.z w4) (mvT P.z w5) (backOf (W := W) hM P.z w7 w6 hro.1 hro.2.1) q1 q3 (g := mkF m pc Ls (argsL.reverse ++ .ref b :: rest)) rfl (by rw [P.mx]; exact hsz) (Steps.refl _) (argsL := argsL) (rest := rest) (lenOf hds hal) rfl (by show 2 * 0 + _ ≤ _; omega) (hb P.bt hd) (fun _ _ => ⟨rfl, P.eh, hro.2.2.1, hro.2.2.2⟩)
  dsimp only [Pt.U, Pt.locs, Pt.cells, Pt.slots] at X' l1 l2 l3 st hQ
  subst l1 l2 l3
  exact Go.come st (kk T' Lc v ⟨P.1, X', rfl⟩ hQ)
end Own
end Jvm.OwnKit
namespace Jvm.Pilot.@@N@@
open Jvm Jvm.ClassFile Sem Op Lib Jvm.Free Jvm.Stand Jvm.LawKit Jvm.RoadKit Jvm.OwnKit Bundle Jvm.Pilot.@@N@@.Jvm.D
abbrev y1 : MethodName := ⟨"dev/happenstance/model/Prefix", "<init>", "([II)V"⟩
theorem d1_0 : decode prog_69_method_1_code 0 = .ok (.aload_n 0, 1) := by decide +kernel
theorem d1_1 : decode prog_69_method_1_code 1 = .ok (.invokespecial 1, 3) := by decide +kernel
theorem d1_4 : decode prog_69_method_1_code 4 = .ok (.aload_n 0, 1) := by decide +kernel
theorem d1_5 : decode prog_69_method_1_code 5 = .ok (.aload_n 1, 1) := by decide +kernel
theorem d1_6 : decode prog_69_method_1_code 6 = .ok (.putfield 7, 3) := by decide +kernel
theorem d1_9 : decode prog_69_method_1_code 9 = .ok (.aload_n 0, 1) := by decide +kernel
theorem d1_10 : decode prog_69_method_1_code 10 = .ok (.iload_n 2, 1) := by decide +kernel
theorem d1_11 : decode prog_69_method_1_code 11 = .ok (.putfield 13, 3) := by decide +kernel
theorem d1_14 : decode prog_69_method_1_code 14 = .ok (.return_, 1) := by decide +kernel
abbrev y2 : MethodName := ⟨"java/lang/Record", "<init>", "()V"⟩
theorem d2_0 : decode jdk_30_method_1_code 0 = .ok (.aload_n 0, 1) := by decide +kernel
theorem d2_1 : decode jdk_30_method_1_code 1 = .ok (.invokespecial 1, 3) := by decide +kernel
theorem d2_4 : decode jdk_30_method_1_code 4 = .ok (.return_, 1) := by decide +kernel
abbrev y3 : MethodName := ⟨"java/lang/Object", "<init>", "()V"⟩
abbrev y4 : MethodName := ⟨"dev/happenstance/model/Prefix", "hashCode", "()I"⟩
theorem d4_0 : decode prog_69_method_4_code 0 = .ok (.iconst 1, 1) := by decide +kernel
theorem d4_1 : decode prog_69_method_4_code 1 = .ok (.istore_n 1, 1) := by decide +kernel
theorem d4_2 : decode prog_69_method_4_code 2 = .ok (.iconst 0, 1) := by decide +kernel
theorem d4_3 : decode prog_69_method_4_code 3 = .ok (.istore_n 2, 1) := by decide +kernel
theorem d4_4 : decode prog_69_method_4_code 4 = .ok (.iload_n 2, 1) := by decide +kernel
theorem d4_5 : decode prog_69_method_4_code 5 = .ok (.aload_n 0, 1) := by decide +kernel
theorem d4_6 : decode prog_69_method_4_code 6 = .ok (.getfield 13, 3) := by decide +kernel
theorem d4_9 : decode prog_69_method_4_code 9 = .ok (.if_icmp .ge 21, 3) := by decide +kernel
theorem d4_12 : decode prog_69_method_4_code 12 = .ok (.bipush 31, 2) := by decide +kernel
theorem d4_14 : decode prog_69_method_4_code 14 = .ok (.iload_n 1, 1) := by decide +kernel
theorem d4_15 : decode prog_69_method_4_code 15 = .ok (.imul, 1) := by decide +kernel
theorem d4_16 : decode prog_69_method_4_code 16 = .ok (.aload_n 0, 1) := by decide +kernel
theorem d4_17 : decode prog_69_method_4_code 17 = .ok (.getfield 7, 3) := by decide +kernel
theorem d4_20 : decode prog_69_method_4_code 20 = .ok (.iload_n 2, 1) := by decide +kernel
theorem d4_21 : decode prog_69_method_4_code 21 = .ok (.iaload, 1) := by decide +kernel
theorem d4_22 : decode prog_69_method_4_code 22 = .ok (.iadd, 1) := by decide +kernel
theorem d4_23 : decode prog_69_method_4_code 23 = .ok (.istore_n 1, 1) := by decide +kernel
theorem d4_24 : decode prog_69_method_4_code 24 = .ok (.iinc 2 1, 3) := by decide +kernel
theorem d4_27 : decode prog_69_method_4_code 27 = .ok (.goto (-23), 3) := by decide +kernel
theorem d4_30 : decode prog_69_method_4_code 30 = .ok (.iload_n 1, 1) := by decide +kernel
theorem d4_31 : decode prog_69_method_4_code 31 = .ok (.ireturn, 1) := by decide +kernel
abbrev y5 : MethodName := ⟨"dev/happenstance/model/PrefixHashCodePinLaw", "reference", "(IIIII)I"⟩
theorem d5_0 : decode method_2_code 0 = .ok (.iload_n 0, 1) := by decide +kernel
theorem d5_1 : decode method_2_code 1 = .ok (.ifCond .ne 5, 3) := by decide +kernel
theorem d5_4 : decode method_2_code 4 = .ok (.iconst 1, 1) := by decide +kernel
theorem d5_5 : decode method_2_code 5 = .ok (.ireturn, 1) := by decide +kernel
theorem d5_6 : decode method_2_code 6 = .ok (.iload_n 0, 1) := by decide +kernel
theorem d5_7 : decode method_2_code 7 = .ok (.iconst 1, 1) := by decide +kernel
theorem d5_8 : decode method_2_code 8 = .ok (.if_icmp .ne 8, 3) := by decide +kernel
theorem d5_11 : decode method_2_code 11 = .ok (.bipush 31, 2) := by decide +kernel
theorem d5_13 : decode method_2_code 13 = .ok (.iload_n 1, 1) := by decide +kernel
theorem d5_14 : decode method_2_code 14 = .ok (.iadd, 1) := by decide +kernel
theorem d5_15 : decode method_2_code 15 = .ok (.ireturn, 1) := by decide +kernel
theorem d5_16 : decode method_2_code 16 = .ok (.iload_n 0, 1) := by decide +kernel
theorem d5_17 : decode method_2_code 17 = .ok (.iconst 2, 1) := by decide +kernel
theorem d5_18 : decode method_2_code 18 = .ok (.if_icmp .ne 14, 3) := by decide +kernel
theorem d5_21 : decode method_2_code 21 = .ok (.sipush 961, 3) := by decide +kernel
theorem d5_24 : decode method_2_code 24 = .ok (.bipush 31, 2) := by decide +kernel
theorem d5_26 : decode method_2_code 26 = .ok (.iload_n 1, 1) := by decide +kernel
theorem d5_27 : decode method_2_code 27 = .ok (.imul, 1) := by decide +kernel
theorem d5_28 : decode method_2_code 28 = .ok (.iadd, 1) := by decide +kernel
theorem d5_29 : decode method_2_code 29 = .ok (.iload_n 2, 1) := by decide +kernel
theorem d5_30 : decode method_2_code 30 = .ok (.iadd, 1) := by decide +kernel
theorem d5_31 : decode method_2_code 31 = .ok (.ireturn, 1) := by decide +kernel
theorem d5_32 : decode method_2_code 32 = .ok (.iload_n 0, 1) := by decide +kernel
theorem d5_33 : decode method_2_code 33 = .ok (.iconst 3, 1) := by decide +kernel
theorem d5_34 : decode method_2_code 34 = .ok (.if_icmp .ne 20, 3) := by decide +kernel
theorem d5_37 : decode method_2_code 37 = .ok (.sipush 29791, 3) := by decide +kernel
theorem d5_40 : decode method_2_code 40 = .ok (.sipush 961, 3) := by decide +kernel
theorem d5_43 : decode method_2_code 43 = .ok (.iload_n 1, 1) := by decide +kernel
theorem d5_44 : decode method_2_code 44 = .ok (.imul, 1) := by decide +kernel
theorem d5_45 : decode method_2_code 45 = .ok (.iadd, 1) := by decide +kernel
theorem d5_46 : decode method_2_code 46 = .ok (.bipush 31, 2) := by decide +kernel
theorem d5_48 : decode method_2_code 48 = .ok (.iload_n 2, 1) := by decide +kernel
theorem d5_49 : decode method_2_code 49 = .ok (.imul, 1) := by decide +kernel
theorem d5_50 : decode method_2_code 50 = .ok (.iadd, 1) := by decide +kernel
theorem d5_51 : decode method_2_code 51 = .ok (.iload_n 3, 1) := by decide +kernel
theorem d5_52 : decode method_2_code 52 = .ok (.iadd, 1) := by decide +kernel
theorem d5_53 : decode method_2_code 53 = .ok (.ireturn, 1) := by decide +kernel
theorem d5_54 : decode method_2_code 54 = .ok (.ldc 7, 2) := by decide +kernel
theorem d5_56 : decode method_2_code 56 = .ok (.sipush 29791, 3) := by decide +kernel
theorem d5_59 : decode method_2_code 59 = .ok (.iload_n 1, 1) := by decide +kernel
theorem d5_60 : decode method_2_code 60 = .ok (.imul, 1) := by decide +kernel
theorem d5_61 : decode method_2_code 61 = .ok (.iadd, 1) := by decide +kernel
theorem d5_62 : decode method_2_code 62 = .ok (.sipush 961, 3) := by decide +kernel
theorem d5_65 : decode method_2_code 65 = .ok (.iload_n 2, 1) := by decide +kernel
theorem d5_66 : decode method_2_code 66 = .ok (.imul, 1) := by decide +kernel
theorem d5_67 : decode method_2_code 67 = .ok (.iadd, 1) := by decide +kernel
theorem d5_68 : decode method_2_code 68 = .ok (.bipush 31, 2) := by decide +kernel
theorem d5_70 : decode method_2_code 70 = .ok (.iload_n 3, 1) := by decide +kernel
theorem d5_71 : decode method_2_code 71 = .ok (.imul, 1) := by decide +kernel
theorem d5_72 : decode method_2_code 72 = .ok (.iadd, 1) := by decide +kernel
theorem d5_73 : decode method_2_code 73 = .ok (.iload 4, 2) := by decide +kernel
theorem d5_75 : decode method_2_code 75 = .ok (.iadd, 1) := by decide +kernel
theorem d5_76 : decode method_2_code 76 = .ok (.ireturn, 1) := by decide +kernel
theorem pf_0 : plainFor x = true := by first | exact plainFor_of_name (by first | (simp [plainName, overriddenIn, x]; done) | decide +kernel) | decide +kernel
theorem pd_0 : parseMethodDescriptor "(IIIIII)Z" = some ⟨[.int, .int, .int, .int, .int, .int], some .boolean⟩ := by decide +kernel
theorem pf_1 : plainFor y1 = true := by first | exact plainFor_of_name (by first | (simp [plainName, overriddenIn, y1]; done) | decide +kernel) | decide +kernel
theorem pd_1 : parseMethodDescriptor "([II)V" = some ⟨[(.array .int), .int], none⟩ := by decide +kernel
theorem pf_2 : plainFor y2 = true := by first | exact plainFor_of_name (by first | (simp [plainName, overriddenIn, y2]; done) | decide +kernel) | decide +kernel
theorem pd_2 : parseMethodDescriptor "()V" = some ⟨[], none⟩ := by decide +kernel
theorem pf_4 : plainFor y4 = true := by first | exact plainFor_of_name (by first | (simp [plainName, overriddenIn, y4]; done) | decide +kernel) | decide +kernel
theorem pd_4 : parseMethodDescriptor "()I" = some ⟨[], some .int⟩ := by decide +kernel
theorem pf_5 : plainFor y5 = true := by first | exact plainFor_of_name (by first | (simp [plainName, overriddenIn, y5]; done) | decide +kernel) | decide +kernel
theorem pd_5 : parseMethodDescriptor "(IIIII)I" = some ⟨[.int, .int, .int, .int, .int], some .int⟩ := by decide +kernel
theorem ef_rmRec (m : MethodId) (a : Addr) : entryFrame m #[(.ref a)] 1 = mkF m 0 #[.val (.ref a)] [] := by first | (simp [entryFrame, mkF, argsToLocals, Value.category]; done) | rfl
set_option maxRecDepth 65536 in
set_option maxHeartbeats 40000000 in
theorem rmRec (l : Launch) (Z : State) (a0 : Array Value) (hw : ∀ d ∈ tables_1, d.before a0 Z = true) (a : Addr) (h0 : Heap) :
    OMeets l Z y2 jdk_30_method_1_code 1 none ({ frames := 1, cells := 0, slots := 0, locals := 12 } : Room) #[(.ref a)] h0 (OPure none h0) := by
  refine met (Q := OPure none h0) pf_2 (fun m => ef_rmRec m a) fun p e s m below meth c T0 P0 => ?_
  refine G.aloadN P0 d2_0 rfl rfl (pc' := 1) rfl ?_
  obtain ⟨T1, X1, e1, s1⟩ := Jvm.RoadKit.initO P0.st P0.x P0.z P0.ow (wk hw 12 rfl) (wk hw 13 rfl) (wk hw 14 rfl) P0.eh (g := (mkF m 1 #[.val (.ref a)] [(.ref a)])) rfl (by rw [P0.mx]; rfl) rfl (hb P0.bt d2_1) (by decide) (W := 0) (by show 2 * 0 + _ ≤ _; exact Nat.le_of_eq rfl) (by decide)
  have P1 := Pos.re P0 X1 e1
  refine Go.via s1 ?_
  show Go p e below _ (T1.setTop (mkF m 4 #[.val (.ref a)] []))
  exact G.retV P1 d2_4 (by decide) (by decide) ⟨rfl, rfl, rfl⟩

theorem ef_rmInit (m : MethodId) (a b : Addr) (x2 : Int32) : entryFrame m #[(.ref a), (.ref b), (.int x2)] 3 = mkF m 0 #[.val (.ref a), .val (.ref b), .val (.int x2)] [] := by first | (simp [entryFrame, mkF, argsToLocals, Value.category]; done) | rfl
set_option maxRecDepth 65536 in
set_option maxHeartbeats 40000000 in
theorem rmInit (l : Launch) (Z : State) (a0 : Array Value) (hw : ∀ d ∈ tables_1, d.before a0 Z = true) (a b : Addr) (x2 : Int32) (h0 : Heap) (n0 : Nat) (g0 : n0 ≤ a) (E0 : Exa Z h0 a "dev/happenstance/model/Prefix") (FV : Fld Z h0 a "dev/happenstance/model/Prefix" "values" "[I" .null) (FL : Fld Z h0 a "dev/happenstance/model/Prefix" "length" "I" (.int (0 : Int32))) :
    OMeets l Z y1 prog_69_method_1_code 3 none ({ frames := 2, cells := 0, slots := 0, locals := 24 } : Room) #[(.ref a), (.ref b), (.int x2)] h0 (fun v h L => v = none ∧ Fr n0 L ∧ Keep h0 h [a] ∧ Fld Z h a "dev/happenstance/model/Prefix" "values" "[I" (.ref b) ∧ Fld Z h a "dev/happenstance/model/Prefix" "length" "I" (.int x2)) := by
  refine met (Q := fun v h L => v = none ∧ Fr n0 L ∧ Keep h0 h [a] ∧ Fld Z h a "dev/happenstance/model/Prefix" "values" "[I" (.ref b) ∧ Fld Z h a "dev/happenstance/model/Prefix" "length" "I" (.int x2)) pf_1 (fun m => ef_rmInit m a b x2) fun p e s m below meth c T0 P0 => ?_
  have N0 := Fr.nil n0
  have K0 := Keep.refl h0 [a]
  refine G.aloadN P0 d1_0 rfl rfl (pc' := 1) rfl ?_
  refine G.callIP P0 (rmRec l Z a0 hw a h0) rfl (wk hw 7 rfl) (wk hw 8 rfl) (wk hw 10 rfl) (wk hw 11 rfl) (by decide) pd_2 (argsL := []) (rest := []) rfl rfl rfl rfl (W := 0) (Nat.le_of_eq rfl) (by decide) d1_1 (pc' := 4) rfl fun T1 P1 => ?_
  show Go p e below _ (T1.setTop (mkF m 4 #[.val (.ref a), .val (.ref b), .val (.int x2)] []))
  refine G.aloadN P1 d1_4 rfl rfl (pc' := 5) rfl ?_
  refine G.aloadN P1 d1_5 rfl rfl (pc' := 6) rfl ?_
  refine G.putF P1 (host := "") (Or.inl (wk hw 15 rfl)) Via.refl FV E0 (Or.inr ⟨(wk hw 16 rfl), rfl, rfl⟩) (wk hw 2 rfl) (ty := (.array .int)) (by decide) rfl rfl d1_6 (pc' := 9) rfl fun T2 h2 P2 W2 => ?_
  have f2 := FV.same W2
  have N3 := Fr.snoc P2.st N0 g0
  have K4 := K0.wr W2 (Or.inl (List.mem_of_getElem? (i := 0) rfl))
  refine G.aloadN P2 d1_9 rfl rfl (pc' := 10) rfl ?_
  refine G.iloadN P2 d1_10 rfl (pc' := 11) rfl ?_
  have f5 := (FL.other W2 (Or.inr (slot_ne (Or.inr (wk hw 18 rfl)) (Or.inr (wk hw 16 rfl)) (by decide) (t := .int) (t' := (.array .int)) (by decide) (by decide))))
  have f6 := (E0.wr W2)
  refine G.putF P2 (host := "") (Or.inl (wk hw 17 rfl)) Via.refl f5 f6 (Or.inr ⟨(wk hw 18 rfl), rfl, rfl⟩) (wk hw 2 rfl) (ty := .int) (by decide) rfl rfl d1_11 (pc' := 14) rfl fun T7 h7 P7 W7 => ?_
  have f7 := f5.same W7
  have N8 := Fr.snoc P7.st N3 g0
  have K9 := K4.wr W7 (Or.inl (List.mem_of_getElem? (i := 0) rfl))
  have f10 := (f2.other W7 (Or.inr (slot_ne (Or.inr (wk hw 16 rfl)) (Or.inr (wk hw 18 rfl)) (by decide) (t := (.array .int)) (t' := .int) (by decide) (by decide))))
  exact G.retV P7 d1_14 (by decide) (by decide) ⟨rfl, N8, K9, f10, f7⟩

theorem ef_rmHash0 (m : MethodId) (a : Addr) : entryFrame m #[(.ref a)] 3 = mkF m 0 #[.val (.ref a), .unset, .unset] [] := by first | (simp [entryFrame, mkF, argsToLocals, Value.category]; done) | rfl
set_option maxRecDepth 65536 in
set_option maxHeartbeats 40000000 in
theorem rmHash0 (l : Launch) (Z : State) (a0 : Array Value) (hw : ∀ d ∈ tables_1, d.before a0 Z = true) (a b : Addr) (x0 x1 x2 x3 x4 : Int32) (kk : ClassId) (h0 : Heap) (FV : Fld Z h0 a "dev/happenstance/model/Prefix" "values" "[I" (.ref b)) (FL : Fld Z h0 a "dev/happenstance/model/Prefix" "length" "I" (.int (0 : Int32))) (V : Arv Z h0 b kk .int (5 : Int32) [(.int x0), (.int x1), (.int x2), (.int x3), (.int x4)] (.int (0 : Int32))) :
    OMeets l Z y4 prog_69_method_4_code 3 (some .int) ({ frames := 0, cells := 0, slots := 0, locals := 0 } : Room) #[(.ref a)] h0 (OPure (some (.int (1 : Int32))) h0) := by
  refine met (Q := OPure (some (.int (1 : Int32))) h0) pf_4 (fun m => ef_rmHash0 m a) fun p e s m below meth c T0 P0 => ?_
  refine G.iconst P0 d4_0 (z := (1 : Int32)) rfl (pc' := 1) rfl ?_
  refine G.istoreN P0 d4_1 (l' := #[.val (.ref a), .val (.int (1 : Int32)), .unset]) rfl (pc' := 2) rfl ?_
  refine G.iconst P0 d4_2 (z := (0 : Int32)) rfl (pc' := 3) rfl ?_
  refine G.istoreN P0 d4_3 (l' := #[.val (.ref a), .val (.int (1 : Int32)), .val (.int (0 : Int32))]) rfl (pc' := 4) rfl ?_
  refine G.iloadN P0 d4_4 rfl (pc' := 5) rfl ?_
  refine G.aloadN P0 d4_5 rfl rfl (pc' := 6) rfl ?_
  refine G.getF P0 (host := "") (Or.inl (wk hw 17 rfl)) Via.refl FL d4_6 (pc' := 9) rfl fun T1 P1 => ?_
  refine G.icmp_ge P1 d4_9 (by decide) (pcY := 30) (by decide) (pcN := 12) rfl (fun c2 => ?_) (fun c2 => absurd c2 (by decide))
  refine G.iloadN P1 d4_30 rfl (pc' := 31) rfl ?_
  exact G.retI P1 d4_31 (by decide) (by decide) ⟨rfl, rfl, rfl⟩

theorem ef_rmHash1 (m : MethodId) (a : Addr) : entryFrame m #[(.ref a)] 3 = mkF m 0 #[.val (.ref a), .unset, .unset] [] := by first | (simp [entryFrame, mkF, argsToLocals, Value.category]; done) | rfl
set_option maxRecDepth 65536 in
set_option maxHeartbeats 40000000 in
theorem rmHash1 (l : Launch) (Z : State) (a0 : Array Value) (hw : ∀ d ∈ tables_1, d.before a0 Z = true) (a b : Addr) (x0 x1 x2 x3 x4 : Int32) (kk : ClassId) (h0 : Heap) (FV : Fld Z h0 a "dev/happenstance/model/Prefix" "values" "[I" (.ref b)) (FL : Fld Z h0 a "dev/happenstance/model/Prefix" "length" "I" (.int (1 : Int32))) (V : Arv Z h0 b kk .int (5 : Int32) [(.int x0), (.int x1), (.int x2), (.int x3), (.int x4)] (.int (0 : Int32))) :
    OMeets l Z y4 prog_69_method_4_code 3 (some .int) ({ frames := 0, cells := 0, slots := 0, locals := 0 } : Room) #[(.ref a)] h0 (OPure (some (.int ((31 : Int32) + x0))) h0) := by
  refine met (Q := OPure (some (.int ((31 : Int32) + x0))) h0) pf_4 (fun m => ef_rmHash1 m a) fun p e s m below meth c T0 P0 => ?_
  refine G.iconst P0 d4_0 (z := (1 : Int32)) rfl (pc' := 1) rfl ?_
  refine G.istoreN P0 d4_1 (l' := #[.val (.ref a), .val (.int (1 : Int32)), .unset]) rfl (pc' := 2) rfl ?_
  refine G.iconst P0 d4_2 (z := (0 : Int32)) rfl (pc' := 3) rfl ?_
  refine G.istoreN P0 d4_3 (l' := #[.val (.ref a), .val (.int (1 : Int32)), .val (.int (0 : Int32))]) rfl (pc' := 4) rfl ?_
  refine G.iloadN P0 d4_4 rfl (pc' := 5) rfl ?_
  refine G.aloadN P0 d4_5 rfl rfl (pc' := 6) rfl ?_
  refine G.getF P0 (host := "") (Or.inl (wk hw 17 rfl)) Via.refl FL d4_6 (pc' := 9) rfl fun T1 P1 => ?_
  refine G.icmp_ge P1 d4_9 (by decide) (pcY := 30) (by decide) (pcN := 12) rfl (fun c2 => absurd c2 (by decide)) (fun c2 => ?_)
  refine G.bipush P1 d4_12 (z := (31 : Int32)) rfl (pc' := 14) rfl ?_
  refine G.iloadN P1 d4_14 rfl (pc' := 15) rfl ?_
  refine G.imul P1 d4_15 (z := (31 : Int32)) (by decide) (pc' := 16) rfl ?_
  refine G.aloadN P1 d4_16 rfl rfl (pc' := 17) rfl ?_
  refine G.getF P1 (host := "") (Or.inl (wk hw 15 rfl)) Via.refl FV d4_17 (pc' := 20) rfl fun T3 P3 => ?_
  refine G.iloadN P3 d4_20 rfl (pc' := 21) rfl ?_
  refine G.iaload P3 V (j := (0 : Int32)) (v := (.int x0)) (by decide) rfl d4_21 (pc' := 22) rfl ?_
  refine G.iadd P3 d4_22 rfl (pc' := 23) rfl ?_
  refine G.istoreN P3 d4_23 (l' := #[.val (.ref a), .val (.int ((31 : Int32) + x0)), .val (.int (0 : Int32))]) rfl (pc' := 24) rfl ?_
  refine G.iinc P3 d4_24 rfl (z := (1 : Int32)) (by decide) (l' := #[.val (.ref a), .val (.int ((31 : Int32) + x0)), .val (.int (1 : Int32))]) rfl (pc' := 27) rfl ?_
  refine G.goto P3 d4_27 (by decide) (pc' := 4) (by decide) ?_
  refine G.iloadN P3 d4_4 rfl (pc' := 5) rfl ?_
  refine G.aloadN P3 d4_5 rfl rfl (pc' := 6) rfl ?_
  refine G.getF P3 (host := "") (Or.inl (wk hw 17 rfl)) Via.refl FL d4_6 (pc' := 9) rfl fun T4 P4 => ?_
  refine G.icmp_ge P4 d4_9 (by decide) (pcY := 30) (by decide) (pcN := 12) rfl (fun c5 => ?_) (fun c5 => absurd c5 (by decide))
  refine G.iloadN P4 d4_30 rfl (pc' := 31) rfl ?_
  exact G.retI P4 d4_31 (by decide) (by decide) ⟨rfl, rfl, rfl⟩

theorem ef_rmHash2 (m : MethodId) (a : Addr) : entryFrame m #[(.ref a)] 3 = mkF m 0 #[.val (.ref a), .unset, .unset] [] := by first | (simp [entryFrame, mkF, argsToLocals, Value.category]; done) | rfl
set_option maxRecDepth 65536 in
set_option maxHeartbeats 40000000 in
theorem rmHash2 (l : Launch) (Z : State) (a0 : Array Value) (hw : ∀ d ∈ tables_1, d.before a0 Z = true) (a b : Addr) (x0 x1 x2 x3 x4 : Int32) (kk : ClassId) (h0 : Heap) (FV : Fld Z h0 a "dev/happenstance/model/Prefix" "values" "[I" (.ref b)) (FL : Fld Z h0 a "dev/happenstance/model/Prefix" "length" "I" (.int (2 : Int32))) (V : Arv Z h0 b kk .int (5 : Int32) [(.int x0), (.int x1), (.int x2), (.int x3), (.int x4)] (.int (0 : Int32))) :
    OMeets l Z y4 prog_69_method_4_code 3 (some .int) ({ frames := 0, cells := 0, slots := 0, locals := 0 } : Room) #[(.ref a)] h0 (OPure (some (.int (((31 : Int32) * ((31 : Int32) + x0)) + x1))) h0) := by
  refine met (Q := OPure (some (.int (((31 : Int32) * ((31 : Int32) + x0)) + x1))) h0) pf_4 (fun m => ef_rmHash2 m a) fun p e s m below meth c T0 P0 => ?_
  refine G.iconst P0 d4_0 (z := (1 : Int32)) rfl (pc' := 1) rfl ?_
  refine G.istoreN P0 d4_1 (l' := #[.val (.ref a), .val (.int (1 : Int32)), .unset]) rfl (pc' := 2) rfl ?_
  refine G.iconst P0 d4_2 (z := (0 : Int32)) rfl (pc' := 3) rfl ?_
  refine G.istoreN P0 d4_3 (l' := #[.val (.ref a), .val (.int (1 : Int32)), .val (.int (0 : Int32))]) rfl (pc' := 4) rfl ?_
  refine G.iloadN P0 d4_4 rfl (pc' := 5) rfl ?_
  refine G.aloadN P0 d4_5 rfl rfl (pc' := 6) rfl ?_
  refine G.getF P0 (host := "") (Or.inl (wk hw 17 rfl)) Via.refl FL d4_6 (pc' := 9) rfl fun T1 P1 => ?_
  refine G.icmp_ge P1 d4_9 (by decide) (pcY := 30) (by decide) (pcN := 12) rfl (fun c2 => absurd c2 (by decide)) (fun c2 => ?_)
  refine G.bipush P1 d4_12 (z := (31 : Int32)) rfl (pc' := 14) rfl ?_
  refine G.iloadN P1 d4_14 rfl (pc' := 15) rfl ?_
  refine G.imul P1 d4_15 (z := (31 : Int32)) (by decide) (pc' := 16) rfl ?_
  refine G.aloadN P1 d4_16 rfl rfl (pc' := 17) rfl ?_
  refine G.getF P1 (host := "") (Or.inl (wk hw 15 rfl)) Via.refl FV d4_17 (pc' := 20) rfl fun T3 P3 => ?_
  refine G.iloadN P3 d4_20 rfl (pc' := 21) rfl ?_
  refine G.iaload P3 V (j := (0 : Int32)) (v := (.int x0)) (by decide) rfl d4_21 (pc' := 22) rfl ?_
  refine G.iadd P3 d4_22 rfl (pc' := 23) rfl ?_
  refine G.istoreN P3 d4_23 (l' := #[.val (.ref a), .val (.int ((31 : Int32) + x0)), .val (.int (0 : Int32))]) rfl (pc' := 24) rfl ?_
  refine G.iinc P3 d4_24 rfl (z := (1 : Int32)) (by decide) (l' := #[.val (.ref a), .val (.int ((31 : Int32) + x0)), .val (.int (1 : Int32))]) rfl (pc' := 27) rfl ?_
  refine G.goto P3 d4_27 (by decide) (pc' := 4) (by decide) ?_
  refine G.iloadN P3 d4_4 rfl (pc' := 5) rfl ?_
  refine G.aloadN P3 d4_5 rfl rfl (pc' := 6) rfl ?_
  refine G.getF P3 (host := "") (Or.inl (wk hw 17 rfl)) Via.refl FL d4_6 (pc' := 9) rfl fun T4 P4 => ?_
  refine G.icmp_ge P4 d4_9 (by decide) (pcY := 30) (by decide) (pcN := 12) rfl (fun c5 => absurd c5 (by decide)) (fun c5 => ?_)
  refine G.bipush P4 d4_12 (z := (31 : Int32)) rfl (pc' := 14) rfl ?_
  refine G.iloadN P4 d4_14 rfl (pc' := 15) rfl ?_
  refine G.imul P4 d4_15 rfl (pc' := 16) rfl ?_
  refine G.aloadN P4 d4_16 rfl rfl (pc' := 17) rfl ?_
  refine G.getF P4 (host := "") (Or.inl (wk hw 15 rfl)) Via.refl FV d4_17 (pc' := 20) rfl fun T6 P6 => ?_
  refine G.iloadN P6 d4_20 rfl (pc' := 21) rfl ?_
  refine G.iaload P6 V (j := (1 : Int32)) (v := (.int x1)) (by decide) rfl d4_21 (pc' := 22) rfl ?_
  refine G.iadd P6 d4_22 rfl (pc' := 23) rfl ?_
  refine G.istoreN P6 d4_23 (l' := #[.val (.ref a), .val (.int (((31 : Int32) * ((31 : Int32) + x0)) + x1)), .val (.int (1 : Int32))]) rfl (pc' := 24) rfl ?_
  refine G.iinc P6 d4_24 rfl (z := (2 : Int32)) (by decide) (l' := #[.val (.ref a), .val (.int (((31 : Int32) * ((31 : Int32) + x0)) + x1)), .val (.int (2 : Int32))]) rfl (pc' := 27) rfl ?_
  refine G.goto P6 d4_27 (by decide) (pc' := 4) (by decide) ?_
  refine G.iloadN P6 d4_4 rfl (pc' := 5) rfl ?_
  refine G.aloadN P6 d4_5 rfl rfl (pc' := 6) rfl ?_
  refine G.getF P6 (host := "") (Or.inl (wk hw 17 rfl)) Via.refl FL d4_6 (pc' := 9) rfl fun T7 P7 => ?_
  refine G.icmp_ge P7 d4_9 (by decide) (pcY := 30) (by decide) (pcN := 12) rfl (fun c8 => ?_) (fun c8 => absurd c8 (by decide))
  refine G.iloadN P7 d4_30 rfl (pc' := 31) rfl ?_
  exact G.retI P7 d4_31 (by decide) (by decide) ⟨rfl, rfl, rfl⟩

theorem ef_rmHash3 (m : MethodId) (a : Addr) : entryFrame m #[(.ref a)] 3 = mkF m 0 #[.val (.ref a), .unset, .unset] [] := by first | (simp [entryFrame, mkF, argsToLocals, Value.category]; done) | rfl
set_option maxRecDepth 65536 in
set_option maxHeartbeats 40000000 in
theorem rmHash3 (l : Launch) (Z : State) (a0 : Array Value) (hw : ∀ d ∈ tables_1, d.before a0 Z = true) (a b : Addr) (x0 x1 x2 x3 x4 : Int32) (kk : ClassId) (h0 : Heap) (FV : Fld Z h0 a "dev/happenstance/model/Prefix" "values" "[I" (.ref b)) (FL : Fld Z h0 a "dev/happenstance/model/Prefix" "length" "I" (.int (3 : Int32))) (V : Arv Z h0 b kk .int (5 : Int32) [(.int x0), (.int x1), (.int x2), (.int x3), (.int x4)] (.int (0 : Int32))) :
    OMeets l Z y4 prog_69_method_4_code 3 (some .int) ({ frames := 0, cells := 0, slots := 0, locals := 0 } : Room) #[(.ref a)] h0 (OPure (some (.int (((31 : Int32) * (((31 : Int32) * ((31 : Int32) + x0)) + x1)) + x2))) h0) := by
  refine met (Q := OPure (some (.int (((31 : Int32) * (((31 : Int32) * ((31 : Int32) + x0)) + x1)) + x2))) h0) pf_4 (fun m => ef_rmHash3 m a) fun p e s m below meth c T0 P0 => ?_
  refine G.iconst P0 d4_0 (z := (1 : Int32)) rfl (pc' := 1) rfl ?_
  refine G.istoreN P0 d4_1 (l' := #[.val (.ref a), .val (.int (1 : Int32)), .unset]) rfl (pc' := 2) rfl ?_
  refine G.iconst P0 d4_2 (z := (0 : Int32)) rfl (pc' := 3) rfl ?_
  refine G.istoreN P0 d4_3 (l' := #[.val (.ref a), .val (.int (1 : Int32)), .val (.int (0 : Int32))]) rfl (pc' := 4) rfl ?_
  refine G.iloadN P0 d4_4 rfl (pc' := 5) rfl ?_
  refine G.aloadN P0 d4_5 rfl rfl (pc' := 6) rfl ?_
  refine G.getF P0 (host := "") (Or.inl (wk hw 17 rfl)) Via.refl FL d4_6 (pc' := 9) rfl fun T1 P1 => ?_
  refine G.icmp_ge P1 d4_9 (by decide) (pcY := 30) (by decide) (pcN := 12) rfl (fun c2 => absurd c2 (by decide)) (fun c2 => ?_)
  refine G.bipush P1 d4_12 (z := (31 : Int32)) rfl (pc' := 14) rfl ?_
  refine G.iloadN P1 d4_14 rfl (pc' := 15) rfl ?_
  refine G.imul P1 d4_15 (z := (31 : Int32)) (by decide) (pc' := 16) rfl ?_
  refine G.aloadN P1 d4_16 rfl rfl (pc' := 17) rfl ?_
  refine G.getF P1 (host := "") (Or.inl (wk hw 15 rfl)) Via.refl FV d4_17 (pc' := 20) rfl fun T3 P3 => ?_
  refine G.iloadN P3 d4_20 rfl (pc' := 21) rfl ?_
  refine G.iaload P3 V (j := (0 : Int32)) (v := (.int x0)) (by decide) rfl d4_21 (pc' := 22) rfl ?_
  refine G.iadd P3 d4_22 rfl (pc' := 23) rfl ?_
  refine G.istoreN P3 d4_23 (l' := #[.val (.ref a), .val (.int ((31 : Int32) + x0)), .val (.int (0 : Int32))]) rfl (pc' := 24) rfl ?_
  refine G.iinc P3 d4_24 rfl (z := (1 : Int32)) (by decide) (l' := #[.val (.ref a), .val (.int ((31 : Int32) + x0)), .val (.int (1 : Int32))]) rfl (pc' := 27) rfl ?_
  refine G.goto P3 d4_27 (by decide) (pc' := 4) (by decide) ?_
  refine G.iloadN P3 d4_4 rfl (pc' := 5) rfl ?_
  refine G.aloadN P3 d4_5 rfl rfl (pc' := 6) rfl ?_
  refine G.getF P3 (host := "") (Or.inl (wk hw 17 rfl)) Via.refl FL d4_6 (pc' := 9) rfl fun T4 P4 => ?_
  refine G.icmp_ge P4 d4_9 (by decide) (pcY := 30) (by decide) (pcN := 12) rfl (fun c5 => absurd c5 (by decide)) (fun c5 => ?_)
  refine G.bipush P4 d4_12 (z := (31 : Int32)) rfl (pc' := 14) rfl ?_
  refine G.iloadN P4 d4_14 rfl (pc' := 15) rfl ?_
  refine G.imul P4 d4_15 rfl (pc' := 16) rfl ?_
  refine G.aloadN P4 d4_16 rfl rfl (pc' := 17) rfl ?_
  refine G.getF P4 (host := "") (Or.inl (wk hw 15 rfl)) Via.refl FV d4_17 (pc' := 20) rfl fun T6 P6 => ?_
  refine G.iloadN P6 d4_20 rfl (pc' := 21) rfl ?_
  refine G.iaload P6 V (j := (1 : Int32)) (v := (.int x1)) (by decide) rfl d4_21 (pc' := 22) rfl ?_
  refine G.iadd P6 d4_22 rfl (pc' := 23) rfl ?_
  refine G.istoreN P6 d4_23 (l' := #[.val (.ref a), .val (.int (((31 : Int32) * ((31 : Int32) + x0)) + x1)), .val (.int (1 : Int32))]) rfl (pc' := 24) rfl ?_
  refine G.iinc P6 d4_24 rfl (z := (2 : Int32)) (by decide) (l' := #[.val (.ref a), .val (.int (((31 : Int32) * ((31 : Int32) + x0)) + x1)), .val (.int (2 : Int32))]) rfl (pc' := 27) rfl ?_
  refine G.goto P6 d4_27 (by decide) (pc' := 4) (by decide) ?_
  refine G.iloadN P6 d4_4 rfl (pc' := 5) rfl ?_
  refine G.aloadN P6 d4_5 rfl rfl (pc' := 6) rfl ?_
  refine G.getF P6 (host := "") (Or.inl (wk hw 17 rfl)) Via.refl FL d4_6 (pc' := 9) rfl fun T7 P7 => ?_
  refine G.icmp_ge P7 d4_9 (by decide) (pcY := 30) (by decide) (pcN := 12) rfl (fun c8 => absurd c8 (by decide)) (fun c8 => ?_)
  refine G.bipush P7 d4_12 (z := (31 : Int32)) rfl (pc' := 14) rfl ?_
  refine G.iloadN P7 d4_14 rfl (pc' := 15) rfl ?_
  refine G.imul P7 d4_15 rfl (pc' := 16) rfl ?_
  refine G.aloadN P7 d4_16 rfl rfl (pc' := 17) rfl ?_
  refine G.getF P7 (host := "") (Or.inl (wk hw 15 rfl)) Via.refl FV d4_17 (pc' := 20) rfl fun T9 P9 => ?_
  refine G.iloadN P9 d4_20 rfl (pc' := 21) rfl ?_
  refine G.iaload P9 V (j := (2 : Int32)) (v := (.int x2)) (by decide) rfl d4_21 (pc' := 22) rfl ?_
  refine G.iadd P9 d4_22 rfl (pc' := 23) rfl ?_
  refine G.istoreN P9 d4_23 (l' := #[.val (.ref a), .val (.int (((31 : Int32) * (((31 : Int32) * ((31 : Int32) + x0)) + x1)) + x2)), .val (.int (2 : Int32))]) rfl (pc' := 24) rfl ?_
  refine G.iinc P9 d4_24 rfl (z := (3 : Int32)) (by decide) (l' := #[.val (.ref a), .val (.int (((31 : Int32) * (((31 : Int32) * ((31 : Int32) + x0)) + x1)) + x2)), .val (.int (3 : Int32))]) rfl (pc' := 27) rfl ?_
  refine G.goto P9 d4_27 (by decide) (pc' := 4) (by decide) ?_
  refine G.iloadN P9 d4_4 rfl (pc' := 5) rfl ?_
  refine G.aloadN P9 d4_5 rfl rfl (pc' := 6) rfl ?_
  refine G.getF P9 (host := "") (Or.inl (wk hw 17 rfl)) Via.refl FL d4_6 (pc' := 9) rfl fun T10 P10 => ?_
  refine G.icmp_ge P10 d4_9 (by decide) (pcY := 30) (by decide) (pcN := 12) rfl (fun c11 => ?_) (fun c11 => absurd c11 (by decide))
  refine G.iloadN P10 d4_30 rfl (pc' := 31) rfl ?_
  exact G.retI P10 d4_31 (by decide) (by decide) ⟨rfl, rfl, rfl⟩

theorem ef_rmHash4 (m : MethodId) (a : Addr) : entryFrame m #[(.ref a)] 3 = mkF m 0 #[.val (.ref a), .unset, .unset] [] := by first | (simp [entryFrame, mkF, argsToLocals, Value.category]; done) | rfl
set_option maxRecDepth 65536 in
set_option maxHeartbeats 40000000 in
theorem rmHash4 (l : Launch) (Z : State) (a0 : Array Value) (hw : ∀ d ∈ tables_1, d.before a0 Z = true) (a b : Addr) (x0 x1 x2 x3 x4 : Int32) (kk : ClassId) (h0 : Heap) (FV : Fld Z h0 a "dev/happenstance/model/Prefix" "values" "[I" (.ref b)) (FL : Fld Z h0 a "dev/happenstance/model/Prefix" "length" "I" (.int (4 : Int32))) (V : Arv Z h0 b kk .int (5 : Int32) [(.int x0), (.int x1), (.int x2), (.int x3), (.int x4)] (.int (0 : Int32))) :
    OMeets l Z y4 prog_69_method_4_code 3 (some .int) ({ frames := 0, cells := 0, slots := 0, locals := 0 } : Room) #[(.ref a)] h0 (OPure (some (.int (((31 : Int32) * (((31 : Int32) * (((31 : Int32) * ((31 : Int32) + x0)) + x1)) + x2)) + x3))) h0) := by
  refine met (Q := OPure (some (.int (((31 : Int32) * (((31 : Int32) * (((31 : Int32) * ((31 : Int32) + x0)) + x1)) + x2)) + x3))) h0) pf_4 (fun m => ef_rmHash4 m a) fun p e s m below meth c T0 P0 => ?_
  refine G.iconst P0 d4_0 (z := (1 : Int32)) rfl (pc' := 1) rfl ?_
  refine G.istoreN P0 d4_1 (l' := #[.val (.ref a), .val (.int (1 : Int32)), .unset]) rfl (pc' := 2) rfl ?_
  refine G.iconst P0 d4_2 (z := (0 : Int32)) rfl (pc' := 3) rfl ?_
  refine G.istoreN P0 d4_3 (l' := #[.val (.ref a), .val (.int (1 : Int32)), .val (.int (0 : Int32))]) rfl (pc' := 4) rfl ?_
  refine G.iloadN P0 d4_4 rfl (pc' := 5) rfl ?_
  refine G.aloadN P0 d4_5 rfl rfl (pc' := 6) rfl ?_
  refine G.getF P0 (host := "") (Or.inl (wk hw 17 rfl)) Via.refl FL d4_6 (pc' := 9) rfl fun T1 P1 => ?_
  refine G.icmp_ge P1 d4_9 (by decide) (pcY := 30) (by decide) (pcN := 12) rfl (fun c2 => absurd c2 (by decide)) (fun c2 => ?_)
  refine G.bipush P1 d4_12 (z := (31 : Int32)) rfl (pc' := 14) rfl ?_
  refine G.iloadN P1 d4_14 rfl (pc' := 15) rfl ?_
  refine G.imul P1 d4_15 (z := (31 : Int32)) (by decide) (pc' := 16) rfl ?_
  refine G.aloadN P1 d4_16 rfl rfl (pc' := 17) rfl ?_
  refine G.getF P1 (host := "") (Or.inl (wk hw 15 rfl)) Via.refl FV d4_17 (pc' := 20) rfl fun T3 P3 => ?_
  refine G.iloadN P3 d4_20 rfl (pc' := 21) rfl ?_
  refine G.iaload P3 V (j := (0 : Int32)) (v := (.int x0)) (by decide) rfl d4_21 (pc' := 22) rfl ?_
  refine G.iadd P3 d4_22 rfl (pc' := 23) rfl ?_
  refine G.istoreN P3 d4_23 (l' := #[.val (.ref a), .val (.int ((31 : Int32) + x0)), .val (.int (0 : Int32))]) rfl (pc' := 24) rfl ?_
  refine G.iinc P3 d4_24 rfl (z := (1 : Int32)) (by decide) (l' := #[.val (.ref a), .val (.int ((31 : Int32) + x0)), .val (.int (1 : Int32))]) rfl (pc' := 27) rfl ?_
  refine G.goto P3 d4_27 (by decide) (pc' := 4) (by decide) ?_
  refine G.iloadN P3 d4_4 rfl (pc' := 5) rfl ?_
  refine G.aloadN P3 d4_5 rfl rfl (pc' := 6) rfl ?_
  refine G.getF P3 (host := "") (Or.inl (wk hw 17 rfl)) Via.refl FL d4_6 (pc' := 9) rfl fun T4 P4 => ?_
  refine G.icmp_ge P4 d4_9 (by decide) (pcY := 30) (by decide) (pcN := 12) rfl (fun c5 => absurd c5 (by decide)) (fun c5 => ?_)
  refine G.bipush P4 d4_12 (z := (31 : Int32)) rfl (pc' := 14) rfl ?_
  refine G.iloadN P4 d4_14 rfl (pc' := 15) rfl ?_
  refine G.imul P4 d4_15 rfl (pc' := 16) rfl ?_
  refine G.aloadN P4 d4_16 rfl rfl (pc' := 17) rfl ?_
  refine G.getF P4 (host := "") (Or.inl (wk hw 15 rfl)) Via.refl FV d4_17 (pc' := 20) rfl fun T6 P6 => ?_
  refine G.iloadN P6 d4_20 rfl (pc' := 21) rfl ?_
  refine G.iaload P6 V (j := (1 : Int32)) (v := (.int x1)) (by decide) rfl d4_21 (pc' := 22) rfl ?_
  refine G.iadd P6 d4_22 rfl (pc' := 23) rfl ?_
  refine G.istoreN P6 d4_23 (l' := #[.val (.ref a), .val (.int (((31 : Int32) * ((31 : Int32) + x0)) + x1)), .val (.int (1 : Int32))]) rfl (pc' := 24) rfl ?_
  refine G.iinc P6 d4_24 rfl (z := (2 : Int32)) (by decide) (l' := #[.val (.ref a), .val (.int (((31 : Int32) * ((31 : Int32) + x0)) + x1)), .val (.int (2 : Int32))]) rfl (pc' := 27) rfl ?_
  refine G.goto P6 d4_27 (by decide) (pc' := 4) (by decide) ?_
  refine G.iloadN P6 d4_4 rfl (pc' := 5) rfl ?_
  refine G.aloadN P6 d4_5 rfl rfl (pc' := 6) rfl ?_
  refine G.getF P6 (host := "") (Or.inl (wk hw 17 rfl)) Via.refl FL d4_6 (pc' := 9) rfl fun T7 P7 => ?_
  refine G.icmp_ge P7 d4_9 (by decide) (pcY := 30) (by decide) (pcN := 12) rfl (fun c8 => absurd c8 (by decide)) (fun c8 => ?_)
  refine G.bipush P7 d4_12 (z := (31 : Int32)) rfl (pc' := 14) rfl ?_
  refine G.iloadN P7 d4_14 rfl (pc' := 15) rfl ?_
  refine G.imul P7 d4_15 rfl (pc' := 16) rfl ?_
  refine G.aloadN P7 d4_16 rfl rfl (pc' := 17) rfl ?_
  refine G.getF P7 (host := "") (Or.inl (wk hw 15 rfl)) Via.refl FV d4_17 (pc' := 20) rfl fun T9 P9 => ?_
  refine G.iloadN P9 d4_20 rfl (pc' := 21) rfl ?_
  refine G.iaload P9 V (j := (2 : Int32)) (v := (.int x2)) (by decide) rfl d4_21 (pc' := 22) rfl ?_
  refine G.iadd P9 d4_22 rfl (pc' := 23) rfl ?_
  refine G.istoreN P9 d4_23 (l' := #[.val (.ref a), .val (.int (((31 : Int32) * (((31 : Int32) * ((31 : Int32) + x0)) + x1)) + x2)), .val (.int (2 : Int32))]) rfl (pc' := 24) rfl ?_
  refine G.iinc P9 d4_24 rfl (z := (3 : Int32)) (by decide) (l' := #[.val (.ref a), .val (.int (((31 : Int32) * (((31 : Int32) * ((31 : Int32) + x0)) + x1)) + x2)), .val (.int (3 : Int32))]) rfl (pc' := 27) rfl ?_
  refine G.goto P9 d4_27 (by decide) (pc' := 4) (by decide) ?_
  refine G.iloadN P9 d4_4 rfl (pc' := 5) rfl ?_
  refine G.aloadN P9 d4_5 rfl rfl (pc' := 6) rfl ?_
  refine G.getF P9 (host := "") (Or.inl (wk hw 17 rfl)) Via.refl FL d4_6 (pc' := 9) rfl fun T10 P10 => ?_
  refine G.icmp_ge P10 d4_9 (by decide) (pcY := 30) (by decide) (pcN := 12) rfl (fun c11 => absurd c11 (by decide)) (fun c11 => ?_)
  refine G.bipush P10 d4_12 (z := (31 : Int32)) rfl (pc' := 14) rfl ?_
  refine G.iloadN P10 d4_14 rfl (pc' := 15) rfl ?_
  refine G.imul P10 d4_15 rfl (pc' := 16) rfl ?_
  refine G.aloadN P10 d4_16 rfl rfl (pc' := 17) rfl ?_
  refine G.getF P10 (host := "") (Or.inl (wk hw 15 rfl)) Via.refl FV d4_17 (pc' := 20) rfl fun T12 P12 => ?_
  refine G.iloadN P12 d4_20 rfl (pc' := 21) rfl ?_
  refine G.iaload P12 V (j := (3 : Int32)) (v := (.int x3)) (by decide) rfl d4_21 (pc' := 22) rfl ?_
  refine G.iadd P12 d4_22 rfl (pc' := 23) rfl ?_
  refine G.istoreN P12 d4_23 (l' := #[.val (.ref a), .val (.int (((31 : Int32) * (((31 : Int32) * (((31 : Int32) * ((31 : Int32) + x0)) + x1)) + x2)) + x3)), .val (.int (3 : Int32))]) rfl (pc' := 24) rfl ?_
  refine G.iinc P12 d4_24 rfl (z := (4 : Int32)) (by decide) (l' := #[.val (.ref a), .val (.int (((31 : Int32) * (((31 : Int32) * (((31 : Int32) * ((31 : Int32) + x0)) + x1)) + x2)) + x3)), .val (.int (4 : Int32))]) rfl (pc' := 27) rfl ?_
  refine G.goto P12 d4_27 (by decide) (pc' := 4) (by decide) ?_
  refine G.iloadN P12 d4_4 rfl (pc' := 5) rfl ?_
  refine G.aloadN P12 d4_5 rfl rfl (pc' := 6) rfl ?_
  refine G.getF P12 (host := "") (Or.inl (wk hw 17 rfl)) Via.refl FL d4_6 (pc' := 9) rfl fun T13 P13 => ?_
  refine G.icmp_ge P13 d4_9 (by decide) (pcY := 30) (by decide) (pcN := 12) rfl (fun c14 => ?_) (fun c14 => absurd c14 (by decide))
  refine G.iloadN P13 d4_30 rfl (pc' := 31) rfl ?_
  exact G.retI P13 d4_31 (by decide) (by decide) ⟨rfl, rfl, rfl⟩

theorem ef_rmRef0 (m : MethodId) (x0 x1 x2 x3 : Int32) : entryFrame m #[(.int (0 : Int32)), (.int x0), (.int x1), (.int x2), (.int x3)] 5 = mkF m 0 #[.val (.int (0 : Int32)), .val (.int x0), .val (.int x1), .val (.int x2), .val (.int x3)] [] := by first | (simp [entryFrame, mkF, argsToLocals, Value.category]; done) | rfl
set_option maxRecDepth 65536 in
set_option maxHeartbeats 40000000 in
theorem rmRef0 (l : Launch) (Z : State) (a0 : Array Value) (hw : ∀ d ∈ tables_1, d.before a0 Z = true) (x0 x1 x2 x3 : Int32) (h0 : Heap) :
    OMeets l Z y5 method_2_code 5 (some .int) ({ frames := 0, cells := 0, slots := 0, locals := 0 } : Room) #[(.int (0 : Int32)), (.int x0), (.int x1), (.int x2), (.int x3)] h0 (OPure (some (.int (1 : Int32))) h0) := by
  refine met (Q := OPure (some (.int (1 : Int32))) h0) pf_5 (fun m => ef_rmRef0 m x0 x1 x2 x3) fun p e s m below meth c T0 P0 => ?_
  refine G.iloadN P0 d5_0 rfl (pc' := 1) rfl ?_
  refine G.if_ne P0 d5_1 (by decide) (pcY := 6) (by decide) (pcN := 4) rfl (fun c1 => absurd c1 (by decide)) (fun c1 => ?_)
  refine G.iconst P0 d5_4 (z := (1 : Int32)) rfl (pc' := 5) rfl ?_
  exact G.retI P0 d5_5 (by decide) (by decide) ⟨rfl, rfl, rfl⟩

theorem ef_rmRef1 (m : MethodId) (x0 x1 x2 x3 : Int32) : entryFrame m #[(.int (1 : Int32)), (.int x0), (.int x1), (.int x2), (.int x3)] 5 = mkF m 0 #[.val (.int (1 : Int32)), .val (.int x0), .val (.int x1), .val (.int x2), .val (.int x3)] [] := by first | (simp [entryFrame, mkF, argsToLocals, Value.category]; done) | rfl
set_option maxRecDepth 65536 in
set_option maxHeartbeats 40000000 in
theorem rmRef1 (l : Launch) (Z : State) (a0 : Array Value) (hw : ∀ d ∈ tables_1, d.before a0 Z = true) (x0 x1 x2 x3 : Int32) (h0 : Heap) :
    OMeets l Z y5 method_2_code 5 (some .int) ({ frames := 0, cells := 0, slots := 0, locals := 0 } : Room) #[(.int (1 : Int32)), (.int x0), (.int x1), (.int x2), (.int x3)] h0 (OPure (some (.int ((31 : Int32) + x0))) h0) := by
  refine met (Q := OPure (some (.int ((31 : Int32) + x0))) h0) pf_5 (fun m => ef_rmRef1 m x0 x1 x2 x3) fun p e s m below meth c T0 P0 => ?_
  refine G.iloadN P0 d5_0 rfl (pc' := 1) rfl ?_
  refine G.if_ne P0 d5_1 (by decide) (pcY := 6) (by decide) (pcN := 4) rfl (fun c1 => ?_) (fun c1 => absurd c1 (by decide))
  refine G.iloadN P0 d5_6 rfl (pc' := 7) rfl ?_
  refine G.iconst P0 d5_7 (z := (1 : Int32)) rfl (pc' := 8) rfl ?_
  refine G.icmp_ne P0 d5_8 (by decide) (pcY := 16) (by decide) (pcN := 11) rfl (fun c2 => absurd c2 (by decide)) (fun c2 => ?_)
  refine G.bipush P0 d5_11 (z := (31 : Int32)) rfl (pc' := 13) rfl ?_
  refine G.iloadN P0 d5_13 rfl (pc' := 14) rfl ?_
  refine G.iadd P0 d5_14 rfl (pc' := 15) rfl ?_
  exact G.retI P0 d5_15 (by decide) (by decide) ⟨rfl, rfl, rfl⟩

theorem ef_rmRef2 (m : MethodId) (x0 x1 x2 x3 : Int32) : entryFrame m #[(.int (2 : Int32)), (.int x0), (.int x1), (.int x2), (.int x3)] 5 = mkF m 0 #[.val (.int (2 : Int32)), .val (.int x0), .val (.int x1), .val (.int x2), .val (.int x3)] [] := by first | (simp [entryFrame, mkF, argsToLocals, Value.category]; done) | rfl
set_option maxRecDepth 65536 in
set_option maxHeartbeats 40000000 in
theorem rmRef2 (l : Launch) (Z : State) (a0 : Array Value) (hw : ∀ d ∈ tables_1, d.before a0 Z = true) (x0 x1 x2 x3 : Int32) (h0 : Heap) :
    OMeets l Z y5 method_2_code 5 (some .int) ({ frames := 0, cells := 0, slots := 0, locals := 0 } : Room) #[(.int (2 : Int32)), (.int x0), (.int x1), (.int x2), (.int x3)] h0 (OPure (some (.int (((961 : Int32) + ((31 : Int32) * x0)) + x1))) h0) := by
  refine met (Q := OPure (some (.int (((961 : Int32) + ((31 : Int32) * x0)) + x1))) h0) pf_5 (fun m => ef_rmRef2 m x0 x1 x2 x3) fun p e s m below meth c T0 P0 => ?_
  refine G.iloadN P0 d5_0 rfl (pc' := 1) rfl ?_
  refine G.if_ne P0 d5_1 (by decide) (pcY := 6) (by decide) (pcN := 4) rfl (fun c1 => ?_) (fun c1 => absurd c1 (by decide))
  refine G.iloadN P0 d5_6 rfl (pc' := 7) rfl ?_
  refine G.iconst P0 d5_7 (z := (1 : Int32)) rfl (pc' := 8) rfl ?_
  refine G.icmp_ne P0 d5_8 (by decide) (pcY := 16) (by decide) (pcN := 11) rfl (fun c2 => ?_) (fun c2 => absurd c2 (by decide))
  refine G.iloadN P0 d5_16 rfl (pc' := 17) rfl ?_
  refine G.iconst P0 d5_17 (z := (2 : Int32)) rfl (pc' := 18) rfl ?_
  refine G.icmp_ne P0 d5_18 (by decide) (pcY := 32) (by decide) (pcN := 21) rfl (fun c3 => absurd c3 (by decide)) (fun c3 => ?_)
  refine G.sipush P0 d5_21 (z := (961 : Int32)) rfl (pc' := 24) rfl ?_
  refine G.bipush P0 d5_24 (z := (31 : Int32)) rfl (pc' := 26) rfl ?_
  refine G.iloadN P0 d5_26 rfl (pc' := 27) rfl ?_
  refine G.imul P0 d5_27 rfl (pc' := 28) rfl ?_
  refine G.iadd P0 d5_28 rfl (pc' := 29) rfl ?_
  refine G.iloadN P0 d5_29 rfl (pc' := 30) rfl ?_
  refine G.iadd P0 d5_30 rfl (pc' := 31) rfl ?_
  exact G.retI P0 d5_31 (by decide) (by decide) ⟨rfl, rfl, rfl⟩

theorem ef_rmRef3 (m : MethodId) (x0 x1 x2 x3 : Int32) : entryFrame m #[(.int (3 : Int32)), (.int x0), (.int x1), (.int x2), (.int x3)] 5 = mkF m 0 #[.val (.int (3 : Int32)), .val (.int x0), .val (.int x1), .val (.int x2), .val (.int x3)] [] := by first | (simp [entryFrame, mkF, argsToLocals, Value.category]; done) | rfl
set_option maxRecDepth 65536 in
set_option maxHeartbeats 40000000 in
theorem rmRef3 (l : Launch) (Z : State) (a0 : Array Value) (hw : ∀ d ∈ tables_1, d.before a0 Z = true) (x0 x1 x2 x3 : Int32) (h0 : Heap) :
    OMeets l Z y5 method_2_code 5 (some .int) ({ frames := 0, cells := 0, slots := 0, locals := 0 } : Room) #[(.int (3 : Int32)), (.int x0), (.int x1), (.int x2), (.int x3)] h0 (OPure (some (.int ((((29791 : Int32) + ((961 : Int32) * x0)) + ((31 : Int32) * x1)) + x2))) h0) := by
  refine met (Q := OPure (some (.int ((((29791 : Int32) + ((961 : Int32) * x0)) + ((31 : Int32) * x1)) + x2))) h0) pf_5 (fun m => ef_rmRef3 m x0 x1 x2 x3) fun p e s m below meth c T0 P0 => ?_
  refine G.iloadN P0 d5_0 rfl (pc' := 1) rfl ?_
  refine G.if_ne P0 d5_1 (by decide) (pcY := 6) (by decide) (pcN := 4) rfl (fun c1 => ?_) (fun c1 => absurd c1 (by decide))
  refine G.iloadN P0 d5_6 rfl (pc' := 7) rfl ?_
  refine G.iconst P0 d5_7 (z := (1 : Int32)) rfl (pc' := 8) rfl ?_
  refine G.icmp_ne P0 d5_8 (by decide) (pcY := 16) (by decide) (pcN := 11) rfl (fun c2 => ?_) (fun c2 => absurd c2 (by decide))
  refine G.iloadN P0 d5_16 rfl (pc' := 17) rfl ?_
  refine G.iconst P0 d5_17 (z := (2 : Int32)) rfl (pc' := 18) rfl ?_
  refine G.icmp_ne P0 d5_18 (by decide) (pcY := 32) (by decide) (pcN := 21) rfl (fun c3 => ?_) (fun c3 => absurd c3 (by decide))
  refine G.iloadN P0 d5_32 rfl (pc' := 33) rfl ?_
  refine G.iconst P0 d5_33 (z := (3 : Int32)) rfl (pc' := 34) rfl ?_
  refine G.icmp_ne P0 d5_34 (by decide) (pcY := 54) (by decide) (pcN := 37) rfl (fun c4 => absurd c4 (by decide)) (fun c4 => ?_)
  refine G.sipush P0 d5_37 (z := (29791 : Int32)) rfl (pc' := 40) rfl ?_
  refine G.sipush P0 d5_40 (z := (961 : Int32)) rfl (pc' := 43) rfl ?_
  refine G.iloadN P0 d5_43 rfl (pc' := 44) rfl ?_
  refine G.imul P0 d5_44 rfl (pc' := 45) rfl ?_
  refine G.iadd P0 d5_45 rfl (pc' := 46) rfl ?_
  refine G.bipush P0 d5_46 (z := (31 : Int32)) rfl (pc' := 48) rfl ?_
  refine G.iloadN P0 d5_48 rfl (pc' := 49) rfl ?_
  refine G.imul P0 d5_49 rfl (pc' := 50) rfl ?_
  refine G.iadd P0 d5_50 rfl (pc' := 51) rfl ?_
  refine G.iloadN P0 d5_51 rfl (pc' := 52) rfl ?_
  refine G.iadd P0 d5_52 rfl (pc' := 53) rfl ?_
  exact G.retI P0 d5_53 (by decide) (by decide) ⟨rfl, rfl, rfl⟩

theorem ef_rmRef4 (m : MethodId) (x0 x1 x2 x3 : Int32) : entryFrame m #[(.int (4 : Int32)), (.int x0), (.int x1), (.int x2), (.int x3)] 5 = mkF m 0 #[.val (.int (4 : Int32)), .val (.int x0), .val (.int x1), .val (.int x2), .val (.int x3)] [] := by first | (simp [entryFrame, mkF, argsToLocals, Value.category]; done) | rfl
set_option maxRecDepth 65536 in
set_option maxHeartbeats 40000000 in
theorem rmRef4 (l : Launch) (Z : State) (a0 : Array Value) (hw : ∀ d ∈ tables_1, d.before a0 Z = true) (x0 x1 x2 x3 : Int32) (h0 : Heap) :
    OMeets l Z y5 method_2_code 5 (some .int) ({ frames := 0, cells := 0, slots := 0, locals := 0 } : Room) #[(.int (4 : Int32)), (.int x0), (.int x1), (.int x2), (.int x3)] h0 (OPure (some (.int (((((923521 : Int32) + ((29791 : Int32) * x0)) + ((961 : Int32) * x1)) + ((31 : Int32) * x2)) + x3))) h0) := by
  refine met (Q := OPure (some (.int (((((923521 : Int32) + ((29791 : Int32) * x0)) + ((961 : Int32) * x1)) + ((31 : Int32) * x2)) + x3))) h0) pf_5 (fun m => ef_rmRef4 m x0 x1 x2 x3) fun p e s m below meth c T0 P0 => ?_
  refine G.iloadN P0 d5_0 rfl (pc' := 1) rfl ?_
  refine G.if_ne P0 d5_1 (by decide) (pcY := 6) (by decide) (pcN := 4) rfl (fun c1 => ?_) (fun c1 => absurd c1 (by decide))
  refine G.iloadN P0 d5_6 rfl (pc' := 7) rfl ?_
  refine G.iconst P0 d5_7 (z := (1 : Int32)) rfl (pc' := 8) rfl ?_
  refine G.icmp_ne P0 d5_8 (by decide) (pcY := 16) (by decide) (pcN := 11) rfl (fun c2 => ?_) (fun c2 => absurd c2 (by decide))
  refine G.iloadN P0 d5_16 rfl (pc' := 17) rfl ?_
  refine G.iconst P0 d5_17 (z := (2 : Int32)) rfl (pc' := 18) rfl ?_
  refine G.icmp_ne P0 d5_18 (by decide) (pcY := 32) (by decide) (pcN := 21) rfl (fun c3 => ?_) (fun c3 => absurd c3 (by decide))
  refine G.iloadN P0 d5_32 rfl (pc' := 33) rfl ?_
  refine G.iconst P0 d5_33 (z := (3 : Int32)) rfl (pc' := 34) rfl ?_
  refine G.icmp_ne P0 d5_34 (by decide) (pcY := 54) (by decide) (pcN := 37) rfl (fun c4 => ?_) (fun c4 => absurd c4 (by decide))
  refine G.ldcI P0 (wk hw 28 rfl) d5_54 (pc' := 56) rfl ?_
  refine G.sipush P0 d5_56 (z := (29791 : Int32)) rfl (pc' := 59) rfl ?_
  refine G.iloadN P0 d5_59 rfl (pc' := 60) rfl ?_
  refine G.imul P0 d5_60 rfl (pc' := 61) rfl ?_
  refine G.iadd P0 d5_61 rfl (pc' := 62) rfl ?_
  refine G.sipush P0 d5_62 (z := (961 : Int32)) rfl (pc' := 65) rfl ?_
  refine G.iloadN P0 d5_65 rfl (pc' := 66) rfl ?_
  refine G.imul P0 d5_66 rfl (pc' := 67) rfl ?_
  refine G.iadd P0 d5_67 rfl (pc' := 68) rfl ?_
  refine G.bipush P0 d5_68 (z := (31 : Int32)) rfl (pc' := 70) rfl ?_
  refine G.iloadN P0 d5_70 rfl (pc' := 71) rfl ?_
  refine G.imul P0 d5_71 rfl (pc' := 72) rfl ?_
  refine G.iadd P0 d5_72 rfl (pc' := 73) rfl ?_
  refine G.iload P0 d5_73 rfl (pc' := 75) rfl ?_
  refine G.iadd P0 d5_75 rfl (pc' := 76) rfl ?_
  exact G.retI P0 d5_76 (by decide) (by decide) ⟨rfl, rfl, rfl⟩

theorem own_n (y : Int32) : ((y &&& (7 : Int32)) % (5 : Int32)) = (0 : Int32) ∨ ((y &&& (7 : Int32)) % (5 : Int32)) = (1 : Int32) ∨ ((y &&& (7 : Int32)) % (5 : Int32)) = (2 : Int32) ∨ ((y &&& (7 : Int32)) % (5 : Int32)) = (3 : Int32) ∨ ((y &&& (7 : Int32)) % (5 : Int32)) = (4 : Int32) := by
  have a1 := c_mask y (7 : Int32) 3 (by decide) (by decide)
  have a2 := c_irem (y &&& (7 : Int32)) 5 5 rfl
  have k0 : (0 : Int32).toInt = 0 := rfl
  have k1 : (1 : Int32).toInt = 1 := rfl
  have k2 : (2 : Int32).toInt = 2 := rfl
  have k3 : (3 : Int32).toInt = 3 := rfl
  have k4 : (4 : Int32).toInt = 4 := rfl
  simp only [← Int32.toInt_inj, k0, k1, k2, k3, k4]; omega
theorem own_eq0 (x0 x1 x2 x3 : Int32) : (1 : Int32) = (1 : Int32) := by first | rfl | decide | grind
theorem own_eq1 (x0 x1 x2 x3 : Int32) : ((31 : Int32) + x0) = ((31 : Int32) + x0) := by first | rfl | decide | grind
theorem own_eq2 (x0 x1 x2 x3 : Int32) : (((31 : Int32) * ((31 : Int32) + x0)) + x1) = (((961 : Int32) + ((31 : Int32) * x0)) + x1) := by first | rfl | decide | grind
theorem own_eq3 (x0 x1 x2 x3 : Int32) : (((31 : Int32) * (((31 : Int32) * ((31 : Int32) + x0)) + x1)) + x2) = ((((29791 : Int32) + ((961 : Int32) * x0)) + ((31 : Int32) * x1)) + x2) := by first | rfl | decide | grind
theorem own_eq4 (x0 x1 x2 x3 : Int32) : (((31 : Int32) * (((31 : Int32) * (((31 : Int32) * ((31 : Int32) + x0)) + x1)) + x2)) + x3) = (((((923521 : Int32) + ((29791 : Int32) * x0)) + ((961 : Int32) * x1)) + ((31 : Int32) * x2)) + x3) := by first | rfl | decide | grind

theorem ef_0 (m : MethodId) (x0 : Int32) (x1 : Int32) (x2 : Int32) (x3 : Int32) (x4 : Int32) (x5 : Int32) : entryFrame m #[(.int x0), (.int x1), (.int x2), (.int x3), (.int x4), (.int x5)] maxLocals = mkF m 0 #[.val (.int x0), .val (.int x1), .val (.int x2), .val (.int x3), .val (.int x4), .val (.int x5), .unset, .unset, .unset] [] := by first | (simp [entryFrame, mkF, argsToLocals, Value.category, maxLocals]; done) | rfl
set_option maxRecDepth 65536 in
set_option maxHeartbeats 40000000 in
theorem rm0 (l : Launch) (Z : State) (a0 : Array Value) (hw : ∀ d ∈ tables_1, d.before a0 Z = true) (x0 : Int32) (x1 : Int32) (x2 : Int32) (x3 : Int32) (x4 : Int32) (x5 : Int32) (h0 : Heap) (n0 : Nat) (Z0 : n0 ≤ Array.size h0) :
    MetFree l x (head1 (Jvm.Cond.code x code maxLocals ret :: tables_1) room_1) (fun a U => a = #[(.int x0), (.int x1), (.int x2), (.int x3), (.int x4), (.int x5)] ∧ Z.Warmed39 U.vm ∧ U.heap = h0) (fun _ _ _ _ _ => True) (fun _ U o U' => ∃ v L, o = .returned v ∧ (fun v h L => v = some (.int 1) ∧ Fr n0 L) v U'.heap L ∧ FrameEnd U o U' L room_1.cells room_1.slots) := by
  refine met (Q := fun v h L => v = some (.int 1) ∧ Fr n0 L) pf_0 (fun m => ef_0 m x0 x1 x2 x3 x4 x5) fun p e s m below meth c T0 P0 => ?_
  have N0 := Fr.nil n0
  refine G.iload P0 at_0 rfl (pc' := 2) rfl ?_
  refine G.bipush P0 at_2 (z := (7 : Int32)) rfl (pc' := 4) rfl ?_
  refine G.iand P0 at_4 rfl (pc' := 5) rfl ?_
  refine G.iconst P0 at_5 (z := (5 : Int32)) rfl (pc' := 6) rfl ?_
  obtain ⟨n, h_n⟩ : ∃ z : Int32, ((x5 &&& (7 : Int32)) % (5 : Int32)) = z := ⟨_, rfl⟩
  refine G.irem P0 at_6 (by decide) (z := n) h_n (pc' := 7) rfl ?_
  have hn := own_n x5
  rw [h_n] at hn
  rcases hn with rfl | rfl | rfl | rfl | rfl
  · --
    show Go p e below _ (T0.setTop (mkF m 7 #[.val (.int x0), .val (.int x1), .val (.int x2), .val (.int x3), .val (.int x4), .val (.int x5), .unset, .unset, .unset] [(.int (0 : Int32))]))
    refine G.istore P0 at_7 (l' := #[.val (.int x0), .val (.int x1), .val (.int x2), .val (.int x3), .val (.int x4), .val (.int x5), .val (.int (0 : Int32)), .unset, .unset]) rfl (pc' := 9) rfl ?_
    refine G.iconst P0 at_9 (z := (5 : Int32)) rfl (pc' := 10) rfl ?_
    refine G.newP P0 (wk hw 0 rfl) (by decide) (cap := 5) (by decide) (by decide) (by decide) at_10 (pc' := 12) rfl fun T1 h1 a1 k1 g1 P1 E1 V1 => ?_
    have g2 : n0 ≤ a1 := by rw [g1]; exact Z0
    have V1p : Arv Z h1 a1 k1 .int (5 : Int32) [(.int (0 : Int32)), (.int (0 : Int32)), (.int (0 : Int32)), (.int (0 : Int32)), (.int (0 : Int32))] (.int (0 : Int32)) := V1.pad (pad_rep [] _ 5)
    refine G.dup P1 at_12 rfl (pc' := 13) rfl ?_
    refine G.iconst P1 at_13 (z := (0 : Int32)) rfl (pc' := 14) rfl ?_
    refine G.iloadN P1 at_14 rfl (pc' := 15) rfl ?_
    refine G.stI P1 V1p (0) rfl (by decide) (Nat.le_of_ble_eq_true rfl) at_15 (pc' := 16) rfl fun T3 h3 P3 W3 V3 => ?_
    have V3p : Arv Z h3 a1 k1 .int (5 : Int32) [(.int x0), (.int (0 : Int32)), (.int (0 : Int32)), (.int (0 : Int32)), (.int (0 : Int32))] (.int (0 : Int32)) := V3
    have N4 := Fr.snoc P3.st N0 g2
    refine G.dup P3 at_16 rfl (pc' := 17) rfl ?_
    refine G.iconst P3 at_17 (z := (1 : Int32)) rfl (pc' := 18) rfl ?_
    refine G.iloadN P3 at_18 rfl (pc' := 19) rfl ?_
    refine G.stI P3 V3p (1) rfl (by decide) (Nat.le_of_ble_eq_true rfl) at_19 (pc' := 20) rfl fun T5 h5 P5 W5 V5 => ?_
    have V5p : Arv Z h5 a1 k1 .int (5 : Int32) [(.int x0), (.int x1), (.int (0 : Int32)), (.int (0 : Int32)), (.int (0 : Int32))] (.int (0 : Int32)) := V5
    have N6 := Fr.snoc P5.st N4 g2
    refine G.dup P5 at_20 rfl (pc' := 21) rfl ?_
    refine G.iconst P5 at_21 (z := (2 : Int32)) rfl (pc' := 22) rfl ?_
    refine G.iloadN P5 at_22 rfl (pc' := 23) rfl ?_
    refine G.stI P5 V5p (2) rfl (by decide) (Nat.le_of_ble_eq_true rfl) at_23 (pc' := 24) rfl fun T7 h7 P7 W7 V7 => ?_
    have V7p : Arv Z h7 a1 k1 .int (5 : Int32) [(.int x0), (.int x1), (.int x2), (.int (0 : Int32)), (.int (0 : Int32))] (.int (0 : Int32)) := V7
    have N8 := Fr.snoc P7.st N6 g2
    refine G.dup P7 at_24 rfl (pc' := 25) rfl ?_
    refine G.iconst P7 at_25 (z := (3 : Int32)) rfl (pc' := 26) rfl ?_
    refine G.iloadN P7 at_26 rfl (pc' := 27) rfl ?_
    refine G.stI P7 V7p (3) rfl (by decide) (Nat.le_of_ble_eq_true rfl) at_27 (pc' := 28) rfl fun T9 h9 P9 W9 V9 => ?_
    have V9p : Arv Z h9 a1 k1 .int (5 : Int32) [(.int x0), (.int x1), (.int x2), (.int x3), (.int (0 : Int32))] (.int (0 : Int32)) := V9
    have N10 := Fr.snoc P9.st N8 g2
    refine G.dup P9 at_28 rfl (pc' := 29) rfl ?_
    refine G.iconst P9 at_29 (z := (4 : Int32)) rfl (pc' := 30) rfl ?_
    refine G.iload P9 at_30 rfl (pc' := 32) rfl ?_
    refine G.stI P9 V9p (4) rfl (by decide) (Nat.le_of_ble_eq_true rfl) at_32 (pc' := 33) rfl fun T11 h11 P11 W11 V11 => ?_
    have V11p : Arv Z h11 a1 k1 .int (5 : Int32) [(.int x0), (.int x1), (.int x2), (.int x3), (.int x4)] (.int (0 : Int32)) := V11
    have N12 := Fr.snoc P11.st N10 g2
    refine G.astore P11 at_33 rfl (l' := #[.val (.int x0), .val (.int x1), .val (.int x2), .val (.int x3), .val (.int x4), .val (.int x5), .val (.int (0 : Int32)), .val (.ref a1), .unset]) rfl (pc' := 35) rfl ?_
    have z13 : n0 ≤ Array.size h11 := (Nat.le_trans (Nat.le_trans (Nat.le_trans (Nat.le_trans (Nat.le_trans (Nat.le_trans Z0 E1.1) (Nat.le_of_eq W3.size.symm)) (Nat.le_of_eq W5.size.symm)) (Nat.le_of_eq W7.size.symm)) (Nat.le_of_eq W9.size.symm)) (Nat.le_of_eq W11.size.symm))
    refine G.newO P11 (wk hw 1 rfl) (wk hw 2 rfl) (wk hw 3 rfl) at_35 (by decide) (pc' := 38) rfl fun T14 h14 a14 g14 P14 E14 A14 D14 => ?_
    have n15 : a1 ≠ a14 := by rw [g14]; exact Nat.ne_of_lt V11p.lt
    have g16 : n0 ≤ a14 := by rw [g14]; exact z13
    have f17 : Fld Z h14 a14 "dev/happenstance/model/Prefix" "values" "[I" .null := D14 (Or.inr (wk hw 16 rfl)) (ty := (.array .int)) (by decide)
    have f18 : Fld Z h14 a14 "dev/happenstance/model/Prefix" "length" "I" (.int (0 : Int32)) := D14 (Or.inr (wk hw 18 rfl)) (ty := .int) (by decide)
    refine G.dup P14 at_38 rfl (pc' := 39) rfl ?_
    refine G.aload P14 at_39 rfl rfl (pc' := 41) rfl ?_
    refine G.iload P14 at_41 rfl (pc' := 43) rfl ?_
    refine G.callI P14 (rmInit l Z a0 hw a14 a1 (0 : Int32) h14 n0 g16 A14 f17 f18) rfl (wk hw 4 rfl) (wk hw 5 rfl) (wk hw 3 rfl) (wk hw 6 rfl) (by decide) pd_1 (argsL := [(.ref a1), (.int (0 : Int32))]) (rest := [(.ref a14)]) rfl rfl rfl rfl (W := 1) (Nat.le_of_eq rfl) (by decide) at_43 (pc' := 46) rfl fun T19 L19 v19 P19 Q19 => ?_
    obtain ⟨rfl, N19, K19, B19, O19⟩ := Q19
    have N20 := Fr.app N12 N19
    show Go p e below _ (T19.setTop (mkF m 46 #[.val (.int x0), .val (.int x1), .val (.int x2), .val (.int x3), .val (.int x4), .val (.int x5), .val (.int (0 : Int32)), .val (.ref a1), .unset] [(.ref a14)]))
    refine G.astore P19 at_46 rfl (l' := #[.val (.int x0), .val (.int x1), .val (.int x2), .val (.int x3), .val (.int x4), .val (.int x5), .val (.int (0 : Int32)), .val (.ref a1), .val (.ref a14)]) rfl (pc' := 48) rfl ?_
    refine G.aload P19 at_48 rfl rfl (pc' := 50) rfl ?_
    have f21 := ((V11p.ext E14).keep K19 (ninS n15 nin0))
    have f22 := (A14.keep K19)
    refine G.callVP P19 (rmHash0 l Z a0 hw a14 a1 x0 x1 x2 x3 x4 k1 T19.heap B19 O19 f21) (wk hw 19 rfl) (wk hw 20 rfl) (wk hw 22 rfl) rfl (wk hw 21 rfl) (wk hw 3 rfl) (wk hw 23 rfl) (by decide) f22 pd_4 (argsL := []) (rest := []) rfl rfl rfl rfl (W := 0) (Nat.le_of_eq rfl) (by decide) at_50 (pc' := 53) rfl fun T23 P23 => ?_
    show Go p e below _ (T23.setTop (mkF m 53 #[.val (.int x0), .val (.int x1), .val (.int x2), .val (.int x3), .val (.int x4), .val (.int x5), .val (.int (0 : Int32)), .val (.ref a1), .val (.ref a14)] [(.int (1 : Int32))]))
    refine G.iload P23 at_53 rfl (pc' := 55) rfl ?_
    refine G.iloadN P23 at_55 rfl (pc' := 56) rfl ?_
    refine G.iloadN P23 at_56 rfl (pc' := 57) rfl ?_
    refine G.iloadN P23 at_57 rfl (pc' := 58) rfl ?_
    refine G.iloadN P23 at_58 rfl (pc' := 59) rfl ?_
    refine G.callSP P23 (rmRef0 l Z a0 hw x0 x1 x2 x3 T19.heap) (wk hw 24 rfl) (wk hw 25 rfl) (wk hw 26 rfl) (wk hw 27 rfl) (by decide) pd_5 (argsL := [(.int (0 : Int32)), (.int x0), (.int x1), (.int x2), (.int x3)]) (rest := [(.int (1 : Int32))]) rfl rfl rfl rfl (W := 1) (Nat.le_of_eq rfl) (by decide) at_59 (pc' := 62) rfl fun T24 P24 => ?_
    show Go p e below _ (T24.setTop (mkF m 62 #[.val (.int x0), .val (.int x1), .val (.int x2), .val (.int x3), .val (.int x4), .val (.int x5), .val (.int (0 : Int32)), .val (.ref a1), .val (.ref a14)] [(.int (1 : Int32)), (.int (1 : Int32))]))
    refine G.icmp_ne P24 at_62 (by decide) (pcY := 69) (by decide) (pcN := 65) rfl (fun cc => absurd (own_eq0 x0 x1 x2 x3) cc) (fun cc => ?_)
    refine G.iconst P24 at_65 (z := (1 : Int32)) rfl (pc' := 66) rfl ?_
    refine G.goto P24 at_66 (by decide) (pc' := 70) (by decide) ?_
    exact G.retN P24 (t := .boolean) rfl (by simp) at_70 (by decide) (by decide) ⟨rfl, N20⟩
  · --
    show Go p e below _ (T0.setTop (mkF m 7 #[.val (.int x0), .val (.int x1), .val (.int x2), .val (.int x3), .val (.int x4), .val (.int x5), .unset, .unset, .unset] [(.int (1 : Int32))]))
    refine G.istore P0 at_7 (l' := #[.val (.int x0), .val (.int x1), .val (.int x2), .val (.int x3), .val (.int x4), .val (.int x5), .val (.int (1 : Int32)), .unset, .unset]) rfl (pc' := 9) rfl ?_
    refine G.iconst P0 at_9 (z := (5 : Int32)) rfl (pc' := 10) rfl ?_
    refine G.newP P0 (wk hw 0 rfl) (by decide) (cap := 5) (by decide) (by decide) (by decide) at_10 (pc' := 12) rfl fun T25 h25 a25 k25 g25 P25 E25 V25 => ?_
    have g26 : n0 ≤ a25 := by rw [g25]; exact Z0
    have V25p : Arv Z h25 a25 k25 .int (5 : Int32) [(.int (0 : Int32)), (.int (0 : Int32)), (.int (0 : Int32)), (.int (0 : Int32)), (.int (0 : Int32))] (.int (0 : Int32)) := V25.pad (pad_rep [] _ 5)
    refine G.dup P25 at_12 rfl (pc' := 13) rfl ?_
    refine G.iconst P25 at_13 (z := (0 : Int32)) rfl (pc' := 14) rfl ?_
    refine G.iloadN P25 at_14 rfl (pc' := 15) rfl ?_
    refine G.stI P25 V25p (0) rfl (by decide) (Nat.le_of_ble_eq_true rfl) at_15 (pc' := 16) rfl fun T27 h27 P27 W27 V27 => ?_
    have V27p : Arv Z h27 a25 k25 .int (5 : Int32) [(.int x0), (.int (0 : Int32)), (.int (0 : Int32)), (.int (0 : Int32)), (.int (0 : Int32))] (.int (0 : Int32)) := V27
    have N28 := Fr.snoc P27.st N0 g26
    refine G.dup P27 at_16 rfl (pc' := 17) rfl ?_
    refine G.iconst P27 at_17 (z := (1 : Int32)) rfl (pc' := 18) rfl ?_
    refine G.iloadN P27 at_18 rfl (pc' := 19) rfl ?_
    refine G.stI P27 V27p (1) rfl (by decide) (Nat.le_of_ble_eq_true rfl) at_19 (pc' := 20) rfl fun T29 h29 P29 W29 V29 => ?_
    have V29p : Arv Z h29 a25 k25 .int (5 : Int32) [(.int x0), (.int x1), (.int (0 : Int32)), (.int (0 : Int32)), (.int (0 : Int32))] (.int (0 : Int32)) := V29
    have N30 := Fr.snoc P29.st N28 g26
    refine G.dup P29 at_20 rfl (pc' := 21) rfl ?_
    refine G.iconst P29 at_21 (z := (2 : Int32)) rfl (pc' := 22) rfl ?_
    refine G.iloadN P29 at_22 rfl (pc' := 23) rfl ?_
    refine G.stI P29 V29p (2) rfl (by decide) (Nat.le_of_ble_eq_true rfl) at_23 (pc' := 24) rfl fun T31 h31 P31 W31 V31 => ?_
    have V31p : Arv Z h31 a25 k25 .int (5 : Int32) [(.int x0), (.int x1), (.int x2), (.int (0 : Int32)), (.int (0 : Int32))] (.int (0 : Int32)) := V31
    have N32 := Fr.snoc P31.st N30 g26
    refine G.dup P31 at_24 rfl (pc' := 25) rfl ?_
    refine G.iconst P31 at_25 (z := (3 : Int32)) rfl (pc' := 26) rfl ?_
    refine G.iloadN P31 at_26 rfl (pc' := 27) rfl ?_
    refine G.stI P31 V31p (3) rfl (by decide) (Nat.le_of_ble_eq_true rfl) at_27 (pc' := 28) rfl fun T33 h33 P33 W33 V33 => ?_
    have V33p : Arv Z h33 a25 k25 .int (5 : Int32) [(.int x0), (.int x1), (.int x2), (.int x3), (.int (0 : Int32))] (.int (0 : Int32)) := V33
    have N34 := Fr.snoc P33.st N32 g26
    refine G.dup P33 at_28 rfl (pc' := 29) rfl ?_
    refine G.iconst P33 at_29 (z := (4 : Int32)) rfl (pc' := 30) rfl ?_
    refine G.iload P33 at_30 rfl (pc' := 32) rfl ?_
    refine G.stI P33 V33p (4) rfl (by decide) (Nat.le_of_ble_eq_true rfl) at_32 (pc' := 33) rfl fun T35 h35 P35 W35 V35 => ?_
    have V35p : Arv Z h35 a25 k25 .int (5 : Int32) [(.int x0), (.int x1), (.int x2), (.int x3), (.int x4)] (.int (0 : Int32)) := V35
    have N36 := Fr.snoc P35.st N34 g26
    refine G.astore P35 at_33 rfl (l' := #[.val (.int x0), .val (.int x1), .val (.int x2), .val (.int x3), .val (.int x4), .val (.int x5), .val (.int (1 : Int32)), .val (.ref a25), .unset]) rfl (pc' := 35) rfl ?_
    have z37 : n0 ≤ Array.size h35 := (Nat.le_trans (Nat.le_trans (Nat.le_trans (Nat.le_trans (Nat.le_trans (Nat.le_trans Z0 E25.1) (Nat.le_of_eq W27.size.symm)) (Nat.le_of_eq W29.size.symm)) (Nat.le_of_eq W31.size.symm)) (Nat.le_of_eq W33.size.symm)) (Nat.le_of_eq W35.size.symm))
    refine G.newO P35 (wk hw 1 rfl) (wk hw 2 rfl) (wk hw 3 rfl) at_35 (by decide) (pc' := 38) rfl fun T38 h38 a38 g38 P38 E38 A38 D38 => ?_
    have n39 : a25 ≠ a38 := by rw [g38]; exact Nat.ne_of_lt V35p.lt
    have g40 : n0 ≤ a38 := by rw [g38]; exact z37
    have f41 : Fld Z h38 a38 "dev/happenstance/model/Prefix" "values" "[I" .null := D38 (Or.inr (wk hw 16 rfl)) (ty := (.array .int)) (by decide)
    have f42 : Fld Z h38 a38 "dev/happenstance/model/Prefix" "length" "I" (.int (0 : Int32)) := D38 (Or.inr (wk hw 18 rfl)) (ty := .int) (by decide)
    refine G.dup P38 at_38 rfl (pc' := 39) rfl ?_
    refine G.aload P38 at_39 rfl rfl (pc' := 41) rfl ?_
    refine G.iload P38 at_41 rfl (pc' := 43) rfl ?_
    refine G.callI P38 (rmInit l Z a0 hw a38 a25 (1 : Int32) h38 n0 g40 A38 f41 f42) rfl (wk hw 4 rfl) (wk hw 5 rfl) (wk hw 3 rfl) (wk hw 6 rfl) (by decide) pd_1 (argsL := [(.ref a25), (.int (1 : Int32))]) (rest := [(.ref a38)]) rfl rfl rfl rfl (W := 1) (Nat.le_of_eq rfl) (by decide) at_43 (pc' := 46) rfl fun T43 L43 v43 P43 Q43 => ?_
    obtain ⟨rfl, N43, K43, B43, O43⟩ := Q43
    have N44 := Fr.app N36 N43
    show Go p e below _ (T43.setTop (mkF m 46 #[.val (.int x0), .val (.int x1), .val (.int x2), .val (.int x3), .val (.int x4), .val (.int x5), .val (.int (1 : Int32)), .val (.ref a25), .unset] [(.ref a38)]))
    refine G.astore P43 at_46 rfl (l' := #[.val (.int x0), .val (.int x1), .val (.int x2), .val (.int x3), .val (.int x4), .val (.int x5), .val (.int (1 : Int32)), .val (.ref a25), .val (.ref a38)]) rfl (pc' := 48) rfl ?_
    refine G.aload P43 at_48 rfl rfl (pc' := 50) rfl ?_
    have f45 := ((V35p.ext E38).keep K43 (ninS n39 nin0))
    have f46 := (A38.keep K43)
    refine G.callVP P43 (rmHash1 l Z a0 hw a38 a25 x0 x1 x2 x3 x4 k25 T43.heap B43 O43 f45) (wk hw 19 rfl) (wk hw 20 rfl) (wk hw 22 rfl) rfl (wk hw 21 rfl) (wk hw 3 rfl) (wk hw 23 rfl) (by decide) f46 pd_4 (argsL := []) (rest := []) rfl rfl rfl rfl (W := 0) (Nat.le_of_eq rfl) (by decide) at_50 (pc' := 53) rfl fun T47 P47 => ?_
    show Go p e below _ (T47.setTop (mkF m 53 #[.val (.int x0), .val (.int x1), .val (.int x2), .val (.int x3), .val (.int x4), .val (.int x5), .val (.int (1 : Int32)), .val (.ref a25), .val (.ref a38)] [(.int ((31 : Int32) + x0))]))
    refine G.iload P47 at_53 rfl (pc' := 55) rfl ?_
    refine G.iloadN P47 at_55 rfl (pc' := 56) rfl ?_
    refine G.iloadN P47 at_56 rfl (pc' := 57) rfl ?_
    refine G.iloadN P47 at_57 rfl (pc' := 58) rfl ?_
    refine G.iloadN P47 at_58 rfl (pc' := 59) rfl ?_
    refine G.callSP P47 (rmRef1 l Z a0 hw x0 x1 x2 x3 T43.heap) (wk hw 24 rfl) (wk hw 25 rfl) (wk hw 26 rfl) (wk hw 27 rfl) (by decide) pd_5 (argsL := [(.int (1 : Int32)), (.int x0), (.int x1), (.int x2), (.int x3)]) (rest := [(.int ((31 : Int32) + x0))]) rfl rfl rfl rfl (W := 1) (Nat.le_of_eq rfl) (by decide) at_59 (pc' := 62) rfl fun T48 P48 => ?_
    show Go p e below _ (T48.setTop (mkF m 62 #[.val (.int x0), .val (.int x1), .val (.int x2), .val (.int x3), .val (.int x4), .val (.int x5), .val (.int (1 : Int32)), .val (.ref a25), .val (.ref a38)] [(.int ((31 : Int32) + x0)), (.int ((31 : Int32) + x0))]))
    refine G.icmp_ne P48 at_62 (by decide) (pcY := 69) (by decide) (pcN := 65) rfl (fun cc => absurd (own_eq1 x0 x1 x2 x3) cc) (fun cc => ?_)
    refine G.iconst P48 at_65 (z := (1 : Int32)) rfl (pc' := 66) rfl ?_
    refine G.goto P48 at_66 (by decide) (pc' := 70) (by decide) ?_
    exact G.retN P48 (t := .boolean) rfl (by simp) at_70 (by decide) (by decide) ⟨rfl, N44⟩
  · --
    show Go p e below _ (T0.setTop (mkF m 7 #[.val (.int x0), .val (.int x1), .val (.int x2), .val (.int x3), .val (.int x4), .val (.int x5), .unset, .unset, .unset] [(.int (2 : Int32))]))
    refine G.istore P0 at_7 (l' := #[.val (.int x0), .val (.int x1), .val (.int x2), .val (.int x3), .val (.int x4), .val (.int x5), .val (.int (2 : Int32)), .unset, .unset]) rfl (pc' := 9) rfl ?_
    refine G.iconst P0 at_9 (z := (5 : Int32)) rfl (pc' := 10) rfl ?_
    refine G.newP P0 (wk hw 0 rfl) (by decide) (cap := 5) (by decide) (by decide) (by decide) at_10 (pc' := 12) rfl fun T49 h49 a49 k49 g49 P49 E49 V49 => ?_
    have g50 : n0 ≤ a49 := by rw [g49]; exact Z0
    have V49p : Arv Z h49 a49 k49 .int (5 : Int32) [(.int (0 : Int32)), (.int (0 : Int32)), (.int (0 : Int32)), (.int (0 : Int32)), (.int (0 : Int32))] (.int (0 : Int32)) := V49.pad (pad_rep [] _ 5)
    refine G.dup P49 at_12 rfl (pc' := 13) rfl ?_
    refine G.iconst P49 at_13 (z := (0 : Int32)) rfl (pc' := 14) rfl ?_
    refine G.iloadN P49 at_14 rfl (pc' := 15) rfl ?_
    refine G.stI P49 V49p (0) rfl (by decide) (Nat.le_of_ble_eq_true rfl) at_15 (pc' := 16) rfl fun T51 h51 P51 W51 V51 => ?_
    have V51p : Arv Z h51 a49 k49 .int (5 : Int32) [(.int x0), (.int (0 : Int32)), (.int (0 : Int32)), (.int (0 : Int32)), (.int (0 : Int32))] (.int (0 : Int32)) := V51
    have N52 := Fr.snoc P51.st N0 g50
    refine G.dup P51 at_16 rfl (pc' := 17) rfl ?_
    refine G.iconst P51 at_17 (z := (1 : Int32)) rfl (pc' := 18) rfl ?_
    refine G.iloadN P51 at_18 rfl (pc' := 19) rfl ?_
    refine G.stI P51 V51p (1) rfl (by decide) (Nat.le_of_ble_eq_true rfl) at_19 (pc' := 20) rfl fun T53 h53 P53 W53 V53 => ?_
    have V53p : Arv Z h53 a49 k49 .int (5 : Int32) [(.int x0), (.int x1), (.int (0 : Int32)), (.int (0 : Int32)), (.int (0 : Int32))] (.int (0 : Int32)) := V53
    have N54 := Fr.snoc P53.st N52 g50
    refine G.dup P53 at_20 rfl (pc' := 21) rfl ?_
    refine G.iconst P53 at_21 (z := (2 : Int32)) rfl (pc' := 22) rfl ?_
    refine G.iloadN P53 at_22 rfl (pc' := 23) rfl ?_
    refine G.stI P53 V53p (2) rfl (by decide) (Nat.le_of_ble_eq_true rfl) at_23 (pc' := 24) rfl fun T55 h55 P55 W55 V55 => ?_
    have V55p : Arv Z h55 a49 k49 .int (5 : Int32) [(.int x0), (.int x1), (.int x2), (.int (0 : Int32)), (.int (0 : Int32))] (.int (0 : Int32)) := V55
    have N56 := Fr.snoc P55.st N54 g50
    refine G.dup P55 at_24 rfl (pc' := 25) rfl ?_
    refine G.iconst P55 at_25 (z := (3 : Int32)) rfl (pc' := 26) rfl ?_
    refine G.iloadN P55 at_26 rfl (pc' := 27) rfl ?_
    refine G.stI P55 V55p (3) rfl (by decide) (Nat.le_of_ble_eq_true rfl) at_27 (pc' := 28) rfl fun T57 h57 P57 W57 V57 => ?_
    have V57p : Arv Z h57 a49 k49 .int (5 : Int32) [(.int x0), (.int x1), (.int x2), (.int x3), (.int (0 : Int32))] (.int (0 : Int32)) := V57
    have N58 := Fr.snoc P57.st N56 g50
    refine G.dup P57 at_28 rfl (pc' := 29) rfl ?_
    refine G.iconst P57 at_29 (z := (4 : Int32)) rfl (pc' := 30) rfl ?_
    refine G.iload P57 at_30 rfl (pc' := 32) rfl ?_
    refine G.stI P57 V57p (4) rfl (by decide) (Nat.le_of_ble_eq_true rfl) at_32 (pc' := 33) rfl fun T59 h59 P59 W59 V59 => ?_
    have V59p : Arv Z h59 a49 k49 .int (5 : Int32) [(.int x0), (.int x1), (.int x2), (.int x3), (.int x4)] (.int (0 : Int32)) := V59
    have N60 := Fr.snoc P59.st N58 g50
    refine G.astore P59 at_33 rfl (l' := #[.val (.int x0), .val (.int x1), .val (.int x2), .val (.int x3), .val (.int x4), .val (.int x5), .val (.int (2 : Int32)), .val (.ref a49), .unset]) rfl (pc' := 35) rfl ?_
    have z61 : n0 ≤ Array.size h59 := (Nat.le_trans (Nat.le_trans (Nat.le_trans (Nat.le_trans (Nat.le_trans (Nat.le_trans Z0 E49.1) (Nat.le_of_eq W51.size.symm)) (Nat.le_of_eq W53.size.symm)) (Nat.le_of_eq W55.size.symm)) (Nat.le_of_eq W57.size.symm)) (Nat.le_of_eq W59.size.symm))
    refine G.newO P59 (wk hw 1 rfl) (wk hw 2 rfl) (wk hw 3 rfl) at_35 (by decide) (pc' := 38) rfl fun T62 h62 a62 g62 P62 E62 A62 D62 => ?_
    have n63 : a49 ≠ a62 := by rw [g62]; exact Nat.ne_of_lt V59p.lt
    have g64 : n0 ≤ a62 := by rw [g62]; exact z61
    have f65 : Fld Z h62 a62 "dev/happenstance/model/Prefix" "values" "[I" .null := D62 (Or.inr (wk hw 16 rfl)) (ty := (.array .int)) (by decide)
    have f66 : Fld Z h62 a62 "dev/happenstance/model/Prefix" "length" "I" (.int (0 : Int32)) := D62 (Or.inr (wk hw 18 rfl)) (ty := .int) (by decide)
    refine G.dup P62 at_38 rfl (pc' := 39) rfl ?_
    refine G.aload P62 at_39 rfl rfl (pc' := 41) rfl ?_
    refine G.iload P62 at_41 rfl (pc' := 43) rfl ?_
    refine G.callI P62 (rmInit l Z a0 hw a62 a49 (2 : Int32) h62 n0 g64 A62 f65 f66) rfl (wk hw 4 rfl) (wk hw 5 rfl) (wk hw 3 rfl) (wk hw 6 rfl) (by decide) pd_1 (argsL := [(.ref a49), (.int (2 : Int32))]) (rest := [(.ref a62)]) rfl rfl rfl rfl (W := 1) (Nat.le_of_eq rfl) (by decide) at_43 (pc' := 46) rfl fun T67 L67 v67 P67 Q67 => ?_
    obtain ⟨rfl, N67, K67, B67, O67⟩ := Q67
    have N68 := Fr.app N60 N67
    show Go p e below _ (T67.setTop (mkF m 46 #[.val (.int x0), .val (.int x1), .val (.int x2), .val (.int x3), .val (.int x4), .val (.int x5), .val (.int (2 : Int32)), .val (.ref a49), .unset] [(.ref a62)]))
    refine G.astore P67 at_46 rfl (l' := #[.val (.int x0), .val (.int x1), .val (.int x2), .val (.int x3), .val (.int x4), .val (.int x5), .val (.int (2 : Int32)), .val (.ref a49), .val (.ref a62)]) rfl (pc' := 48) rfl ?_
    refine G.aload P67 at_48 rfl rfl (pc' := 50) rfl ?_
    have f69 := ((V59p.ext E62).keep K67 (ninS n63 nin0))
    have f70 := (A62.keep K67)
    refine G.callVP P67 (rmHash2 l Z a0 hw a62 a49 x0 x1 x2 x3 x4 k49 T67.heap B67 O67 f69) (wk hw 19 rfl) (wk hw 20 rfl) (wk hw 22 rfl) rfl (wk hw 21 rfl) (wk hw 3 rfl) (wk hw 23 rfl) (by decide) f70 pd_4 (argsL := []) (rest := []) rfl rfl rfl rfl (W := 0) (Nat.le_of_eq rfl) (by decide) at_50 (pc' := 53) rfl fun T71 P71 => ?_
    show Go p e below _ (T71.setTop (mkF m 53 #[.val (.int x0), .val (.int x1), .val (.int x2), .val (.int x3), .val (.int x4), .val (.int x5), .val (.int (2 : Int32)), .val (.ref a49), .val (.ref a62)] [(.int (((31 : Int32) * ((31 : Int32) + x0)) + x1))]))
    refine G.iload P71 at_53 rfl (pc' := 55) rfl ?_
    refine G.iloadN P71 at_55 rfl (pc' := 56) rfl ?_
    refine G.iloadN P71 at_56 rfl (pc' := 57) rfl ?_
    refine G.iloadN P71 at_57 rfl (pc' := 58) rfl ?_
    refine G.iloadN P71 at_58 rfl (pc' := 59) rfl ?_
    refine G.callSP P71 (rmRef2 l Z a0 hw x0 x1 x2 x3 T67.heap) (wk hw 24 rfl) (wk hw 25 rfl) (wk hw 26 rfl) (wk hw 27 rfl) (by decide) pd_5 (argsL := [(.int (2 : Int32)), (.int x0), (.int x1), (.int x2), (.int x3)]) (rest := [(.int (((31 : Int32) * ((31 : Int32) + x0)) + x1))]) rfl rfl rfl rfl (W := 1) (Nat.le_of_eq rfl) (by decide) at_59 (pc' := 62) rfl fun T72 P72 => ?_
    show Go p e below _ (T72.setTop (mkF m 62 #[.val (.int x0), .val (.int x1), .val (.int x2), .val (.int x3), .val (.int x4), .val (.int x5), .val (.int (2 : Int32)), .val (.ref a49), .val (.ref a62)] [(.int (((961 : Int32) + ((31 : Int32) * x0)) + x1)), (.int (((31 : Int32) * ((31 : Int32) + x0)) + x1))]))
    refine G.icmp_ne P72 at_62 (by decide) (pcY := 69) (by decide) (pcN := 65) rfl (fun cc => absurd (own_eq2 x0 x1 x2 x3) cc) (fun cc => ?_)
    refine G.iconst P72 at_65 (z := (1 : Int32)) rfl (pc' := 66) rfl ?_
    refine G.goto P72 at_66 (by decide) (pc' := 70) (by decide) ?_
    exact G.retN P72 (t := .boolean) rfl (by simp) at_70 (by decide) (by decide) ⟨rfl, N68⟩
  · --
    show Go p e below _ (T0.setTop (mkF m 7 #[.val (.int x0), .val (.int x1), .val (.int x2), .val (.int x3), .val (.int x4), .val (.int x5), .unset, .unset, .unset] [(.int (3 : Int32))]))
    refine G.istore P0 at_7 (l' := #[.val (.int x0), .val (.int x1), .val (.int x2), .val (.int x3), .val (.int x4), .val (.int x5), .val (.int (3 : Int32)), .unset, .unset]) rfl (pc' := 9) rfl ?_
    refine G.iconst P0 at_9 (z := (5 : Int32)) rfl (pc' := 10) rfl ?_
    refine G.newP P0 (wk hw 0 rfl) (by decide) (cap := 5) (by decide) (by decide) (by decide) at_10 (pc' := 12) rfl fun T73 h73 a73 k73 g73 P73 E73 V73 => ?_
    have g74 : n0 ≤ a73 := by rw [g73]; exact Z0
    have V73p : Arv Z h73 a73 k73 .int (5 : Int32) [(.int (0 : Int32)), (.int (0 : Int32)), (.int (0 : Int32)), (.int (0 : Int32)), (.int (0 : Int32))] (.int (0 : Int32)) := V73.pad (pad_rep [] _ 5)
    refine G.dup P73 at_12 rfl (pc' := 13) rfl ?_
    refine G.iconst P73 at_13 (z := (0 : Int32)) rfl (pc' := 14) rfl ?_
    refine G.iloadN P73 at_14 rfl (pc' := 15) rfl ?_
    refine G.stI P73 V73p (0) rfl (by decide) (Nat.le_of_ble_eq_true rfl) at_15 (pc' := 16) rfl fun T75 h75 P75 W75 V75 => ?_
    have V75p : Arv Z h75 a73 k73 .int (5 : Int32) [(.int x0), (.int (0 : Int32)), (.int (0 : Int32)), (.int (0 : Int32)), (.int (0 : Int32))] (.int (0 : Int32)) := V75
    have N76 := Fr.snoc P75.st N0 g74
    refine G.dup P75 at_16 rfl (pc' := 17) rfl ?_
    refine G.iconst P75 at_17 (z := (1 : Int32)) rfl (pc' := 18) rfl ?_
    refine G.iloadN P75 at_18 rfl (pc' := 19) rfl ?_
    refine G.stI P75 V75p (1) rfl (by decide) (Nat.le_of_ble_eq_true rfl) at_19 (pc' := 20) rfl fun T77 h77 P77 W77 V77 => ?_
    have V77p : Arv Z h77 a73 k73 .int (5 : Int32) [(.int x0), (.int x1), (.int (0 : Int32)), (.int (0 : Int32)), (.int (0 : Int32))] (.int (0 : Int32)) := V77
    have N78 := Fr.snoc P77.st N76 g74
    refine G.dup P77 at_20 rfl (pc' := 21) rfl ?_
    refine G.iconst P77 at_21 (z := (2 : Int32)) rfl (pc' := 22) rfl ?_
    refine G.iloadN P77 at_22 rfl (pc' := 23) rfl ?_
    refine G.stI P77 V77p (2) rfl (by decide) (Nat.le_of_ble_eq_true rfl) at_23 (pc' := 24) rfl fun T79 h79 P79 W79 V79 => ?_
    have V79p : Arv Z h79 a73 k73 .int (5 : Int32) [(.int x0), (.int x1), (.int x2), (.int (0 : Int32)), (.int (0 : Int32))] (.int (0 : Int32)) := V79
    have N80 := Fr.snoc P79.st N78 g74
    refine G.dup P79 at_24 rfl (pc' := 25) rfl ?_
    refine G.iconst P79 at_25 (z := (3 : Int32)) rfl (pc' := 26) rfl ?_
    refine G.iloadN P79 at_26 rfl (pc' := 27) rfl ?_
    refine G.stI P79 V79p (3) rfl (by decide) (Nat.le_of_ble_eq_true rfl) at_27 (pc' := 28) rfl fun T81 h81 P81 W81 V81 => ?_
    have V81p : Arv Z h81 a73 k73 .int (5 : Int32) [(.int x0), (.int x1), (.int x2), (.int x3), (.int (0 : Int32))] (.int (0 : Int32)) := V81
    have N82 := Fr.snoc P81.st N80 g74
    refine G.dup P81 at_28 rfl (pc' := 29) rfl ?_
    refine G.iconst P81 at_29 (z := (4 : Int32)) rfl (pc' := 30) rfl ?_
    refine G.iload P81 at_30 rfl (pc' := 32) rfl ?_
    refine G.stI P81 V81p (4) rfl (by decide) (Nat.le_of_ble_eq_true rfl) at_32 (pc' := 33) rfl fun T83 h83 P83 W83 V83 => ?_
    have V83p : Arv Z h83 a73 k73 .int (5 : Int32) [(.int x0), (.int x1), (.int x2), (.int x3), (.int x4)] (.int (0 : Int32)) := V83
    have N84 := Fr.snoc P83.st N82 g74
    refine G.astore P83 at_33 rfl (l' := #[.val (.int x0), .val (.int x1), .val (.int x2), .val (.int x3), .val (.int x4), .val (.int x5), .val (.int (3 : Int32)), .val (.ref a73), .unset]) rfl (pc' := 35) rfl ?_
    have z85 : n0 ≤ Array.size h83 := (Nat.le_trans (Nat.le_trans (Nat.le_trans (Nat.le_trans (Nat.le_trans (Nat.le_trans Z0 E73.1) (Nat.le_of_eq W75.size.symm)) (Nat.le_of_eq W77.size.symm)) (Nat.le_of_eq W79.size.symm)) (Nat.le_of_eq W81.size.symm)) (Nat.le_of_eq W83.size.symm))
    refine G.newO P83 (wk hw 1 rfl) (wk hw 2 rfl) (wk hw 3 rfl) at_35 (by decide) (pc' := 38) rfl fun T86 h86 a86 g86 P86 E86 A86 D86 => ?_
    have n87 : a73 ≠ a86 := by rw [g86]; exact Nat.ne_of_lt V83p.lt
    have g88 : n0 ≤ a86 := by rw [g86]; exact z85
    have f89 : Fld Z h86 a86 "dev/happenstance/model/Prefix" "values" "[I" .null := D86 (Or.inr (wk hw 16 rfl)) (ty := (.array .int)) (by decide)
    have f90 : Fld Z h86 a86 "dev/happenstance/model/Prefix" "length" "I" (.int (0 : Int32)) := D86 (Or.inr (wk hw 18 rfl)) (ty := .int) (by decide)
    refine G.dup P86 at_38 rfl (pc' := 39) rfl ?_
    refine G.aload P86 at_39 rfl rfl (pc' := 41) rfl ?_
    refine G.iload P86 at_41 rfl (pc' := 43) rfl ?_
    refine G.callI P86 (rmInit l Z a0 hw a86 a73 (3 : Int32) h86 n0 g88 A86 f89 f90) rfl (wk hw 4 rfl) (wk hw 5 rfl) (wk hw 3 rfl) (wk hw 6 rfl) (by decide) pd_1 (argsL := [(.ref a73), (.int (3 : Int32))]) (rest := [(.ref a86)]) rfl rfl rfl rfl (W := 1) (Nat.le_of_eq rfl) (by decide) at_43 (pc' := 46) rfl fun T91 L91 v91 P91 Q91 => ?_
    obtain ⟨rfl, N91, K91, B91, O91⟩ := Q91
    have N92 := Fr.app N84 N91
    show Go p e below _ (T91.setTop (mkF m 46 #[.val (.int x0), .val (.int x1), .val (.int x2), .val (.int x3), .val (.int x4), .val (.int x5), .val (.int (3 : Int32)), .val (.ref a73), .unset] [(.ref a86)]))
    refine G.astore P91 at_46 rfl (l' := #[.val (.int x0), .val (.int x1), .val (.int x2), .val (.int x3), .val (.int x4), .val (.int x5), .val (.int (3 : Int32)), .val (.ref a73), .val (.ref a86)]) rfl (pc' := 48) rfl ?_
    refine G.aload P91 at_48 rfl rfl (pc' := 50) rfl ?_
    have f93 := ((V83p.ext E86).keep K91 (ninS n87 nin0))
    have f94 := (A86.keep K91)
    refine G.callVP P91 (rmHash3 l Z a0 hw a86 a73 x0 x1 x2 x3 x4 k73 T91.heap B91 O91 f93) (wk hw 19 rfl) (wk hw 20 rfl) (wk hw 22 rfl) rfl (wk hw 21 rfl) (wk hw 3 rfl) (wk hw 23 rfl) (by decide) f94 pd_4 (argsL := []) (rest := []) rfl rfl rfl rfl (W := 0) (Nat.le_of_eq rfl) (by decide) at_50 (pc' := 53) rfl fun T95 P95 => ?_
    show Go p e below _ (T95.setTop (mkF m 53 #[.val (.int x0), .val (.int x1), .val (.int x2), .val (.int x3), .val (.int x4), .val (.int x5), .val (.int (3 : Int32)), .val (.ref a73), .val (.ref a86)] [(.int (((31 : Int32) * (((31 : Int32) * ((31 : Int32) + x0)) + x1)) + x2))]))
    refine G.iload P95 at_53 rfl (pc' := 55) rfl ?_
    refine G.iloadN P95 at_55 rfl (pc' := 56) rfl ?_
    refine G.iloadN P95 at_56 rfl (pc' := 57) rfl ?_
    refine G.iloadN P95 at_57 rfl (pc' := 58) rfl ?_
    refine G.iloadN P95 at_58 rfl (pc' := 59) rfl ?_
    refine G.callSP P95 (rmRef3 l Z a0 hw x0 x1 x2 x3 T91.heap) (wk hw 24 rfl) (wk hw 25 rfl) (wk hw 26 rfl) (wk hw 27 rfl) (by decide) pd_5 (argsL := [(.int (3 : Int32)), (.int x0), (.int x1), (.int x2), (.int x3)]) (rest := [(.int (((31 : Int32) * (((31 : Int32) * ((31 : Int32) + x0)) + x1)) + x2))]) rfl rfl rfl rfl (W := 1) (Nat.le_of_eq rfl) (by decide) at_59 (pc' := 62) rfl fun T96 P96 => ?_
    show Go p e below _ (T96.setTop (mkF m 62 #[.val (.int x0), .val (.int x1), .val (.int x2), .val (.int x3), .val (.int x4), .val (.int x5), .val (.int (3 : Int32)), .val (.ref a73), .val (.ref a86)] [(.int ((((29791 : Int32) + ((961 : Int32) * x0)) + ((31 : Int32) * x1)) + x2)), (.int (((31 : Int32) * (((31 : Int32) * ((31 : Int32) + x0)) + x1)) + x2))]))
    refine G.icmp_ne P96 at_62 (by decide) (pcY := 69) (by decide) (pcN := 65) rfl (fun cc => absurd (own_eq3 x0 x1 x2 x3) cc) (fun cc => ?_)
    refine G.iconst P96 at_65 (z := (1 : Int32)) rfl (pc' := 66) rfl ?_
    refine G.goto P96 at_66 (by decide) (pc' := 70) (by decide) ?_
    exact G.retN P96 (t := .boolean) rfl (by simp) at_70 (by decide) (by decide) ⟨rfl, N92⟩
  · --
    show Go p e below _ (T0.setTop (mkF m 7 #[.val (.int x0), .val (.int x1), .val (.int x2), .val (.int x3), .val (.int x4), .val (.int x5), .unset, .unset, .unset] [(.int (4 : Int32))]))
    refine G.istore P0 at_7 (l' := #[.val (.int x0), .val (.int x1), .val (.int x2), .val (.int x3), .val (.int x4), .val (.int x5), .val (.int (4 : Int32)), .unset, .unset]) rfl (pc' := 9) rfl ?_
    refine G.iconst P0 at_9 (z := (5 : Int32)) rfl (pc' := 10) rfl ?_
    refine G.newP P0 (wk hw 0 rfl) (by decide) (cap := 5) (by decide) (by decide) (by decide) at_10 (pc' := 12) rfl fun T97 h97 a97 k97 g97 P97 E97 V97 => ?_
    have g98 : n0 ≤ a97 := by rw [g97]; exact Z0
    have V97p : Arv Z h97 a97 k97 .int (5 : Int32) [(.int (0 : Int32)), (.int (0 : Int32)), (.int (0 : Int32)), (.int (0 : Int32)), (.int (0 : Int32))] (.int (0 : Int32)) := V97.pad (pad_rep [] _ 5)
    refine G.dup P97 at_12 rfl (pc' := 13) rfl ?_
    refine G.iconst P97 at_13 (z := (0 : Int32)) rfl (pc' := 14) rfl ?_
    refine G.iloadN P97 at_14 rfl (pc' := 15) rfl ?_
    refine G.stI P97 V97p (0) rfl (by decide) (Nat.le_of_ble_eq_true rfl) at_15 (pc' := 16) rfl fun T99 h99 P99 W99 V99 => ?_
    have V99p : Arv Z h99 a97 k97 .int (5 : Int32) [(.int x0), (.int (0 : Int32)), (.int (0 : Int32)), (.int (0 : Int32)), (.int (0 : Int32))] (.int (0 : Int32)) := V99
    have N100 := Fr.snoc P99.st N0 g98
    refine G.dup P99 at_16 rfl (pc' := 17) rfl ?_
    refine G.iconst P99 at_17 (z := (1 : Int32)) rfl (pc' := 18) rfl ?_
    refine G.iloadN P99 at_18 rfl (pc' := 19) rfl ?_
    refine G.stI P99 V99p (1) rfl (by decide) (Nat.le_of_ble_eq_true rfl) at_19 (pc' := 20) rfl fun T101 h101 P101 W101 V101 => ?_
    have V101p : Arv Z h101 a97 k97 .int (5 : Int32) [(.int x0), (.int x1), (.int (0 : Int32)), (.int (0 : Int32)), (.int (0 : Int32))] (.int (0 : Int32)) := V101
    have N102 := Fr.snoc P101.st N100 g98
    refine G.dup P101 at_20 rfl (pc' := 21) rfl ?_
    refine G.iconst P101 at_21 (z := (2 : Int32)) rfl (pc' := 22) rfl ?_
    refine G.iloadN P101 at_22 rfl (pc' := 23) rfl ?_
    refine G.stI P101 V101p (2) rfl (by decide) (Nat.le_of_ble_eq_true rfl) at_23 (pc' := 24) rfl fun T103 h103 P103 W103 V103 => ?_
    have V103p : Arv Z h103 a97 k97 .int (5 : Int32) [(.int x0), (.int x1), (.int x2), (.int (0 : Int32)), (.int (0 : Int32))] (.int (0 : Int32)) := V103
    have N104 := Fr.snoc P103.st N102 g98
    refine G.dup P103 at_24 rfl (pc' := 25) rfl ?_
    refine G.iconst P103 at_25 (z := (3 : Int32)) rfl (pc' := 26) rfl ?_
    refine G.iloadN P103 at_26 rfl (pc' := 27) rfl ?_
    refine G.stI P103 V103p (3) rfl (by decide) (Nat.le_of_ble_eq_true rfl) at_27 (pc' := 28) rfl fun T105 h105 P105 W105 V105 => ?_
    have V105p : Arv Z h105 a97 k97 .int (5 : Int32) [(.int x0), (.int x1), (.int x2), (.int x3), (.int (0 : Int32))] (.int (0 : Int32)) := V105
    have N106 := Fr.snoc P105.st N104 g98
    refine G.dup P105 at_28 rfl (pc' := 29) rfl ?_
    refine G.iconst P105 at_29 (z := (4 : Int32)) rfl (pc' := 30) rfl ?_
    refine G.iload P105 at_30 rfl (pc' := 32) rfl ?_
    refine G.stI P105 V105p (4) rfl (by decide) (Nat.le_of_ble_eq_true rfl) at_32 (pc' := 33) rfl fun T107 h107 P107 W107 V107 => ?_
    have V107p : Arv Z h107 a97 k97 .int (5 : Int32) [(.int x0), (.int x1), (.int x2), (.int x3), (.int x4)] (.int (0 : Int32)) := V107
    have N108 := Fr.snoc P107.st N106 g98
    refine G.astore P107 at_33 rfl (l' := #[.val (.int x0), .val (.int x1), .val (.int x2), .val (.int x3), .val (.int x4), .val (.int x5), .val (.int (4 : Int32)), .val (.ref a97), .unset]) rfl (pc' := 35) rfl ?_
    have z109 : n0 ≤ Array.size h107 := (Nat.le_trans (Nat.le_trans (Nat.le_trans (Nat.le_trans (Nat.le_trans (Nat.le_trans Z0 E97.1) (Nat.le_of_eq W99.size.symm)) (Nat.le_of_eq W101.size.symm)) (Nat.le_of_eq W103.size.symm)) (Nat.le_of_eq W105.size.symm)) (Nat.le_of_eq W107.size.symm))
    refine G.newO P107 (wk hw 1 rfl) (wk hw 2 rfl) (wk hw 3 rfl) at_35 (by decide) (pc' := 38) rfl fun T110 h110 a110 g110 P110 E110 A110 D110 => ?_
    have n111 : a97 ≠ a110 := by rw [g110]; exact Nat.ne_of_lt V107p.lt
    have g112 : n0 ≤ a110 := by rw [g110]; exact z109
    have f113 : Fld Z h110 a110 "dev/happenstance/model/Prefix" "values" "[I" .null := D110 (Or.inr (wk hw 16 rfl)) (ty := (.array .int)) (by decide)
    have f114 : Fld Z h110 a110 "dev/happenstance/model/Prefix" "length" "I" (.int (0 : Int32)) := D110 (Or.inr (wk hw 18 rfl)) (ty := .int) (by decide)
    refine G.dup P110 at_38 rfl (pc' := 39) rfl ?_
    refine G.aload P110 at_39 rfl rfl (pc' := 41) rfl ?_
    refine G.iload P110 at_41 rfl (pc' := 43) rfl ?_
    refine G.callI P110 (rmInit l Z a0 hw a110 a97 (4 : Int32) h110 n0 g112 A110 f113 f114) rfl (wk hw 4 rfl) (wk hw 5 rfl) (wk hw 3 rfl) (wk hw 6 rfl) (by decide) pd_1 (argsL := [(.ref a97), (.int (4 : Int32))]) (rest := [(.ref a110)]) rfl rfl rfl rfl (W := 1) (Nat.le_of_eq rfl) (by decide) at_43 (pc' := 46) rfl fun T115 L115 v115 P115 Q115 => ?_
    obtain ⟨rfl, N115, K115, B115, O115⟩ := Q115
    have N116 := Fr.app N108 N115
    show Go p e below _ (T115.setTop (mkF m 46 #[.val (.int x0), .val (.int x1), .val (.int x2), .val (.int x3), .val (.int x4), .val (.int x5), .val (.int (4 : Int32)), .val (.ref a97), .unset] [(.ref a110)]))
    refine G.astore P115 at_46 rfl (l' := #[.val (.int x0), .val (.int x1), .val (.int x2), .val (.int x3), .val (.int x4), .val (.int x5), .val (.int (4 : Int32)), .val (.ref a97), .val (.ref a110)]) rfl (pc' := 48) rfl ?_
    refine G.aload P115 at_48 rfl rfl (pc' := 50) rfl ?_
    have f117 := ((V107p.ext E110).keep K115 (ninS n111 nin0))
    have f118 := (A110.keep K115)
    refine G.callVP P115 (rmHash4 l Z a0 hw a110 a97 x0 x1 x2 x3 x4 k97 T115.heap B115 O115 f117) (wk hw 19 rfl) (wk hw 20 rfl) (wk hw 22 rfl) rfl (wk hw 21 rfl) (wk hw 3 rfl) (wk hw 23 rfl) (by decide) f118 pd_4 (argsL := []) (rest := []) rfl rfl rfl rfl (W := 0) (Nat.le_of_eq rfl) (by decide) at_50 (pc' := 53) rfl fun T119 P119 => ?_
    show Go p e below _ (T119.setTop (mkF m 53 #[.val (.int x0), .val (.int x1), .val (.int x2), .val (.int x3), .val (.int x4), .val (.int x5), .val (.int (4 : Int32)), .val (.ref a97), .val (.ref a110)] [(.int (((31 : Int32) * (((31 : Int32) * (((31 : Int32) * ((31 : Int32) + x0)) + x1)) + x2)) + x3))]))
    refine G.iload P119 at_53 rfl (pc' := 55) rfl ?_
    refine G.iloadN P119 at_55 rfl (pc' := 56) rfl ?_
    refine G.iloadN P119 at_56 rfl (pc' := 57) rfl ?_
    refine G.iloadN P119 at_57 rfl (pc' := 58) rfl ?_
    refine G.iloadN P119 at_58 rfl (pc' := 59) rfl ?_
    refine G.callSP P119 (rmRef4 l Z a0 hw x0 x1 x2 x3 T115.heap) (wk hw 24 rfl) (wk hw 25 rfl) (wk hw 26 rfl) (wk hw 27 rfl) (by decide) pd_5 (argsL := [(.int (4 : Int32)), (.int x0), (.int x1), (.int x2), (.int x3)]) (rest := [(.int (((31 : Int32) * (((31 : Int32) * (((31 : Int32) * ((31 : Int32) + x0)) + x1)) + x2)) + x3))]) rfl rfl rfl rfl (W := 1) (Nat.le_of_eq rfl) (by decide) at_59 (pc' := 62) rfl fun T120 P120 => ?_
    show Go p e below _ (T120.setTop (mkF m 62 #[.val (.int x0), .val (.int x1), .val (.int x2), .val (.int x3), .val (.int x4), .val (.int x5), .val (.int (4 : Int32)), .val (.ref a97), .val (.ref a110)] [(.int (((((923521 : Int32) + ((29791 : Int32) * x0)) + ((961 : Int32) * x1)) + ((31 : Int32) * x2)) + x3)), (.int (((31 : Int32) * (((31 : Int32) * (((31 : Int32) * ((31 : Int32) + x0)) + x1)) + x2)) + x3))]))
    refine G.icmp_ne P120 at_62 (by decide) (pcY := 69) (by decide) (pcN := 65) rfl (fun cc => absurd (own_eq4 x0 x1 x2 x3) cc) (fun cc => ?_)
    refine G.iconst P120 at_65 (z := (1 : Int32)) rfl (pc' := 66) rfl ?_
    refine G.goto P120 at_66 (by decide) (pc' := 70) (by decide) ?_
    exact G.retN P120 (t := .boolean) rfl (by simp) at_70 (by decide) (by decide) ⟨rfl, N116⟩

set_option maxRecDepth 65536 in
set_option maxHeartbeats 40000000 in
theorem comes_1 {Post : Tables → Env → Array Value → State → Outcome → State → Prop} (hpost : ∀ tb e args s v u, (limb_1_1.after args s (.returned v) u = true ∧ limb_1_2.after args s (.returned v) u = true ∧ True) → FrameEnd s (.returned v) u (Jvm.fieldLocs frame_1_writes args s ++ Jvm.arrayLocs frame_1_arrays args s ++ Jvm.staticLocs frame_1_statics s) 16 128 → Post tb e args s (.returned v) u) :
    ArmFor flags0 classFile x code maxLocals ret World_1 tables_1 room_1 Calls_1 rest_1 Pre_1 Post := by
  intro l hfl _ _ p e ha hc hk s m args below hf hA hF happ hP
  obtain ⟨hcalls, hrest, hpre⟩ := hP
  obtain ⟨-, -, -, hnamed, -, -, -, hat⟩ := (Spec.applies_iff hf).mp happ
  obtain ⟨hg, hn⟩ := and_e (Cond.before_iff.mp (show (Jvm.Cond.and given_1 narrow_1).before args s = true from hpre))
  obtain ⟨h1, hg1⟩ := and_e hg
  obtain ⟨i0, hg2⟩ := and_e hg1
  obtain ⟨i1, hg3⟩ := and_e hg2
  obtain ⟨i2, hg4⟩ := and_e hg3
  obtain ⟨i3, hg5⟩ := and_e hg4
  obtain ⟨i4, hg6⟩ := and_e hg5
  have i5 := hg6
  obtain ⟨w0, w1, w2, w3, w4, w5, rfl⟩ : ∃ w0 w1 w2 w3 w4 w5 : Value, args = #[w0, w1, w2, w3, w4, w5] := by
    have hs : args.size = 6 := by simpa [Cond.value, given_1] using h1
    obtain ⟨L⟩ := args
    match L, hs with
    | [w0, w1, w2, w3, w4, w5], _ => exact ⟨w0, w1, w2, w3, w4, w5, rfl⟩
  have hw := fun d (hd : d ∈ tables_1) => atoms_spec (ws := Jvm.Cond.code x code maxLocals ret :: tables_1) hat d (List.mem_cons_of_mem _ hd)
  obtain ⟨x0, e0⟩ := is_v i0
  obtain rfl : w0 = (.int x0) := Option.some.inj e0
  obtain ⟨x1, e1⟩ := is_v i1
  obtain rfl : w1 = (.int x1) := Option.some.inj e1
  obtain ⟨x2, e2⟩ := is_v i2
  obtain rfl : w2 = (.int x2) := Option.some.inj e2
  obtain ⟨x3, e3⟩ := is_v i3
  obtain rfl : w3 = (.int x3) := Option.some.inj e3
  obtain ⟨x4, e4⟩ := is_v i4
  obtain rfl : w4 = (.int x4) := Option.some.inj e4
  obtain ⟨x5, e5⟩ := is_v i5
  obtain rfl : w5 = (.int x5) := Option.some.inj e5
  obtain ⟨n, o, h1, h2, h3, _, L, rfl, ⟨rfl, N⟩, hq⟩ := rm0 l s _ hw x0 x1 x2 x3 x4 x5 s.heap s.heap.size (Nat.le_refl _)  p e ha hc hk s m _ below hf ((Spec.applies_iff_loose hf).mp happ).1 ⟨rfl, State.Warmed39.refl s, rfl⟩ trivial
  refine ⟨n, _, h1, h2, h3, hpost _ _ _ _ _ _ ⟨Cond.after_iff.mpr rfl, Cond.after_iff.mpr (eq_i res_at (Term.int_eval (1)) rfl), trivial⟩ ⟨hq.1, hq.2.1, (hq.2.2.sift fun y hy => Or.inr (N y hy)).mono (by decide) (by decide)⟩⟩
theorem main_1_1 : Claimed_1_1 := comes_1 fun _ _ _ _ _ _ h hF => ⟨h.1, hF⟩
theorem main_1_2 : Claimed_1_2 := comes_1 fun _ _ _ _ _ _ h hF => ⟨h.2.1, hF⟩
end Jvm.Pilot.@@N@@
namespace Jvm.Pilot.@@N@@
open Jvm Jvm.ClassFile Sem Op Lib Jvm.Free Jvm.Stand Jvm.Pilot.@@N@@.Jvm.D
/-! MADE BY PROGRAM (witnessworld.py) out of the Statement's table words and the real class files: 10 classes; the members and pool entries that the words name. The judged class is class 1, her method 2. -/
namespace start1
open Jvm.ClassFile
def u (s : String) : CpInfo := .utf8 (stringToUtf16 s)
/-- a pool by its gaps: so many unusable entries, then the entry; so many at the end -/
def gap : Nat → List CpInfo → List CpInfo
  | 0, r => r
  | n + 1, r => .unusable :: gap n r
def poolList (es : List (Nat × CpInfo)) (last : Nat) : List CpInfo := es.foldr (fun e r => gap e.1 (e.2 :: r)) (gap last [])
def pool (es : List (Nat × CpInfo)) (last : Nat) : Array CpInfo := ⟨poolList es last⟩
def fileOf (pool : Array CpInfo) (this : Nat) (attrs : Array Attribute := #[]) (ms : Array MethodInfo := #[]) (fl : Nat := 33) (sup : Nat := 0) (ifs : Array Nat := #[]) (fds : Array FieldInfo := #[]) : ClassFile where
  minorVersion := 0
  majorVersion := 65
  constantPool := pool
  accessFlags := fl
  thisClass := this
  superClass := sup
  interfaces := ifs
  fields := fds
  methods := ms
  attributes := attrs
def plain (name : String) (sup : Option ClassId) : Class where
  name := name
  kind := .ordinary
  loader := none
  accessFlags := 33
  super := sup
  interfaces := #[]
  cf := none
  fields := #[]
  methods := #[]
  instanceTypes := #[]
  staticTypes := #[]
  resolved := #[]
  callSites := []
  init := .initialized
  statics := none
  mirror := none

def pool0 : Array CpInfo := pool [(5, u "<init>"), (0, u "()V"), (1, .class_ 10), (1, u "java/lang/Object")] 113

def k0c0 : Code := { maxStack := 0, maxLocals := 1, code := object_method_1_code, exceptionTable := #[], attributes := #[] }
def k0m0 : Method := { name := "<init>", desc := "()V", sig := { parameters := [], returnType := none }, accessFlags := 1, code := some k0c0 }
/-- java/lang/Object -/
def k0 : Class := { plain "java/lang/Object" none with
  accessFlags := 33
  interfaces := #[]
  cf := some (fileOf pool0 8 #[] #[{ accessFlags := 1, nameIndex := 5, descriptorIndex := 6, attributes := #[] }] 33 0 #[] #[])
  fields := #[]
  methods := #[k0m0]
  instanceTypes := #[]
  staticTypes := #[]
  resolved := Array.replicate 124 none
  statics := none }

def pool1 : Array CpInfo := pool [(2, .class_ 4), (1, u "java/lang/Object"), (0, u "<init>"), (0, u "()V"), (0, .integer 923521), (0, .class_ 9), (0, u "dev/happenstance/model/Prefix"), (0, .methodref 8 11), (0, .nameAndType 5 12), (0, u "([II)V"), (0, .methodref 8 14), (0, .nameAndType 15 16), (0, u "hashCode"), (0, u "()I"), (0, .methodref 18 19), (0, .class_ 20), (0, .nameAndType 21 22), (0, u "dev/happenstance/model/PrefixHashCodePinLaw"), (0, u "reference"), (0, u "(IIIII)I"), (3, u "law"), (0, u "(IIIIII)Z")] 4

def k1m0 : Method := { name := "<init>", desc := "()V", sig := { parameters := [], returnType := none }, accessFlags := 2, code := none }
def k1c1 : Code := { maxStack := 3, maxLocals := 5, code := method_2_code, exceptionTable := #[], attributes := #[] }
def k1m1 : Method := { name := "reference", desc := "(IIIII)I", sig := { parameters := [.int, .int, .int, .int, .int], returnType := some .int }, accessFlags := 10, code := some k1c1 }
def k1c2 : Code := { maxStack := 6, maxLocals := 9, code := code, exceptionTable := #[], attributes := #[] }
def k1m2 : Method := { name := "law", desc := "(IIIIII)Z", sig := { parameters := [.int, .int, .int, .int, .int, .int], returnType := some .boolean }, accessFlags := 9, code := some k1c2 }
/-- dev/happenstance/model/PrefixHashCodePinLaw -/
def k1 : Class := { plain "dev/happenstance/model/PrefixHashCodePinLaw" (some 0) with
  accessFlags := 49
  interfaces := #[]
  cf := some (fileOf pool1 18 #[] #[{ accessFlags := 2, nameIndex := 5, descriptorIndex := 6, attributes := #[] }, { accessFlags := 10, nameIndex := 21, descriptorIndex := 22, attributes := #[] }, { accessFlags := 9, nameIndex := 26, descriptorIndex := 27, attributes := #[] }] 49 2 #[] #[])
  fields := #[]
  methods := #[k1m0, k1m1, k1m2]
  instanceTypes := #[]
  staticTypes := #[]
  resolved := Array.replicate 32 none
  statics := none }

def pool2 : Array CpInfo := pool [(1, .methodref 2 3), (0, .class_ 4), (0, .nameAndType 5 6), (0, u "java/lang/Object"), (0, u "<init>"), (0, u "()V"), (0, .class_ 8), (0, u "java/lang/Record")] 13

def k2c0 : Code := { maxStack := 1, maxLocals := 1, code := jdk_30_method_1_code, exceptionTable := #[], attributes := #[] }
def k2m0 : Method := { name := "<init>", desc := "()V", sig := { parameters := [], returnType := none }, accessFlags := 4, code := some k2c0 }
/-- java/lang/Record -/
def k2 : Class := { plain "java/lang/Record" (some 0) with
  accessFlags := 1057
  interfaces := #[]
  cf := some (fileOf pool2 7 #[] #[{ accessFlags := 4, nameIndex := 5, descriptorIndex := 6, attributes := #[] }] 1057 2 #[] #[])
  fields := #[]
  methods := #[k2m0]
  instanceTypes := #[]
  staticTypes := #[]
  resolved := Array.replicate 22 none
  statics := none }

def pool3 : Array CpInfo := pool [(1, .methodref 2 3), (0, .class_ 4), (0, .nameAndType 5 6), (0, u "java/lang/Record"), (0, u "<init>"), (0, u "()V"), (0, .fieldref 8 9), (0, .class_ 10), (0, .nameAndType 11 12), (0, u "dev/happenstance/model/Prefix"), (0, u "values"), (0, u "[I"), (0, .fieldref 8 14), (0, .nameAndType 15 16), (0, u "length"), (0, u "I"), (2, u "([II)V"), (17, u "hashCode"), (0, u "()I")] 23

def k3c0 : Code := { maxStack := 2, maxLocals := 3, code := prog_69_method_1_code, exceptionTable := #[], attributes := #[] }
def k3m0 : Method := { name := "<init>", desc := "([II)V", sig := { parameters := [(.array .int), .int], returnType := none }, accessFlags := 0, code := some k3c0 }
def k3c1 : Code := { maxStack := 3, maxLocals := 3, code := prog_69_method_4_code, exceptionTable := #[], attributes := #[] }
def k3m1 : Method := { name := "hashCode", desc := "()I", sig := { parameters := [], returnType := some .int }, accessFlags := 1, code := some k3c1 }
/-- dev/happenstance/model/Prefix -/
def k3 : Class := { plain "dev/happenstance/model/Prefix" (some 2) with
  accessFlags := 48
  interfaces := #[]
  cf := some (fileOf pool3 8 #[] #[{ accessFlags := 0, nameIndex := 5, descriptorIndex := 19, attributes := #[] }, { accessFlags := 1, nameIndex := 37, descriptorIndex := 38, attributes := #[] }] 48 2 #[] #[{ accessFlags := 18, nameIndex := 11, descriptorIndex := 12, attributes := #[] }, { accessFlags := 18, nameIndex := 15, descriptorIndex := 16, attributes := #[] }])
  fields := #[{ name := "values", type := (.array .int), accessFlags := 18, slot := 0, constantValue := 0 }, { name := "length", type := .int, accessFlags := 18, slot := 1, constantValue := 0 }]
  methods := #[k3m0, k3m1]
  instanceTypes := #[(.array .int), .int]
  staticTypes := #[]
  resolved := Array.replicate 62 none
  statics := none }

def pool4 : Array CpInfo := pool [(1, u "java/lang/Cloneable"), (0, .class_ 1), (0, u "java/lang/Object"), (0, .class_ 3)] 3

/-- java/lang/Cloneable -/
def k4 : Class := { plain "java/lang/Cloneable" (some 0) with
  accessFlags := 1537
  interfaces := #[]
  cf := some (fileOf pool4 2 #[] #[] 1537 4 #[] #[])
  fields := #[]
  methods := #[]
  instanceTypes := #[]
  staticTypes := #[]
  resolved := Array.replicate 8 none
  statics := none }

def pool5 : Array CpInfo := pool [(1, u "java/io/Serializable"), (0, .class_ 1), (0, u "java/lang/Object"), (0, .class_ 3)] 3

/-- java/io/Serializable -/
def k5 : Class := { plain "java/io/Serializable" (some 0) with
  accessFlags := 1537
  interfaces := #[]
  cf := some (fileOf pool5 2 #[] #[] 1537 4 #[] #[])
  fields := #[]
  methods := #[]
  instanceTypes := #[]
  staticTypes := #[]
  resolved := Array.replicate 8 none
  statics := none }

/-- the primitive byte -/
def k6 : Class := { plain "byte" none with kind := .primitive 'B', accessFlags := 0x411 }
/-- [B -/
def k7 : Class := { plain "[B" (some 0) with kind := .array 6 .byte, interfaces := #[4, 5], accessFlags := 1041 }

/-- the primitive int -/
def k8 : Class := { plain "int" none with kind := .primitive 'I', accessFlags := 0x411 }
/-- [I -/
def k9 : Class := { plain "[I" (some 0) with kind := .array 8 .int, interfaces := #[4, 5], accessFlags := 1041 }

def heap : Heap := #[]
def classes : Array Class := #[k0, k1, k2, k3, k4, k5, k6, k7, k8, k9]
def interned : List (Array UInt16 × Addr) := []
def slotsUsed : Nat := 0
def theMethod : MethodId := ⟨1, 2⟩
def args0 : Array Value := #[.int 2, .int 256, .int 77, .int 5, .int 6, .int 3]
def aboutOver (below : List Frame) : State where
  vm := { classes := classes, interned := interned.toArray }
  heap := heap
  slotsUsed := slotsUsed
  threads := #[{ frames := .invoking theMethod args0 :: below }]
def below0 : List Frame := [.native { method := ⟨0, 0⟩, args := #[] }]
def about1 : State := aboutOver below0
def p0 : Program := .bare "" "" ""
def e0 : Env := launch0.env 0 0 0
theorem w_frames : about1.frames = Frame.invoking theMethod args0 :: below0 := rfl
set_option maxRecDepth 65536 in
theorem w_args : argsFit about1.vm theMethod args0 = true := by decide +kernel
set_option maxRecDepth 65536 in
theorem w_heap : heapFits about1 = true := by decide +kernel
set_option maxRecDepth 65536 in
theorem w_runnable : about1.curStatus? = some .runnable := by decide +kernel
set_option maxRecDepth 65536 in
theorem w_alone : about1.alone = true := by decide +kernel
set_option maxRecDepth 65536 in
theorem w_named : about1.methodNamed? x = some theMethod := by decide +kernel
set_option maxRecDepth 65536 in
theorem w_hears : about1.hears theMethod below0 = true := by decide +kernel
set_option maxRecDepth 65536 in
theorem w_ripe : about1.ripe theMethod args0 below0 = true := by decide +kernel
theorem w_running : about1.status = .running := rfl
set_option maxRecDepth 65536 in
theorem w_room : about1.hasRoom e0.platform room_1 = true :=
  launch0.hasRoom_least _ room_1 (by decide +kernel) (by decide +kernel) (by decide +kernel) (by decide +kernel) (by decide +kernel) (by decide +kernel)
theorem allAtoms_all (ts : List Jvm.Cond) (a : Array Jvm.Value) (st : Jvm.State) : (allAtoms ts).before a st = ts.all (fun c => c.before a st) := by
  induction ts with
  | nil => rfl
  | cons c t ih =>
    show (Jvm.Cond.and c (allAtoms t)).before a st = _
    rw [Jvm.Cond.before_and, ih, List.all_cons]
def words1 : List Jvm.Cond := Jvm.Cond.code x code maxLocals ret :: tables_1
/-- a 'code' word, met by the world's own term for the bytes: nothing is compared byte by byte -/
theorem code_word {y : MethodName} {bytes : ByteArray} {mx : Nat} {rt : Option FieldType} {a : Array Value} {s : State} {m : MethodId} {meth : Method} {c : Code} (h1 : s.methodNamed? y = some m) (h2 : s.vm.method? m = some meth) (h3 : meth.code = some c) (h4 : c.code = bytes)
    (h5 : (c.maxLocals == mx && c.exceptionTable.isEmpty && decide (c.maxStack ≤ mostOperands) && decide (meth.sig.returnType = rt) && !meth.locks && decide (parseMethodDescriptor y.desc = some meth.sig)) = true) : (Jvm.Cond.code y bytes mx rt).before a s = true := by
  simp only [Bool.and_eq_true, beq_iff_eq, Bool.not_eq_true', decide_eq_true_eq] at h5
  obtain ⟨⟨⟨⟨⟨g1, g2⟩, g3⟩, g4⟩, g5⟩, g6⟩ := h5
  simp [Cond.before, Cond.holds, Cond.value, h1, h2, h3, h4, g1, g2, g3, g4, g5, g6]
def isCode : Jvm.Cond → Bool
  | .code _ _ _ _ => true
  | _ => false
theorem all_split {L : List Jvm.Cond} {P : Jvm.Cond → Bool} (h1 : L.all (fun c => isCode c || P c) = true) (h2 : ∀ c ∈ L.filter isCode, P c = true) : L.all P = true := by
  refine List.all_eq_true.mpr fun c hc => ?_
  have h := List.all_eq_true.mp h1 c hc
  rcases Bool.eq_false_or_eq_true (isCode c) with hi | hi
  · exact h2 c (List.mem_filter.mpr ⟨hc, hi⟩)
  · simpa [hi] using h
set_option maxRecDepth 65536 in
theorem w_c0 : (Jvm.Cond.code x code maxLocals ret).before args0 about1 = true := code_word (m := ⟨1, 2⟩) (meth := k1m2) (c := k1c2) (by decide +kernel) rfl rfl rfl (by decide +kernel)
set_option maxRecDepth 65536 in
theorem w_c1 : (Jvm.Cond.code ({ cls := "dev/happenstance/model/Prefix", name := "<init>", desc := "([II)V" } : Jvm.MethodName) prog_69_method_1_code (3 : Nat) (Option.none : Option Jvm.ClassFile.FieldType)).before args0 about1 = true := code_word (m := ⟨3, 0⟩) (meth := k3m0) (c := k3c0) (by decide +kernel) rfl rfl rfl (by decide +kernel)
set_option maxRecDepth 65536 in
theorem w_c2 : (Jvm.Cond.code ({ cls := "java/lang/Record", name := "<init>", desc := "()V" } : Jvm.MethodName) jdk_30_method_1_code (1 : Nat) (Option.none : Option Jvm.ClassFile.FieldType)).before args0 about1 = true := code_word (m := ⟨2, 0⟩) (meth := k2m0) (c := k2c0) (by decide +kernel) rfl rfl rfl (by decide +kernel)
set_option maxRecDepth 65536 in
theorem w_c3 : (Jvm.Cond.code ({ cls := "java/lang/Object", name := "<init>", desc := "()V" } : Jvm.MethodName) object_method_1_code (1 : Nat) (Option.none : Option Jvm.ClassFile.FieldType)).before args0 about1 = true := code_word (m := ⟨0, 0⟩) (meth := k0m0) (c := k0c0) (by decide +kernel) rfl rfl rfl (by decide +kernel)
set_option maxRecDepth 65536 in
theorem w_c4 : (Jvm.Cond.code ({ cls := "dev/happenstance/model/Prefix", name := "hashCode", desc := "()I" } : Jvm.MethodName) prog_69_method_4_code (3 : Nat) (Option.some Jvm.ClassFile.FieldType.int)).before args0 about1 = true := code_word (m := ⟨3, 1⟩) (meth := k3m1) (c := k3c1) (by decide +kernel) rfl rfl rfl (by decide +kernel)
set_option maxRecDepth 65536 in
theorem w_c5 : (Jvm.Cond.code ({ cls := "dev/happenstance/model/PrefixHashCodePinLaw", name := "reference", desc := "(IIIII)I" } : Jvm.MethodName) method_2_code (5 : Nat) (Option.some Jvm.ClassFile.FieldType.int)).before args0 about1 = true := code_word (m := ⟨1, 1⟩) (meth := k1m1) (c := k1c1) (by decide +kernel) rfl rfl rfl (by decide +kernel)
def codes1 : List Jvm.Cond := [Jvm.Cond.code x code maxLocals ret, Jvm.Cond.code ({ cls := "dev/happenstance/model/Prefix", name := "<init>", desc := "([II)V" } : Jvm.MethodName) prog_69_method_1_code (3 : Nat) (Option.none : Option Jvm.ClassFile.FieldType), Jvm.Cond.code ({ cls := "java/lang/Record", name := "<init>", desc := "()V" } : Jvm.MethodName) jdk_30_method_1_code (1 : Nat) (Option.none : Option Jvm.ClassFile.FieldType), Jvm.Cond.code ({ cls := "java/lang/Object", name := "<init>", desc := "()V" } : Jvm.MethodName) object_method_1_code (1 : Nat) (Option.none : Option Jvm.ClassFile.FieldType), Jvm.Cond.code ({ cls := "dev/happenstance/model/Prefix", name := "hashCode", desc := "()I" } : Jvm.MethodName) prog_69_method_4_code (3 : Nat) (Option.some Jvm.ClassFile.FieldType.int), Jvm.Cond.code ({ cls := "dev/happenstance/model/PrefixHashCodePinLaw", name := "reference", desc := "(IIIII)I" } : Jvm.MethodName) method_2_code (5 : Nat) (Option.some Jvm.ClassFile.FieldType.int)]
set_option maxRecDepth 65536 in
theorem codes_eq : words1.filter isCode = codes1 := rfl
theorem w_codes : ∀ c ∈ words1.filter isCode, c.before args0 about1 = true := by
  rw [codes_eq]
  intro c hc
  simp only [codes1, List.mem_cons, List.not_mem_nil, or_false] at hc
  rcases hc with rfl | rfl | rfl | rfl | rfl | rfl
  · exact w_c0
  · exact w_c1
  · exact w_c2
  · exact w_c3
  · exact w_c4
  · exact w_c5
set_option maxRecDepth 65536 in
theorem w_t1 : (words1.take 24).all (fun c => isCode c || c.before args0 about1) = true := by decide +kernel
set_option maxRecDepth 65536 in
theorem w_t2 : (words1.drop 24).all (fun c => isCode c || c.before args0 about1) = true := by decide +kernel
theorem w_tables : (allAtoms (Jvm.Cond.code x code maxLocals ret :: tables_1)).before args0 about1 = true := by
  rw [allAtoms_all]
  show words1.all (fun c => c.before args0 about1) = true
  refine all_split ?_ w_codes
  rw [← List.take_append_drop 24 words1, List.all_append, w_t1, w_t2]
  rfl
set_option maxRecDepth 65536 in
theorem w_case : (Jvm.Cond.and given_1 narrow_1).before args0 about1 = true := by decide +kernel
theorem w_applies : (headSpec (Jvm.Cond.code x code maxLocals ret :: tables_1) room_1).applies x e0.platform about1 = true :=
  (Spec.applies_iff w_frames).mpr ⟨w_running, w_runnable, w_alone, w_named, w_hears, w_ripe, w_room, w_tables⟩
theorem atStart : AtStart classFile x code maxLocals ret World_1 tables_1 room_1 Calls_1 rest_1 Pre_1 launch0 p0 e0 about1 theMethod args0 below0 :=
  ⟨lists_1, trivial, launch0.admits_env _ _ _, launch0.least_env, fairChoices_fair.cas, fairChoices_fair.clock, w_frames, w_args, w_heap, w_applies, trivial, trivial, w_case⟩
end start1
theorem witness_1 : WitnessClaimed_1 := ⟨start1.p0, start1.e0, start1.about1, start1.theMethod, start1.args0, start1.below0, start1.atStart⟩
end Jvm.Pilot.@@N@@
