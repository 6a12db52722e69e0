import JvmDerived
import JvmDerived.Pilot.@@N@@Statement
import JvmDerived.Pilot.@@N@@Code
set_option linter.unusedVariables false
set_option linter.unusedSimpArgs false
namespace Jvm.RoadKit
open Sem ClassFile Op Lib Jvm.Stand Jvm.Free Jvm.LawKit
section New
variable {p : Program} {l : Launch} {e : Env} {R : Room} {s : State} {m : MethodId} {args : Array Value} {below : List Frame} {meth : Method} {c : Code} {T : State} {locs : List Loc} {cells slots : Nat}
theorem retI (X : Stand p l e R s m args below meth c T locs cells slots) (hx : p.tables.exec = Jvm.exec) {pc : Nat} {Ls : Array Slot} {z : Int32} {rest : List Value} (hret : meth.sig.returnType = some .int) (hd : decode c.code pc = .ok (.ireturn, 1)) {fs : List Frame}
    (hl : ∀ (f : JFrame) (acts : List Action), f.method = m → f.locked = none → f.entered = [] → (doReturn e (T.setTop f) acts (some (.int z))).1 = T.setFrames fs) : Steps p.tables e below (T.setTop (mkF m pc Ls (.int z :: rest))) (T.setFrames fs) := by
  have hm' : T.vm.method? m = some meth := X.method'
  have hn : narrow .int (.int z) = .int z := rfl
  show Steps p.tables e below (T.setTop { method := m, pc := pc, locals := Ls, stack := _ :: rest, locked := none }) _
  jvm_step X.here [X.here.top, hx, hd, hm', hret, hn]
  first | (intro acts; rw [hl _ acts rfl rfl rfl]) | rw [hl _ _ rfl rfl rfl]
  exact Steps.refl _
end New
end Jvm.RoadKit
namespace Jvm.OwnKit
open Jvm Jvm.ClassFile Sem Op Lib Jvm.Free Jvm.Stand Jvm.LawKit Jvm.RoadKit
/-- the walk comes to an end as Q says -/
def Go (p : Program) (e : Env) (below : List Frame) (F : Option Value → State → Prop) (S0 : State) : Prop :=
  ∃ (t : State) (o : Outcome), Steps p.tables e below S0 t ∧ t.status = .running ∧ Ended t below o ∧ ∃ v, o = .returned v ∧ F v t
/-- the end as a contract says it -/
def NF (s : State) (cs ss : Nat) (Q : Option Value → Heap → List Loc → Prop) : Option Value → State → Prop := fun v t => ∃ L, Q v t.heap L ∧ FrameEnd s (.returned v) t L cs ss
/-- where the walk stands: what is fixed for the whole body, the Stand, the heap -/
def Pos (p : Program) (l : Launch) (e : Env) (R : Room) (s : State) (m : MethodId) (args : Array Value) (below : List Frame) (meth : Method) (c : Code) (Z : State) (own : String) (bytes : ByteArray) (ml : Nat) (ret : Option FieldType) (nm : String) (T : State) (h : Heap) (locs : List Loc) (cells slots : Nat) : Prop :=
  (p.tables.exec = Jvm.exec ∧ Z.Warmed39 s.vm ∧ s.vm.findClass own = some m.cls ∧ c.code = bytes ∧ c.maxLocals = ml ∧ meth.sig.returnType = ret ∧ meth.locks = false ∧ meth.name = nm) ∧ Stand p l e R s m args below meth c T locs cells slots ∧ T.heap = h
def ushr (x y : Int32) : Int32 := (x.toUInt32 >>> (y &&& 31).toUInt32).toInt32
def ushrJ (x : Int64) (y : Int32) : Int64 := (x.toUInt64 >>> (y &&& 0x3f).toInt64.toUInt64).toInt64
def lcmpO (x y : Int64) : Int32 := if x > y then 1 else if x = y then 0 else -1
/-- a callee's contract, at one heap, for one list of arguments -/
abbrev OMeets (l : Launch) (Z : State) (y : MethodName) (bytes : ByteArray) (ml : Nat) (ret : Option FieldType) (rm : Room) (as' : Array Value) (h0 : Heap) (Q : Option Value → Heap → List Loc → Prop) : Prop :=
  MetFree l y (head1 [Jvm.Cond.code y bytes ml ret] rm) (fun a U => a = as' ∧ Z.Warmed39 U.vm ∧ U.heap = h0) (fun _ _ _ _ _ => True) (fun _ U o U' => ∃ v L, o = .returned v ∧ Q v U'.heap L ∧ FrameEnd U o U' L rm.cells rm.slots)
/-- it returns v and has moved nothing -/
def OPure (v0 : Option Value) (h0 : Heap) (v : Option Value) (h : Heap) (L : List Loc) : Prop := v = v0 ∧ h = h0 ∧ L = []
theorem wk {ws : List Jvm.Cond} {a0 : Array Value} {Z : State} (hw : ∀ d ∈ ws, d.before a0 Z = true) (i : Nat) {d : Jvm.Cond} (h : ws[i]? = some d) : d.before a0 Z = true := hw _ (List.mem_of_getElem? h)
section Own
variable {p : Program} {l : Launch} {e : Env} {R : Room} {s : State} {m : MethodId} {args : Array Value} {below : List Frame} {meth : Method} {c : Code} {Z : State} {own : String} {bytes : ByteArray} {ml : Nat} {ret : Option FieldType} {nm : String} {T : State} {h : Heap} {locs : List Loc} {cells slots : Nat} {cs ss : Nat} {Q : Option Value → Heap → List Loc → Prop} {FF : Option Value → State → Prop} {a0 : Array Value} {pc pc' : Nat} {Ls : Array Slot} {St : List Value}
theorem Pos.x (P : Pos p l e R s m args below meth c Z own bytes ml ret nm T h locs cells slots) : p.tables.exec = Jvm.exec := P.1.1
theorem Pos.z (P : Pos p l e R s m args below meth c Z own bytes ml ret nm T h locs cells slots) : Z.Warmed39 s.vm := P.1.2.1
theorem Pos.ow (P : Pos p l e R s m args below meth c Z own bytes ml ret nm T h locs cells slots) : s.vm.findClass own = some m.cls := P.1.2.2.1
theorem Pos.bt (P : Pos p l e R s m args below meth c Z own bytes ml ret nm T h locs cells slots) : c.code = bytes := P.1.2.2.2.1
theorem Pos.mx (P : Pos p l e R s m args below meth c Z own bytes ml ret nm T h locs cells slots) : c.maxLocals = ml := P.1.2.2.2.2.1
theorem Pos.rt (P : Pos p l e R s m args below meth c Z own bytes ml ret nm T h locs cells slots) : meth.sig.returnType = ret := P.1.2.2.2.2.2.1
theorem Pos.lk (P : Pos p l e R s m args below meth c Z own bytes ml ret nm T h locs cells slots) : meth.locks = false := P.1.2.2.2.2.2.2.1
theorem Pos.mn (P : Pos p l e R s m args below meth c Z own bytes ml ret nm T h locs cells slots) : meth.name = nm := P.1.2.2.2.2.2.2.2
theorem Pos.st (P : Pos p l e R s m args below meth c Z own bytes ml ret nm T h locs cells slots) : Stand p l e R s m args below meth c T locs cells slots := P.2.1
theorem Pos.eh (P : Pos p l e R s m args below meth c Z own bytes ml ret nm T h locs cells slots) : T.heap = h := P.2.2
theorem Pos.here (P : Pos p l e R s m args below meth c Z own bytes ml ret nm T h locs cells slots) : At T m c below := P.2.1.here
theorem Go.via {S0 S1 : State} (st : ∀ target, Steps p.tables e below S1 target → Steps p.tables e below S0 target) (k : Go p e below FF S1) : Go p e below FF S0 := by
  obtain ⟨t, o, h1, r⟩ := k
  exact ⟨t, o, st t h1, r⟩
theorem Go.come {S0 S1 : State} (st : Steps p.tables e below S0 S1) (k : Go p e below FF S1) : Go p e below FF S0 := by
  obtain ⟨t, o, h1, r⟩ := k
  exact ⟨t, o, st.trans h1, r⟩
theorem Go.dia {S0 S1 : State} (hh : Go p e below FF S1 → Go p e below FF S0) (kk : Go p e below FF S1) : Go p e below FF S0 := hh kk
theorem Go.all {ι : Type} {S0 : State} {A : ι → Prop} {S1 : ι → State} (hh : (∀ i, A i → Go p e below FF (S1 i)) → Go p e below FF S0) (kk : ∀ i, A i → Go p e below FF (S1 i)) : Go p e below FF S0 := hh kk
theorem sI {a b : Int32} (q : a = b) : some (Value.int a) = some (Value.int b) := by rw [q]
theorem sJ {a b : Int64} (q : a = b) : some (Value.long a) = some (Value.long b) := by rw [q]
theorem sR {a b : Addr} (q : a = b) : some (Value.ref a) = some (Value.ref b) := by rw [q]
theorem met {l : Launch} {Z : State} {y : MethodName} {bytes : ByteArray} {ml : Nat} {ret : Option FieldType} {ws : List Jvm.Cond} {rm : Room} {as' : Array Value} {h0 : Heap} {Ls : Array Slot} {Q : Option Value → Heap → List Loc → Prop} (hn : plainFor y = true) (hf : ∀ m, entryFrame m as' ml = mkF m 0 Ls [])
    (body : ∀ p e s m below meth c T, Pos p l e rm s m as' below meth c Z y.cls bytes ml ret y.name T h0 [] 0 0 → Go p e below (NF s rm.cells rm.slots Q) (T.setTop (mkF m 0 Ls []))) :
    MetFree l y (head1 (Jvm.Cond.code y bytes ml ret :: ws) rm) (fun a U => a = as' ∧ Z.Warmed39 U.vm ∧ U.heap = h0) (fun _ _ _ _ _ => True) (fun _ U o U' => ∃ v L, o = .returned v ∧ Q v U'.heap L ∧ FrameEnd U o U' L rm.cells rm.slots) := by
  refine MetFree.of_bodySF hn hisR ?_
  intro p e s m args below meth c s₁ Bd hml0 hP hK
  obtain ⟨rfl, hZ, hh⟩ := hP
  have X0 : Stand p l e rm s m args below meth c s₁ [] 0 0 := Stand.of_body Bd
  have e0 : s₁.heap = h0 := by rw [← hh, Bd.state]; rfl
  have hlk : meth.locks = false := by first | exact BodyLoose.notSynchronized Bd | exact Bd.locks
  have P : Pos p l e rm s m args below meth c Z y.cls bytes ml ret y.name s₁ h0 [] 0 0 := ⟨⟨Bd.exec, hZ, findClass_of_methodNamed Bd.named, Bd.bytes, hml0, Bd.returns, hlk, (name_of_methodNamed Bd.named Bd.method).1⟩, X0, e0⟩
  obtain ⟨t, o, h1, h2, h3, v, rfl, L, hQ, hF⟩ := body p e s m below meth c s₁ P
  exact ⟨t, _, castTop (hf m) h1, h2, h3, v, L, rfl, hQ, hF⟩
/-! ### plain steps -/
theorem G.aloadN (P : Pos p l e R s m args below meth c Z own bytes ml ret nm T h locs cells slots) {k : Fin 4} {v : Value} (hd : decode bytes pc = .ok (.aload_n k, 1)) (hl : Ls[k.val]? = some (.val v)) (hv : v.isRef = true) (hp : pc + 1 = pc') (kk : Go p e below FF (T.setTop (mkF m pc' Ls (v :: St)))) : Go p e below FF (T.setTop (mkF m pc Ls St)) := by
  subst hp; exact Go.via (fun _ => XS.aloadN P.here P.x rfl (hb P.bt hd) hl hv) kk
theorem G.iloadN (P : Pos p l e R s m args below meth c Z own bytes ml ret nm T h locs cells slots) {k : Fin 4} {v : Int32} (hd : decode bytes pc = .ok (.iload_n k, 1)) (hl : Ls[k.val]? = some (.val (.int v))) (hp : pc + 1 = pc') (kk : Go p e below FF (T.setTop (mkF m pc' Ls (.int v :: St)))) : Go p e below FF (T.setTop (mkF m pc Ls St)) := by
  subst hp; exact Go.via (fun _ => XS.iloadN P.here P.x rfl (hb P.bt hd) hl) kk
theorem G.lloadN (P : Pos p l e R s m args below meth c Z own bytes ml ret nm T h locs cells slots) {k : Fin 4} {v : Int64} (hd : decode bytes pc = .ok (.lload_n k, 1)) (hl : Ls[k.val]? = some (.val (.long v))) (hp : pc + 1 = pc') (kk : Go p e below FF (T.setTop (mkF m pc' Ls (.long v :: St)))) : Go p e below FF (T.setTop (mkF m pc Ls St)) := by
  subst hp; exact Go.via (fun _ => XS.lloadN P.here P.x rfl (hb P.bt hd) hl) kk
theorem G.istoreN (P : Pos p l e R s m args below meth c Z own bytes ml ret nm T h locs cells slots) {k : Fin 4} {x : Int32} {l' : Array Slot} (hd : decode bytes pc = .ok (.istore_n k, 1)) (hl : storeLocals Ls k.val (.int x) = some l') (hp : pc + 1 = pc') (kk : Go p e below FF (T.setTop (mkF m pc' l' St))) : Go p e below FF (T.setTop (mkF m pc Ls (.int x :: St))) := by
  subst hp; exact Go.via (fun _ => XS.istoreN P.here P.x rfl (hb P.bt hd) rfl hl) kk
theorem G.lstoreN (P : Pos p l e R s m args below meth c Z own bytes ml ret nm T h locs cells slots) {k : Fin 4} {x : Int64} {l' : Array Slot} (hd : decode bytes pc = .ok (.lstore_n k, 1)) (hl : storeLocals Ls k.val (.long x) = some l') (hp : pc + 1 = pc') (kk : Go p e below FF (T.setTop (mkF m pc' l' St))) : Go p e below FF (T.setTop (mkF m pc Ls (.long x :: St))) := by
  subst hp; exact Go.via (fun _ => XS.lstoreN P.here P.x rfl (hb P.bt hd) rfl hl) kk
theorem G.astoreN (P : Pos p l e R s m args below meth c Z own bytes ml ret nm T h locs cells slots) {k : Fin 4} {x : Value} {l' : Array Slot} (hd : decode bytes pc = .ok (.astore_n k, 1)) (hv : x.isRef = true) (hl : storeLocals Ls k.val x = some l') (hp : pc + 1 = pc') (kk : Go p e below FF (T.setTop (mkF m pc' l' St))) : Go p e below FF (T.setTop (mkF m pc Ls (x :: St))) := by
  subst hp; exact Go.via (fun _ => XS.astoreN P.here P.x rfl (hb P.bt hd) rfl hv hl) kk
theorem G.aload (P : Pos p l e R s m args below meth c Z own bytes ml ret nm T h locs cells slots) {k : Nat} {v : Value} (hd : decode bytes pc = .ok (.aload k, 2)) (hl : Ls[k]? = some (.val v)) (hv : v.isRef = true) (hp : pc + 2 = pc') (kk : Go p e below FF (T.setTop (mkF m pc' Ls (v :: St)))) : Go p e below FF (T.setTop (mkF m pc Ls St)) := by
  subst hp; exact Go.via (fun _ => XS.aload P.here P.x rfl (hb P.bt hd) hl hv) kk
theorem G.iload (P : Pos p l e R s m args below meth c Z own bytes ml ret nm T h locs cells slots) {k : Nat} {v : Int32} (hd : decode bytes pc = .ok (.iload k, 2)) (hl : Ls[k]? = some (.val (.int v))) (hp : pc + 2 = pc') (kk : Go p e below FF (T.setTop (mkF m pc' Ls (.int v :: St)))) : Go p e below FF (T.setTop (mkF m pc Ls St)) := by
  subst hp; exact Go.via (fun _ => XS.iload P.here P.x rfl (hb P.bt hd) hl) kk
theorem G.lload (P : Pos p l e R s m args below meth c Z own bytes ml ret nm T h locs cells slots) {k : Nat} {v : Int64} (hd : decode bytes pc = .ok (.lload k, 2)) (hl : Ls[k]? = some (.val (.long v))) (hp : pc + 2 = pc') (kk : Go p e below FF (T.setTop (mkF m pc' Ls (.long v :: St)))) : Go p e below FF (T.setTop (mkF m pc Ls St)) := by
  subst hp; exact Go.via (fun _ => XS.lload P.here P.x rfl (hb P.bt hd) hl) kk
theorem G.istore (P : Pos p l e R s m args below meth c Z own bytes ml ret nm T h locs cells slots) {k : Nat} {x : Int32} {l' : Array Slot} (hd : decode bytes pc = .ok (.istore k, 2)) (hl : storeLocals Ls k (.int x) = some l') (hp : pc + 2 = pc') (kk : Go p e below FF (T.setTop (mkF m pc' l' St))) : Go p e below FF (T.setTop (mkF m pc Ls (.int x :: St))) := by
  subst hp; exact Go.via (fun _ => XS.istore P.here P.x rfl (hb P.bt hd) rfl hl) kk
theorem G.lstore (P : Pos p l e R s m args below meth c Z own bytes ml ret nm T h locs cells slots) {k : Nat} {x : Int64} {l' : Array Slot} (hd : decode bytes pc = .ok (.lstore k, 2)) (hl : storeLocals Ls k (.long x) = some l') (hp : pc + 2 = pc') (kk : Go p e below FF (T.setTop (mkF m pc' l' St))) : Go p e below FF (T.setTop (mkF m pc Ls (.long x :: St))) := by
  subst hp; exact Go.via (fun _ => XS.lstore P.here P.x rfl (hb P.bt hd) rfl hl) kk
theorem G.astore (P : Pos p l e R s m args below meth c Z own bytes ml ret nm T h locs cells slots) {k : Nat} {x : Value} {l' : Array Slot} (hd : decode bytes pc = .ok (.astore k, 2)) (hv : x.isRef = true) (hl : storeLocals Ls k x = some l') (hp : pc + 2 = pc') (kk : Go p e below FF (T.setTop (mkF m pc' l' St))) : Go p e below FF (T.setTop (mkF m pc Ls (x :: St))) := by
  subst hp; exact Go.via (fun _ => XS.astore P.here P.x rfl (hb P.bt hd) rfl hv hl) kk
theorem G.iconst (P : Pos p l e R s m args below meth c Z own bytes ml ret nm T h locs cells slots) {i : Int} {z : Int32} (hd : decode bytes pc = .ok (.iconst i, 1)) (hz : Int32.ofInt i = z) (hp : pc + 1 = pc') (kk : Go p e below FF (T.setTop (mkF m pc' Ls (.int z :: St)))) : Go p e below FF (T.setTop (mkF m pc Ls St)) := by
  subst hp hz; exact Go.via (fun _ => XS.iconst P.here P.x rfl (hb P.bt hd) ) kk
theorem G.bipush (P : Pos p l e R s m args below meth c Z own bytes ml ret nm T h locs cells slots) {i : Int} {z : Int32} (hd : decode bytes pc = .ok (.bipush i, 2)) (hz : (Int8.ofInt i).toInt32 = z) (hp : pc + 2 = pc') (kk : Go p e below FF (T.setTop (mkF m pc' Ls (.int z :: St)))) : Go p e below FF (T.setTop (mkF m pc Ls St)) := by
  subst hp hz; exact Go.via (fun _ => XS.bipush P.here P.x rfl (hb P.bt hd) ) kk
theorem G.sipush (P : Pos p l e R s m args below meth c Z own bytes ml ret nm T h locs cells slots) {i : Int} {z : Int32} (hd : decode bytes pc = .ok (.sipush i, 3)) (hz : (Int16.ofInt i).toInt32 = z) (hp : pc + 3 = pc') (kk : Go p e below FF (T.setTop (mkF m pc' Ls (.int z :: St)))) : Go p e below FF (T.setTop (mkF m pc Ls St)) := by
  subst hp hz; exact Go.via (fun _ => XS.sipush P.here P.x rfl (hb P.bt hd) ) kk
theorem G.lconst (P : Pos p l e R s m args below meth c Z own bytes ml ret nm T h locs cells slots) {k : Fin 2} {z : Int64} (hd : decode bytes pc = .ok (.lconst k, 1)) (hz : Int64.ofNat k = z) (hp : pc + 1 = pc') (kk : Go p e below FF (T.setTop (mkF m pc' Ls (.long z :: St)))) : Go p e below FF (T.setTop (mkF m pc Ls St)) := by
  subst hp hz; exact Go.via (fun _ => XS.lconst P.here P.x rfl (hb P.bt hd) ) kk
theorem G.aconstNull (P : Pos p l e R s m args below meth c Z own bytes ml ret nm T h locs cells slots)  (hd : decode bytes pc = .ok (.aconst_null, 1))  (hp : pc + 1 = pc') (kk : Go p e below FF (T.setTop (mkF m pc' Ls (.null :: St)))) : Go p e below FF (T.setTop (mkF m pc Ls St)) := by
  subst hp; exact Go.via (fun _ => XS.aconstNull P.here P.x rfl (hb P.bt hd) ) kk
theorem G.iadd (P : Pos p l e R s m args below meth c Z own bytes ml ret nm T h locs cells slots) {x y z : Int32} (hd : decode bytes pc = .ok (.iadd, 1)) (hz : x + y = z) (hp : pc + 1 = pc') (kk : Go p e below FF (T.setTop (mkF m pc' Ls (.int z :: St)))) : Go p e below FF (T.setTop (mkF m pc Ls (.int y :: .int x :: St))) := by
  subst hp hz; exact Go.via (fun _ => XS.iadd P.here P.x rfl (hb P.bt hd) rfl) kk
theorem G.isub (P : Pos p l e R s m args below meth c Z own bytes ml ret nm T h locs cells slots) {x y z : Int32} (hd : decode bytes pc = .ok (.isub, 1)) (hz : x - y = z) (hp : pc + 1 = pc') (kk : Go p e below FF (T.setTop (mkF m pc' Ls (.int z :: St)))) : Go p e below FF (T.setTop (mkF m pc Ls (.int y :: .int x :: St))) := by
  subst hp hz; exact Go.via (fun _ => XS.isub P.here P.x rfl (hb P.bt hd) rfl) kk
theorem G.imul (P : Pos p l e R s m args below meth c Z own bytes ml ret nm T h locs cells slots) {x y z : Int32} (hd : decode bytes pc = .ok (.imul, 1)) (hz : x * y = z) (hp : pc + 1 = pc') (kk : Go p e below FF (T.setTop (mkF m pc' Ls (.int z :: St)))) : Go p e below FF (T.setTop (mkF m pc Ls (.int y :: .int x :: St))) := by
  subst hp hz; exact Go.via (fun _ => XS.imul P.here P.x rfl (hb P.bt hd) rfl) kk
theorem G.iand (P : Pos p l e R s m args below meth c Z own bytes ml ret nm T h locs cells slots) {x y z : Int32} (hd : decode bytes pc = .ok (.iand, 1)) (hz : x &&& y = z) (hp : pc + 1 = pc') (kk : Go p e below FF (T.setTop (mkF m pc' Ls (.int z :: St)))) : Go p e below FF (T.setTop (mkF m pc Ls (.int y :: .int x :: St))) := by
  subst hp hz; exact Go.via (fun _ => XS.iand P.here P.x rfl (hb P.bt hd) rfl) kk
theorem G.ior (P : Pos p l e R s m args below meth c Z own bytes ml ret nm T h locs cells slots) {x y z : Int32} (hd : decode bytes pc = .ok (.ior, 1)) (hz : x ||| y = z) (hp : pc + 1 = pc') (kk : Go p e below FF (T.setTop (mkF m pc' Ls (.int z :: St)))) : Go p e below FF (T.setTop (mkF m pc Ls (.int y :: .int x :: St))) := by
  subst hp hz; exact Go.via (fun _ => XS.ior P.here P.x rfl (hb P.bt hd) rfl) kk
theorem G.ixor (P : Pos p l e R s m args below meth c Z own bytes ml ret nm T h locs cells slots) {x y z : Int32} (hd : decode bytes pc = .ok (.ixor, 1)) (hz : x ^^^ y = z) (hp : pc + 1 = pc') (kk : Go p e below FF (T.setTop (mkF m pc' Ls (.int z :: St)))) : Go p e below FF (T.setTop (mkF m pc Ls (.int y :: .int x :: St))) := by
  subst hp hz; exact Go.via (fun _ => XS.ixor P.here P.x rfl (hb P.bt hd) rfl) kk
theorem G.ishl (P : Pos p l e R s m args below meth c Z own bytes ml ret nm T h locs cells slots) {x y z : Int32} (hd : decode bytes pc = .ok (.ishl, 1)) (hz : x <<< (y &&& 31) = z) (hp : pc + 1 = pc') (kk : Go p e below FF (T.setTop (mkF m pc' Ls (.int z :: St)))) : Go p e below FF (T.setTop (mkF m pc Ls (.int y :: .int x :: St))) := by
  subst hp hz; exact Go.via (fun _ => XS.ishl P.here P.x rfl (hb P.bt hd) rfl) kk
theorem G.ishr (P : Pos p l e R s m args below meth c Z own bytes ml ret nm T h locs cells slots) {x y z : Int32} (hd : decode bytes pc = .ok (.ishr, 1)) (hz : x >>> (y &&& 31) = z) (hp : pc + 1 = pc') (kk : Go p e below FF (T.setTop (mkF m pc' Ls (.int z :: St)))) : Go p e below FF (T.setTop (mkF m pc Ls (.int y :: .int x :: St))) := by
  subst hp hz; exact Go.via (fun _ => XS.ishr P.here P.x rfl (hb P.bt hd) rfl) kk
theorem G.iushr (P : Pos p l e R s m args below meth c Z own bytes ml ret nm T h locs cells slots) {x y z : Int32} (hd : decode bytes pc = .ok (.iushr, 1)) (hz : ushr x y = z) (hp : pc + 1 = pc') (kk : Go p e below FF (T.setTop (mkF m pc' Ls (.int z :: St)))) : Go p e below FF (T.setTop (mkF m pc Ls (.int y :: .int x :: St))) := by
  subst hp hz; exact Go.via (fun _ => XS.iushr P.here P.x rfl (hb P.bt hd) rfl) kk
theorem G.idiv (P : Pos p l e R s m args below meth c Z own bytes ml ret nm T h locs cells slots) {x y z : Int32} (hd : decode bytes pc = .ok (.idiv, 1)) (hy : y ≠ 0) (hz : x / y = z) (hp : pc + 1 = pc') (kk : Go p e below FF (T.setTop (mkF m pc' Ls (.int z :: St)))) : Go p e below FF (T.setTop (mkF m pc Ls (.int y :: .int x :: St))) := by
  subst hp hz; exact Go.via (fun _ => XS.idiv P.here P.x rfl (hb P.bt hd) rfl hy) kk
theorem G.ladd (P : Pos p l e R s m args below meth c Z own bytes ml ret nm T h locs cells slots) {x y z : Int64} (hd : decode bytes pc = .ok (.ladd, 1)) (hz : x + y = z) (hp : pc + 1 = pc') (kk : Go p e below FF (T.setTop (mkF m pc' Ls (.long z :: St)))) : Go p e below FF (T.setTop (mkF m pc Ls (.long y :: .long x :: St))) := by
  subst hp hz; exact Go.via (fun _ => XS.ladd P.here P.x rfl (hb P.bt hd) rfl) kk
theorem G.lsub (P : Pos p l e R s m args below meth c Z own bytes ml ret nm T h locs cells slots) {x y z : Int64} (hd : decode bytes pc = .ok (.lsub, 1)) (hz : x - y = z) (hp : pc + 1 = pc') (kk : Go p e below FF (T.setTop (mkF m pc' Ls (.long z :: St)))) : Go p e below FF (T.setTop (mkF m pc Ls (.long y :: .long x :: St))) := by
  subst hp hz; exact Go.via (fun _ => XS.lsub P.here P.x rfl (hb P.bt hd) rfl) kk
theorem G.lmul (P : Pos p l e R s m args below meth c Z own bytes ml ret nm T h locs cells slots) {x y z : Int64} (hd : decode bytes pc = .ok (.lmul, 1)) (hz : x * y = z) (hp : pc + 1 = pc') (kk : Go p e below FF (T.setTop (mkF m pc' Ls (.long z :: St)))) : Go p e below FF (T.setTop (mkF m pc Ls (.long y :: .long x :: St))) := by
  subst hp hz; exact Go.via (fun _ => XS.lmul P.here P.x rfl (hb P.bt hd) rfl) kk
theorem G.land (P : Pos p l e R s m args below meth c Z own bytes ml ret nm T h locs cells slots) {x y z : Int64} (hd : decode bytes pc = .ok (.land, 1)) (hz : x &&& y = z) (hp : pc + 1 = pc') (kk : Go p e below FF (T.setTop (mkF m pc' Ls (.long z :: St)))) : Go p e below FF (T.setTop (mkF m pc Ls (.long y :: .long x :: St))) := by
  subst hp hz; exact Go.via (fun _ => XS.land P.here P.x rfl (hb P.bt hd) rfl) kk
theorem G.lor (P : Pos p l e R s m args below meth c Z own bytes ml ret nm T h locs cells slots) {x y z : Int64} (hd : decode bytes pc = .ok (.lor, 1)) (hz : x ||| y = z) (hp : pc + 1 = pc') (kk : Go p e below FF (T.setTop (mkF m pc' Ls (.long z :: St)))) : Go p e below FF (T.setTop (mkF m pc Ls (.long y :: .long x :: St))) := by
  subst hp hz; exact Go.via (fun _ => XS.lor P.here P.x rfl (hb P.bt hd) rfl) kk
theorem G.lxor (P : Pos p l e R s m args below meth c Z own bytes ml ret nm T h locs cells slots) {x y z : Int64} (hd : decode bytes pc = .ok (.lxor, 1)) (hz : x ^^^ y = z) (hp : pc + 1 = pc') (kk : Go p e below FF (T.setTop (mkF m pc' Ls (.long z :: St)))) : Go p e below FF (T.setTop (mkF m pc Ls (.long y :: .long x :: St))) := by
  subst hp hz; exact Go.via (fun _ => XS.lxor P.here P.x rfl (hb P.bt hd) rfl) kk
theorem G.ldiv (P : Pos p l e R s m args below meth c Z own bytes ml ret nm T h locs cells slots) {x y z : Int64} (hd : decode bytes pc = .ok (.ldiv, 1)) (hy : y ≠ 0) (hz : x / y = z) (hp : pc + 1 = pc') (kk : Go p e below FF (T.setTop (mkF m pc' Ls (.long z :: St)))) : Go p e below FF (T.setTop (mkF m pc Ls (.long y :: .long x :: St))) := by
  subst hp hz; exact Go.via (fun _ => XS.ldiv P.here P.x rfl (hb P.bt hd) rfl hy) kk
theorem G.lushr (P : Pos p l e R s m args below meth c Z own bytes ml ret nm T h locs cells slots) {x z : Int64} {y : Int32} (hd : decode bytes pc = .ok (.lushr, 1)) (hz : ushrJ x y = z) (hp : pc + 1 = pc') (kk : Go p e below FF (T.setTop (mkF m pc' Ls (.long z :: St)))) : Go p e below FF (T.setTop (mkF m pc Ls (.int y :: .long x :: St))) := by
  subst hp hz; exact Go.via (fun _ => XS.lushr P.here P.x rfl (hb P.bt hd) rfl) kk
theorem G.lcmp (P : Pos p l e R s m args below meth c Z own bytes ml ret nm T h locs cells slots) {x y : Int64} {z : Int32} (hd : decode bytes pc = .ok (.lcmp, 1)) (hz : lcmpO x y = z) (hp : pc + 1 = pc') (kk : Go p e below FF (T.setTop (mkF m pc' Ls (.int z :: St)))) : Go p e below FF (T.setTop (mkF m pc Ls (.long y :: .long x :: St))) := by
  subst hp hz; exact Go.via (fun _ => XS.lcmp P.here P.x rfl (hb P.bt hd) rfl) kk
theorem G.ineg (P : Pos p l e R s m args below meth c Z own bytes ml ret nm T h locs cells slots) {x : Int32} {z : Int32} (hd : decode bytes pc = .ok (.ineg, 1)) (hz : -x = z) (hp : pc + 1 = pc') (kk : Go p e below FF (T.setTop (mkF m pc' Ls (.int z :: St)))) : Go p e below FF (T.setTop (mkF m pc Ls (.int x :: St))) := by
  subst hp hz; exact Go.via (fun _ => XS.ineg P.here P.x rfl (hb P.bt hd) rfl) kk
theorem G.i2b (P : Pos p l e R s m args below meth c Z own bytes ml ret nm T h locs cells slots) {x : Int32} {z : Int32} (hd : decode bytes pc = .ok (.i2b, 1)) (hz : x.toInt8.toInt32 = z) (hp : pc + 1 = pc') (kk : Go p e below FF (T.setTop (mkF m pc' Ls (.int z :: St)))) : Go p e below FF (T.setTop (mkF m pc Ls (.int x :: St))) := by
  subst hp hz; exact Go.via (fun _ => XS.i2b P.here P.x rfl (hb P.bt hd) rfl) kk
theorem G.i2c (P : Pos p l e R s m args below meth c Z own bytes ml ret nm T h locs cells slots) {x : Int32} {z : Int32} (hd : decode bytes pc = .ok (.i2c, 1)) (hz : x.toUInt32.toUInt16.toUInt32.toInt32 = z) (hp : pc + 1 = pc') (kk : Go p e below FF (T.setTop (mkF m pc' Ls (.int z :: St)))) : Go p e below FF (T.setTop (mkF m pc Ls (.int x :: St))) := by
  subst hp hz; exact Go.via (fun _ => XS.i2c P.here P.x rfl (hb P.bt hd) rfl) kk
theorem G.i2s (P : Pos p l e R s m args below meth c Z own bytes ml ret nm T h locs cells slots) {x : Int32} {z : Int32} (hd : decode bytes pc = .ok (.i2s, 1)) (hz : x.toInt16.toInt32 = z) (hp : pc + 1 = pc') (kk : Go p e below FF (T.setTop (mkF m pc' Ls (.int z :: St)))) : Go p e below FF (T.setTop (mkF m pc Ls (.int x :: St))) := by
  subst hp hz; exact Go.via (fun _ => XS.i2s P.here P.x rfl (hb P.bt hd) rfl) kk
theorem G.i2l (P : Pos p l e R s m args below meth c Z own bytes ml ret nm T h locs cells slots) {x : Int32} {z : Int64} (hd : decode bytes pc = .ok (.i2l, 1)) (hz : x.toInt64 = z) (hp : pc + 1 = pc') (kk : Go p e below FF (T.setTop (mkF m pc' Ls (.long z :: St)))) : Go p e below FF (T.setTop (mkF m pc Ls (.int x :: St))) := by
  subst hp hz; exact Go.via (fun _ => XS.i2l P.here P.x rfl (hb P.bt hd) rfl) kk
theorem G.l2i (P : Pos p l e R s m args below meth c Z own bytes ml ret nm T h locs cells slots) {x : Int64} {z : Int32} (hd : decode bytes pc = .ok (.l2i, 1)) (hz : x.toInt32 = z) (hp : pc + 1 = pc') (kk : Go p e below FF (T.setTop (mkF m pc' Ls (.int z :: St)))) : Go p e below FF (T.setTop (mkF m pc Ls (.long x :: St))) := by
  subst hp hz; exact Go.via (fun _ => XS.l2i P.here P.x rfl (hb P.bt hd) rfl) kk
theorem G.lneg (P : Pos p l e R s m args below meth c Z own bytes ml ret nm T h locs cells slots) {x : Int64} {z : Int64} (hd : decode bytes pc = .ok (.lneg, 1)) (hz : -x = z) (hp : pc + 1 = pc') (kk : Go p e below FF (T.setTop (mkF m pc' Ls (.long z :: St)))) : Go p e below FF (T.setTop (mkF m pc Ls (.long x :: St))) := by
  subst hp hz; exact Go.via (fun _ => XS.lneg P.here P.x rfl (hb P.bt hd) rfl) kk
theorem G.pop (P : Pos p l e R s m args below meth c Z own bytes ml ret nm T h locs cells slots) {x : Value} (hd : decode bytes pc = .ok (.pop, 1)) (hc : x.category = 1) (hp : pc + 1 = pc') (kk : Go p e below FF (T.setTop (mkF m pc' Ls St))) : Go p e below FF (T.setTop (mkF m pc Ls (x :: St))) := by
  subst hp; exact Go.via (fun _ => XS.pop P.here P.x rfl (hb P.bt hd) rfl hc) kk
theorem G.dup (P : Pos p l e R s m args below meth c Z own bytes ml ret nm T h locs cells slots) {x : Value} (hd : decode bytes pc = .ok (.dup, 1)) (hc : x.category = 1) (hp : pc + 1 = pc') (kk : Go p e below FF (T.setTop (mkF m pc' Ls (x :: x :: St)))) : Go p e below FF (T.setTop (mkF m pc Ls (x :: St))) := by
  subst hp; exact Go.via (fun _ => XS.dup P.here P.x rfl (hb P.bt hd) rfl hc) kk
theorem G.dupX1 (P : Pos p l e R s m args below meth c Z own bytes ml ret nm T h locs cells slots) {x y : Value} (hd : decode bytes pc = .ok (.dup_x1, 1)) (hc : x.category = 1) (hc2 : y.category = 1) (hp : pc + 1 = pc') (kk : Go p e below FF (T.setTop (mkF m pc' Ls (x :: y :: x :: St)))) : Go p e below FF (T.setTop (mkF m pc Ls (x :: y :: St))) := by
  subst hp; exact Go.via (fun _ => XS.dupX1 P.here P.x rfl (hb P.bt hd) rfl hc hc2) kk
theorem G.iinc (P : Pos p l e R s m args below meth c Z own bytes ml ret nm T h locs cells slots) {k : Nat} {cst : Int} {x z : Int32} {l' : Array Slot} (hd : decode bytes pc = .ok (.iinc k cst, 3)) (hl : Ls[k]? = some (.val (.int x))) (hz : x + Int32.ofInt cst = z) (hl' : storeLocals Ls k (.int z) = some l') (hp : pc + 3 = pc') (kk : Go p e below FF (T.setTop (mkF m pc' l' St))) : Go p e below FF (T.setTop (mkF m pc Ls St)) := by
  subst hp hz; exact Go.via (fun _ => XS.iinc P.here P.x rfl (hb P.bt hd) hl hl') kk
theorem G.dup2 (P : Pos p l e R s m args below meth c Z own bytes ml ret nm T h locs cells slots) {x y : Value} (hd : decode bytes pc = .ok (.dup2, 1)) (hc : x.category = 1) (hc2 : y.category = 1) (hp : pc + 1 = pc') (kk : Go p e below FF (T.setTop (mkF m pc' Ls (x :: y :: x :: y :: St)))) : Go p e below FF (T.setTop (mkF m pc Ls (x :: y :: St))) := by
  subst hp; exact Go.via (fun _ => XT.dup2 P.here P.x rfl (hb P.bt hd) rfl hc hc2) kk
theorem G.dupX2 (P : Pos p l e R s m args below meth c Z own bytes ml ret nm T h locs cells slots) {x y w : Value} (hd : decode bytes pc = .ok (.dup_x2, 1)) (hc : x.category = 1) (hc2 : y.category = 1) (hc3 : w.category = 1) (hp : pc + 1 = pc') (kk : Go p e below FF (T.setTop (mkF m pc' Ls (x :: y :: w :: x :: St)))) : Go p e below FF (T.setTop (mkF m pc Ls (x :: y :: w :: St))) := by
  subst hp
  refine Go.via (S1 := T.setTop (mkF m (pc + 1) Ls (x :: y :: w :: x :: St))) (fun target hr => ?_) kk
  have hd' := hb P.bt hd
  have hx := P.x
  show Steps p.tables e below (T.setTop { method := m, pc := pc, locals := Ls, stack := x :: y :: w :: St, locked := none }) _
  jvm_step P.here [P.here.top, hx, hd', hc, hc2, hc3]
  exact hr
theorem G.goto (P : Pos p l e R s m args below meth c Z own bytes ml ret nm T h locs cells slots) {o : Int} (hd : decode bytes pc = .ok (.goto o, 3)) (ho : 0 ≤ (pc : Int) + o) (hp : ((pc : Int) + o).toNat = pc') (kk : Go p e below FF (T.setTop (mkF m pc' Ls St))) : Go p e below FF (T.setTop (mkF m pc Ls St)) :=
  Go.via (fun _ => XS.goto P.here P.x rfl (pc0 := pc) rfl (hb P.bt hd) ho hp) kk
theorem G.irem (P : Pos p l e R s m args below meth c Z own bytes ml ret nm T h locs cells slots) {x y z : Int32} (hd : decode bytes pc = .ok (.irem, 1)) (hy : y ≠ 0) (hz : x % y = z) (hp : pc + 1 = pc') (kk : Go p e below FF (T.setTop (mkF m pc' Ls (.int z :: St)))) : Go p e below FF (T.setTop (mkF m pc Ls (.int y :: .int x :: St))) := by
  subst hp hz; exact Go.via (fun _ => iremM (g := mkF m pc Ls (.int y :: .int x :: St)) P.st P.x rfl (hb P.bt hd) rfl hy) kk
theorem G.ldcI (P : Pos p l e R s m args below meth c Z own bytes ml ret nm T h locs cells slots) {i : Nat} {v : Int32} (w : (Jvm.Cond.constant own i v).before a0 Z = true) (hd : decode bytes pc = .ok (.ldc i, 2)) (hp : pc + 2 = pc') (kk : Go p e below FF (T.setTop (mkF m pc' Ls (.int v :: St)))) : Go p e below FF (T.setTop (mkF m pc Ls St)) := by
  subst hp; exact Go.via (P.st.ldcInt P.x P.ow (mvT P.z w) (g := mkF m pc Ls St) rfl (hb P.bt hd)) kk
theorem G.ldcJ (P : Pos p l e R s m args below meth c Z own bytes ml ret nm T h locs cells slots) {i : Nat} {v : Int64} (w : (Jvm.Cond.constantLong own i v).before a0 Z = true) (hd : decode bytes pc = .ok (.ldc2_w i, 3)) (hp : pc + 3 = pc') (kk : Go p e below FF (T.setTop (mkF m pc' Ls (.long v :: St)))) : Go p e below FF (T.setTop (mkF m pc Ls St)) := by
  subst hp; exact Go.via (P.st.ldc2Long P.x P.ow (mvT P.z w) (g := mkF m pc Ls St) rfl (hb P.bt hd)) kk
/-! ### branches -/
theorem G.icmp (P : Pos p l e R s m args below meth c Z own bytes ml ret nm T h locs cells slots) {cd : ClassFile.Cond} {x y : Int32} {o : Int} {pcY pcN : Nat} (hd : decode bytes pc = .ok (.if_icmp cd o, 3)) (ho : 0 ≤ (pc : Int) + o) (hp : ((pc : Int) + o).toNat = pcY) (hn : pc + 3 = pcN)
    (hY : if_icmp.holds cd x y = true → Go p e below FF (T.setTop (mkF m pcY Ls St))) (hN : if_icmp.holds cd x y = false → Go p e below FF (T.setTop (mkF m pcN Ls St))) : Go p e below FF (T.setTop (mkF m pc Ls (.int y :: .int x :: St))) := by
  subst hn
  cases hc : if_icmp.holds cd x y
  · exact Go.via (fun _ => XS.icmpNo P.here P.x rfl (hb P.bt hd) rfl hc) (hN hc)
  · exact Go.via (fun _ => XS.icmpYes P.here P.x rfl (pc0 := pc) rfl (hb P.bt hd) rfl hc ho hp) (hY hc)
theorem G.if0 (P : Pos p l e R s m args below meth c Z own bytes ml ret nm T h locs cells slots) {cd : ClassFile.Cond} {x : Int32} {o : Int} {pcY pcN : Nat} (hd : decode bytes pc = .ok (.ifCond cd o, 3)) (ho : 0 ≤ (pc : Int) + o) (hp : ((pc : Int) + o).toNat = pcY) (hn : pc + 3 = pcN)
    (hY : if_icmp.holds cd x 0 = true → Go p e below FF (T.setTop (mkF m pcY Ls St))) (hN : if_icmp.holds cd x 0 = false → Go p e below FF (T.setTop (mkF m pcN Ls St))) : Go p e below FF (T.setTop (mkF m pc Ls (.int x :: St))) := by
  subst hn
  cases hc : if_icmp.holds cd x 0
  · exact Go.via (fun _ => XS.ifNo P.here P.x rfl (hb P.bt hd) rfl ((Jvm.RoadKit.if0 _ _).trans hc)) (hN hc)
  · exact Go.via (fun _ => XS.ifYes P.here P.x rfl (pc0 := pc) rfl (hb P.bt hd) rfl ((Jvm.RoadKit.if0 _ _).trans hc) ho hp) (hY hc)
theorem h_eq {x y : Int32} : (if_icmp.holds .eq x y = true → x = y) ∧ (if_icmp.holds .eq x y = false → ¬ x = y) := ⟨fun h => Classical.byContradiction fun q => (by rw [(feq q).1] at h; cases h), fun h q => (by rw [(teq q).1] at h; cases h)⟩
theorem h_ne {x y : Int32} : (if_icmp.holds .ne x y = true → ¬ x = y) ∧ (if_icmp.holds .ne x y = false → x = y) := ⟨fun h q => (by rw [(teq q).2] at h; cases h), fun h => Classical.byContradiction fun q => (by rw [(feq q).2] at h; cases h)⟩
theorem h_lt {x y : Int32} : (if_icmp.holds .lt x y = true → x < y) ∧ (if_icmp.holds .lt x y = false → ¬ x < y) := ⟨fun h => Classical.byContradiction fun q => (by rw [(flt q).1] at h; cases h), fun h q => (by rw [(tlt q).1] at h; cases h)⟩
theorem h_ge {x y : Int32} : (if_icmp.holds .ge x y = true → ¬ x < y) ∧ (if_icmp.holds .ge x y = false → x < y) := ⟨fun h q => (by rw [(tlt q).2.1] at h; cases h), fun h => Classical.byContradiction fun q => (by rw [(flt q).2.1] at h; cases h)⟩
theorem h_gt {x y : Int32} : (if_icmp.holds .gt x y = true → y < x) ∧ (if_icmp.holds .gt x y = false → ¬ y < x) := ⟨fun h => Classical.byContradiction fun q => (by rw [(flt q).2.2.1] at h; cases h), fun h q => (by rw [(tlt q).2.2.1] at h; cases h)⟩
theorem h_le {x y : Int32} : (if_icmp.holds .le x y = true → ¬ y < x) ∧ (if_icmp.holds .le x y = false → y < x) := ⟨fun h q => (by rw [(tlt q).2.2.2] at h; cases h), fun h => Classical.byContradiction fun q => (by rw [(flt q).2.2.2] at h; cases h)⟩
theorem G.icmp_eq (P : Pos p l e R s m args below meth c Z own bytes ml ret nm T h locs cells slots) {x y : Int32} {o : Int} {pcY pcN : Nat} (hd : decode bytes pc = .ok (.if_icmp .eq o, 3)) (ho : 0 ≤ (pc : Int) + o) (hp : ((pc : Int) + o).toNat = pcY) (hn : pc + 3 = pcN) (hY : x = y → Go p e below FF (T.setTop (mkF m pcY Ls St))) (hN : ¬ x = y → Go p e below FF (T.setTop (mkF m pcN Ls St))) : Go p e below FF (T.setTop (mkF m pc Ls (.int y :: .int x :: St))) :=
  G.icmp P hd ho hp hn (fun q => hY (h_eq.1 q)) (fun q => hN (h_eq.2 q))
theorem G.if_eq (P : Pos p l e R s m args below meth c Z own bytes ml ret nm T h locs cells slots) {x : Int32} {o : Int} {pcY pcN : Nat} (hd : decode bytes pc = .ok (.ifCond .eq o, 3)) (ho : 0 ≤ (pc : Int) + o) (hp : ((pc : Int) + o).toNat = pcY) (hn : pc + 3 = pcN) (hY : x = 0 → Go p e below FF (T.setTop (mkF m pcY Ls St))) (hN : ¬ x = 0 → Go p e below FF (T.setTop (mkF m pcN Ls St))) : Go p e below FF (T.setTop (mkF m pc Ls (.int x :: St))) :=
  G.if0 P hd ho hp hn (fun q => hY (h_eq.1 q)) (fun q => hN (h_eq.2 q))
theorem G.icmp_ne (P : Pos p l e R s m args below meth c Z own bytes ml ret nm T h locs cells slots) {x y : Int32} {o : Int} {pcY pcN : Nat} (hd : decode bytes pc = .ok (.if_icmp .ne o, 3)) (ho : 0 ≤ (pc : Int) + o) (hp : ((pc : Int) + o).toNat = pcY) (hn : pc + 3 = pcN) (hY : ¬ x = y → Go p e below FF (T.setTop (mkF m pcY Ls St))) (hN : x = y → Go p e below FF (T.setTop (mkF m pcN Ls St))) : Go p e below FF (T.setTop (mkF m pc Ls (.int y :: .int x :: St))) :=
  G.icmp P hd ho hp hn (fun q => hY (h_ne.1 q)) (fun q => hN (h_ne.2 q))
theorem G.if_ne (P : Pos p l e R s m args below meth c Z own bytes ml ret nm T h locs cells slots) {x : Int32} {o : Int} {pcY pcN : Nat} (hd : decode bytes pc = .ok (.ifCond .ne o, 3)) (ho : 0 ≤ (pc : Int) + o) (hp : ((pc : Int) + o).toNat = pcY) (hn : pc + 3 = pcN) (hY : ¬ x = 0 → Go p e below FF (T.setTop (mkF m pcY Ls St))) (hN : x = 0 → Go p e below FF (T.setTop (mkF m pcN Ls St))) : Go p e below FF (T.setTop (mkF m pc Ls (.int x :: St))) :=
  G.if0 P hd ho hp hn (fun q => hY (h_ne.1 q)) (fun q => hN (h_ne.2 q))
theorem G.icmp_lt (P : Pos p l e R s m args below meth c Z own bytes ml ret nm T h locs cells slots) {x y : Int32} {o : Int} {pcY pcN : Nat} (hd : decode bytes pc = .ok (.if_icmp .lt o, 3)) (ho : 0 ≤ (pc : Int) + o) (hp : ((pc : Int) + o).toNat = pcY) (hn : pc + 3 = pcN) (hY : x < y → Go p e below FF (T.setTop (mkF m pcY Ls St))) (hN : ¬ x < y → Go p e below FF (T.setTop (mkF m pcN Ls St))) : Go p e below FF (T.setTop (mkF m pc Ls (.int y :: .int x :: St))) :=
  G.icmp P hd ho hp hn (fun q => hY (h_lt.1 q)) (fun q => hN (h_lt.2 q))
theorem G.if_lt (P : Pos p l e R s m args below meth c Z own bytes ml ret nm T h locs cells slots) {x : Int32} {o : Int} {pcY pcN : Nat} (hd : decode bytes pc = .ok (.ifCond .lt o, 3)) (ho : 0 ≤ (pc : Int) + o) (hp : ((pc : Int) + o).toNat = pcY) (hn : pc + 3 = pcN) (hY : x < 0 → Go p e below FF (T.setTop (mkF m pcY Ls St))) (hN : ¬ x < 0 → Go p e below FF (T.setTop (mkF m pcN Ls St))) : Go p e below FF (T.setTop (mkF m pc Ls (.int x :: St))) :=
  G.if0 P hd ho hp hn (fun q => hY (h_lt.1 q)) (fun q => hN (h_lt.2 q))
theorem G.icmp_ge (P : Pos p l e R s m args below meth c Z own bytes ml ret nm T h locs cells slots) {x y : Int32} {o : Int} {pcY pcN : Nat} (hd : decode bytes pc = .ok (.if_icmp .ge o, 3)) (ho : 0 ≤ (pc : Int) + o) (hp : ((pc : Int) + o).toNat = pcY) (hn : pc + 3 = pcN) (hY : ¬ x < y → Go p e below FF (T.setTop (mkF m pcY Ls St))) (hN : x < y → Go p e below FF (T.setTop (mkF m pcN Ls St))) : Go p e below FF (T.setTop (mkF m pc Ls (.int y :: .int x :: St))) :=
  G.icmp P hd ho hp hn (fun q => hY (h_ge.1 q)) (fun q => hN (h_ge.2 q))
theorem G.if_ge (P : Pos p l e R s m args below meth c Z own bytes ml ret nm T h locs cells slots) {x : Int32} {o : Int} {pcY pcN : Nat} (hd : decode bytes pc = .ok (.ifCond .ge o, 3)) (ho : 0 ≤ (pc : Int) + o) (hp : ((pc : Int) + o).toNat = pcY) (hn : pc + 3 = pcN) (hY : ¬ x < 0 → Go p e below FF (T.setTop (mkF m pcY Ls St))) (hN : x < 0 → Go p e below FF (T.setTop (mkF m pcN Ls St))) : Go p e below FF (T.setTop (mkF m pc Ls (.int x :: St))) :=
  G.if0 P hd ho hp hn (fun q => hY (h_ge.1 q)) (fun q => hN (h_ge.2 q))
theorem G.icmp_gt (P : Pos p l e R s m args below meth c Z own bytes ml ret nm T h locs cells slots) {x y : Int32} {o : Int} {pcY pcN : Nat} (hd : decode bytes pc = .ok (.if_icmp .gt o, 3)) (ho : 0 ≤ (pc : Int) + o) (hp : ((pc : Int) + o).toNat = pcY) (hn : pc + 3 = pcN) (hY : y < x → Go p e below FF (T.setTop (mkF m pcY Ls St))) (hN : ¬ y < x → Go p e below FF (T.setTop (mkF m pcN Ls St))) : Go p e below FF (T.setTop (mkF m pc Ls (.int y :: .int x :: St))) :=
  G.icmp P hd ho hp hn (fun q => hY (h_gt.1 q)) (fun q => hN (h_gt.2 q))
theorem G.if_gt (P : Pos p l e R s m args below meth c Z own bytes ml ret nm T h locs cells slots) {x : Int32} {o : Int} {pcY pcN : Nat} (hd : decode bytes pc = .ok (.ifCond .gt o, 3)) (ho : 0 ≤ (pc : Int) + o) (hp : ((pc : Int) + o).toNat = pcY) (hn : pc + 3 = pcN) (hY : 0 < x → Go p e below FF (T.setTop (mkF m pcY Ls St))) (hN : ¬ 0 < x → Go p e below FF (T.setTop (mkF m pcN Ls St))) : Go p e below FF (T.setTop (mkF m pc Ls (.int x :: St))) :=
  G.if0 P hd ho hp hn (fun q => hY (h_gt.1 q)) (fun q => hN (h_gt.2 q))
theorem G.icmp_le (P : Pos p l e R s m args below meth c Z own bytes ml ret nm T h locs cells slots) {x y : Int32} {o : Int} {pcY pcN : Nat} (hd : decode bytes pc = .ok (.if_icmp .le o, 3)) (ho : 0 ≤ (pc : Int) + o) (hp : ((pc : Int) + o).toNat = pcY) (hn : pc + 3 = pcN) (hY : ¬ y < x → Go p e below FF (T.setTop (mkF m pcY Ls St))) (hN : y < x → Go p e below FF (T.setTop (mkF m pcN Ls St))) : Go p e below FF (T.setTop (mkF m pc Ls (.int y :: .int x :: St))) :=
  G.icmp P hd ho hp hn (fun q => hY (h_le.1 q)) (fun q => hN (h_le.2 q))
theorem G.if_le (P : Pos p l e R s m args below meth c Z own bytes ml ret nm T h locs cells slots) {x : Int32} {o : Int} {pcY pcN : Nat} (hd : decode bytes pc = .ok (.ifCond .le o, 3)) (ho : 0 ≤ (pc : Int) + o) (hp : ((pc : Int) + o).toNat = pcY) (hn : pc + 3 = pcN) (hY : ¬ 0 < x → Go p e below FF (T.setTop (mkF m pcY Ls St))) (hN : 0 < x → Go p e below FF (T.setTop (mkF m pcN Ls St))) : Go p e below FF (T.setTop (mkF m pc Ls (.int x :: St))) :=
  G.if0 P hd ho hp hn (fun q => hY (h_le.1 q)) (fun q => hN (h_le.2 q))
theorem G.acmp_eq (P : Pos p l e R s m args below meth c Z own bytes ml ret nm T h locs cells slots) {a b : Addr} {o : Int} {pcY pcN : Nat} (hd : decode bytes pc = .ok (.if_acmp .eq o, 3)) (ho : 0 ≤ (pc : Int) + o) (hp : ((pc : Int) + o).toNat = pcY) (hn : pc + 3 = pcN)
    (hY : a = b → Go p e below FF (T.setTop (mkF m pcY Ls St))) (hN : ¬ a = b → Go p e below FF (T.setTop (mkF m pcN Ls St))) : Go p e below FF (T.setTop (mkF m pc Ls (.ref b :: .ref a :: St))) := by
  subst hn
  by_cases hc : a = b
  · refine Go.via (fun _ => XS.acmpYes P.here P.x rfl (pc0 := pc) rfl (hb P.bt hd) rfl ?_ ho hp) (hY hc)
    simp [if_acmp.holds, hc]
  · refine Go.via (fun _ => XS.acmpNo P.here P.x rfl (hb P.bt hd) rfl ?_) (hN hc)
    simp [if_acmp.holds, hc]
theorem G.acmp_ne (P : Pos p l e R s m args below meth c Z own bytes ml ret nm T h locs cells slots) {a b : Addr} {o : Int} {pcY pcN : Nat} (hd : decode bytes pc = .ok (.if_acmp .ne o, 3)) (ho : 0 ≤ (pc : Int) + o) (hp : ((pc : Int) + o).toNat = pcY) (hn : pc + 3 = pcN)
    (hY : ¬ a = b → Go p e below FF (T.setTop (mkF m pcY Ls St))) (hN : a = b → Go p e below FF (T.setTop (mkF m pcN Ls St))) : Go p e below FF (T.setTop (mkF m pc Ls (.ref b :: .ref a :: St))) := by
  subst hn
  by_cases hc : a = b
  · refine Go.via (fun _ => XS.acmpNo P.here P.x rfl (hb P.bt hd) rfl ?_) (hN hc)
    simp [if_acmp.holds, hc]
  · refine Go.via (fun _ => XS.acmpYes P.here P.x rfl (pc0 := pc) rfl (hb P.bt hd) rfl ?_ ho hp) (hY hc)
    simp [if_acmp.holds, hc]
theorem G.acmpNe (P : Pos p l e R s m args below meth c Z own bytes ml ret nm T h locs cells slots) {cd : ACond} {x y : Value} (h1 : x.isRef = true) (h2 : y.isRef = true) (hq : ¬ x = y) {o : Int} {pcT : Nat} (hd : decode bytes pc = .ok (.if_acmp cd o, 3)) (ho : 0 ≤ (pc : Int) + o) (hp : pcT = if acV cd false = true then ((pc : Int) + o).toNat else pc + 3)
    (kk : Go p e below FF (T.setTop (mkF m pcT Ls St))) : Go p e below FF (T.setTop (mkF m pc Ls (y :: x :: St))) :=
  Go.via (fun _ => Jvm.RoadKit.acmp (g := mkF m pc Ls (y :: x :: St)) P.st P.x rfl h1 h2 (pc0 := pc) rfl (hb P.bt hd) rfl (decide_eq_false hq) ho hp) kk
theorem G.acmpEq (P : Pos p l e R s m args below meth c Z own bytes ml ret nm T h locs cells slots) {cd : ACond} {x y : Value} (h1 : x.isRef = true) (h2 : y.isRef = true) (hq : x = y) {o : Int} {pcT : Nat} (hd : decode bytes pc = .ok (.if_acmp cd o, 3)) (ho : 0 ≤ (pc : Int) + o) (hp : pcT = if acV cd true = true then ((pc : Int) + o).toNat else pc + 3)
    (kk : Go p e below FF (T.setTop (mkF m pcT Ls St))) : Go p e below FF (T.setTop (mkF m pc Ls (y :: x :: St))) :=
  Go.via (fun _ => Jvm.RoadKit.acmp (g := mkF m pc Ls (y :: x :: St)) P.st P.x rfl h1 h2 (pc0 := pc) rfl (hb P.bt hd) rfl (decide_eq_true hq) ho hp) kk
theorem G.ifnullY (P : Pos p l e R s m args below meth c Z own bytes ml ret nm T h locs cells slots) {o : Int} (hd : decode bytes pc = .ok (.ifnull o, 3)) (ho : 0 ≤ (pc : Int) + o) (hp : ((pc : Int) + o).toNat = pc') (kk : Go p e below FF (T.setTop (mkF m pc' Ls St))) : Go p e below FF (T.setTop (mkF m pc Ls (.null :: St))) :=
  Go.via (fun _ => XS.ifnullYes P.here P.x rfl (pc0 := pc) rfl (hb P.bt hd) rfl ho hp) kk
theorem G.ifnullN (P : Pos p l e R s m args below meth c Z own bytes ml ret nm T h locs cells slots) {o : Int} {b : Addr} (hd : decode bytes pc = .ok (.ifnull o, 3)) (hp : pc + 3 = pc') (kk : Go p e below FF (T.setTop (mkF m pc' Ls St))) : Go p e below FF (T.setTop (mkF m pc Ls (.ref b :: St))) := by
  subst hp; exact Go.via (fun _ => XS.ifnullNo P.here P.x rfl (hb P.bt hd) rfl) kk
theorem G.ifnonnullY (P : Pos p l e R s m args below meth c Z own bytes ml ret nm T h locs cells slots) {o : Int} {b : Addr} (hd : decode bytes pc = .ok (.ifnonnull o, 3)) (ho : 0 ≤ (pc : Int) + o) (hp : ((pc : Int) + o).toNat = pc') (kk : Go p e below FF (T.setTop (mkF m pc' Ls St))) : Go p e below FF (T.setTop (mkF m pc Ls (.ref b :: St))) :=
  Go.via (fun _ => XS.ifnonnullYes P.here P.x rfl (pc0 := pc) rfl (hb P.bt hd) rfl ho hp) kk
theorem G.ifnonnullN (P : Pos p l e R s m args below meth c Z own bytes ml ret nm T h locs cells slots) {o : Int} (hd : decode bytes pc = .ok (.ifnonnull o, 3)) (hp : pc + 3 = pc') (kk : Go p e below FF (T.setTop (mkF m pc' Ls St))) : Go p e below FF (T.setTop (mkF m pc Ls (.null :: St))) := by
  subst hp; exact Go.via (fun _ => XS.ifnonnullNo P.here P.x rfl (hb P.bt hd) rfl) kk
/-! ### the heap -/
theorem G.getF (P : Pos p l e R s m args below meth c Z own bytes ml ret nm T h locs cells slots) {R0 O n d host : String} {i : Nat} (w : (Jvm.Cond.fieldLink own i R0 n d).before a0 Z = true ∨ (Jvm.Cond.fieldLinkNest own i R0 n d host).before a0 Z = true) (via : Via Z R0 O n d) {a : Addr} {v : Value} (F : Fld Z h a O n d v) (hd : decode bytes pc = .ok (.getfield i, 3)) (hp : pc + 3 = pc')
    (kk : ∀ T', Pos p l e R s m args below meth c Z own bytes ml ret nm T' h locs cells slots → Go p e below FF (T'.setTop (mkF m pc' Ls (v :: St)))) : Go p e below FF (T.setTop (mkF m pc Ls (.ref a :: St))) := by
  subst hp
  obtain ⟨T', X', e', st⟩ := Jvm.RoadKit.getF P.st P.x P.z P.ow w via P.eh F (g := mkF m pc Ls (.ref a :: St)) rfl rfl (hb P.bt hd)
  exact Go.via st (kk T' ⟨P.1, X', e'⟩)
theorem G.putF (P : Pos p l e R s m args below meth c Z own bytes ml ret nm T h locs cells slots) {R0 O n d host C : String} {i kn : Nat} {ty : FieldType} (w : (Jvm.Cond.fieldLink own i R0 n d).before a0 Z = true ∨ (Jvm.Cond.fieldLinkNest own i R0 n d host).before a0 Z = true) (via : Via Z R0 O n d) {a : Addr} {v old : Value} (F : Fld Z h a O n d old) (E : Exa Z h a C)
    (L : (Jvm.Cond.lays C O n d).before a0 Z = true ∨ ((Jvm.Cond.laysFinal C O n d).before a0 Z = true ∧ own = O ∧ nm = "<init>")) (wi : (Jvm.Cond.instantiable C kn).before a0 Z = true) (hty : parseFieldDescriptor d = some ty) (hn : narrow ty v = v) (hf : fits ty v = true) (hd : decode bytes pc = .ok (.putfield i, 3)) (hp : pc + 3 = pc')
    (kk : ∀ T' h', Pos p l e R s m args below meth c Z own bytes ml ret nm T' h' (locs ++ [⟨a, Jvm.RoadKit.slotOf Z O n d⟩]) cells slots → Wr h h' a (Jvm.RoadKit.slotOf Z O n d) v → Go p e below FF (T'.setTop (mkF m pc' Ls St))) : Go p e below FF (T.setTop (mkF m pc Ls (v :: .ref a :: St))) := by
  subst hp
  obtain ⟨T', h', X', e', W, st⟩ := Jvm.RoadKit.putF P.st P.x P.z P.ow w via P.eh F E (L.imp id fun q => ⟨q.1, q.2.1, P.mn.trans q.2.2⟩) wi hty hn hf (g := mkF m pc Ls (v :: .ref a :: St)) rfl rfl (hb P.bt hd)
  exact Go.via st (kk T' h' ⟨P.1, X', e'⟩ W)
theorem G.putFN (P : Pos p l e R s m args below meth c Z own bytes ml ret nm T h locs cells slots) {R0 O n d C : String} {i kn : Nat} {ty : FieldType} (w : (Jvm.Cond.fieldLink own i R0 n d).before a0 Z = true) (via : Via Z R0 O n d) {a : Addr} {v v' old : Value} (F : Fld Z h a O n d old) (E : Exa Z h a C)
    (L : (Jvm.Cond.lays C O n d).before a0 Z = true ∨ ((Jvm.Cond.laysFinal C O n d).before a0 Z = true ∧ own = O ∧ nm = "<init>")) (wi : (Jvm.Cond.instantiable C kn).before a0 Z = true) (hty : parseFieldDescriptor d = some ty) (hn : narrow ty v = v') (hf : fits ty v' = true) (hd : decode bytes pc = .ok (.putfield i, 3)) (hp : pc + 3 = pc')
    (kk : ∀ T' h', Pos p l e R s m args below meth c Z own bytes ml ret nm T' h' (locs ++ [⟨a, Jvm.RoadKit.slotOf Z O n d⟩]) cells slots → Wr h h' a (Jvm.RoadKit.slotOf Z O n d) v' → Go p e below FF (T'.setTop (mkF m pc' Ls St))) : Go p e below FF (T.setTop (mkF m pc Ls (v :: .ref a :: St))) := by
  subst hp
  obtain ⟨T', h', X', e', W, st⟩ := Jvm.RoadKit.putFN P.st P.x P.z P.ow w via P.eh F E (L.imp id fun q => ⟨q.1, q.2.1, P.mn.trans q.2.2⟩) wi hty hn hf (g := mkF m pc Ls (v :: .ref a :: St)) rfl rfl (hb P.bt hd)
  exact Go.via st (kk T' h' ⟨P.1, X', e'⟩ W)
theorem G.getS (P : Pos p l e R s m args below meth c Z own bytes ml ret nm T h locs cells slots) {R0 O n d host : String} {i : Nat} (w : (Jvm.Cond.fieldLink own i R0 n d).before a0 Z = true ∨ (Jvm.Cond.fieldLinkNest own i R0 n d host).before a0 Z = true) (via : Via Z R0 O n d) {v : Value} (F : Sta Z h O n d v) (hd : decode bytes pc = .ok (.getstatic i, 3)) (hp : pc + 3 = pc')
    (kk : ∀ T', Pos p l e R s m args below meth c Z own bytes ml ret nm T' h locs cells slots → Go p e below FF (T'.setTop (mkF m pc' Ls (v :: St)))) : Go p e below FF (T.setTop (mkF m pc Ls St)) := by
  subst hp
  obtain ⟨T', X', e', st⟩ := getS2 P.st P.x P.z P.ow w via P.eh F (g := mkF m pc Ls St) rfl (hb P.bt hd)
  exact Go.via st (kk T' ⟨P.1, X', e'⟩)
theorem G.newO (P : Pos p l e R s m args below meth c Z own bytes ml ret nm T h locs cells slots) {C : String} {i n : Nat} (w : (Jvm.Cond.classLink own i C).before a0 Z = true) (wi : (Jvm.Cond.instantiable C n).before a0 Z = true) (wz : (Jvm.Cond.initialized C).before a0 Z = true) (hd : decode bytes pc = .ok (.new i, 3)) (hro : cells + 1 ≤ R.cells ∧ slots + n ≤ R.slots) (hp : pc + 3 = pc')
    (kk : ∀ T' h' a, a = h.size → Pos p l e R s m args below meth c Z own bytes ml ret nm T' h' locs (cells + 1) (slots + n) → Ext h h' → Exa Z h' a C → (∀ {O fn d : String} {ty : FieldType}, Laid Z a0 C O fn d → parseFieldDescriptor d = some ty → Fld Z h' a O fn d (defaultValue ty)) → Go p e below FF (T'.setTop (mkF m pc' Ls (.ref a :: St)))) : Go p e below FF (T.setTop (mkF m pc Ls St)) := by
  subst hp
  obtain ⟨T', h', X', e', E, A, D, -, st⟩ := Jvm.RoadKit.newO P.st P.x P.z P.ow w wi wz P.eh (g := mkF m pc Ls St) rfl (hb P.bt hd) hro.1 hro.2
  exact Go.via st (kk T' h' h.size rfl ⟨P.1, X', e'⟩ E A D)
theorem G.newP (P : Pos p l e R s m args below meth c Z own bytes ml ret nm T h locs cells slots) {aty : ArrayType} (w : (Jvm.Cond.arrayClass (newarray.typeOf aty)).before a0 Z = true) {n : Int32} (hn : ¬ n < 0) {cap : Nat} (hcap : n.toNatClampNeg ≤ cap) (hbb : cap * 8 ≤ 536870912) (hro : cells + 1 ≤ R.cells ∧ slots + cap ≤ R.slots) (hd : decode bytes pc = .ok (.newarray aty, 2)) (hp : pc + 2 = pc')
    (kk : ∀ T' h' a k, a = h.size → Pos p l e R s m args below meth c Z own bytes ml ret nm T' h' locs (cells + 1) (slots + cap) → Ext h h' → Arv Z h' a k (newarray.typeOf aty) n [] (defaultValue (newarray.typeOf aty)) → Go p e below FF (T'.setTop (mkF m pc' Ls (.ref a :: St)))) : Go p e below FF (T.setTop (mkF m pc Ls (.int n :: St))) := by
  subst hp
  obtain ⟨T', h', k, X', e', E, A, st⟩ := Jvm.RoadKit.newP P.st P.x P.z w P.eh (g := mkF m pc Ls (.int n :: St)) rfl (hb P.bt hd) rfl hn hcap hbb hro.1 hro.2
  exact Go.via st (kk T' h' h.size k rfl ⟨P.1, X', e'⟩ E (Arv.new A hn))
theorem G.alen (P : Pos p l e R s m args below meth c Z own bytes ml ret nm T h locs cells slots) {a : Addr} {k : ClassId} {ty : FieldType} {z : Int32} {vs : List Value} {dv : Value} (V : Arv Z h a k ty z vs dv) (hd : decode bytes pc = .ok (.arraylength, 1)) (hp : pc + 1 = pc')
    (kk : Go p e below FF (T.setTop (mkF m pc' Ls (.int z :: St)))) : Go p e below FF (T.setTop (mkF m pc Ls (.ref a :: St))) := by
  subst hp
  obtain ⟨cl, A, -, S, N, -⟩ := V
  refine Go.via (fun t => P.st.arraylength P.x (cell := cl) (by rw [P.eh]; exact A.1) (State.isArrayOf_alike P.z.alike A.2.1) (g := mkF m pc Ls (.ref a :: St)) rfl rfl (hb P.bt hd) t) ?_
  rw [len_of S N]; exact kk
theorem G.stI (P : Pos p l e R s m args below meth c Z own bytes ml ret nm T h locs cells slots) {a : Addr} {k : ClassId} {z : Int32} {vs : List Value} {dv : Value} (V : Arv Z h a k .int z vs dv) {j x : Int32} (i : Nat) (hi : j.toNatClampNeg = i) (hin : ¬ j < 0 ∧ j < z) (hl : i < vs.length) (hd : decode bytes pc = .ok (.iastore, 1)) (hp : pc + 1 = pc')
    (kk : ∀ T' h', Pos p l e R s m args below meth c Z own bytes ml ret nm T' h' (locs ++ [⟨a, i⟩]) cells slots → Wr h h' a i (.int x) → Arv Z h' a k .int z (vs.set i (.int x)) dv → Go p e below FF (T'.setTop (mkF m pc' Ls St))) : Go p e below FF (T.setTop (mkF m pc Ls (.int x :: .int j :: .ref a :: St))) := by
  subst hp hi
  obtain ⟨cl, A, q1, S, N, H, Gf⟩ := V
  obtain ⟨T', h', X', e', W, st⟩ := Jvm.RoadKit.stI P.st P.x P.z P.eh A (inb_of S hin) (g := mkF m pc Ls (.int x :: .int j :: .ref a :: St)) rfl rfl (hb P.bt hd)
  exact Go.via st (kk T' h' ⟨P.1, X', e'⟩ W (Arv.set A q1 S N H Gf rfl W _ rfl hl))
theorem G.stB (P : Pos p l e R s m args below meth c Z own bytes ml ret nm T h locs cells slots) {a : Addr} {k : ClassId} {z : Int32} {vs : List Value} {dv : Value} (V : Arv Z h a k .byte z vs dv) {j x : Int32} (i : Nat) (hi : j.toNatClampNeg = i) (hin : ¬ j < 0 ∧ j < z) (hl : i < vs.length) (hd : decode bytes pc = .ok (.bastore, 1)) (hp : pc + 1 = pc')
    (kk : ∀ T' h', Pos p l e R s m args below meth c Z own bytes ml ret nm T' h' (locs ++ [⟨a, i⟩]) cells slots → Wr h h' a i (.int (nar .byte x)) → Arv Z h' a k .byte z (vs.set i (.int (nar .byte x))) dv → Go p e below FF (T'.setTop (mkF m pc' Ls St))) : Go p e below FF (T.setTop (mkF m pc Ls (.int x :: .int j :: .ref a :: St))) := by
  subst hp hi
  obtain ⟨cl, A, q1, S, N, H, Gf⟩ := V
  obtain ⟨T', h', X', e', W, st⟩ := Jvm.RoadKit.stB P.st P.x P.z P.eh A (inb_of S hin) (g := mkF m pc Ls (.int x :: .int j :: .ref a :: St)) rfl rfl (hb P.bt hd)
  exact Go.via st (kk T' h' ⟨P.1, X', e'⟩ W (Arv.set A q1 S N H Gf (fits_nar_byte _) W _ rfl hl))
theorem G.stZ (P : Pos p l e R s m args below meth c Z own bytes ml ret nm T h locs cells slots) {a : Addr} {k : ClassId} {z : Int32} {vs : List Value} {dv : Value} (V : Arv Z h a k .boolean z vs dv) {j x : Int32} (i : Nat) (hi : j.toNatClampNeg = i) (hin : ¬ j < 0 ∧ j < z) (hl : i < vs.length) (hd : decode bytes pc = .ok (.bastore, 1)) (hp : pc + 1 = pc')
    (kk : ∀ T' h', Pos p l e R s m args below meth c Z own bytes ml ret nm T' h' (locs ++ [⟨a, i⟩]) cells slots → Wr h h' a i (.int (nar .boolean x)) → Arv Z h' a k .boolean z (vs.set i (.int (nar .boolean x))) dv → Go p e below FF (T'.setTop (mkF m pc' Ls St))) : Go p e below FF (T.setTop (mkF m pc Ls (.int x :: .int j :: .ref a :: St))) := by
  subst hp hi
  obtain ⟨cl, A, q1, S, N, H, Gf⟩ := V
  obtain ⟨T', h', X', e', W, st⟩ := Jvm.RoadKit.stZ P.st P.x P.z P.eh A (inb_of S hin) (g := mkF m pc Ls (.int x :: .int j :: .ref a :: St)) rfl rfl (hb P.bt hd)
  exact Go.via st (kk T' h' ⟨P.1, X', e'⟩ W (Arv.set A q1 S N H Gf (fits_nar_bool _) W _ rfl hl))
theorem G.stC (P : Pos p l e R s m args below meth c Z own bytes ml ret nm T h locs cells slots) {a : Addr} {k : ClassId} {z : Int32} {vs : List Value} {dv : Value} (V : Arv Z h a k .char z vs dv) {j x : Int32} (i : Nat) (hi : j.toNatClampNeg = i) (hin : ¬ j < 0 ∧ j < z) (hl : i < vs.length) (hd : decode bytes pc = .ok (.castore, 1)) (hp : pc + 1 = pc')
    (kk : ∀ T' h', Pos p l e R s m args below meth c Z own bytes ml ret nm T' h' (locs ++ [⟨a, i⟩]) cells slots → Wr h h' a i (.int (nar .char x)) → Arv Z h' a k .char z (vs.set i (.int (nar .char x))) dv → Go p e below FF (T'.setTop (mkF m pc' Ls St))) : Go p e below FF (T.setTop (mkF m pc Ls (.int x :: .int j :: .ref a :: St))) := by
  subst hp hi
  obtain ⟨cl, A, q1, S, N, H, Gf⟩ := V
  obtain ⟨T', h', X', e', W, st⟩ := Jvm.RoadKit.stC P.st P.x P.z P.eh A (inb_of S hin) (g := mkF m pc Ls (.int x :: .int j :: .ref a :: St)) rfl rfl (hb P.bt hd)
  exact Go.via st (kk T' h' ⟨P.1, X', e'⟩ W (Arv.set A q1 S N H Gf (fits_nar_char _) W _ rfl hl))
theorem G.iaload (P : Pos p l e R s m args below meth c Z own bytes ml ret nm T h locs cells slots) {a : Addr} {k : ClassId} {z : Int32} {vs : List Value} {dv : Value} (V : Arv Z h a k .int z vs dv) {j : Int32} {v : Value} (hin : ¬ j < 0 ∧ j < z) (hv : vs.getD j.toNatClampNeg dv = v) (hd : decode bytes pc = .ok (.iaload, 1)) (hp : pc + 1 = pc')
    (kk : Go p e below FF (T.setTop (mkF m pc' Ls (v :: St)))) : Go p e below FF (T.setTop (mkF m pc Ls (.int j :: .ref a :: St))) := by
  subst hp
  obtain ⟨cl, A, q1, S, N, H, Gf⟩ := V
  have hb' := inb_of S hin
  exact Go.via (fun t => P.st.iaload P.x (by rw [P.eh]; exact A.1) (State.isArrayOf_alike P.z.alike A.2.1) A.2.2 hb' (Has.at H hb' hv) (g := mkF m pc Ls (.int j :: .ref a :: St)) rfl rfl (hb P.bt hd) t) kk
theorem G.baloadB (P : Pos p l e R s m args below meth c Z own bytes ml ret nm T h locs cells slots) {a : Addr} {k : ClassId} {z : Int32} {vs : List Value} {dv : Value} (V : Arv Z h a k .byte z vs dv) {j : Int32} {v : Value} (hin : ¬ j < 0 ∧ j < z) (hv : vs.getD j.toNatClampNeg dv = v) (hd : decode bytes pc = .ok (.baload, 1)) (hp : pc + 1 = pc')
    (kk : Go p e below FF (T.setTop (mkF m pc' Ls (v :: St)))) : Go p e below FF (T.setTop (mkF m pc Ls (.int j :: .ref a :: St))) := by
  subst hp
  obtain ⟨cl, A, q1, S, N, H, Gf⟩ := V
  have hb' := inb_of S hin
  exact Go.via (fun t => P.st.baloadBytes P.x (by rw [P.eh]; exact A.1) (State.isArrayOf_alike P.z.alike A.2.1) A.2.2 hb' (Has.at H hb' hv) (g := mkF m pc Ls (.int j :: .ref a :: St)) rfl rfl (hb P.bt hd) t) kk
theorem G.baloadZ (P : Pos p l e R s m args below meth c Z own bytes ml ret nm T h locs cells slots) {a : Addr} {k : ClassId} {z : Int32} {vs : List Value} {dv : Value} (V : Arv Z h a k .boolean z vs dv) {j : Int32} {v : Value} (hin : ¬ j < 0 ∧ j < z) (hv : vs.getD j.toNatClampNeg dv = v) (hd : decode bytes pc = .ok (.baload, 1)) (hp : pc + 1 = pc')
    (kk : Go p e below FF (T.setTop (mkF m pc' Ls (v :: St)))) : Go p e below FF (T.setTop (mkF m pc Ls (.int j :: .ref a :: St))) := by
  subst hp
  obtain ⟨cl, A, q1, S, N, H, Gf⟩ := V
  have hb' := inb_of S hin
  exact Go.via (fun t => P.st.baloadBooleans P.x (by rw [P.eh]; exact A.1) (State.isArrayOf_alike P.z.alike A.2.1) A.2.2 hb' (Has.at H hb' hv) (g := mkF m pc Ls (.int j :: .ref a :: St)) rfl rfl (hb P.bt hd) t) kk
theorem G.aaload (P : Pos p l e R s m args below meth c Z own bytes ml ret nm T h locs cells slots) {a : Addr} {k : ClassId} {ty : FieldType} {z : Int32} {vs : List Value} {dv : Value} (V : Arv Z h a k ty z vs dv) (hty : ty.isReference = true) {j : Int32} {v : Value} (hin : ¬ j < 0 ∧ j < z) (hv : vs.getD j.toNatClampNeg dv = v) (hd : decode bytes pc = .ok (.aaload, 1)) (hp : pc + 1 = pc')
    (kk : Go p e below FF (T.setTop (mkF m pc' Ls (v :: St)))) : Go p e below FF (T.setTop (mkF m pc Ls (.int j :: .ref a :: St))) := by
  subst hp
  obtain ⟨cl, A, q1, S, N, H, Gf⟩ := V
  have hb' := inb_of S hin
  exact Go.via (fun t => P.st.aaload P.x (by rw [P.eh]; exact A.1) (State.isArrayOf_alike P.z.alike A.2.1) hty A.2.2 hb' (Has.at H hb' hv) (g := mkF m pc Ls (.int j :: .ref a :: St)) rfl rfl (hb P.bt hd) t) kk
/-! ### returns -/
theorem Go.end_ {S0 : State} (P : Pos p l e R s m args below meth c Z own bytes ml ret nm T h locs cells slots) {v : Option Value} (hv : ret = none → v = none) (hc : cells ≤ cs) (hs : slots ≤ ss) (hq : Q v h locs)
    (st : ∀ fs, (∀ (f : JFrame) (acts : List Action), f.method = m → f.locked = none → f.entered = [] → (doReturn e (T.setTop f) acts v).1 = T.setFrames fs) → Steps p.tables e below S0 (T.setFrames fs)) : Go p e below (NF s cs ss Q) S0 := by
  have hlk := P.lk
  obtain ⟨fs, hr, hrun, hended, hW, hsame⟩ := P.st.leave (v := v) (fun q => hv (P.rt.symm.trans q)) hlk
  refine ⟨_, _, st fs hr, hrun, hended, _, rfl, _, ?_, ⟨_, rfl⟩, hW, hsame.mono hc hs⟩
  have q : (T.setFrames fs).heap = h := P.eh
  rw [q]; exact hq
theorem G.retI (P : Pos p l e R s m args below meth c Z own bytes ml (some .int) nm T h locs cells slots) {z : Int32} (hd : decode bytes pc = .ok (.ireturn, 1)) (hc : cells ≤ cs) (hs : slots ≤ ss) (hq : Q (some (.int z)) h locs) : Go p e below (NF s cs ss Q) (T.setTop (mkF m pc Ls (.int z :: St))) :=
  Go.end_ P (fun q => by cases q) hc hs hq (fun fs hr => Jvm.RoadKit.retI P.st P.x P.rt (hb P.bt hd) hr)
theorem G.retN (P : Pos p l e R s m args below meth c Z own bytes ml ret nm T h locs cells slots) {z : Int32} {t : FieldType} (ht : ret = some t) (ht2 : t = .boolean ∨ t = .byte ∨ t = .char ∨ t = .short) (hd : decode bytes pc = .ok (.ireturn, 1)) (hc : cells ≤ cs) (hs : slots ≤ ss) (hq : Q (some (.int (nar t z))) h locs) : Go p e below (NF s cs ss Q) (T.setTop (mkF m pc Ls (.int z :: St))) :=
  Go.end_ P (fun q => by rw [ht] at q; cases q) hc hs hq (fun fs hr => Jvm.RoadKit.retN P.st P.x (P.rt.trans ht) ht2 (hb P.bt hd) hr)
theorem G.retV (P : Pos p l e R s m args below meth c Z own bytes ml none nm T h locs cells slots) (hd : decode bytes pc = .ok (.return_, 1)) (hc : cells ≤ cs) (hs : slots ≤ ss) (hq : Q none h locs) : Go p e below (NF s cs ss Q) (T.setTop (mkF m pc Ls [])) :=
  Go.end_ P (fun _ => rfl) hc hs hq (fun fs hr => P.st.returnOut P.x P.rt (hb P.bt hd) hr)
theorem G.retA (P : Pos p l e R s m args below meth c Z own bytes ml ret nm T h locs cells slots) {w : Value} {t : FieldType} (ht : ret = some t) (ht2 : t.isReference = true) (hw : w.isRef = true) (hd : decode bytes pc = .ok (.areturn, 1)) (hc : cells ≤ cs) (hs : slots ≤ ss) (hq : Q (some w) h locs) : Go p e below (NF s cs ss Q) (T.setTop (mkF m pc Ls [w])) :=
  Go.end_ P (fun q => by rw [ht] at q; cases q) hc hs hq (fun fs hr => P.st.areturnOut P.x hw (P.rt.trans ht) ht2 (hb P.bt hd) hr)
theorem G.retJ (P : Pos p l e R s m args below meth c Z own bytes ml (some .long) nm T h locs cells slots) {w : Int64} (hd : decode bytes pc = .ok (.lreturn, 1)) (hc : cells ≤ cs) (hs : slots ≤ ss) (hq : Q (some (.long w)) h locs) : Go p e below (NF s cs ss Q) (T.setTop (mkF m pc Ls [.long w])) :=
  Go.end_ P (fun q => by cases q) hc hs hq (fun fs hr => P.st.lreturnOut P.x P.rt (hb P.bt hd) hr)
/-! ### calls -/
theorem Pos.re (P : Pos p l e R s m args below meth c Z own bytes ml ret nm T h locs cells slots) {T' : State} {h' : Heap} {locs' : List Loc} {cells' slots' : Nat} (X' : Stand p l e R s m args below meth c T' locs' cells' slots') (e' : T'.heap = h') : Pos p l e R s m args below meth c Z own bytes ml ret nm T' h' locs' cells' slots' := ⟨P.1, X', e'⟩
theorem G.callS (P : Pos p l e R s m args below meth c Z own bytes ml ret nm T h locs cells slots) {y : MethodName} {by' : ByteArray} {ml' : Nat} {ret' : Option FieldType} {i : Nat} {rm : Room} {as' : Array Value} {Qc : Option Value → Heap → List Loc → Prop} (hM : OMeets l Z y by' ml' ret' rm as' h Qc)
    (w1 : (Jvm.Cond.methodLink own i y).before a0 Z = true) (w2 : (Jvm.Cond.static y).before a0 Z = true) (w3 : (Jvm.Cond.initialized y.cls).before a0 Z = true) (w4 : (Jvm.Cond.code y by' ml' ret').before a0 Z = true)
    (hy : y.cls ≠ "java/lang/invoke/MethodHandle" ∧ y.cls ≠ "java/lang/invoke/VarHandle") {ps : List FieldType} {r : Option FieldType} (hds : parseMethodDescriptor y.desc = some ⟨ps, r⟩) {argsL rest : List Value} (hal : argsL.length = ps.length) (hst : argsL.reverse ++ rest = St) (has : argsL.toArray = as') (hsz : Ls.size = ml)
    {W : Nat} (hW : (rest.map fun v => v.category).sum ≤ W) (hro : rm.frames + 1 ≤ R.frames ∧ W + (ml' + 11) + rm.locals ≤ R.locals ∧ cells + rm.cells ≤ R.cells ∧ slots + rm.slots ≤ R.slots)
    (hd : decode bytes pc = .ok (.invokestatic i, 3)) (hp : pc + 3 = pc')
    (kk : ∀ T' L v, Pos p l e R s m args below meth c Z own bytes ml ret nm T' T'.heap (locs ++ L) (cells + rm.cells) (slots + rm.slots) → Qc v T'.heap L → Go p e below FF (T'.setTop (mkF m pc' Ls (v.toList ++ rest)))) : Go p e below FF (T.setTop (mkF m pc Ls St)) := by
  subst hp hst has
  obtain ⟨v, _, ⟨T', L', k', n'⟩, -, X', ⟨Lc, hQ, l1, l2, l3⟩, st⟩ := Jvm.LawKit.callS P.st P.x (y := y) P.ow (mvT P.z w1) (mvT P.z w2) (mvT P.z w3) (mvT P.z w4) hy (backOf (W := W) hM P.z w4 w3 hro.1 hro.2.1) (g := mkF m pc Ls (argsL.reverse ++ rest)) rfl (by rw [P.mx]; exact hsz) (argsL := argsL) (rest := rest) (lenOf hds hal) rfl (by show 2 * 0 + _ ≤ _; omega) (hb P.bt hd) (fun _ _ => ⟨rfl, P.eh, hro.2.2.1, hro.2.2.2⟩)
  dsimp only [Pt.U, Pt.locs, Pt.cells, Pt.slots] at X' l1 l2 l3 st hQ
  subst l1 l2 l3
  exact Go.via st (kk T' Lc v ⟨P.1, X', rfl⟩ hQ)
theorem G.callSP (P : Pos p l e R s m args below meth c Z own bytes ml ret nm T h locs cells slots) {y : MethodName} {by' : ByteArray} {ml' : Nat} {ret' : Option FieldType} {i fr lo : Nat} {as' : Array Value} {v0 : Option Value} (hM : OMeets l Z y by' ml' ret' ⟨fr, 0, 0, lo⟩ as' h (OPure v0 h))
    (w1 : (Jvm.Cond.methodLink own i y).before a0 Z = true) (w2 : (Jvm.Cond.static y).before a0 Z = true) (w3 : (Jvm.Cond.initialized y.cls).before a0 Z = true) (w4 : (Jvm.Cond.code y by' ml' ret').before a0 Z = true)
    (hy : y.cls ≠ "java/lang/invoke/MethodHandle" ∧ y.cls ≠ "java/lang/invoke/VarHandle") {ps : List FieldType} {r : Option FieldType} (hds : parseMethodDescriptor y.desc = some ⟨ps, r⟩) {argsL rest : List Value} (hal : argsL.length = ps.length) (hst : argsL.reverse ++ rest = St) (has : argsL.toArray = as') (hsz : Ls.size = ml)
    {W : Nat} (hW : (rest.map fun v => v.category).sum ≤ W) (hro : fr + 1 ≤ R.frames ∧ W + (ml' + 11) + lo ≤ R.locals ∧ cells ≤ R.cells ∧ slots ≤ R.slots)
    (hd : decode bytes pc = .ok (.invokestatic i, 3)) (hp : pc + 3 = pc')
    (kk : ∀ T', Pos p l e R s m args below meth c Z own bytes ml ret nm T' h locs cells slots → Go p e below FF (T'.setTop (mkF m pc' Ls (v0.toList ++ rest)))) : Go p e below FF (T.setTop (mkF m pc Ls St)) := by
  refine G.callS P hM w1 w2 w3 w4 hy hds hal hst has hsz hW hro hd hp fun T' L v P' hQ => ?_
  obtain ⟨rfl, e, rfl⟩ := hQ
  rw [List.append_nil] at P'
  exact kk T' ⟨P'.1, P'.2.1, e⟩
theorem G.callV (P : Pos p l e R s m args below meth c Z own bytes ml ret nm T h locs cells slots) {C : String} {y z : MethodName} {by' : ByteArray} {ml' : Nat} {ret' : Option FieldType} {i : Nat} {rm : Room} {as' : Array Value} {Qc : Option Value → Heap → List Loc → Prop} (hM : OMeets l Z z by' ml' ret' rm as' h Qc)
    (w1 : (Jvm.Cond.methodLink own i y).before a0 Z = true) (w2 : (Jvm.Cond.declares y).before a0 Z = true) (w3 : (Jvm.Cond.selects C y z).before a0 Z = true) (hyz : y = z) (w4 : (Jvm.Cond.instanceMethod z).before a0 Z = true) (w5 : (Jvm.Cond.initialized z.cls).before a0 Z = true) (w6 : (Jvm.Cond.code z by' ml' ret').before a0 Z = true)
    (hy : y.cls ≠ "java/lang/invoke/MethodHandle" ∧ y.cls ≠ "java/lang/invoke/VarHandle") {b : Addr} (E : Exa Z h b C) {ps : List FieldType} {r : Option FieldType} (hds : parseMethodDescriptor y.desc = some ⟨ps, r⟩) {argsL rest : List Value} (hal : argsL.length = ps.length) (hst : argsL.reverse ++ .ref b :: rest = St) (has : (.ref b :: argsL).toArray = as') (hsz : Ls.size = ml)
    {W : Nat} (hW : (rest.map fun v => v.category).sum ≤ W) (hro : rm.frames + 1 ≤ R.frames ∧ W + (ml' + 11) + rm.locals ≤ R.locals ∧ cells + rm.cells ≤ R.cells ∧ slots + rm.slots ≤ R.slots)
    (hd : decode bytes pc = .ok (.invokevirtual i, 3)) (hp : pc + 3 = pc')
    (kk : ∀ T' L v, Pos p l e R s m args below meth c Z own bytes ml ret nm T' T'.heap (locs ++ L) (cells + rm.cells) (slots + rm.slots) → Qc v T'.heap L → Go p e below FF (T'.setTop (mkF m pc' Ls (v.toList ++ rest)))) : Go p e below FF (T.setTop (mkF m pc Ls St)) := by
  subst hp hst has hyz
  obtain ⟨cB, kB, q1, q2, q3⟩ := isOf P.z P.eh E
  obtain ⟨v, _, ⟨T', L', k', n'⟩, -, X', ⟨Lc, hQ, l1, l2, l3⟩, st⟩ := P.st.virtualBack P.x (y := y) (z := y) P.ow (mvT P.z w1) (mvT P.z w2) (notFace_of_selects (args := #[]) (mvT P.z w3)) (mvT P.z w3) (mvT P.z w4) hy (backOf (W := W) hM P.z w6 w5 hro.1 hro.2.1) q1 q3 (g := mkF m pc Ls (argsL.reverse ++ .ref b :: rest)) rfl (by rw [P.mx]; exact hsz) (Steps.refl _) (argsL := argsL) (rest := rest) (lenOf hds hal) rfl (by show 2 * 0 + _ ≤ _; omega) (hb P.bt hd) (fun _ _ => ⟨rfl, P.eh, hro.2.2.1, hro.2.2.2⟩)
  dsimp only [Pt.U, Pt.locs, Pt.cells, Pt.slots] at X' l1 l2 l3 st hQ
  subst l1 l2 l3
  exact Go.come st (kk T' Lc v ⟨P.1, X', rfl⟩ hQ)
theorem G.callVP (P : Pos p l e R s m args below meth c Z own bytes ml ret nm T h locs cells slots) {C : String} {y z : MethodName} {by' : ByteArray} {ml' : Nat} {ret' : Option FieldType} {i fr lo : Nat} {as' : Array Value} {v0 : Option Value} (hM : OMeets l Z z by' ml' ret' ⟨fr, 0, 0, lo⟩ as' h (OPure v0 h))
    (w1 : (Jvm.Cond.methodLink own i y).before a0 Z = true) (w2 : (Jvm.Cond.declares y).before a0 Z = true) (w3 : (Jvm.Cond.selects C y z).before a0 Z = true) (hyz : y = z) (w4 : (Jvm.Cond.instanceMethod z).before a0 Z = true) (w5 : (Jvm.Cond.initialized z.cls).before a0 Z = true) (w6 : (Jvm.Cond.code z by' ml' ret').before a0 Z = true)
    (hy : y.cls ≠ "java/lang/invoke/MethodHandle" ∧ y.cls ≠ "java/lang/invoke/VarHandle") {b : Addr} (E : Exa Z h b C) {ps : List FieldType} {r : Option FieldType} (hds : parseMethodDescriptor y.desc = some ⟨ps, r⟩) {argsL rest : List Value} (hal : argsL.length = ps.length) (hst : argsL.reverse ++ .ref b :: rest = St) (has : (.ref b :: argsL).toArray = as') (hsz : Ls.size = ml)
    {W : Nat} (hW : (rest.map fun v => v.category).sum ≤ W) (hro : fr + 1 ≤ R.frames ∧ W + (ml' + 11) + lo ≤ R.locals ∧ cells ≤ R.cells ∧ slots ≤ R.slots)
    (hd : decode bytes pc = .ok (.invokevirtual i, 3)) (hp : pc + 3 = pc')
    (kk : ∀ T', Pos p l e R s m args below meth c Z own bytes ml ret nm T' h locs cells slots → Go p e below FF (T'.setTop (mkF m pc' Ls (v0.toList ++ rest)))) : Go p e below FF (T.setTop (mkF m pc Ls St)) := by
  refine G.callV P hM w1 w2 w3 hyz w4 w5 w6 hy E hds hal hst has hsz hW hro hd hp fun T' L v P' hQ => ?_
  obtain ⟨rfl, e, rfl⟩ := hQ
  rw [List.append_nil] at P'
  exact kk T' ⟨P'.1, P'.2.1, e⟩
theorem G.callI (P : Pos p l e R s m args below meth c Z own bytes ml ret nm T h locs cells slots) {y : MethodName} {by' : ByteArray} {ml' : Nat} {i : Nat} {rm : Room} {as' : Array Value} {Qc : Option Value → Heap → List Loc → Prop} (hM : OMeets l Z y by' ml' none rm as' h Qc) (hyn : y.name = "<init>")
    (w1 : (Jvm.Cond.methodLink own i y).before a0 Z = true) (w2 : (Jvm.Cond.instanceMethod y).before a0 Z = true) (w3 : (Jvm.Cond.initialized y.cls).before a0 Z = true) (w4 : (Jvm.Cond.code y by' ml' none).before a0 Z = true)
    (hy : y.cls ≠ "java/lang/invoke/MethodHandle" ∧ y.cls ≠ "java/lang/invoke/VarHandle") {b : Addr} {ps : List FieldType} {r : Option FieldType} (hds : parseMethodDescriptor y.desc = some ⟨ps, r⟩) {argsL rest : List Value} (hal : argsL.length = ps.length) (hst : argsL.reverse ++ .ref b :: rest = St) (has : (.ref b :: argsL).toArray = as') (hsz : Ls.size = ml)
    {W : Nat} (hW : (rest.map fun v => v.category).sum ≤ W) (hro : rm.frames + 1 ≤ R.frames ∧ W + (ml' + 11) + rm.locals ≤ R.locals ∧ cells + rm.cells ≤ R.cells ∧ slots + rm.slots ≤ R.slots)
    (hd : decode bytes pc = .ok (.invokespecial i, 3)) (hp : pc + 3 = pc')
    (kk : ∀ T' L v, Pos p l e R s m args below meth c Z own bytes ml ret nm T' T'.heap (locs ++ L) (cells + rm.cells) (slots + rm.slots) → Qc v T'.heap L → Go p e below FF (T'.setTop (mkF m pc' Ls (v.toList ++ rest)))) : Go p e below FF (T.setTop (mkF m pc Ls St)) := by
  subst hp hst has
  obtain ⟨v, _, ⟨T', L', k', n'⟩, -, X', ⟨Lc, hQ, l1, l2, l3⟩, st⟩ := P.st.specialBack P.x (y := y) hyn P.ow (mvT P.z w1) (mvT P.z w2) (mvT P.z w4) hy (backOf (W := W) hM P.z w4 w3 hro.1 hro.2.1) (g := mkF m pc Ls (argsL.reverse ++ .ref b :: rest)) rfl (by rw [P.mx]; exact hsz) (Steps.refl _) (a := b) (argsL := argsL) (rest := rest) (lenOf hds hal) rfl (by show 2 * 0 + _ ≤ _; omega) (hb P.bt hd) (fun _ _ => ⟨rfl, P.eh, hro.2.2.1, hro.2.2.2⟩)
  dsimp only [Pt.U, Pt.locs, Pt.cells, Pt.slots] at X' l1 l2 l3 st hQ
  subst l1 l2 l3
  exact Go.come st (kk T' Lc v ⟨P.1, X', rfl⟩ hQ)
theorem G.callIP (P : Pos p l e R s m args below meth c Z own bytes ml ret nm T h locs cells slots) {y : MethodName} {by' : ByteArray} {ml' : Nat} {i fr lo : Nat} {as' : Array Value} {v0 : Option Value} (hM : OMeets l Z y by' ml' none ⟨fr, 0, 0, lo⟩ as' h (OPure v0 h)) (hyn : y.name = "<init>")
    (w1 : (Jvm.Cond.methodLink own i y).before a0 Z = true) (w2 : (Jvm.Cond.instanceMethod y).before a0 Z = true) (w3 : (Jvm.Cond.initialized y.cls).before a0 Z = true) (w4 : (Jvm.Cond.code y by' ml' none).before a0 Z = true)
    (hy : y.cls ≠ "java/lang/invoke/MethodHandle" ∧ y.cls ≠ "java/lang/invoke/VarHandle") {b : Addr} {ps : List FieldType} {r : Option FieldType} (hds : parseMethodDescriptor y.desc = some ⟨ps, r⟩) {argsL rest : List Value} (hal : argsL.length = ps.length) (hst : argsL.reverse ++ .ref b :: rest = St) (has : (.ref b :: argsL).toArray = as') (hsz : Ls.size = ml)
    {W : Nat} (hW : (rest.map fun v => v.category).sum ≤ W) (hro : fr + 1 ≤ R.frames ∧ W + (ml' + 11) + lo ≤ R.locals ∧ cells ≤ R.cells ∧ slots ≤ R.slots)
    (hd : decode bytes pc = .ok (.invokespecial i, 3)) (hp : pc + 3 = pc')
    (kk : ∀ T', Pos p l e R s m args below meth c Z own bytes ml ret nm T' h locs cells slots → Go p e below FF (T'.setTop (mkF m pc' Ls (v0.toList ++ rest)))) : Go p e below FF (T.setTop (mkF m pc Ls St)) := by
  refine G.callI P hM hyn w1 w2 w3 w4 hy hds hal hst has hsz hW hro hd hp fun T' L v P' hQ => ?_
  obtain ⟨rfl, e, rfl⟩ := hQ
  rw [List.append_nil] at P'
  exact kk T' ⟨P'.1, P'.2.1, e⟩
theorem Pos.more (P : Pos p l e R s m args below meth c Z own bytes ml ret nm T h locs cells slots) {cells' slots' : Nat} (hc : cells ≤ cells') (hs : slots ≤ slots') : Pos p l e R s m args below meth c Z own bytes ml ret nm T h locs cells' slots' :=
  ⟨P.1, P.st.more hc hs, P.2.2⟩
theorem G.callF (P : Pos p l e R s m args below meth c Z own bytes ml ret nm T h locs cells slots) {C : String} {xi y : MethodName} {by' : ByteArray} {ml' : Nat} {ret' : Option FieldType} {i cnt : Nat} {rm : Room} {as' : Array Value} {Qc : Option Value → Heap → List Loc → Prop} (hM : OMeets l Z y by' ml' ret' rm as' h Qc)
    (w1 : (Jvm.Cond.methodLink own i xi).before a0 Z = true) (w2 : (Jvm.Cond.declares xi).before a0 Z = true) (w3 : (Jvm.Cond.interfaceMethod xi.cls xi.cls xi.name xi.desc).before a0 Z = true) (w4 : (Jvm.Cond.selects C xi y).before a0 Z = true) (w5 : (Jvm.Cond.instanceMethod y).before a0 Z = true)
    (w6 : (Jvm.Cond.publicMethod y).before a0 Z = true) (w7 : (Jvm.Cond.unhidden C xi.name xi.desc).before a0 Z = true) (w8 : (Jvm.Cond.castable C xi.cls).before a0 Z = true) (w9 : (Jvm.Cond.initialized y.cls).before a0 Z = true) (w10 : (Jvm.Cond.code y by' ml' ret').before a0 Z = true)
    (hy : xi.cls ≠ "java/lang/invoke/MethodHandle" ∧ xi.cls ≠ "java/lang/invoke/VarHandle") {b : Addr} (E : Exa Z h b C) {ps : List FieldType} {r : Option FieldType} (hds : parseMethodDescriptor xi.desc = some ⟨ps, r⟩) {argsL rest : List Value} (hal : argsL.length = ps.length) (hst : argsL.reverse ++ .ref b :: rest = St) (has : (.ref b :: argsL).toArray = as') (hsz : Ls.size = ml)
    {W : Nat} (hW : (rest.map fun v => v.category).sum ≤ W) (hro : rm.frames + 1 ≤ R.frames ∧ W + (ml' + 11) + rm.locals ≤ R.locals ∧ cells + rm.cells ≤ R.cells ∧ slots + rm.slots ≤ R.slots)
    (hd : decode bytes pc = .ok (.invokeinterface i cnt, 5)) (hp : pc + 5 = pc')
    (kk : ∀ T' L v, Pos p l e R s m args below meth c Z own bytes ml ret nm T' T'.heap (locs ++ L) (cells + rm.cells) (slots + rm.slots) → Qc v T'.heap L → Go p e below FF (T'.setTop (mkF m pc' Ls (v.toList ++ rest)))) : Go p e below FF (T.setTop (mkF m pc Ls St)) := by
  subst hp hst has
  obtain ⟨cB, kB, q1, q2, q3⟩ := isOf P.z P.eh E
  obtain ⟨v, _, ⟨T', L', k', n'⟩, -, X', ⟨Lc, hQ, l1, l2, l3⟩, st⟩ := P.st.interfaceBack P.x (xi := xi) (y := y) P.ow (mvT P.z w1) (mvT P.z w2) (mvT P.z w3 (by simp [Cond.onTables, Cond.keepsFace, Cond.keeps, Cond.steady, Cond.faceAtom, hy.1, hy.2])) (mvT P.z w4) (mvT P.z w5) (mvT P.z w6) (mvT P.z w7) (mvT P.z w8) hy (backOf (W := W) hM P.z w10 w9 hro.1 hro.2.1) q1 q2 q3 (g := mkF m pc Ls (argsL.reverse ++ .ref b :: rest)) rfl (by rw [P.mx]; exact hsz) (Steps.refl _) (argsL := argsL) (rest := rest) (lenOf hds hal) rfl (by show 2 * 0 + _ ≤ _; omega) (hb P.bt hd) (fun _ _ => ⟨rfl, P.eh, hro.2.2.1, hro.2.2.2⟩)
  dsimp only [Pt.U, Pt.locs, Pt.cells, Pt.slots] at X' l1 l2 l3 st hQ
  subst l1 l2 l3
  exact Go.come st (kk T' Lc v ⟨P.1, X', rfl⟩ hQ)
theorem G.callQ (P : Pos p l e R s m args below meth c Z own bytes ml ret nm T h locs cells slots) {y x0 z0 : MethodName} {C C0 : String} {by' : ByteArray} {ml' : Nat} {ret' : Option FieldType} {i : Nat} {rm : Room} {as' : Array Value} {Qc : Option Value → Heap → List Loc → Prop} (hM : OMeets l Z y by' ml' ret' rm as' h Qc)
    (w1 : (Jvm.Cond.methodLink own i y).before a0 Z = true) (w2 : (Jvm.Cond.instanceMethod y).before a0 Z = true) (w3 : (Jvm.Cond.selects C0 x0 z0).before a0 Z = true) (hz0 : z0.cls = y.cls) (w4 : (Jvm.Cond.privateMethod y).before a0 Z = true) (w5 : (Jvm.Cond.initialized y.cls).before a0 Z = true) (w6 : (Jvm.Cond.code y by' ml' ret').before a0 Z = true)
    (hy : y.cls ≠ "java/lang/invoke/MethodHandle" ∧ y.cls ≠ "java/lang/invoke/VarHandle") {b : Addr} (E : Exa Z h b C) {ps : List FieldType} {r : Option FieldType} (hds : parseMethodDescriptor y.desc = some ⟨ps, r⟩) {argsL rest : List Value} (hal : argsL.length = ps.length) (hst : argsL.reverse ++ .ref b :: rest = St) (has : (.ref b :: argsL).toArray = as') (hsz : Ls.size = ml)
    {W : Nat} (hW : (rest.map fun v => v.category).sum ≤ W) (hro : rm.frames + 1 ≤ R.frames ∧ W + (ml' + 11) + rm.locals ≤ R.locals ∧ cells + rm.cells ≤ R.cells ∧ slots + rm.slots ≤ R.slots)
    (hd : decode bytes pc = .ok (.invokevirtual i, 3)) (hp : pc + 3 = pc')
    (kk : ∀ T' L v, Pos p l e R s m args below meth c Z own bytes ml ret nm T' T'.heap (locs ++ L) (cells + rm.cells) (slots + rm.slots) → Qc v T'.heap L → Go p e below FF (T'.setTop (mkF m pc' Ls (v.toList ++ rest)))) : Go p e below FF (T.setTop (mkF m pc Ls St)) := by
  subst hp hst has
  obtain ⟨cq, q1, q2⟩ := E.cell
  obtain ⟨mk, mM, hn, hmM, hsM, haM⟩ := Cond.instanceMethod_spec (mvT (args := args) P.z w2)
  obtain ⟨mM', cM, hmM', -, -, -, -, -, -, hsg⟩ := Cond.code_spec hn (mvT (args := args) P.z w6)
  cases hmM.symm.trans hmM'
  obtain ⟨-, -, m2, -, -, q3, -, kP, hkP, hkI⟩ := Cond.selects_spec (mvT (args := args) P.z w3)
  have e1 := findClass_of_methodNamed q3
  rw [hz0] at e1
  have hcl : m2.cls = mk.cls := Option.some.inj (e1.symm.trans (findClass_of_methodNamed hn))
  rw [hcl] at hkP
  have hs0 : selectMethod e.platform s.vm cq.cls mk = .method mk := selectMethod_private hmM (Cond.privateMethod_at (mvP P.z w4 (args := #[])) mk mM hn hmM)
  obtain ⟨vm₁, X₁, st₁⟩ := P.st.invokevirtual P.x P.ow (mvT P.z w1) hn hmM hsM hkP hkI hy (a := b) (cell := cq) (by rw [P.eh]; exact q1) q2 hs0 hmM haM hkP hkI (g := mkF m pc Ls (argsL.reverse ++ .ref b :: rest)) rfl (argsL := argsL) (rest := rest) (lenOf hds hal _ hsg) rfl (hb P.bt hd)
  obtain ⟨v, ⟨T', L', k', n'⟩, X', ⟨Lc, hQ, l1, l2, l3⟩, st₂⟩ := (backOf (W := W) (len := 3) (R := R) (p := p) (e := e) (below := below) (args := args) hM P.z w6 w5 hro.1 hro.2.1) m meth c ⟨T.setVm vm₁, locs, cells, slots⟩ (mkF m pc Ls rest) (.invokevirtual i) mk (.ref b :: argsL).toArray X₁ rfl (by rw [P.mx]; exact hsz) (hb P.bt hd) (by show 2 * 0 + (rest.map fun v => v.category).sum ≤ _; omega) (X₁.named hn) ⟨rfl, P.eh, hro.2.2.1, hro.2.2.2⟩
  dsimp only [Pt.U, Pt.locs, Pt.cells, Pt.slots] at X' l1 l2 l3 st₂ hQ
  subst l1 l2 l3
  exact Go.come ((st₁ _ fun acts => by rw [doInvoke_state]; exact Steps.refl _).trans st₂) (kk T' Lc v ⟨P.1, X', rfl⟩ hQ)
theorem pureK {v0 : Option Value} (kk : ∀ T', Pos p l e R s m args below meth c Z own bytes ml ret nm T' h locs cells slots → Go p e below FF (T'.setTop (mkF m pc' Ls (v0.toList ++ St)))) : ∀ T' L v, Pos p l e R s m args below meth c Z own bytes ml ret nm T' T'.heap (locs ++ L) (cells + 0) (slots + 0) → OPure v0 h v T'.heap L → Go p e below FF (T'.setTop (mkF m pc' Ls (v.toList ++ St))) := by
  intro T' L v P' hQ
  obtain ⟨rfl, e, rfl⟩ := hQ
  rw [List.append_nil] at P'
  exact kk T' ⟨P'.1, P'.2.1, e⟩
theorem hacw {W n : Nat} (q : W + 18 ≤ n) : W + (nativeFrameWords "java/lang/System" "arraycopy" 5 + 11) ≤ n := by
  have e : nativeFrameWords "java/lang/System" "arraycopy" 5 = 7 := by decide
  rw [e]; omega
theorem G.acopy (P : Pos p l e R s m args below meth c Z own bytes ml ret nm T h locs cells slots) {i : Nat} (w1 : (Jvm.Cond.methodLink own i Jvm.Stand.acN).before a0 Z = true) (w2 : (Jvm.Cond.native Jvm.Stand.acN).before a0 Z = true) (w3 : (Jvm.Cond.static Jvm.Stand.acN).before a0 Z = true) (w4 : (Jvm.Cond.initialized "java/lang/System").before a0 Z = true)
    {a b : Addr} {k k' : ClassId} {ty ty' : FieldType} {z z' sp dp nn : Int32} {vs vd us : List Value} {dv dd : Value} (A : Arv Z h a k ty z vs dv) (B : Arv Z h b k' ty' z' vd dd) (hty : (ty = ty' ∧ refKind ty = false) ∨ (refKind ty = true ∧ refKind ty' = true ∧ StoL Z h b us))
    (h1 : ¬ sp < 0) (h2 : ¬ dp < 0) (h3 : ¬ nn < 0) (h4 : sp.toNatClampNeg + nn.toNatClampNeg ≤ z.toNatClampNeg) (h5 : dp.toNatClampNeg + nn.toNatClampNeg ≤ z'.toNatClampNeg)
    (hus : us = (List.range nn.toNatClampNeg).map fun i => vs.getD (sp.toNatClampNeg + i) dv) (hl : dp.toNatClampNeg + nn.toNatClampNeg ≤ vd.length) {n0 : Nat} (N : Fr n0 locs) (ge : n0 ≤ b) (hsz : Ls.size = ml)
    {W : Nat} (hW : (St.map fun v => v.category).sum ≤ W) (hro : 1 ≤ R.frames ∧ W + 18 ≤ R.locals) (hd : decode bytes pc = .ok (.invokestatic i, 3)) (hp : pc + 3 = pc')
    (kk : ∀ T' h' L, Pos p l e R s m args below meth c Z own bytes ml ret nm T' h' L cells slots → Fr n0 L → Keep h h' [b] → Arv Z h' b k' ty' z' (vd.take dp.toNatClampNeg ++ us ++ vd.drop (dp.toNatClampNeg + nn.toNatClampNeg)) dd → Go p e below FF (T'.setTop (mkF m pc' Ls St))) :
    Go p e below FF (T.setTop (mkF m pc Ls (.int nn :: .int dp :: .ref b :: .int sp :: .ref a :: St))) := by
  subst hp
  obtain ⟨T', h', L, X', e', N', K, V, st⟩ := cpA P.st P.x P.z P.ow w1 w2 w3 w4 P.eh A B hty h1 h2 h3 h4 h5 hus hl N ge (g := mkF m pc Ls (.int nn :: .int dp :: .ref b :: .int sp :: .ref a :: St)) rfl (by rw [P.mx]; exact hsz) rfl (hb P.bt hd) hro.1 (W := W) (by show 2 * 0 + _ ≤ _; omega) (hacw hro.2)
  exact Go.via st (kk T' h' L ⟨P.1, X', e'⟩ N' K V)
theorem G.newR (P : Pos p l e R s m args below meth c Z own bytes ml ret nm T h locs cells slots) {C : String} {i : Nat} (w1 : (Jvm.Cond.classLink own i C).before a0 Z = true) (w2 : (Jvm.Cond.arrayOver (.object C)).before a0 Z = true) {n : Int32} (hn : ¬ n < 0) {cap : Nat} (hcap : n.toNatClampNeg ≤ cap) (hbb : cap * 8 ≤ 536870912) (hro : cells + 1 ≤ R.cells ∧ slots + cap ≤ R.slots) (hd : decode bytes pc = .ok (.anewarray i, 3)) (hp : pc + 3 = pc')
    (kk : ∀ T' h' a k, a = h.size → Pos p l e R s m args below meth c Z own bytes ml ret nm T' h' locs (cells + 1) (slots + cap) → Ext h h' → Arv Z h' a k (.object C) n [] .null → Ovr Z k C → Go p e below FF (T'.setTop (mkF m pc' Ls (.ref a :: St)))) : Go p e below FF (T.setTop (mkF m pc Ls (.int n :: St))) := by
  subst hp
  obtain ⟨T', h', k, X', e', E, A, O, st⟩ := Jvm.RoadKit.newR P.st P.x P.z P.ow w1 w2 P.eh (g := mkF m pc Ls (.int n :: St)) rfl (hb P.bt hd) rfl hn hcap hbb hro.1 hro.2
  exact Go.via st (kk T' h' h.size k rfl ⟨P.1, X', e'⟩ E (Arv.new A hn) O)
theorem G.stR (P : Pos p l e R s m args below meth c Z own bytes ml ret nm T h locs cells slots) {a : Addr} {k : ClassId} {ty : FieldType} {z : Int32} {vs : List Value} {dv : Value} (V : Arv Z h a k ty z vs dv) (hty : ty.isReference = true) {j : Int32} {y : Addr} {C : String} (O : Ovr Z k C) (I : Ins Z h y C true) (hft : fits ty (.ref y) = true) (i : Nat) (hi : j.toNatClampNeg = i) (hin : ¬ j < 0 ∧ j < z) (hl : i < vs.length) (hd : decode bytes pc = .ok (.aastore, 1)) (hp : pc + 1 = pc')
    (kk : ∀ T' h', Pos p l e R s m args below meth c Z own bytes ml ret nm T' h' (locs ++ [⟨a, i⟩]) cells slots → Wr h h' a i (.ref y) → Arv Z h' a k ty z (vs.set i (.ref y)) dv → Go p e below FF (T'.setTop (mkF m pc' Ls St))) : Go p e below FF (T.setTop (mkF m pc Ls (.ref y :: .int j :: .ref a :: St))) := by
  subst hp hi
  obtain ⟨cl, A, q1, S, N, H, Gf⟩ := V
  obtain ⟨T', h', X', e', W, st⟩ := Jvm.RoadKit.stR P.st P.x P.z P.eh A (inb_of S hin) hty (Sto.ofV A q1 O I) (g := mkF m pc Ls (.ref y :: .int j :: .ref a :: St)) rfl rfl (hb P.bt hd)
  exact Go.via st (kk T' h' ⟨P.1, X', e'⟩ W (Arv.set A q1 S N H Gf hft W _ rfl hl))
theorem G.cast (P : Pos p l e R s m args below meth c Z own bytes ml ret nm T h locs cells slots) {K : String} {i : Nat} (w : (Jvm.Cond.classLink own i K).before a0 Z = true) {a : Addr} (I : Ins Z h a K true) (hd : decode bytes pc = .ok (.checkcast i, 3)) (hp : pc + 3 = pc')
    (kk : ∀ T', Pos p l e R s m args below meth c Z own bytes ml ret nm T' h locs cells slots → Go p e below FF (T'.setTop (mkF m pc' Ls (.ref a :: St)))) : Go p e below FF (T.setTop (mkF m pc Ls (.ref a :: St))) := by
  subst hp
  obtain ⟨T', X', e', st⟩ := castY P.st P.x P.z P.ow w P.eh I (g := mkF m pc Ls (.ref a :: St)) rfl rfl (hb P.bt hd)
  exact Go.via st (kk T' ⟨P.1, X', e'⟩)
theorem G.instY (P : Pos p l e R s m args below meth c Z own bytes ml ret nm T h locs cells slots) {K : String} {i : Nat} (w : (Jvm.Cond.classLink own i K).before a0 Z = true) {a : Addr} (I : Ins Z h a K true) (hd : decode bytes pc = .ok (.instanceof i, 3)) (hp : pc + 3 = pc')
    (kk : ∀ T', Pos p l e R s m args below meth c Z own bytes ml ret nm T' h locs cells slots → Go p e below FF (T'.setTop (mkF m pc' Ls (.int 1 :: St)))) : Go p e below FF (T.setTop (mkF m pc Ls (.ref a :: St))) := by
  subst hp
  obtain ⟨T', X', e', st⟩ := Jvm.RoadKit.instY P.st P.x P.z P.ow w P.eh I (g := mkF m pc Ls (.ref a :: St)) rfl rfl (hb P.bt hd)
  exact Go.via st (kk T' ⟨P.1, X', e'⟩)
theorem G.newPE (P : Pos p l e R s m args below meth c Z own bytes ml ret nm T h locs cells slots) {aty : ArrayType} (w : (Jvm.Cond.arrayClass (newarray.typeOf aty)).before a0 Z = true) {n : Int32} (hn : ¬ n < 0) {cap : Nat} (hcap : n.toNatClampNeg ≤ cap) (hbb : cap * 8 ≤ 536870912) (hro : cells + 1 ≤ R.cells ∧ slots + cap ≤ R.slots) {ad : String} (had : "[" ++ (newarray.typeOf aty).toString = ad) (hd : decode bytes pc = .ok (.newarray aty, 2)) (hp : pc + 2 = pc')
    (kk : ∀ T' h' a k, a = h.size → Pos p l e R s m args below meth c Z own bytes ml ret nm T' h' locs (cells + 1) (slots + cap) → Ext h h' → Arv Z h' a k (newarray.typeOf aty) n [] (defaultValue (newarray.typeOf aty)) → Exa Z h' a ad → Go p e below FF (T'.setTop (mkF m pc' Ls (.ref a :: St)))) : Go p e below FF (T.setTop (mkF m pc Ls (.int n :: St))) := by
  subst hp
  obtain ⟨T', h', k, X', e', E, A, B, st⟩ := Jvm.RoadKit.newPE P.st P.x P.z w P.eh (g := mkF m pc Ls (.int n :: St)) rfl (hb P.bt hd) rfl hn hcap hbb hro.1 hro.2 had
  exact Go.via st (kk T' h' h.size k rfl ⟨P.1, X', e'⟩ E (Arv.new A hn) B)
theorem G.clone (P : Pos p l e R s m args below meth c Z own bytes ml ret nm T h locs cells slots) {ad : String} {i : Nat} (w1 : (Jvm.Cond.methodLink own i ⟨ad, "clone", "()Ljava/lang/Object;"⟩).before a0 Z = true) (w2 : (Jvm.Cond.sameMethod ad "java/lang/Object" "clone" "()Ljava/lang/Object;").before a0 Z = true) (w3 : (Jvm.Cond.native ⟨"java/lang/Object", "clone", "()Ljava/lang/Object;"⟩).before a0 Z = true)
    (w4 : (Jvm.Cond.instanceMethod ⟨"java/lang/Object", "clone", "()Ljava/lang/Object;"⟩).before a0 Z = true) (w5 : (Jvm.Cond.selects ad ⟨ad, "clone", "()Ljava/lang/Object;"⟩ ⟨"java/lang/Object", "clone", "()Ljava/lang/Object;"⟩).before a0 Z = true) (w6 : (Jvm.Cond.castable ad "java/lang/Cloneable").before a0 Z = true)
    {a : Addr} {k : ClassId} {ty : FieldType} {z : Int32} {vs : List Value} {dv : Value} (V : Arv Z h a k ty z vs dv) (E : Exa Z h a ad) (hsz : Ls.size = ml) {W cap : Nat} (hW : (St.map fun v => v.category).sum ≤ W) (hcap : z.toNatClampNeg ≤ cap) (hro : 1 ≤ R.frames ∧ W + 14 ≤ R.locals ∧ cells + 1 ≤ R.cells ∧ slots + cap ≤ R.slots)
    (hd : decode bytes pc = .ok (.invokevirtual i, 3)) (hp : pc + 3 = pc')
    (kk : ∀ T' h' a', a' = h.size → Pos p l e R s m args below meth c Z own bytes ml ret nm T' h' locs (cells + 1) (slots + cap) → Ext h h' → Arv Z h' a' k ty z vs dv → Exa Z h' a' ad → Go p e below FF (T'.setTop (mkF m pc' Ls (.ref a' :: St)))) : Go p e below FF (T.setTop (mkF m pc Ls (.ref a :: St))) := by
  subst hp
  obtain ⟨T', h', X', e', ex, A, B, st⟩ := cloneH P.st P.x P.z P.ow w1 w2 w3 w4 w5 w6 P.eh V.arh E (g := mkF m pc Ls (.ref a :: St)) rfl (by rw [P.mx]; exact hsz) rfl (hb P.bt hd) hro.1 (W := W) (by show 2 * 0 + _ ≤ _; omega) hro.2.1 hcap hro.2.2.1 hro.2.2.2
  exact Go.via st (kk T' h' h.size rfl ⟨P.1, X', e'⟩ ex A B)
theorem G.tsw (P : Pos p l e R s m args below meth c Z own bytes ml ret nm T h locs cells slots) {dflt low high o : Int} {offs : Array Int} {len : Nat} {x : Int32} (hd : decode bytes pc = .ok (.tableswitch dflt low high offs, len)) (hin : ¬ (x.toInt < low ∨ x.toInt > high)) (hoff : offs[(x.toInt - low).toNat]? = some o) (ho : 0 ≤ (pc : Int) + o) (hp : ((pc : Int) + o).toNat = pc')
    (kk : Go p e below FF (T.setTop (mkF m pc' Ls St))) : Go p e below FF (T.setTop (mkF m pc Ls (.int x :: St))) :=
  Go.via (fun _ => XS.tswIn (g := mkF m pc Ls (.int x :: St)) P.here P.x rfl (pc0 := pc) rfl (hb P.bt hd) rfl hin hoff ho hp) kk
theorem G.callU (P : Pos p l e R s m args below meth c Z own bytes ml ret nm T h locs cells slots) {C owner : String} {x y : MethodName} {by' : ByteArray} {ml' : Nat} {ret' : Option FieldType} {i : Nat} {rm : Room} {as' : Array Value} {Qc : Option Value → Heap → List Loc → Prop} (hM : OMeets l Z y by' ml' ret' rm as' h Qc)
    (w1 : (Jvm.Cond.methodLink own i x).before a0 Z = true) (w2 : (Jvm.Cond.sameMethod x.cls owner x.name x.desc).before a0 Z = true) (w3 : (Jvm.Cond.declares ⟨owner, x.name, x.desc⟩).before a0 Z = true) (hy : owner ≠ "java/lang/invoke/MethodHandle" ∧ owner ≠ "java/lang/invoke/VarHandle") (w4 : (Jvm.Cond.selects C x y).before a0 Z = true) (w5 : (Jvm.Cond.instanceMethod y).before a0 Z = true) (w6 : (Jvm.Cond.initialized y.cls).before a0 Z = true) (w7 : (Jvm.Cond.code y by' ml' ret').before a0 Z = true)
    {b : Addr} (E : Exa Z h b C) {ps : List FieldType} {r : Option FieldType} (hds : parseMethodDescriptor x.desc = some ⟨ps, r⟩) {argsL rest : List Value} (hal : argsL.length = ps.length) (hst : argsL.reverse ++ .ref b :: rest = St) (has : (.ref b :: argsL).toArray = as') (hsz : Ls.size = ml)
    {W : Nat} (hW : (rest.map fun v => v.category).sum ≤ W) (hro : rm.frames + 1 ≤ R.frames ∧ W + (ml' + 11) + rm.locals ≤ R.locals ∧ cells + rm.cells ≤ R.cells ∧ slots + rm.slots ≤ R.slots)
    (hd : decode bytes pc = .ok (.invokevirtual i, 3)) (hp : pc + 3 = pc')
    (kk : ∀ T' L v, Pos p l e R s m args below meth c Z own bytes ml ret nm T' T'.heap (locs ++ L) (cells + rm.cells) (slots + rm.slots) → Qc v T'.heap L → Go p e below FF (T'.setTop (mkF m pc' Ls (v.toList ++ rest)))) : Go p e below FF (T.setTop (mkF m pc Ls St)) := by
  subst hp hst has
  obtain ⟨cB, kB, q1, q2, q3⟩ := isOf P.z P.eh E
  obtain ⟨v, _, ⟨T', L', k', n'⟩, -, X', ⟨Lc, hQ, l1, l2, l3⟩, st⟩ := P.st.virtualBackUp P.x (x := x) (y := y) P.ow (mvT P.z w1) (mvT P.z w2) (mvT P.z w3) hy (mvT P.z w4) (mvT P.z w5) (backOf (W := W) hM P.z w7 w6 hro.1 hro.2.1) q1 q3 (g := mkF m pc Ls (argsL.reverse ++ .ref b :: rest)) rfl (by rw [P.mx]; exact hsz) (Steps.refl _) (argsL := argsL) (rest := rest) (lenOf hds hal) rfl (by show 2 * 0 + _ ≤ _; omega) (hb P.bt hd) (fun _ _ => ⟨rfl, P.eh, hro.2.2.1, hro.2.2.2⟩)
  dsimp only [Pt.U, Pt.locs, Pt.cells, Pt.slots] at X' l1 l2 l3 st hQ
  subst l1 l2 l3
  exact Go.come st (kk T' Lc v ⟨P.1, X', rfl⟩ hQ)
end Own
end Jvm.OwnKit
namespace Jvm.Pilot.@@N@@
open Jvm Jvm.ClassFile Sem Op Lib Jvm.Free Jvm.Stand Jvm.LawKit Jvm.RoadKit Jvm.OwnKit Bundle Jvm.Pilot.@@N@@.Jvm.D
abbrev y1 : MethodName := ⟨"dev/happenstance/model/HappensBefore", "<init>", "(I[IIZI)V"⟩
theorem d1_0 : decode prog_48_method_1_code 0 = .ok (.aload_n 0, 1) := by decide +kernel
theorem d1_1 : decode prog_48_method_1_code 1 = .ok (.iload_n 1, 1) := by decide +kernel
theorem d1_2 : decode prog_48_method_1_code 2 = .ok (.aload_n 2, 1) := by decide +kernel
theorem d1_3 : decode prog_48_method_1_code 3 = .ok (.iload_n 3, 1) := by decide +kernel
theorem d1_4 : decode prog_48_method_1_code 4 = .ok (.iload 4, 2) := by decide +kernel
theorem d1_6 : decode prog_48_method_1_code 6 = .ok (.iload 5, 2) := by decide +kernel
theorem d1_8 : decode prog_48_method_1_code 8 = .ok (.iconst (-1), 1) := by decide +kernel
theorem d1_9 : decode prog_48_method_1_code 9 = .ok (.invokespecial 1, 3) := by decide +kernel
theorem d1_12 : decode prog_48_method_1_code 12 = .ok (.return_, 1) := by decide +kernel
abbrev y2 : MethodName := ⟨"dev/happenstance/model/HappensBefore", "<init>", "(I[IIZII)V"⟩
theorem d2_0 : decode prog_48_method_2_code 0 = .ok (.aload_n 0, 1) := by decide +kernel
theorem d2_1 : decode prog_48_method_2_code 1 = .ok (.iload_n 1, 1) := by decide +kernel
theorem d2_2 : decode prog_48_method_2_code 2 = .ok (.aload_n 2, 1) := by decide +kernel
theorem d2_3 : decode prog_48_method_2_code 3 = .ok (.iload_n 3, 1) := by decide +kernel
theorem d2_4 : decode prog_48_method_2_code 4 = .ok (.iload 4, 2) := by decide +kernel
theorem d2_6 : decode prog_48_method_2_code 6 = .ok (.ifCond .eq 9, 3) := by decide +kernel
theorem d2_9 : decode prog_48_method_2_code 9 = .ok (.getstatic 7, 3) := by decide +kernel
theorem d2_12 : decode prog_48_method_2_code 12 = .ok (.goto 6, 3) := by decide +kernel
theorem d2_15 : decode prog_48_method_2_code 15 = .ok (.getstatic 13, 3) := by decide +kernel
theorem d2_18 : decode prog_48_method_2_code 18 = .ok (.iload 5, 2) := by decide +kernel
theorem d2_20 : decode prog_48_method_2_code 20 = .ok (.iload 6, 2) := by decide +kernel
theorem d2_22 : decode prog_48_method_2_code 22 = .ok (.invokespecial 16, 3) := by decide +kernel
theorem d2_25 : decode prog_48_method_2_code 25 = .ok (.return_, 1) := by decide +kernel
abbrev y3 : MethodName := ⟨"dev/happenstance/model/HappensBefore", "<init>", "(I[IILdev/happenstance/model/HappensBefore$Keeping;II)V"⟩
theorem d3_0 : decode prog_48_method_3_code 0 = .ok (.aload_n 0, 1) := by decide +kernel
theorem d3_1 : decode prog_48_method_3_code 1 = .ok (.invokespecial 19, 3) := by decide +kernel
theorem d3_4 : decode prog_48_method_3_code 4 = .ok (.aload_n 0, 1) := by decide +kernel
theorem d3_5 : decode prog_48_method_3_code 5 = .ok (.iload_n 1, 1) := by decide +kernel
theorem d3_6 : decode prog_48_method_3_code 6 = .ok (.putfield 24, 3) := by decide +kernel
theorem d3_9 : decode prog_48_method_3_code 9 = .ok (.aload_n 0, 1) := by decide +kernel
theorem d3_10 : decode prog_48_method_3_code 10 = .ok (.aload_n 2, 1) := by decide +kernel
theorem d3_11 : decode prog_48_method_3_code 11 = .ok (.invokevirtual 28, 3) := by decide +kernel
theorem d3_14 : decode prog_48_method_3_code 14 = .ok (.checkcast 29, 3) := by decide +kernel
theorem d3_17 : decode prog_48_method_3_code 17 = .ok (.putfield 34, 3) := by decide +kernel
theorem d3_20 : decode prog_48_method_3_code 20 = .ok (.aload_n 0, 1) := by decide +kernel
theorem d3_21 : decode prog_48_method_3_code 21 = .ok (.iload 5, 2) := by decide +kernel
theorem d3_23 : decode prog_48_method_3_code 23 = .ok (.i2l, 1) := by decide +kernel
theorem d3_24 : decode prog_48_method_3_code 24 = .ok (.iload_n 1, 1) := by decide +kernel
theorem d3_25 : decode prog_48_method_3_code 25 = .ok (.aload_n 2, 1) := by decide +kernel
theorem d3_26 : decode prog_48_method_3_code 26 = .ok (.arraylength, 1) := by decide +kernel
theorem d3_27 : decode prog_48_method_3_code 27 = .ok (.iload_n 3, 1) := by decide +kernel
theorem d3_28 : decode prog_48_method_3_code 28 = .ok (.aload 4, 2) := by decide +kernel
theorem d3_30 : decode prog_48_method_3_code 30 = .ok (.getstatic 7, 3) := by decide +kernel
theorem d3_33 : decode prog_48_method_3_code 33 = .ok (.if_acmp .ne 7, 3) := by decide +kernel
theorem d3_36 : decode prog_48_method_3_code 36 = .ok (.iconst 1, 1) := by decide +kernel
theorem d3_37 : decode prog_48_method_3_code 37 = .ok (.goto 4, 3) := by decide +kernel
theorem d3_40 : decode prog_48_method_3_code 40 = .ok (.iconst 0, 1) := by decide +kernel
theorem d3_41 : decode prog_48_method_3_code 41 = .ok (.invokestatic 37, 3) := by decide +kernel
theorem d3_44 : decode prog_48_method_3_code 44 = .ok (.i2l, 1) := by decide +kernel
theorem d3_45 : decode prog_48_method_3_code 45 = .ok (.ladd, 1) := by decide +kernel
theorem d3_46 : decode prog_48_method_3_code 46 = .ok (.invokestatic 41, 3) := by decide +kernel
theorem d3_49 : decode prog_48_method_3_code 49 = .ok (.putfield 45, 3) := by decide +kernel
theorem d3_52 : decode prog_48_method_3_code 52 = .ok (.aload_n 0, 1) := by decide +kernel
theorem d3_53 : decode prog_48_method_3_code 53 = .ok (.iload 5, 2) := by decide +kernel
theorem d3_55 : decode prog_48_method_3_code 55 = .ok (.putfield 48, 3) := by decide +kernel
theorem d3_58 : decode prog_48_method_3_code 58 = .ok (.aload_n 0, 1) := by decide +kernel
theorem d3_59 : decode prog_48_method_3_code 59 = .ok (.aload_n 0, 1) := by decide +kernel
theorem d3_60 : decode prog_48_method_3_code 60 = .ok (.getfield 48, 3) := by decide +kernel
theorem d3_63 : decode prog_48_method_3_code 63 = .ok (.aload_n 2, 1) := by decide +kernel
theorem d3_64 : decode prog_48_method_3_code 64 = .ok (.arraylength, 1) := by decide +kernel
theorem d3_65 : decode prog_48_method_3_code 65 = .ok (.iadd, 1) := by decide +kernel
theorem d3_66 : decode prog_48_method_3_code 66 = .ok (.putfield 51, 3) := by decide +kernel
theorem d3_69 : decode prog_48_method_3_code 69 = .ok (.aload_n 0, 1) := by decide +kernel
theorem d3_70 : decode prog_48_method_3_code 70 = .ok (.aload 4, 2) := by decide +kernel
theorem d3_72 : decode prog_48_method_3_code 72 = .ok (.invokevirtual 54, 3) := by decide +kernel
theorem d3_75 : decode prog_48_method_3_code 75 = .ok (.tableswitch 25 0 2 #[35, 39, 58], 25) := by decide +kernel
theorem d3_100 : decode prog_48_method_3_code 100 = .ok (.new 58, 3) := by decide +kernel
theorem d3_103 : decode prog_48_method_3_code 103 = .ok (.dup, 1) := by decide +kernel
theorem d3_104 : decode prog_48_method_3_code 104 = .ok (.aconst_null, 1) := by decide +kernel
theorem d3_105 : decode prog_48_method_3_code 105 = .ok (.aconst_null, 1) := by decide +kernel
theorem d3_106 : decode prog_48_method_3_code 106 = .ok (.invokespecial 60, 3) := by decide +kernel
theorem d3_109 : decode prog_48_method_3_code 109 = .ok (.athrow, 1) := by decide +kernel
theorem d3_110 : decode prog_48_method_3_code 110 = .ok (.aconst_null, 1) := by decide +kernel
theorem d3_111 : decode prog_48_method_3_code 111 = .ok (.goto 41, 3) := by decide +kernel
theorem d3_114 : decode prog_48_method_3_code 114 = .ok (.new 63, 3) := by decide +kernel
theorem d3_117 : decode prog_48_method_3_code 117 = .ok (.dup, 1) := by decide +kernel
theorem d3_118 : decode prog_48_method_3_code 118 = .ok (.aload_n 0, 1) := by decide +kernel
theorem d3_119 : decode prog_48_method_3_code 119 = .ok (.getfield 51, 3) := by decide +kernel
theorem d3_122 : decode prog_48_method_3_code 122 = .ok (.iconst 2, 1) := by decide +kernel
theorem d3_123 : decode prog_48_method_3_code 123 = .ok (.iload_n 3, 1) := by decide +kernel
theorem d3_124 : decode prog_48_method_3_code 124 = .ok (.imul, 1) := by decide +kernel
theorem d3_125 : decode prog_48_method_3_code 125 = .ok (.iadd, 1) := by decide +kernel
theorem d3_126 : decode prog_48_method_3_code 126 = .ok (.iload_n 1, 1) := by decide +kernel
theorem d3_127 : decode prog_48_method_3_code 127 = .ok (.invokespecial 65, 3) := by decide +kernel
theorem d3_130 : decode prog_48_method_3_code 130 = .ok (.goto 22, 3) := by decide +kernel
theorem d3_133 : decode prog_48_method_3_code 133 = .ok (.new 68, 3) := by decide +kernel
theorem d3_136 : decode prog_48_method_3_code 136 = .ok (.dup, 1) := by decide +kernel
theorem d3_137 : decode prog_48_method_3_code 137 = .ok (.iload_n 1, 1) := by decide +kernel
theorem d3_138 : decode prog_48_method_3_code 138 = .ok (.i2l, 1) := by decide +kernel
theorem d3_139 : decode prog_48_method_3_code 139 = .ok (.aload_n 2, 1) := by decide +kernel
theorem d3_140 : decode prog_48_method_3_code 140 = .ok (.arraylength, 1) := by decide +kernel
theorem d3_141 : decode prog_48_method_3_code 141 = .ok (.i2l, 1) := by decide +kernel
theorem d3_142 : decode prog_48_method_3_code 142 = .ok (.ladd, 1) := by decide +kernel
theorem d3_143 : decode prog_48_method_3_code 143 = .ok (.iload_n 3, 1) := by decide +kernel
theorem d3_144 : decode prog_48_method_3_code 144 = .ok (.i2l, 1) := by decide +kernel
theorem d3_145 : decode prog_48_method_3_code 145 = .ok (.ladd, 1) := by decide +kernel
theorem d3_146 : decode prog_48_method_3_code 146 = .ok (.invokestatic 41, 3) := by decide +kernel
theorem d3_149 : decode prog_48_method_3_code 149 = .ok (.invokespecial 70, 3) := by decide +kernel
theorem d3_152 : decode prog_48_method_3_code 152 = .ok (.putfield 73, 3) := by decide +kernel
theorem d3_155 : decode prog_48_method_3_code 155 = .ok (.aload_n 0, 1) := by decide +kernel
theorem d3_156 : decode prog_48_method_3_code 156 = .ok (.iload 6, 2) := by decide +kernel
theorem d3_158 : decode prog_48_method_3_code 158 = .ok (.putfield 77, 3) := by decide +kernel
theorem d3_161 : decode prog_48_method_3_code 161 = .ok (.return_, 1) := by decide +kernel
abbrev y4 : MethodName := ⟨"java/lang/Object", "<init>", "()V"⟩
abbrev y5 : MethodName := ⟨"dev/happenstance/model/HappensBefore", "size", "(IIIZ)I"⟩
theorem d5_0 : decode prog_48_method_5_code 0 = .ok (.iload_n 1, 1) := by decide +kernel
theorem d5_1 : decode prog_48_method_5_code 1 = .ok (.i2l, 1) := by decide +kernel
theorem d5_2 : decode prog_48_method_5_code 2 = .ok (.ldc2_w 83, 3) := by decide +kernel
theorem d5_5 : decode prog_48_method_5_code 5 = .ok (.iload_n 2, 1) := by decide +kernel
theorem d5_6 : decode prog_48_method_5_code 6 = .ok (.i2l, 1) := by decide +kernel
theorem d5_7 : decode prog_48_method_5_code 7 = .ok (.lmul, 1) := by decide +kernel
theorem d5_8 : decode prog_48_method_5_code 8 = .ok (.ladd, 1) := by decide +kernel
theorem d5_9 : decode prog_48_method_5_code 9 = .ok (.lstore 4, 2) := by decide +kernel
theorem d5_11 : decode prog_48_method_5_code 11 = .ok (.iload_n 3, 1) := by decide +kernel
theorem d5_12 : decode prog_48_method_5_code 12 = .ok (.ifCond .eq 17, 3) := by decide +kernel
theorem d5_15 : decode prog_48_method_5_code 15 = .ok (.iload_n 0, 1) := by decide +kernel
theorem d5_16 : decode prog_48_method_5_code 16 = .ok (.i2l, 1) := by decide +kernel
theorem d5_17 : decode prog_48_method_5_code 17 = .ok (.iload_n 1, 1) := by decide +kernel
theorem d5_18 : decode prog_48_method_5_code 18 = .ok (.i2l, 1) := by decide +kernel
theorem d5_19 : decode prog_48_method_5_code 19 = .ok (.ladd, 1) := by decide +kernel
theorem d5_20 : decode prog_48_method_5_code 20 = .ok (.iload_n 2, 1) := by decide +kernel
theorem d5_21 : decode prog_48_method_5_code 21 = .ok (.i2l, 1) := by decide +kernel
theorem d5_22 : decode prog_48_method_5_code 22 = .ok (.ladd, 1) := by decide +kernel
theorem d5_23 : decode prog_48_method_5_code 23 = .ok (.iload_n 0, 1) := by decide +kernel
theorem d5_24 : decode prog_48_method_5_code 24 = .ok (.i2l, 1) := by decide +kernel
theorem d5_25 : decode prog_48_method_5_code 25 = .ok (.lmul, 1) := by decide +kernel
theorem d5_26 : decode prog_48_method_5_code 26 = .ok (.goto 4, 3) := by decide +kernel
theorem d5_29 : decode prog_48_method_5_code 29 = .ok (.lconst 0, 1) := by decide +kernel
theorem d5_30 : decode prog_48_method_5_code 30 = .ok (.lstore 6, 2) := by decide +kernel
theorem d5_32 : decode prog_48_method_5_code 32 = .ok (.lload 4, 2) := by decide +kernel
theorem d5_34 : decode prog_48_method_5_code 34 = .ok (.lload 6, 2) := by decide +kernel
theorem d5_36 : decode prog_48_method_5_code 36 = .ok (.ladd, 1) := by decide +kernel
theorem d5_37 : decode prog_48_method_5_code 37 = .ok (.invokestatic 41, 3) := by decide +kernel
theorem d5_40 : decode prog_48_method_5_code 40 = .ok (.ireturn, 1) := by decide +kernel
abbrev y6 : MethodName := ⟨"dev/happenstance/model/HappensBefore", "ints", "(J)I"⟩
theorem d6_0 : decode prog_48_method_6_code 0 = .ok (.lload_n 0, 1) := by decide +kernel
theorem d6_1 : decode prog_48_method_6_code 1 = .ok (.ldc2_w 87, 3) := by decide +kernel
theorem d6_4 : decode prog_48_method_6_code 4 = .ok (.lcmp, 1) := by decide +kernel
theorem d6_5 : decode prog_48_method_6_code 5 = .ok (.ifCond .le 17, 3) := by decide +kernel
theorem d6_8 : decode prog_48_method_6_code 8 = .ok (.new 89, 3) := by decide +kernel
theorem d6_11 : decode prog_48_method_6_code 11 = .ok (.dup, 1) := by decide +kernel
theorem d6_12 : decode prog_48_method_6_code 12 = .ok (.lload_n 0, 1) := by decide +kernel
theorem d6_13 : decode prog_48_method_6_code 13 = .ok (.invokedynamic 91, 5) := by decide +kernel
theorem d6_18 : decode prog_48_method_6_code 18 = .ok (.invokespecial 95, 3) := by decide +kernel
theorem d6_21 : decode prog_48_method_6_code 21 = .ok (.athrow, 1) := by decide +kernel
theorem d6_22 : decode prog_48_method_6_code 22 = .ok (.lload_n 0, 1) := by decide +kernel
theorem d6_23 : decode prog_48_method_6_code 23 = .ok (.l2i, 1) := by decide +kernel
theorem d6_24 : decode prog_48_method_6_code 24 = .ok (.ireturn, 1) := by decide +kernel
abbrev y7 : MethodName := ⟨"java/lang/Enum", "ordinal", "()I"⟩
theorem d7_0 : decode jdk_37_method_2_code 0 = .ok (.aload_n 0, 1) := by decide +kernel
theorem d7_1 : decode jdk_37_method_2_code 1 = .ok (.getfield 7, 3) := by decide +kernel
theorem d7_4 : decode jdk_37_method_2_code 4 = .ok (.ireturn, 1) := by decide +kernel
abbrev y8 : MethodName := ⟨"dev/happenstance/model/HappensBefore$InState", "<init>", "(II)V"⟩
theorem d8_0 : decode prog_51_method_1_code 0 = .ok (.aload_n 0, 1) := by decide +kernel
theorem d8_1 : decode prog_51_method_1_code 1 = .ok (.invokespecial 1, 3) := by decide +kernel
theorem d8_4 : decode prog_51_method_1_code 4 = .ok (.aload_n 0, 1) := by decide +kernel
theorem d8_5 : decode prog_51_method_1_code 5 = .ok (.iload_n 1, 1) := by decide +kernel
theorem d8_6 : decode prog_51_method_1_code 6 = .ok (.putfield 7, 3) := by decide +kernel
theorem d8_9 : decode prog_51_method_1_code 9 = .ok (.aload_n 0, 1) := by decide +kernel
theorem d8_10 : decode prog_51_method_1_code 10 = .ok (.iload_n 2, 1) := by decide +kernel
theorem d8_11 : decode prog_51_method_1_code 11 = .ok (.putfield 13, 3) := by decide +kernel
theorem d8_14 : decode prog_51_method_1_code 14 = .ok (.return_, 1) := by decide +kernel
abbrev y9 : MethodName := ⟨"dev/happenstance/model/HappensBefore", "release", "([IIII)V"⟩
theorem d9_0 : decode prog_48_method_13_code 0 = .ok (.aload_n 0, 1) := by decide +kernel
theorem d9_1 : decode prog_48_method_13_code 1 = .ok (.aload_n 1, 1) := by decide +kernel
theorem d9_2 : decode prog_48_method_13_code 2 = .ok (.aload_n 0, 1) := by decide +kernel
theorem d9_3 : decode prog_48_method_13_code 3 = .ok (.iload_n 3, 1) := by decide +kernel
theorem d9_4 : decode prog_48_method_13_code 4 = .ok (.invokevirtual 104, 3) := by decide +kernel
theorem d9_7 : decode prog_48_method_13_code 7 = .ok (.iload_n 2, 1) := by decide +kernel
theorem d9_8 : decode prog_48_method_13_code 8 = .ok (.invokevirtual 108, 3) := by decide +kernel
theorem d9_11 : decode prog_48_method_13_code 11 = .ok (.aload_n 0, 1) := by decide +kernel
theorem d9_12 : decode prog_48_method_13_code 12 = .ok (.aload_n 1, 1) := by decide +kernel
theorem d9_13 : decode prog_48_method_13_code 13 = .ok (.getstatic 122, 3) := by decide +kernel
theorem d9_16 : decode prog_48_method_13_code 16 = .ok (.iload_n 2, 1) := by decide +kernel
theorem d9_17 : decode prog_48_method_13_code 17 = .ok (.iload_n 3, 1) := by decide +kernel
theorem d9_18 : decode prog_48_method_13_code 18 = .ok (.iload 4, 2) := by decide +kernel
theorem d9_20 : decode prog_48_method_13_code 20 = .ok (.invokevirtual 118, 3) := by decide +kernel
theorem d9_23 : decode prog_48_method_13_code 23 = .ok (.return_, 1) := by decide +kernel
abbrev y10 : MethodName := ⟨"dev/happenstance/model/HappensBefore", "variableClock", "(I)I"⟩
theorem d10_0 : decode prog_48_method_36_code 0 = .ok (.aload_n 0, 1) := by decide +kernel
theorem d10_1 : decode prog_48_method_36_code 1 = .ok (.getfield 24, 3) := by decide +kernel
theorem d10_4 : decode prog_48_method_36_code 4 = .ok (.iload_n 1, 1) := by decide +kernel
theorem d10_5 : decode prog_48_method_36_code 5 = .ok (.iadd, 1) := by decide +kernel
theorem d10_6 : decode prog_48_method_36_code 6 = .ok (.ireturn, 1) := by decide +kernel
abbrev y11 : MethodName := ⟨"dev/happenstance/model/HappensBefore", "takeIn", "([III)V"⟩
theorem d11_0 : decode prog_48_method_35_code 0 = .ok (.aload_n 0, 1) := by decide +kernel
theorem d11_1 : decode prog_48_method_35_code 1 = .ok (.getfield 73, 3) := by decide +kernel
theorem d11_4 : decode prog_48_method_35_code 4 = .ok (.ifnull 15, 3) := by decide +kernel
theorem d11_7 : decode prog_48_method_35_code 7 = .ok (.aload_n 0, 1) := by decide +kernel
theorem d11_8 : decode prog_48_method_35_code 8 = .ok (.getfield 73, 3) := by decide +kernel
theorem d11_11 : decode prog_48_method_35_code 11 = .ok (.aload_n 1, 1) := by decide +kernel
theorem d11_12 : decode prog_48_method_35_code 12 = .ok (.iload_n 2, 1) := by decide +kernel
theorem d11_13 : decode prog_48_method_35_code 13 = .ok (.iload_n 3, 1) := by decide +kernel
theorem d11_14 : decode prog_48_method_35_code 14 = .ok (.invokeinterface 271 4, 5) := by decide +kernel
theorem d11_19 : decode prog_48_method_35_code 19 = .ok (.return_, 1) := by decide +kernel
abbrev y12 : MethodName := ⟨"dev/happenstance/model/HappensBefore$InState", "takeIn", "([III)V"⟩
theorem d12_0 : decode prog_51_method_3_code 0 = .ok (.aload_n 0, 1) := by decide +kernel
theorem d12_1 : decode prog_51_method_3_code 1 = .ok (.iload_n 2, 1) := by decide +kernel
theorem d12_2 : decode prog_51_method_3_code 2 = .ok (.invokevirtual 16, 3) := by decide +kernel
theorem d12_5 : decode prog_51_method_3_code 5 = .ok (.istore 4, 2) := by decide +kernel
theorem d12_7 : decode prog_51_method_3_code 7 = .ok (.aload_n 0, 1) := by decide +kernel
theorem d12_8 : decode prog_51_method_3_code 8 = .ok (.iload_n 3, 1) := by decide +kernel
theorem d12_9 : decode prog_51_method_3_code 9 = .ok (.invokevirtual 16, 3) := by decide +kernel
theorem d12_12 : decode prog_51_method_3_code 12 = .ok (.istore 5, 2) := by decide +kernel
theorem d12_14 : decode prog_51_method_3_code 14 = .ok (.iconst 0, 1) := by decide +kernel
theorem d12_15 : decode prog_51_method_3_code 15 = .ok (.istore 6, 2) := by decide +kernel
theorem d12_17 : decode prog_51_method_3_code 17 = .ok (.iload 6, 2) := by decide +kernel
theorem d12_19 : decode prog_51_method_3_code 19 = .ok (.aload_n 0, 1) := by decide +kernel
theorem d12_20 : decode prog_51_method_3_code 20 = .ok (.getfield 13, 3) := by decide +kernel
theorem d12_23 : decode prog_51_method_3_code 23 = .ok (.if_icmp .ge 33, 3) := by decide +kernel
theorem d12_26 : decode prog_51_method_3_code 26 = .ok (.aload_n 1, 1) := by decide +kernel
theorem d12_27 : decode prog_51_method_3_code 27 = .ok (.iload 4, 2) := by decide +kernel
theorem d12_29 : decode prog_51_method_3_code 29 = .ok (.iload 6, 2) := by decide +kernel
theorem d12_31 : decode prog_51_method_3_code 31 = .ok (.iadd, 1) := by decide +kernel
theorem d12_32 : decode prog_51_method_3_code 32 = .ok (.aload_n 1, 1) := by decide +kernel
theorem d12_33 : decode prog_51_method_3_code 33 = .ok (.iload 4, 2) := by decide +kernel
theorem d12_35 : decode prog_51_method_3_code 35 = .ok (.iload 6, 2) := by decide +kernel
theorem d12_37 : decode prog_51_method_3_code 37 = .ok (.iadd, 1) := by decide +kernel
theorem d12_38 : decode prog_51_method_3_code 38 = .ok (.iaload, 1) := by decide +kernel
theorem d12_39 : decode prog_51_method_3_code 39 = .ok (.aload_n 1, 1) := by decide +kernel
theorem d12_40 : decode prog_51_method_3_code 40 = .ok (.iload 5, 2) := by decide +kernel
theorem d12_42 : decode prog_51_method_3_code 42 = .ok (.iload 6, 2) := by decide +kernel
theorem d12_44 : decode prog_51_method_3_code 44 = .ok (.iadd, 1) := by decide +kernel
theorem d12_45 : decode prog_51_method_3_code 45 = .ok (.iaload, 1) := by decide +kernel
theorem d12_46 : decode prog_51_method_3_code 46 = .ok (.invokestatic 20, 3) := by decide +kernel
theorem d12_49 : decode prog_51_method_3_code 49 = .ok (.iastore, 1) := by decide +kernel
theorem d12_50 : decode prog_51_method_3_code 50 = .ok (.iinc 6 1, 3) := by decide +kernel
theorem d12_53 : decode prog_51_method_3_code 53 = .ok (.goto (-36), 3) := by decide +kernel
theorem d12_56 : decode prog_51_method_3_code 56 = .ok (.return_, 1) := by decide +kernel
abbrev y13 : MethodName := ⟨"dev/happenstance/model/HappensBefore$InState", "start", "(I)I"⟩
theorem d13_0 : decode prog_51_method_2_code 0 = .ok (.aload_n 0, 1) := by decide +kernel
theorem d13_1 : decode prog_51_method_2_code 1 = .ok (.getfield 7, 3) := by decide +kernel
theorem d13_4 : decode prog_51_method_2_code 4 = .ok (.iload_n 1, 1) := by decide +kernel
theorem d13_5 : decode prog_51_method_2_code 5 = .ok (.aload_n 0, 1) := by decide +kernel
theorem d13_6 : decode prog_51_method_2_code 6 = .ok (.getfield 13, 3) := by decide +kernel
theorem d13_9 : decode prog_51_method_2_code 9 = .ok (.imul, 1) := by decide +kernel
theorem d13_10 : decode prog_51_method_2_code 10 = .ok (.iadd, 1) := by decide +kernel
theorem d13_11 : decode prog_51_method_2_code 11 = .ok (.ireturn, 1) := by decide +kernel
abbrev y14 : MethodName := ⟨"java/lang/Math", "max", "(II)I"⟩
theorem d14_0 : decode jdk_29_method_65_code 0 = .ok (.iload_n 0, 1) := by decide +kernel
theorem d14_1 : decode jdk_29_method_65_code 1 = .ok (.iload_n 1, 1) := by decide +kernel
theorem d14_2 : decode jdk_29_method_65_code 2 = .ok (.if_icmp .lt 7, 3) := by decide +kernel
theorem d14_5 : decode jdk_29_method_65_code 5 = .ok (.iload_n 0, 1) := by decide +kernel
theorem d14_6 : decode jdk_29_method_65_code 6 = .ok (.goto 4, 3) := by decide +kernel
theorem d14_9 : decode jdk_29_method_65_code 9 = .ok (.iload_n 1, 1) := by decide +kernel
theorem d14_10 : decode jdk_29_method_65_code 10 = .ok (.ireturn, 1) := by decide +kernel
abbrev y15 : MethodName := ⟨"dev/happenstance/model/HappensBefore", "note", "([ILdev/happenstance/model/HappensBefore$Kind;III)V"⟩
theorem d15_0 : decode prog_48_method_29_code 0 = .ok (.aload_n 0, 1) := by decide +kernel
theorem d15_1 : decode prog_48_method_29_code 1 = .ok (.getfield 77, 3) := by decide +kernel
theorem d15_4 : decode prog_48_method_29_code 4 = .ok (.ifCond .lt 51, 3) := by decide +kernel
theorem d15_7 : decode prog_48_method_29_code 7 = .ok (.aload_n 0, 1) := by decide +kernel
theorem d15_8 : decode prog_48_method_29_code 8 = .ok (.aload_n 1, 1) := by decide +kernel
theorem d15_9 : decode prog_48_method_29_code 9 = .ok (.aload_n 0, 1) := by decide +kernel
theorem d15_10 : decode prog_48_method_29_code 10 = .ok (.getfield 77, 3) := by decide +kernel
theorem d15_13 : decode prog_48_method_29_code 13 = .ok (.dup2, 1) := by decide +kernel
theorem d15_14 : decode prog_48_method_29_code 14 = .ok (.iaload, 1) := by decide +kernel
theorem d15_15 : decode prog_48_method_29_code 15 = .ok (.dup_x2, 1) := by decide +kernel
theorem d15_16 : decode prog_48_method_29_code 16 = .ok (.iconst 1, 1) := by decide +kernel
theorem d15_17 : decode prog_48_method_29_code 17 = .ok (.iadd, 1) := by decide +kernel
theorem d15_18 : decode prog_48_method_29_code 18 = .ok (.iastore, 1) := by decide +kernel
theorem d15_19 : decode prog_48_method_29_code 19 = .ok (.invokevirtual 263, 3) := by decide +kernel
theorem d15_22 : decode prog_48_method_29_code 22 = .ok (.istore 6, 2) := by decide +kernel
theorem d15_24 : decode prog_48_method_29_code 24 = .ok (.aload_n 1, 1) := by decide +kernel
theorem d15_25 : decode prog_48_method_29_code 25 = .ok (.iload 6, 2) := by decide +kernel
theorem d15_27 : decode prog_48_method_29_code 27 = .ok (.aload_n 2, 1) := by decide +kernel
theorem d15_28 : decode prog_48_method_29_code 28 = .ok (.invokevirtual 266, 3) := by decide +kernel
theorem d15_31 : decode prog_48_method_29_code 31 = .ok (.iastore, 1) := by decide +kernel
theorem d15_32 : decode prog_48_method_29_code 32 = .ok (.aload_n 1, 1) := by decide +kernel
theorem d15_33 : decode prog_48_method_29_code 33 = .ok (.iload 6, 2) := by decide +kernel
theorem d15_35 : decode prog_48_method_29_code 35 = .ok (.iconst 1, 1) := by decide +kernel
theorem d15_36 : decode prog_48_method_29_code 36 = .ok (.iadd, 1) := by decide +kernel
theorem d15_37 : decode prog_48_method_29_code 37 = .ok (.iload_n 3, 1) := by decide +kernel
theorem d15_38 : decode prog_48_method_29_code 38 = .ok (.iastore, 1) := by decide +kernel
theorem d15_39 : decode prog_48_method_29_code 39 = .ok (.aload_n 1, 1) := by decide +kernel
theorem d15_40 : decode prog_48_method_29_code 40 = .ok (.iload 6, 2) := by decide +kernel
theorem d15_42 : decode prog_48_method_29_code 42 = .ok (.iconst 2, 1) := by decide +kernel
theorem d15_43 : decode prog_48_method_29_code 43 = .ok (.iadd, 1) := by decide +kernel
theorem d15_44 : decode prog_48_method_29_code 44 = .ok (.iload 4, 2) := by decide +kernel
theorem d15_46 : decode prog_48_method_29_code 46 = .ok (.iastore, 1) := by decide +kernel
theorem d15_47 : decode prog_48_method_29_code 47 = .ok (.aload_n 1, 1) := by decide +kernel
theorem d15_48 : decode prog_48_method_29_code 48 = .ok (.iload 6, 2) := by decide +kernel
theorem d15_50 : decode prog_48_method_29_code 50 = .ok (.iconst 3, 1) := by decide +kernel
theorem d15_51 : decode prog_48_method_29_code 51 = .ok (.iadd, 1) := by decide +kernel
theorem d15_52 : decode prog_48_method_29_code 52 = .ok (.iload 5, 2) := by decide +kernel
theorem d15_54 : decode prog_48_method_29_code 54 = .ok (.iastore, 1) := by decide +kernel
theorem d15_55 : decode prog_48_method_29_code 55 = .ok (.return_, 1) := by decide +kernel
abbrev y16 : MethodName := ⟨"dev/happenstance/model/HappensBefore", "clock", "(I)I"⟩
theorem d16_0 : decode prog_48_method_22_code 0 = .ok (.aload_n 0, 1) := by decide +kernel
theorem d16_1 : decode prog_48_method_22_code 1 = .ok (.getfield 73, 3) := by decide +kernel
theorem d16_4 : decode prog_48_method_22_code 4 = .ok (.astore_n 3, 1) := by decide +kernel
theorem d16_5 : decode prog_48_method_22_code 5 = .ok (.aload_n 3, 1) := by decide +kernel
theorem d16_6 : decode prog_48_method_22_code 6 = .ok (.instanceof 63, 3) := by decide +kernel
theorem d16_9 : decode prog_48_method_22_code 9 = .ok (.ifCond .eq 11, 3) := by decide +kernel
theorem d16_12 : decode prog_48_method_22_code 12 = .ok (.aload_n 3, 1) := by decide +kernel
theorem d16_13 : decode prog_48_method_22_code 13 = .ok (.checkcast 63, 3) := by decide +kernel
theorem d16_16 : decode prog_48_method_22_code 16 = .ok (.astore_n 2, 1) := by decide +kernel
theorem d16_17 : decode prog_48_method_22_code 17 = .ok (.goto 13, 3) := by decide +kernel
theorem d16_20 : decode prog_48_method_22_code 20 = .ok (.new 200, 3) := by decide +kernel
theorem d16_23 : decode prog_48_method_22_code 23 = .ok (.dup, 1) := by decide +kernel
theorem d16_24 : decode prog_48_method_22_code 24 = .ok (.ldc 233, 2) := by decide +kernel
theorem d16_26 : decode prog_48_method_22_code 26 = .ok (.invokespecial 208, 3) := by decide +kernel
theorem d16_29 : decode prog_48_method_22_code 29 = .ok (.athrow, 1) := by decide +kernel
theorem d16_30 : decode prog_48_method_22_code 30 = .ok (.aload_n 2, 1) := by decide +kernel
theorem d16_31 : decode prog_48_method_22_code 31 = .ok (.iload_n 1, 1) := by decide +kernel
theorem d16_32 : decode prog_48_method_22_code 32 = .ok (.invokevirtual 235, 3) := by decide +kernel
theorem d16_35 : decode prog_48_method_22_code 35 = .ok (.ireturn, 1) := by decide +kernel
abbrev y17 : MethodName := ⟨"dev/happenstance/model/HappensBefore", "counts", "([IIII)Z"⟩
theorem d17_0 : decode prog_48_method_26_code 0 = .ok (.aload_n 0, 1) := by decide +kernel
theorem d17_1 : decode prog_48_method_26_code 1 = .ok (.iload_n 1, 1) := by decide +kernel
theorem d17_2 : decode prog_48_method_26_code 2 = .ok (.iload_n 2, 1) := by decide +kernel
theorem d17_3 : decode prog_48_method_26_code 3 = .ok (.iadd, 1) := by decide +kernel
theorem d17_4 : decode prog_48_method_26_code 4 = .ok (.iaload, 1) := by decide +kernel
theorem d17_5 : decode prog_48_method_26_code 5 = .ok (.iload_n 3, 1) := by decide +kernel
theorem d17_6 : decode prog_48_method_26_code 6 = .ok (.if_icmp .lt 7, 3) := by decide +kernel
theorem d17_9 : decode prog_48_method_26_code 9 = .ok (.iconst 1, 1) := by decide +kernel
theorem d17_10 : decode prog_48_method_26_code 10 = .ok (.goto 4, 3) := by decide +kernel
theorem d17_13 : decode prog_48_method_26_code 13 = .ok (.iconst 0, 1) := by decide +kernel
theorem d17_14 : decode prog_48_method_26_code 14 = .ok (.ireturn, 1) := by decide +kernel
abbrev y18 : MethodName := ⟨"dev/happenstance/model/HappensBefore", "count", "([III)I"⟩
theorem d18_0 : decode prog_48_method_19_code 0 = .ok (.aload_n 0, 1) := by decide +kernel
theorem d18_1 : decode prog_48_method_19_code 1 = .ok (.aload_n 1, 1) := by decide +kernel
theorem d18_2 : decode prog_48_method_19_code 2 = .ok (.getstatic 143, 3) := by decide +kernel
theorem d18_5 : decode prog_48_method_19_code 5 = .ok (.iload_n 2, 1) := by decide +kernel
theorem d18_6 : decode prog_48_method_19_code 6 = .ok (.iconst 0, 1) := by decide +kernel
theorem d18_7 : decode prog_48_method_19_code 7 = .ok (.iload_n 3, 1) := by decide +kernel
theorem d18_8 : decode prog_48_method_19_code 8 = .ok (.invokevirtual 118, 3) := by decide +kernel
theorem d18_11 : decode prog_48_method_19_code 11 = .ok (.aload_n 0, 1) := by decide +kernel
theorem d18_12 : decode prog_48_method_19_code 12 = .ok (.getfield 73, 3) := by decide +kernel
theorem d18_15 : decode prog_48_method_19_code 15 = .ok (.aload_n 1, 1) := by decide +kernel
theorem d18_16 : decode prog_48_method_19_code 16 = .ok (.iload_n 2, 1) := by decide +kernel
theorem d18_17 : decode prog_48_method_19_code 17 = .ok (.invokeinterface 146 3, 5) := by decide +kernel
theorem d18_22 : decode prog_48_method_19_code 22 = .ok (.ireturn, 1) := by decide +kernel
abbrev y19 : MethodName := ⟨"dev/happenstance/model/HappensBefore$InState", "count", "([II)I"⟩
theorem d19_0 : decode prog_51_method_4_code 0 = .ok (.aload_n 1, 1) := by decide +kernel
theorem d19_1 : decode prog_51_method_4_code 1 = .ok (.aload_n 0, 1) := by decide +kernel
theorem d19_2 : decode prog_51_method_4_code 2 = .ok (.iload_n 2, 1) := by decide +kernel
theorem d19_3 : decode prog_51_method_4_code 3 = .ok (.invokevirtual 16, 3) := by decide +kernel
theorem d19_6 : decode prog_51_method_4_code 6 = .ok (.iload_n 2, 1) := by decide +kernel
theorem d19_7 : decode prog_51_method_4_code 7 = .ok (.iadd, 1) := by decide +kernel
theorem d19_8 : decode prog_51_method_4_code 8 = .ok (.dup2, 1) := by decide +kernel
theorem d19_9 : decode prog_51_method_4_code 9 = .ok (.iaload, 1) := by decide +kernel
theorem d19_10 : decode prog_51_method_4_code 10 = .ok (.iconst 1, 1) := by decide +kernel
theorem d19_11 : decode prog_51_method_4_code 11 = .ok (.iadd, 1) := by decide +kernel
theorem d19_12 : decode prog_51_method_4_code 12 = .ok (.dup_x2, 1) := by decide +kernel
theorem d19_13 : decode prog_51_method_4_code 13 = .ok (.iastore, 1) := by decide +kernel
theorem d19_14 : decode prog_51_method_4_code 14 = .ok (.ireturn, 1) := by decide +kernel
abbrev y20 : MethodName := ⟨"dev/happenstance/model/HappensBefore", "acquire", "([IIII)V"⟩
theorem d20_0 : decode prog_48_method_12_code 0 = .ok (.aload_n 0, 1) := by decide +kernel
theorem d20_1 : decode prog_48_method_12_code 1 = .ok (.aload_n 1, 1) := by decide +kernel
theorem d20_2 : decode prog_48_method_12_code 2 = .ok (.iload_n 2, 1) := by decide +kernel
theorem d20_3 : decode prog_48_method_12_code 3 = .ok (.aload_n 0, 1) := by decide +kernel
theorem d20_4 : decode prog_48_method_12_code 4 = .ok (.iload_n 3, 1) := by decide +kernel
theorem d20_5 : decode prog_48_method_12_code 5 = .ok (.invokevirtual 104, 3) := by decide +kernel
theorem d20_8 : decode prog_48_method_12_code 8 = .ok (.invokevirtual 108, 3) := by decide +kernel
theorem d20_11 : decode prog_48_method_12_code 11 = .ok (.aload_n 0, 1) := by decide +kernel
theorem d20_12 : decode prog_48_method_12_code 12 = .ok (.aload_n 1, 1) := by decide +kernel
theorem d20_13 : decode prog_48_method_12_code 13 = .ok (.getstatic 112, 3) := by decide +kernel
theorem d20_16 : decode prog_48_method_12_code 16 = .ok (.iload_n 2, 1) := by decide +kernel
theorem d20_17 : decode prog_48_method_12_code 17 = .ok (.iload_n 3, 1) := by decide +kernel
theorem d20_18 : decode prog_48_method_12_code 18 = .ok (.iload 4, 2) := by decide +kernel
theorem d20_20 : decode prog_48_method_12_code 20 = .ok (.invokevirtual 118, 3) := by decide +kernel
theorem d20_23 : decode prog_48_method_12_code 23 = .ok (.return_, 1) := by decide +kernel
theorem pf_0 : plainFor x = true := by first | exact plainFor_of_name (by first | (simp [plainName, overriddenIn, x]; done) | decide +kernel) | decide +kernel
theorem pd_0 : parseMethodDescriptor "(III)Z" = some ⟨[.int, .int, .int], some .boolean⟩ := by decide +kernel
theorem pf_1 : plainFor y1 = true := by first | exact plainFor_of_name (by first | (simp [plainName, overriddenIn, y1]; done) | decide +kernel) | decide +kernel
theorem pd_1 : parseMethodDescriptor "(I[IIZI)V" = some ⟨[.int, (.array .int), .int, .boolean, .int], none⟩ := by decide +kernel
theorem pf_2 : plainFor y2 = true := by first | exact plainFor_of_name (by first | (simp [plainName, overriddenIn, y2]; done) | decide +kernel) | decide +kernel
theorem pd_2 : parseMethodDescriptor "(I[IIZII)V" = some ⟨[.int, (.array .int), .int, .boolean, .int, .int], none⟩ := by decide +kernel
theorem pf_3 : plainFor y3 = true := by first | exact plainFor_of_name (by first | (simp [plainName, overriddenIn, y3]; done) | decide +kernel) | decide +kernel
theorem pd_3 : parseMethodDescriptor "(I[IILdev/happenstance/model/HappensBefore$Keeping;II)V" = some ⟨[.int, (.array .int), .int, (.object "dev/happenstance/model/HappensBefore$Keeping"), .int, .int], none⟩ := by decide +kernel
theorem pf_5 : plainFor y5 = true := by first | exact plainFor_of_name (by first | (simp [plainName, overriddenIn, y5]; done) | decide +kernel) | decide +kernel
theorem pd_5 : parseMethodDescriptor "(IIIZ)I" = some ⟨[.int, .int, .int, .boolean], some .int⟩ := by decide +kernel
theorem pf_6 : plainFor y6 = true := by first | exact plainFor_of_name (by first | (simp [plainName, overriddenIn, y6]; done) | decide +kernel) | decide +kernel
theorem pd_6 : parseMethodDescriptor "(J)I" = some ⟨[.long], some .int⟩ := by decide +kernel
theorem pf_7 : plainFor y7 = true := by first | exact plainFor_of_name (by first | (simp [plainName, overriddenIn, y7]; done) | decide +kernel) | decide +kernel
theorem pd_7 : parseMethodDescriptor "()I" = some ⟨[], some .int⟩ := by decide +kernel
theorem pf_8 : plainFor y8 = true := by first | exact plainFor_of_name (by first | (simp [plainName, overriddenIn, y8]; done) | decide +kernel) | decide +kernel
theorem pd_8 : parseMethodDescriptor "(II)V" = some ⟨[.int, .int], none⟩ := by decide +kernel
theorem pf_9 : plainFor y9 = true := by first | exact plainFor_of_name (by first | (simp [plainName, overriddenIn, y9]; done) | decide +kernel) | decide +kernel
theorem pd_9 : parseMethodDescriptor "([IIII)V" = some ⟨[(.array .int), .int, .int, .int], none⟩ := by decide +kernel
theorem pf_10 : plainFor y10 = true := by first | exact plainFor_of_name (by first | (simp [plainName, overriddenIn, y10]; done) | decide +kernel) | decide +kernel
theorem pd_10 : parseMethodDescriptor "(I)I" = some ⟨[.int], some .int⟩ := by decide +kernel
theorem pf_11 : plainFor y11 = true := by first | exact plainFor_of_name (by first | (simp [plainName, overriddenIn, y11]; done) | decide +kernel) | decide +kernel
theorem pd_11 : parseMethodDescriptor "([III)V" = some ⟨[(.array .int), .int, .int], none⟩ := by decide +kernel
theorem pf_12 : plainFor y12 = true := by first | exact plainFor_of_name (by first | (simp [plainName, overriddenIn, y12]; done) | decide +kernel) | decide +kernel
theorem pd_12 : parseMethodDescriptor "([III)V" = some ⟨[(.array .int), .int, .int], none⟩ := by decide +kernel
theorem pf_13 : plainFor y13 = true := by first | exact plainFor_of_name (by first | (simp [plainName, overriddenIn, y13]; done) | decide +kernel) | decide +kernel
theorem pd_13 : parseMethodDescriptor "(I)I" = some ⟨[.int], some .int⟩ := by decide +kernel
theorem pf_14 : plainFor y14 = true := by first | exact plainFor_of_name (by first | (simp [plainName, overriddenIn, y14]; done) | decide +kernel) | decide +kernel
theorem pd_14 : parseMethodDescriptor "(II)I" = some ⟨[.int, .int], some .int⟩ := by decide +kernel
theorem pf_15 : plainFor y15 = true := by first | exact plainFor_of_name (by first | (simp [plainName, overriddenIn, y15]; done) | decide +kernel) | decide +kernel
theorem pd_15 : parseMethodDescriptor "([ILdev/happenstance/model/HappensBefore$Kind;III)V" = some ⟨[(.array .int), (.object "dev/happenstance/model/HappensBefore$Kind"), .int, .int, .int], none⟩ := by decide +kernel
theorem pf_16 : plainFor y16 = true := by first | exact plainFor_of_name (by first | (simp [plainName, overriddenIn, y16]; done) | decide +kernel) | decide +kernel
theorem pd_16 : parseMethodDescriptor "(I)I" = some ⟨[.int], some .int⟩ := by decide +kernel
theorem pf_17 : plainFor y17 = true := by first | exact plainFor_of_name (by first | (simp [plainName, overriddenIn, y17]; done) | decide +kernel) | decide +kernel
theorem pd_17 : parseMethodDescriptor "([IIII)Z" = some ⟨[(.array .int), .int, .int, .int], some .boolean⟩ := by decide +kernel
theorem pf_18 : plainFor y18 = true := by first | exact plainFor_of_name (by first | (simp [plainName, overriddenIn, y18]; done) | decide +kernel) | decide +kernel
theorem pd_18 : parseMethodDescriptor "([III)I" = some ⟨[(.array .int), .int, .int], some .int⟩ := by decide +kernel
theorem pf_19 : plainFor y19 = true := by first | exact plainFor_of_name (by first | (simp [plainName, overriddenIn, y19]; done) | decide +kernel) | decide +kernel
theorem pd_19 : parseMethodDescriptor "([II)I" = some ⟨[(.array .int), .int], some .int⟩ := by decide +kernel
theorem pf_20 : plainFor y20 = true := by first | exact plainFor_of_name (by first | (simp [plainName, overriddenIn, y20]; done) | decide +kernel) | decide +kernel
theorem pd_20 : parseMethodDescriptor "([IIII)V" = some ⟨[(.array .int), .int, .int, .int], none⟩ := by decide +kernel
theorem own_eqv {t : Term} {k : Int32} {args : Array Value} {s : State} (h : (Jvm.Cond.eq t (Term.int k)).value args s none s [] = some true) : t.eval args s none [] s = some (.int k) := by
  simp only [Jvm.Cond.value, Term.eval] at h
  cases ht : t.eval args s none [] s with
  | none => simp [ht] at h
  | some y => cases y <;> simp [ht] at h ⊢ <;> exact h

def own_max (x y : Int32) : Int32 := if x < y then y else x

theorem own_sta {Z : State} {h h' : Heap} {C n d : String} {v : Value} {b : Addr} (F : Sta Z h C n d v) (K : Keep h h' [b]) (hb : ∀ c : Cell, h[b]? = some c → c.vm.isStatics = false) : Sta Z h' C n d v := by
  obtain ⟨cf, i, k, f, st, cell, h1, h2, h3, h4, h5, h6, h7⟩ := F
  refine ⟨cf, i, k, f, st, cell, h1, h2, h3, h4, K.2.1 st cell h5 (fun q => ?_), h6, h7⟩
  cases List.mem_singleton.mp q
  rw [hb cell h5] at h6
  cases h6
theorem own_arr_plain {Z : State} {h : Heap} {a : Addr} {k : ClassId} {ty : FieldType} {z : Int32} {vs : List Value} {d : Value} (V : Arv Z h a k ty z vs d) : ∀ c : Cell, h[a]? = some c → c.vm.isStatics = false := by
  obtain ⟨cl, A, -⟩ := V
  intro c q
  cases A.1.symm.trans q
  exact A.plain

theorem ef_rmMax (m : MethodId) (x0 x1 : Int32) : entryFrame m #[(.int x0), (.int x1)] 2 = mkF m 0 #[.val (.int x0), .val (.int x1)] [] := by first | (simp [entryFrame, mkF, argsToLocals, Value.category]; done) | rfl
set_option maxRecDepth 65536 in
set_option maxHeartbeats 40000000 in
theorem rmMax (l : Launch) (Z : State) (a0 : Array Value) (hw : ∀ d ∈ tables_1, d.before a0 Z = true) (x0 x1 : Int32) (h0 : Heap) :
    OMeets l Z y14 jdk_29_method_65_code 2 (some .int) ({ frames := 0, cells := 0, slots := 0, locals := 0 } : Room) #[(.int x0), (.int x1)] h0 (OPure (some (.int (own_max x0 x1))) h0) := by
  refine met (Q := OPure (some (.int (own_max x0 x1))) h0) pf_14 (fun m => ef_rmMax m x0 x1) fun p e s m below meth c T0 P0 => ?_
  refine G.iloadN P0 d14_0 rfl (pc' := 1) rfl ?_
  refine G.iloadN P0 d14_1 rfl (pc' := 2) rfl ?_
  refine G.icmp_lt P0 d14_2 (by decide) (pcY := 9) (by decide) (pcN := 5) rfl (fun c1 => ?_) (fun c1 => ?_)
  · --
    refine G.iloadN P0 d14_9 rfl (pc' := 10) rfl ?_
    have e_ : x1 = own_max x0 x1 := (if_pos c1).symm
    exact G.retI P0 d14_10 (by decide) (by decide) ⟨sI e_, rfl, rfl⟩
  · --
    refine G.iloadN P0 d14_5 rfl (pc' := 6) rfl ?_
    refine G.goto P0 d14_6 (by decide) (pc' := 10) (by decide) ?_
    have e_ : x0 = own_max x0 x1 := (if_neg c1).symm
    exact G.retI P0 d14_10 (by decide) (by decide) ⟨sI e_, rfl, rfl⟩

theorem ef_rmInts (m : MethodId)  : entryFrame m #[(.long (7 : Int64))] 2 = mkF m 0 #[.val (.long (7 : Int64)), .second] [] := by first | (simp [entryFrame, mkF, argsToLocals, Value.category]; done) | rfl
set_option maxRecDepth 65536 in
set_option maxHeartbeats 40000000 in
theorem rmInts (l : Launch) (Z : State) (a0 : Array Value) (hw : ∀ d ∈ tables_1, d.before a0 Z = true)  (h0 : Heap) :
    OMeets l Z y6 prog_48_method_6_code 2 (some .int) ({ frames := 0, cells := 0, slots := 0, locals := 0 } : Room) #[(.long (7 : Int64))] h0 (OPure (some (.int (7 : Int32))) h0) := by
  refine met (Q := OPure (some (.int (7 : Int32))) h0) pf_6 (fun m => ef_rmInts m ) fun p e s m below meth c T0 P0 => ?_
  refine G.lloadN P0 d6_0 rfl (pc' := 1) rfl ?_
  refine G.ldcJ P0 (wk hw 39 rfl) d6_1 (pc' := 4) rfl ?_
  refine G.lcmp P0 d6_4 (z := (-1 : Int32)) (by decide) (pc' := 5) rfl ?_
  refine G.if_le P0 d6_5 (by decide) (pcY := 22) (by decide) (pcN := 8) rfl (fun c1 => ?_) (fun c1 => absurd c1 (by decide))
  refine G.lloadN P0 d6_22 rfl (pc' := 23) rfl ?_
  refine G.l2i P0 d6_23 (z := (7 : Int32)) (by decide) (pc' := 24) rfl ?_
  exact G.retI P0 d6_24 (by decide) (by decide) ⟨rfl, rfl, rfl⟩

theorem ef_rmSz (m : MethodId)  : entryFrame m #[(.int (2 : Int32)), (.int (1 : Int32)), (.int (0 : Int32)), (.int (1 : Int32))] 8 = mkF m 0 #[.val (.int (2 : Int32)), .val (.int (1 : Int32)), .val (.int (0 : Int32)), .val (.int (1 : Int32)), .unset, .unset, .unset, .unset] [] := by first | (simp [entryFrame, mkF, argsToLocals, Value.category]; done) | rfl
set_option maxRecDepth 65536 in
set_option maxHeartbeats 40000000 in
theorem rmSz (l : Launch) (Z : State) (a0 : Array Value) (hw : ∀ d ∈ tables_1, d.before a0 Z = true)  (h0 : Heap) :
    OMeets l Z y5 prog_48_method_5_code 8 (some .int) ({ frames := 1, cells := 0, slots := 0, locals := 13 } : Room) #[(.int (2 : Int32)), (.int (1 : Int32)), (.int (0 : Int32)), (.int (1 : Int32))] h0 (OPure (some (.int (7 : Int32))) h0) := by
  refine met (Q := OPure (some (.int (7 : Int32))) h0) pf_5 (fun m => ef_rmSz m ) fun p e s m below meth c T0 P0 => ?_
  refine G.iloadN P0 d5_0 rfl (pc' := 1) rfl ?_
  refine G.i2l P0 d5_1 (z := (1 : Int64)) (by decide) (pc' := 2) rfl ?_
  refine G.ldcJ P0 (wk hw 35 rfl) d5_2 (pc' := 5) rfl ?_
  refine G.iloadN P0 d5_5 rfl (pc' := 6) rfl ?_
  refine G.i2l P0 d5_6 (z := (0 : Int64)) (by decide) (pc' := 7) rfl ?_
  refine G.lmul P0 d5_7 (z := (0 : Int64)) (by decide) (pc' := 8) rfl ?_
  refine G.ladd P0 d5_8 (z := (1 : Int64)) (by decide) (pc' := 9) rfl ?_
  refine G.lstore P0 d5_9 (l' := #[.val (.int (2 : Int32)), .val (.int (1 : Int32)), .val (.int (0 : Int32)), .val (.int (1 : Int32)), .val (.long (1 : Int64)), .second, .unset, .unset]) rfl (pc' := 11) rfl ?_
  refine G.iloadN P0 d5_11 rfl (pc' := 12) rfl ?_
  refine G.if_eq P0 d5_12 (by decide) (pcY := 29) (by decide) (pcN := 15) rfl (fun c1 => absurd c1 (by decide)) (fun c1 => ?_)
  refine G.iloadN P0 d5_15 rfl (pc' := 16) rfl ?_
  refine G.i2l P0 d5_16 (z := (2 : Int64)) (by decide) (pc' := 17) rfl ?_
  refine G.iloadN P0 d5_17 rfl (pc' := 18) rfl ?_
  refine G.i2l P0 d5_18 (z := (1 : Int64)) (by decide) (pc' := 19) rfl ?_
  refine G.ladd P0 d5_19 (z := (3 : Int64)) (by decide) (pc' := 20) rfl ?_
  refine G.iloadN P0 d5_20 rfl (pc' := 21) rfl ?_
  refine G.i2l P0 d5_21 (z := (0 : Int64)) (by decide) (pc' := 22) rfl ?_
  refine G.ladd P0 d5_22 (z := (3 : Int64)) (by decide) (pc' := 23) rfl ?_
  refine G.iloadN P0 d5_23 rfl (pc' := 24) rfl ?_
  refine G.i2l P0 d5_24 (z := (2 : Int64)) (by decide) (pc' := 25) rfl ?_
  refine G.lmul P0 d5_25 (z := (6 : Int64)) (by decide) (pc' := 26) rfl ?_
  refine G.goto P0 d5_26 (by decide) (pc' := 30) (by decide) ?_
  refine G.lstore P0 d5_30 (l' := #[.val (.int (2 : Int32)), .val (.int (1 : Int32)), .val (.int (0 : Int32)), .val (.int (1 : Int32)), .val (.long (1 : Int64)), .second, .val (.long (6 : Int64)), .second]) rfl (pc' := 32) rfl ?_
  refine G.lload P0 d5_32 rfl (pc' := 34) rfl ?_
  refine G.lload P0 d5_34 rfl (pc' := 36) rfl ?_
  refine G.ladd P0 d5_36 (z := (7 : Int64)) (by decide) (pc' := 37) rfl ?_
  refine G.callSP P0 (rmInts l Z a0 hw h0) (wk hw 36 rfl) (wk hw 37 rfl) (wk hw 3 rfl) (wk hw 38 rfl) (by decide) pd_6 (argsL := [(.long (7 : Int64))]) (rest := []) rfl rfl rfl rfl (W := 0) (Nat.le_of_eq rfl) (by decide) d5_37 (pc' := 40) rfl fun T2 P2 => ?_
  show Go p e below _ (T2.setTop (mkF m 40 #[.val (.int (2 : Int32)), .val (.int (1 : Int32)), .val (.int (0 : Int32)), .val (.int (1 : Int32)), .val (.long (1 : Int64)), .second, .val (.long (6 : Int64)), .second] [(.int (7 : Int32))]))
  exact G.retI P2 d5_40 (by decide) (by decide) ⟨rfl, rfl, rfl⟩

theorem ef_rmOrd (m : MethodId) (a : Addr) : entryFrame m #[(.ref a)] 1 = mkF m 0 #[.val (.ref a)] [] := by first | (simp [entryFrame, mkF, argsToLocals, Value.category]; done) | rfl
set_option maxRecDepth 65536 in
set_option maxHeartbeats 40000000 in
theorem rmOrd (l : Launch) (Z : State) (a0 : Array Value) (hw : ∀ d ∈ tables_1, d.before a0 Z = true) (a : Addr) (k : Int32) (h0 : Heap) (FO : Fld Z h0 a "java/lang/Enum" "ordinal" "I" (.int k)) :
    OMeets l Z y7 jdk_37_method_2_code 1 (some .int) ({ frames := 0, cells := 0, slots := 0, locals := 0 } : Room) #[(.ref a)] h0 (OPure (some (.int k)) h0) := by
  refine met (Q := OPure (some (.int k)) h0) pf_7 (fun m => ef_rmOrd m a) fun p e s m below meth c T0 P0 => ?_
  refine G.aloadN P0 d7_0 rfl rfl (pc' := 1) rfl ?_
  refine G.getF P0 (host := "") (Or.inl (wk hw 53 rfl)) Via.refl FO d7_1 (pc' := 4) rfl fun T1 P1 => ?_
  exact G.retI P1 d7_4 (by decide) (by decide) ⟨rfl, rfl, rfl⟩

theorem ef_rmIn (m : MethodId) (a : Addr) (x1 x2 : Int32) : entryFrame m #[(.ref a), (.int x1), (.int x2)] 3 = mkF m 0 #[.val (.ref a), .val (.int x1), .val (.int x2)] [] := by first | (simp [entryFrame, mkF, argsToLocals, Value.category]; done) | rfl
set_option maxRecDepth 65536 in
set_option maxHeartbeats 40000000 in
theorem rmIn (l : Launch) (Z : State) (a0 : Array Value) (hw : ∀ d ∈ tables_1, d.before a0 Z = true) (a : Addr) (x1 x2 : Int32) (h0 : Heap) (n0 : Nat) (g0 : n0 ≤ a) (E0 : Exa Z h0 a "dev/happenstance/model/HappensBefore$InState") (F_at : Fld Z h0 a "dev/happenstance/model/HappensBefore$InState" "at" "I" (.int (0 : Int32))) (F_threads : Fld Z h0 a "dev/happenstance/model/HappensBefore$InState" "threads" "I" (.int (0 : Int32))) :
    OMeets l Z y8 prog_51_method_1_code 3 none ({ frames := 1, cells := 0, slots := 0, locals := 12 } : Room) #[(.ref a), (.int x1), (.int x2)] h0 (fun v h L => v = none ∧ Fr n0 L ∧ Keep h0 h [a] ∧ Fld Z h a "dev/happenstance/model/HappensBefore$InState" "at" "I" (.int x1) ∧ Fld Z h a "dev/happenstance/model/HappensBefore$InState" "threads" "I" (.int x2)) := by
  refine met (Q := fun v h L => v = none ∧ Fr n0 L ∧ Keep h0 h [a] ∧ Fld Z h a "dev/happenstance/model/HappensBefore$InState" "at" "I" (.int x1) ∧ Fld Z h a "dev/happenstance/model/HappensBefore$InState" "threads" "I" (.int x2)) pf_8 (fun m => ef_rmIn m a x1 x2) fun p e s m below meth c T0 P0 => ?_
  have N0 := Fr.nil n0
  have K0 := Keep.refl h0 [a]
  refine G.aloadN P0 d8_0 rfl rfl (pc' := 1) rfl ?_
  obtain ⟨T1, X1, e1, s1⟩ := Jvm.RoadKit.initO P0.st P0.x P0.z P0.ow (wk hw 61 rfl) (wk hw 17 rfl) (wk hw 18 rfl) P0.eh (g := (mkF m 1 #[.val (.ref a), .val (.int x1), .val (.int x2)] [(.ref a)])) rfl (by rw [P0.mx]; rfl) rfl (hb P0.bt d8_1) (by decide) (W := 0) (by show 2 * 0 + _ ≤ _; exact Nat.le_of_eq rfl) (by decide)
  have P1 := Pos.re P0 X1 e1
  refine Go.via s1 ?_
  show Go p e below _ (T1.setTop (mkF m 4 #[.val (.ref a), .val (.int x1), .val (.int x2)] []))
  refine G.aloadN P1 d8_4 rfl rfl (pc' := 5) rfl ?_
  refine G.iloadN P1 d8_5 rfl (pc' := 6) rfl ?_
  refine G.putF P1 (host := "") (Or.inl (wk hw 62 rfl)) Via.refl F_at E0 (Or.inr ⟨(wk hw 63 rfl), rfl, rfl⟩) (wk hw 56 rfl) (ty := .int) (by decide) rfl rfl d8_6 (pc' := 9) rfl fun T2 h2 P2 W2 => ?_
  have f2 := F_at.same W2
  have N3 := Fr.snoc P2.st N0 g0
  have K4 := K0.wr W2 (Or.inl (List.mem_of_getElem? (i := 0) rfl))
  refine G.aloadN P2 d8_9 rfl rfl (pc' := 10) rfl ?_
  refine G.iloadN P2 d8_10 rfl (pc' := 11) rfl ?_
  have f5 := (F_threads.other W2 (Or.inr (slot_ne (Or.inr (wk hw 65 rfl)) (Or.inr (wk hw 63 rfl)) (by decide) (t := .int) (t' := .int) (by decide) (by decide))))
  have f6 := (E0.wr W2)
  refine G.putF P2 (host := "") (Or.inl (wk hw 64 rfl)) Via.refl f5 f6 (Or.inr ⟨(wk hw 65 rfl), rfl, rfl⟩) (wk hw 56 rfl) (ty := .int) (by decide) rfl rfl d8_11 (pc' := 14) rfl fun T7 h7 P7 W7 => ?_
  have f7 := f5.same W7
  have N8 := Fr.snoc P7.st N3 g0
  have K9 := K4.wr W7 (Or.inl (List.mem_of_getElem? (i := 0) rfl))
  have f10 := (f2.other W7 (Or.inr (slot_ne (Or.inr (wk hw 63 rfl)) (Or.inr (wk hw 65 rfl)) (by decide) (t := .int) (t' := .int) (by decide) (by decide))))
  exact G.retV P7 d8_14 (by decide) (by decide) ⟨rfl, N8, K9, f10, f7⟩

theorem ef_rmC3 (m : MethodId) (a b ks : Addr) : entryFrame m #[(.ref a), (.int (2 : Int32)), (.ref b), (.int (0 : Int32)), (.ref ks), (.int (0 : Int32)), (.int (-1 : Int32))] 7 = mkF m 0 #[.val (.ref a), .val (.int (2 : Int32)), .val (.ref b), .val (.int (0 : Int32)), .val (.ref ks), .val (.int (0 : Int32)), .val (.int (-1 : Int32))] [] := by first | (simp [entryFrame, mkF, argsToLocals, Value.category]; done) | rfl
set_option maxRecDepth 65536 in
set_option maxHeartbeats 40000000 in
theorem rmC3 (l : Launch) (Z : State) (a0 : Array Value) (hw : ∀ d ∈ tables_1, d.before a0 Z = true) (a b ks : Addr) (kk : ClassId) (vs : List Value) (h0 : Heap) (n0 : Nat) (Z0 : n0 ≤ Array.size h0) (g0 : n0 ≤ a) (hab : a ≠ b) (hak : a ≠ ks) (E0 : Exa Z h0 a "dev/happenstance/model/HappensBefore") (Eb : Exa Z h0 b "[I") (Ek : Exa Z h0 ks "dev/happenstance/model/HappensBefore$Keeping") (Fk : Fld Z h0 ks "java/lang/Enum" "ordinal" "I" (.int (1 : Int32))) (SK : Sta Z h0 "dev/happenstance/model/HappensBefore$Keeping" "IN_STATE" "Ldev/happenstance/model/HappensBefore$Keeping;" (.ref ks)) (V : Arv Z h0 b kk .int (1 : Int32) vs (.int (0 : Int32))) (F_threads : Fld Z h0 a "dev/happenstance/model/HappensBefore" "threads" "I" (.int (0 : Int32))) (F_initialValues : Fld Z h0 a "dev/happenstance/model/HappensBefore" "initialValues" "[I" .null) (F_end : Fld Z h0 a "dev/happenstance/model/HappensBefore" "end" "I" (.int (0 : Int32))) (F_memory : Fld Z h0 a "dev/happenstance/model/HappensBefore" "memory" "I" (.int (0 : Int32))) (F_holders : Fld Z h0 a "dev/happenstance/model/HappensBefore" "holders" "I" (.int (0 : Int32))) (F_clocks : Fld Z h0 a "dev/happenstance/model/HappensBefore" "clocks" "Ldev/happenstance/model/HappensBefore$Clocks;" .null) (F_log : Fld Z h0 a "dev/happenstance/model/HappensBefore" "log" "I" (.int (0 : Int32))) :
    OMeets l Z y3 prog_48_method_3_code 7 none ({ frames := 2, cells := 2, slots := 3, locals := 35 } : Room) #[(.ref a), (.int (2 : Int32)), (.ref b), (.int (0 : Int32)), (.ref ks), (.int (0 : Int32)), (.int (-1 : Int32))] h0 (fun v h L => v = none ∧ Fr n0 L ∧ Keep h0 h [a] ∧ Exa Z h a "dev/happenstance/model/HappensBefore" ∧ ∃ ic, Array.size h0 ≤ ic ∧ n0 ≤ ic ∧ Exa Z h ic "dev/happenstance/model/HappensBefore$InState" ∧ Fld Z h a "dev/happenstance/model/HappensBefore" "threads" "I" (.int (2 : Int32)) ∧ Fld Z h a "dev/happenstance/model/HappensBefore" "clocks" "Ldev/happenstance/model/HappensBefore$Clocks;" (.ref ic) ∧ Fld Z h a "dev/happenstance/model/HappensBefore" "log" "I" (.int (-1 : Int32)) ∧ Fld Z h ic "dev/happenstance/model/HappensBefore$InState" "at" "I" (.int (1 : Int32)) ∧ Fld Z h ic "dev/happenstance/model/HappensBefore$InState" "threads" "I" (.int (2 : Int32))) := by
  refine met (Q := fun v h L => v = none ∧ Fr n0 L ∧ Keep h0 h [a] ∧ Exa Z h a "dev/happenstance/model/HappensBefore" ∧ ∃ ic, Array.size h0 ≤ ic ∧ n0 ≤ ic ∧ Exa Z h ic "dev/happenstance/model/HappensBefore$InState" ∧ Fld Z h a "dev/happenstance/model/HappensBefore" "threads" "I" (.int (2 : Int32)) ∧ Fld Z h a "dev/happenstance/model/HappensBefore" "clocks" "Ldev/happenstance/model/HappensBefore$Clocks;" (.ref ic) ∧ Fld Z h a "dev/happenstance/model/HappensBefore" "log" "I" (.int (-1 : Int32)) ∧ Fld Z h ic "dev/happenstance/model/HappensBefore$InState" "at" "I" (.int (1 : Int32)) ∧ Fld Z h ic "dev/happenstance/model/HappensBefore$InState" "threads" "I" (.int (2 : Int32))) pf_3 (fun m => ef_rmC3 m a b ks) fun p e s m below meth c T0 P0 => ?_
  have N0 := Fr.nil n0
  have K0 := Keep.refl h0 [a]
  refine G.aloadN P0 d3_0 rfl rfl (pc' := 1) rfl ?_
  obtain ⟨T1, X1, e1, s1⟩ := Jvm.RoadKit.initO P0.st P0.x P0.z P0.ow (wk hw 16 rfl) (wk hw 17 rfl) (wk hw 18 rfl) P0.eh (g := (mkF m 1 #[.val (.ref a), .val (.int (2 : Int32)), .val (.ref b), .val (.int (0 : Int32)), .val (.ref ks), .val (.int (0 : Int32)), .val (.int (-1 : Int32))] [(.ref a)])) rfl (by rw [P0.mx]; rfl) rfl (hb P0.bt d3_1) (by decide) (W := 0) (by show 2 * 0 + _ ≤ _; exact Nat.le_of_eq rfl) (by decide)
  have P1 := Pos.re P0 X1 e1
  refine Go.via s1 ?_
  show Go p e below _ (T1.setTop (mkF m 4 #[.val (.ref a), .val (.int (2 : Int32)), .val (.ref b), .val (.int (0 : Int32)), .val (.ref ks), .val (.int (0 : Int32)), .val (.int (-1 : Int32))] []))
  refine G.aloadN P1 d3_4 rfl rfl (pc' := 5) rfl ?_
  refine G.iloadN P1 d3_5 rfl (pc' := 6) rfl ?_
  refine G.putF P1 (host := "") (Or.inl (wk hw 19 rfl)) Via.refl F_threads E0 (Or.inr ⟨(wk hw 20 rfl), rfl, rfl⟩) (wk hw 2 rfl) (ty := .int) (by decide) rfl rfl d3_6 (pc' := 9) rfl fun T2 h2 P2 W2 => ?_
  have f2 := F_threads.same W2
  have N3 := Fr.snoc P2.st N0 g0
  have K4 := K0.wr W2 (Or.inl (List.mem_of_getElem? (i := 0) rfl))
  refine G.aloadN P2 d3_9 rfl rfl (pc' := 10) rfl ?_
  refine G.aloadN P2 d3_10 rfl rfl (pc' := 11) rfl ?_
  have f5 := (V.other W2 (Ne.symm hab))
  have f6 := (Eb.wr W2)
  have f7 := (E0.wr W2)
  have f8 := (Ek.wr W2)
  have z9 : n0 ≤ Array.size h2 := (Nat.le_trans Z0 (Nat.le_of_eq W2.size.symm))
  refine G.clone P2 (wk hw 21 rfl) (wk hw 22 rfl) (wk hw 26 rfl) (wk hw 24 rfl) (wk hw 25 rfl) (wk hw 27 rfl) f5 f6 rfl (W := 1) (cap := 1) (Nat.le_of_eq rfl) (by decide) (by decide) d3_11 (pc' := 14) rfl fun T10 h10 a10 g10 P10 E10 V10 X10 => ?_
  have n11 : a ≠ a10 := by rw [g10]; exact Nat.ne_of_lt f7.lt
  have n12 : b ≠ a10 := by rw [g10]; exact Nat.ne_of_lt f5.lt
  have n13 : ks ≠ a10 := by rw [g10]; exact Nat.ne_of_lt f8.lt
  have g14 : n0 ≤ a10 := by rw [g10]; exact z9
  have q10 := (Nat.le_trans K4.1 (Nat.le_of_eq g10.symm))
  have K15 := K4.ext E10
  refine G.cast P10 (wk hw 28 rfl) (Ins.self X10) d3_14 (pc' := 17) rfl fun T16 P16 => ?_
  have f17 := ((F_initialValues.other W2 (Or.inr (slot_ne (Or.inr (wk hw 31 rfl)) (Or.inr (wk hw 20 rfl)) (by decide) (t := (.array .int)) (t' := .int) (by decide) (by decide)))).ext E10)
  have f18 := (f7.ext E10)
  refine G.putF P16 (host := "") (Or.inl (wk hw 30 rfl)) Via.refl f17 f18 (Or.inr ⟨(wk hw 31 rfl), rfl, rfl⟩) (wk hw 2 rfl) (ty := (.array .int)) (by decide) rfl rfl d3_17 (pc' := 20) rfl fun T19 h19 P19 W19 => ?_
  have f19 := f17.same W19
  have N20 := Fr.snoc P19.st N3 g0
  have K21 := K15.wr W19 (Or.inl (List.mem_of_getElem? (i := 0) rfl))
  refine G.aloadN P19 d3_20 rfl rfl (pc' := 21) rfl ?_
  refine G.iload P19 d3_21 rfl (pc' := 23) rfl ?_
  refine G.i2l P19 d3_23 (z := (0 : Int64)) (by decide) (pc' := 24) rfl ?_
  refine G.iloadN P19 d3_24 rfl (pc' := 25) rfl ?_
  refine G.aloadN P19 d3_25 rfl rfl (pc' := 26) rfl ?_
  have f22 := ((f5.ext E10).other W19 (Ne.symm hab))
  refine G.alen P19 f22 d3_26 (pc' := 27) rfl ?_
  refine G.iloadN P19 d3_27 rfl (pc' := 28) rfl ?_
  refine G.aload P19 d3_28 rfl rfl (pc' := 30) rfl ?_
  have f23 := (((SK.wr W2).ext E10).wr W19)
  refine G.getS P19 (host := "") (Or.inl (wk hw 10 rfl)) Via.refl f23 d3_30 (pc' := 33) rfl fun T24 P24 => ?_
  refine G.acmp_ne P24 d3_33 (by decide) (pcY := 40) (by decide) (pcN := 36) rfl (fun cc => absurd rfl cc) (fun cc => ?_)
  refine G.iconst P24 d3_36 (z := (1 : Int32)) rfl (pc' := 37) rfl ?_
  refine G.goto P24 d3_37 (by decide) (pc' := 41) (by decide) ?_
  refine G.callSP P24 (rmSz l Z a0 hw h19) (wk hw 32 rfl) (wk hw 33 rfl) (wk hw 3 rfl) (wk hw 34 rfl) (by decide) pd_5 (argsL := [(.int (2 : Int32)), (.int (1 : Int32)), (.int (0 : Int32)), (.int (1 : Int32))]) (rest := [(.long (0 : Int64)), (.ref a)]) rfl rfl rfl rfl (W := 3) (Nat.le_of_eq rfl) (by decide) d3_41 (pc' := 44) rfl fun T25 P25 => ?_
  show Go p e below _ (T25.setTop (mkF m 44 #[.val (.ref a), .val (.int (2 : Int32)), .val (.ref b), .val (.int (0 : Int32)), .val (.ref ks), .val (.int (0 : Int32)), .val (.int (-1 : Int32))] [(.int (7 : Int32)), (.long (0 : Int64)), (.ref a)]))
  refine G.i2l P25 d3_44 (z := (7 : Int64)) (by decide) (pc' := 45) rfl ?_
  refine G.ladd P25 d3_45 (z := (7 : Int64)) (by decide) (pc' := 46) rfl ?_
  refine G.callSP P25 (rmInts l Z a0 hw h19) (wk hw 36 rfl) (wk hw 37 rfl) (wk hw 3 rfl) (wk hw 38 rfl) (by decide) pd_6 (argsL := [(.long (7 : Int64))]) (rest := [(.ref a)]) rfl rfl rfl rfl (W := 1) (Nat.le_of_eq rfl) (by decide) d3_46 (pc' := 49) rfl fun T26 P26 => ?_
  show Go p e below _ (T26.setTop (mkF m 49 #[.val (.ref a), .val (.int (2 : Int32)), .val (.ref b), .val (.int (0 : Int32)), .val (.ref ks), .val (.int (0 : Int32)), .val (.int (-1 : Int32))] [(.int (7 : Int32)), (.ref a)]))
  have f27 := (((F_end.other W2 (Or.inr (slot_ne (Or.inr (wk hw 41 rfl)) (Or.inr (wk hw 20 rfl)) (by decide) (t := .int) (t' := .int) (by decide) (by decide)))).ext E10).other W19 (Or.inr (slot_ne (Or.inr (wk hw 41 rfl)) (Or.inr (wk hw 31 rfl)) (by decide) (t := .int) (t' := (.array .int)) (by decide) (by decide))))
  have f28 := (f18.wr W19)
  refine G.putF P26 (host := "") (Or.inl (wk hw 40 rfl)) Via.refl f27 f28 (Or.inr ⟨(wk hw 41 rfl), rfl, rfl⟩) (wk hw 2 rfl) (ty := .int) (by decide) rfl rfl d3_49 (pc' := 52) rfl fun T29 h29 P29 W29 => ?_
  have f29 := f27.same W29
  have N30 := Fr.snoc P29.st N20 g0
  have K31 := K21.wr W29 (Or.inl (List.mem_of_getElem? (i := 0) rfl))
  refine G.aloadN P29 d3_52 rfl rfl (pc' := 53) rfl ?_
  refine G.iload P29 d3_53 rfl (pc' := 55) rfl ?_
  have f32 := ((((F_memory.other W2 (Or.inr (slot_ne (Or.inr (wk hw 43 rfl)) (Or.inr (wk hw 20 rfl)) (by decide) (t := .int) (t' := .int) (by decide) (by decide)))).ext E10).other W19 (Or.inr (slot_ne (Or.inr (wk hw 43 rfl)) (Or.inr (wk hw 31 rfl)) (by decide) (t := .int) (t' := (.array .int)) (by decide) (by decide)))).other W29 (Or.inr (slot_ne (Or.inr (wk hw 43 rfl)) (Or.inr (wk hw 41 rfl)) (by decide) (t := .int) (t' := .int) (by decide) (by decide))))
  have f33 := (f28.wr W29)
  refine G.putF P29 (host := "") (Or.inl (wk hw 42 rfl)) Via.refl f32 f33 (Or.inr ⟨(wk hw 43 rfl), rfl, rfl⟩) (wk hw 2 rfl) (ty := .int) (by decide) rfl rfl d3_55 (pc' := 58) rfl fun T34 h34 P34 W34 => ?_
  have f34 := f32.same W34
  have N35 := Fr.snoc P34.st N30 g0
  have K36 := K31.wr W34 (Or.inl (List.mem_of_getElem? (i := 0) rfl))
  refine G.aloadN P34 d3_58 rfl rfl (pc' := 59) rfl ?_
  refine G.aloadN P34 d3_59 rfl rfl (pc' := 60) rfl ?_
  refine G.getF P34 (host := "") (Or.inl (wk hw 42 rfl)) Via.refl f34 d3_60 (pc' := 63) rfl fun T37 P37 => ?_
  refine G.aloadN P37 d3_63 rfl rfl (pc' := 64) rfl ?_
  have f38 := ((f22.other W29 (Ne.symm hab)).other W34 (Ne.symm hab))
  refine G.alen P37 f38 d3_64 (pc' := 65) rfl ?_
  refine G.iadd P37 d3_65 (z := (1 : Int32)) (by decide) (pc' := 66) rfl ?_
  have f39 := (((((F_holders.other W2 (Or.inr (slot_ne (Or.inr (wk hw 45 rfl)) (Or.inr (wk hw 20 rfl)) (by decide) (t := .int) (t' := .int) (by decide) (by decide)))).ext E10).other W19 (Or.inr (slot_ne (Or.inr (wk hw 45 rfl)) (Or.inr (wk hw 31 rfl)) (by decide) (t := .int) (t' := (.array .int)) (by decide) (by decide)))).other W29 (Or.inr (slot_ne (Or.inr (wk hw 45 rfl)) (Or.inr (wk hw 41 rfl)) (by decide) (t := .int) (t' := .int) (by decide) (by decide)))).other W34 (Or.inr (slot_ne (Or.inr (wk hw 45 rfl)) (Or.inr (wk hw 43 rfl)) (by decide) (t := .int) (t' := .int) (by decide) (by decide))))
  have f40 := (f33.wr W34)
  refine G.putF P37 (host := "") (Or.inl (wk hw 44 rfl)) Via.refl f39 f40 (Or.inr ⟨(wk hw 45 rfl), rfl, rfl⟩) (wk hw 2 rfl) (ty := .int) (by decide) rfl rfl d3_66 (pc' := 69) rfl fun T41 h41 P41 W41 => ?_
  have f41 := f39.same W41
  have N42 := Fr.snoc P41.st N35 g0
  have K43 := K36.wr W41 (Or.inl (List.mem_of_getElem? (i := 0) rfl))
  refine G.aloadN P41 d3_69 rfl rfl (pc' := 70) rfl ?_
  refine G.aload P41 d3_70 rfl rfl (pc' := 72) rfl ?_
  have f44 := ((((((Fk.other W2 (Or.inl (Ne.symm hak))).ext E10).other W19 (Or.inl (Ne.symm hak))).other W29 (Or.inl (Ne.symm hak))).other W34 (Or.inl (Ne.symm hak))).other W41 (Or.inl (Ne.symm hak)))
  have f45 := (((((f8.ext E10).wr W19).wr W29).wr W34).wr W41)
  refine G.callU P41 (rmOrd l Z a0 hw ks (1 : Int32) h41 f44) (wk hw 46 rfl) (wk hw 47 rfl) (wk hw 48 rfl) (by decide) (wk hw 50 rfl) (wk hw 49 rfl) (wk hw 51 rfl) (wk hw 52 rfl) f45 pd_7 (argsL := []) (rest := [(.ref a)]) rfl rfl rfl rfl (W := 1) (Nat.le_of_eq rfl) (by decide) d3_72 (pc' := 75) rfl (pureK fun T46 P46 => ?_)
  show Go p e below _ (T46.setTop (mkF m 75 #[.val (.ref a), .val (.int (2 : Int32)), .val (.ref b), .val (.int (0 : Int32)), .val (.ref ks), .val (.int (0 : Int32)), .val (.int (-1 : Int32))] [(.int (1 : Int32)), (.ref a)]))
  refine G.tsw P46 d3_75 (by decide) (o := 39) (by decide) (by decide) (pc' := 114) (by decide) ?_
  have f47 := (f40.wr W41)
  have f48 := ((((V10.other W19 (Ne.symm n11)).other W29 (Ne.symm n11)).other W34 (Ne.symm n11)).other W41 (Ne.symm n11))
  have f49 := (f38.other W41 (Ne.symm hab))
  have z50 : n0 ≤ Array.size h41 := (Nat.le_trans (Nat.le_trans (Nat.le_trans (Nat.le_trans (Nat.le_trans z9 E10.1) (Nat.le_of_eq W19.size.symm)) (Nat.le_of_eq W29.size.symm)) (Nat.le_of_eq W34.size.symm)) (Nat.le_of_eq W41.size.symm))
  refine G.newO P46 (wk hw 55 rfl) (wk hw 56 rfl) (wk hw 57 rfl) d3_114 (by decide) (pc' := 117) rfl fun T51 h51 a51 g51 P51 E51 A51 D51 => ?_
  have n52 : a ≠ a51 := by rw [g51]; exact Nat.ne_of_lt f47.lt
  have n53 : a10 ≠ a51 := by rw [g51]; exact Nat.ne_of_lt f48.lt
  have n54 : b ≠ a51 := by rw [g51]; exact Nat.ne_of_lt f49.lt
  have n55 : ks ≠ a51 := by rw [g51]; exact Nat.ne_of_lt f45.lt
  have g56 : n0 ≤ a51 := by rw [g51]; exact z50
  have q51 := (Nat.le_trans K43.1 (Nat.le_of_eq g51.symm))
  have K57 := K43.ext E51
  have f58 : Fld Z h51 a51 "dev/happenstance/model/HappensBefore$InState" "at" "I" (.int (0 : Int32)) := D51 (Or.inr (wk hw 63 rfl)) (ty := .int) (by decide)
  have f59 : Fld Z h51 a51 "dev/happenstance/model/HappensBefore$InState" "threads" "I" (.int (0 : Int32)) := D51 (Or.inr (wk hw 65 rfl)) (ty := .int) (by decide)
  refine G.dup P51 d3_117 rfl (pc' := 118) rfl ?_
  refine G.aloadN P51 d3_118 rfl rfl (pc' := 119) rfl ?_
  have f60 := (f41.ext E51)
  refine G.getF P51 (host := "") (Or.inl (wk hw 44 rfl)) Via.refl f60 d3_119 (pc' := 122) rfl fun T61 P61 => ?_
  refine G.iconst P61 d3_122 (z := (2 : Int32)) rfl (pc' := 123) rfl ?_
  refine G.iloadN P61 d3_123 rfl (pc' := 124) rfl ?_
  refine G.imul P61 d3_124 (z := (0 : Int32)) (by decide) (pc' := 125) rfl ?_
  refine G.iadd P61 d3_125 (z := (1 : Int32)) (by decide) (pc' := 126) rfl ?_
  refine G.iloadN P61 d3_126 rfl (pc' := 127) rfl ?_
  refine G.callI P61 (rmIn l Z a0 hw a51 (1 : Int32) (2 : Int32) h51 n0 g56 A51 f58 f59) rfl (wk hw 58 rfl) (wk hw 59 rfl) (wk hw 57 rfl) (wk hw 60 rfl) (by decide) pd_8 (argsL := [(.int (1 : Int32)), (.int (2 : Int32))]) (rest := [(.ref a51), (.ref a)]) rfl rfl rfl rfl (W := 2) (Nat.le_of_eq rfl) (by decide) d3_127 (pc' := 130) rfl fun T62 L62 v62 P62 Q62 => ?_
  obtain ⟨rfl, N62, K62, fa62, ft62⟩ := Q62
  have N63 := Fr.app N42 N62
  have K64 := K57.trans K62 (allS (Or.inr q51) all0)
  show Go p e below _ (T62.setTop (mkF m 130 #[.val (.ref a), .val (.int (2 : Int32)), .val (.ref b), .val (.int (0 : Int32)), .val (.ref ks), .val (.int (0 : Int32)), .val (.int (-1 : Int32))] [(.ref a51), (.ref a)]))
  refine G.goto P62 d3_130 (by decide) (pc' := 152) (by decide) ?_
  have f65 := ((((((((F_clocks.other W2 (Or.inr (slot_ne (Or.inr (wk hw 67 rfl)) (Or.inr (wk hw 20 rfl)) (by decide) (t := (.object "dev/happenstance/model/HappensBefore$Clocks")) (t' := .int) (by decide) (by decide)))).ext E10).other W19 (Or.inr (slot_ne (Or.inr (wk hw 67 rfl)) (Or.inr (wk hw 31 rfl)) (by decide) (t := (.object "dev/happenstance/model/HappensBefore$Clocks")) (t' := (.array .int)) (by decide) (by decide)))).other W29 (Or.inr (slot_ne (Or.inr (wk hw 67 rfl)) (Or.inr (wk hw 41 rfl)) (by decide) (t := (.object "dev/happenstance/model/HappensBefore$Clocks")) (t' := .int) (by decide) (by decide)))).other W34 (Or.inr (slot_ne (Or.inr (wk hw 67 rfl)) (Or.inr (wk hw 43 rfl)) (by decide) (t := (.object "dev/happenstance/model/HappensBefore$Clocks")) (t' := .int) (by decide) (by decide)))).other W41 (Or.inr (slot_ne (Or.inr (wk hw 67 rfl)) (Or.inr (wk hw 45 rfl)) (by decide) (t := (.object "dev/happenstance/model/HappensBefore$Clocks")) (t' := .int) (by decide) (by decide)))).ext E51).keep K62 (ninS n52 nin0))
  have f66 := ((f47.ext E51).keep K62)
  refine G.putF P62 (host := "") (Or.inl (wk hw 66 rfl)) Via.refl f65 f66 (Or.inr ⟨(wk hw 67 rfl), rfl, rfl⟩) (wk hw 2 rfl) (ty := (.object "dev/happenstance/model/HappensBefore$Clocks")) (by decide) rfl rfl d3_152 (pc' := 155) rfl fun T67 h67 P67 W67 => ?_
  have f67 := f65.same W67
  have N68 := Fr.snoc P67.st N63 g0
  have K69 := K64.wr W67 (Or.inl (List.mem_of_getElem? (i := 0) rfl))
  refine G.aloadN P67 d3_155 rfl rfl (pc' := 156) rfl ?_
  refine G.iload P67 d3_156 rfl (pc' := 158) rfl ?_
  have f70 := (((((((((F_log.other W2 (Or.inr (slot_ne (Or.inr (wk hw 69 rfl)) (Or.inr (wk hw 20 rfl)) (by decide) (t := .int) (t' := .int) (by decide) (by decide)))).ext E10).other W19 (Or.inr (slot_ne (Or.inr (wk hw 69 rfl)) (Or.inr (wk hw 31 rfl)) (by decide) (t := .int) (t' := (.array .int)) (by decide) (by decide)))).other W29 (Or.inr (slot_ne (Or.inr (wk hw 69 rfl)) (Or.inr (wk hw 41 rfl)) (by decide) (t := .int) (t' := .int) (by decide) (by decide)))).other W34 (Or.inr (slot_ne (Or.inr (wk hw 69 rfl)) (Or.inr (wk hw 43 rfl)) (by decide) (t := .int) (t' := .int) (by decide) (by decide)))).other W41 (Or.inr (slot_ne (Or.inr (wk hw 69 rfl)) (Or.inr (wk hw 45 rfl)) (by decide) (t := .int) (t' := .int) (by decide) (by decide)))).ext E51).keep K62 (ninS n52 nin0)).other W67 (Or.inr (slot_ne (Or.inr (wk hw 69 rfl)) (Or.inr (wk hw 67 rfl)) (by decide) (t := .int) (t' := (.object "dev/happenstance/model/HappensBefore$Clocks")) (by decide) (by decide))))
  have f71 := (f66.wr W67)
  refine G.putF P67 (host := "") (Or.inl (wk hw 68 rfl)) Via.refl f70 f71 (Or.inr ⟨(wk hw 69 rfl), rfl, rfl⟩) (wk hw 2 rfl) (ty := .int) (by decide) rfl rfl d3_158 (pc' := 161) rfl fun T72 h72 P72 W72 => ?_
  have f72 := f70.same W72
  have N73 := Fr.snoc P72.st N68 g0
  have K74 := K69.wr W72 (Or.inl (List.mem_of_getElem? (i := 0) rfl))
  have f75 := (f71.wr W72)
  have f76 := (((A51.keep K62).wr W67).wr W72)
  have f77 := (((((((((f2.ext E10).other W19 (Or.inr (slot_ne (Or.inr (wk hw 20 rfl)) (Or.inr (wk hw 31 rfl)) (by decide) (t := .int) (t' := (.array .int)) (by decide) (by decide)))).other W29 (Or.inr (slot_ne (Or.inr (wk hw 20 rfl)) (Or.inr (wk hw 41 rfl)) (by decide) (t := .int) (t' := .int) (by decide) (by decide)))).other W34 (Or.inr (slot_ne (Or.inr (wk hw 20 rfl)) (Or.inr (wk hw 43 rfl)) (by decide) (t := .int) (t' := .int) (by decide) (by decide)))).other W41 (Or.inr (slot_ne (Or.inr (wk hw 20 rfl)) (Or.inr (wk hw 45 rfl)) (by decide) (t := .int) (t' := .int) (by decide) (by decide)))).ext E51).keep K62 (ninS n52 nin0)).other W67 (Or.inr (slot_ne (Or.inr (wk hw 20 rfl)) (Or.inr (wk hw 67 rfl)) (by decide) (t := .int) (t' := (.object "dev/happenstance/model/HappensBefore$Clocks")) (by decide) (by decide)))).other W72 (Or.inr (slot_ne (Or.inr (wk hw 20 rfl)) (Or.inr (wk hw 69 rfl)) (by decide) (t := .int) (t' := .int) (by decide) (by decide))))
  have f78 := (f67.other W72 (Or.inr (slot_ne (Or.inr (wk hw 67 rfl)) (Or.inr (wk hw 69 rfl)) (by decide) (t := (.object "dev/happenstance/model/HappensBefore$Clocks")) (t' := .int) (by decide) (by decide))))
  have f79 := ((fa62.other W67 (Or.inl (Ne.symm n52))).other W72 (Or.inl (Ne.symm n52)))
  have f80 := ((ft62.other W67 (Or.inl (Ne.symm n52))).other W72 (Or.inl (Ne.symm n52)))
  exact G.retV P72 d3_161 (by decide) (by decide) ⟨rfl, N73, K74, f75, _, q51, g56, f76, f77, f78, f72, f79, f80⟩

theorem ef_rmC2 (m : MethodId) (a b : Addr) : entryFrame m #[(.ref a), (.int (2 : Int32)), (.ref b), (.int (0 : Int32)), (.int (1 : Int32)), (.int (0 : Int32)), (.int (-1 : Int32))] 7 = mkF m 0 #[.val (.ref a), .val (.int (2 : Int32)), .val (.ref b), .val (.int (0 : Int32)), .val (.int (1 : Int32)), .val (.int (0 : Int32)), .val (.int (-1 : Int32))] [] := by first | (simp [entryFrame, mkF, argsToLocals, Value.category]; done) | rfl
set_option maxRecDepth 65536 in
set_option maxHeartbeats 40000000 in
theorem rmC2 (l : Launch) (Z : State) (a0 : Array Value) (hw : ∀ d ∈ tables_1, d.before a0 Z = true) (a b ks : Addr) (kk : ClassId) (vs : List Value) (h0 : Heap) (n0 : Nat) (Z0 : n0 ≤ Array.size h0) (g0 : n0 ≤ a) (hab : a ≠ b) (hak : a ≠ ks) (E0 : Exa Z h0 a "dev/happenstance/model/HappensBefore") (Eb : Exa Z h0 b "[I") (Ek : Exa Z h0 ks "dev/happenstance/model/HappensBefore$Keeping") (Fk : Fld Z h0 ks "java/lang/Enum" "ordinal" "I" (.int (1 : Int32))) (SK : Sta Z h0 "dev/happenstance/model/HappensBefore$Keeping" "IN_STATE" "Ldev/happenstance/model/HappensBefore$Keeping;" (.ref ks)) (V : Arv Z h0 b kk .int (1 : Int32) vs (.int (0 : Int32))) (F_threads : Fld Z h0 a "dev/happenstance/model/HappensBefore" "threads" "I" (.int (0 : Int32))) (F_initialValues : Fld Z h0 a "dev/happenstance/model/HappensBefore" "initialValues" "[I" .null) (F_end : Fld Z h0 a "dev/happenstance/model/HappensBefore" "end" "I" (.int (0 : Int32))) (F_memory : Fld Z h0 a "dev/happenstance/model/HappensBefore" "memory" "I" (.int (0 : Int32))) (F_holders : Fld Z h0 a "dev/happenstance/model/HappensBefore" "holders" "I" (.int (0 : Int32))) (F_clocks : Fld Z h0 a "dev/happenstance/model/HappensBefore" "clocks" "Ldev/happenstance/model/HappensBefore$Clocks;" .null) (F_log : Fld Z h0 a "dev/happenstance/model/HappensBefore" "log" "I" (.int (0 : Int32))) :
    OMeets l Z y2 prog_48_method_2_code 7 none ({ frames := 3, cells := 2, slots := 3, locals := 53 } : Room) #[(.ref a), (.int (2 : Int32)), (.ref b), (.int (0 : Int32)), (.int (1 : Int32)), (.int (0 : Int32)), (.int (-1 : Int32))] h0 (fun v h L => v = none ∧ Fr n0 L ∧ Keep h0 h [a] ∧ Exa Z h a "dev/happenstance/model/HappensBefore" ∧ ∃ ic, Array.size h0 ≤ ic ∧ n0 ≤ ic ∧ Exa Z h ic "dev/happenstance/model/HappensBefore$InState" ∧ Fld Z h a "dev/happenstance/model/HappensBefore" "threads" "I" (.int (2 : Int32)) ∧ Fld Z h a "dev/happenstance/model/HappensBefore" "clocks" "Ldev/happenstance/model/HappensBefore$Clocks;" (.ref ic) ∧ Fld Z h a "dev/happenstance/model/HappensBefore" "log" "I" (.int (-1 : Int32)) ∧ Fld Z h ic "dev/happenstance/model/HappensBefore$InState" "at" "I" (.int (1 : Int32)) ∧ Fld Z h ic "dev/happenstance/model/HappensBefore$InState" "threads" "I" (.int (2 : Int32))) := by
  refine met (Q := fun v h L => v = none ∧ Fr n0 L ∧ Keep h0 h [a] ∧ Exa Z h a "dev/happenstance/model/HappensBefore" ∧ ∃ ic, Array.size h0 ≤ ic ∧ n0 ≤ ic ∧ Exa Z h ic "dev/happenstance/model/HappensBefore$InState" ∧ Fld Z h a "dev/happenstance/model/HappensBefore" "threads" "I" (.int (2 : Int32)) ∧ Fld Z h a "dev/happenstance/model/HappensBefore" "clocks" "Ldev/happenstance/model/HappensBefore$Clocks;" (.ref ic) ∧ Fld Z h a "dev/happenstance/model/HappensBefore" "log" "I" (.int (-1 : Int32)) ∧ Fld Z h ic "dev/happenstance/model/HappensBefore$InState" "at" "I" (.int (1 : Int32)) ∧ Fld Z h ic "dev/happenstance/model/HappensBefore$InState" "threads" "I" (.int (2 : Int32))) pf_2 (fun m => ef_rmC2 m a b) fun p e s m below meth c T0 P0 => ?_
  have N0 := Fr.nil n0
  have K0 := Keep.refl h0 [a]
  refine G.aloadN P0 d2_0 rfl rfl (pc' := 1) rfl ?_
  refine G.iloadN P0 d2_1 rfl (pc' := 2) rfl ?_
  refine G.aloadN P0 d2_2 rfl rfl (pc' := 3) rfl ?_
  refine G.iloadN P0 d2_3 rfl (pc' := 4) rfl ?_
  refine G.iload P0 d2_4 rfl (pc' := 6) rfl ?_
  refine G.if_eq P0 d2_6 (by decide) (pcY := 15) (by decide) (pcN := 9) rfl (fun c1 => absurd c1 (by decide)) (fun c1 => ?_)
  refine G.getS P0 (host := "") (Or.inl (wk hw 10 rfl)) Via.refl SK d2_9 (pc' := 12) rfl fun T2 P2 => ?_
  refine G.goto P2 d2_12 (by decide) (pc' := 18) (by decide) ?_
  refine G.iload P2 d2_18 rfl (pc' := 20) rfl ?_
  refine G.iload P2 d2_20 rfl (pc' := 22) rfl ?_
  refine G.callI P2 (rmC3 l Z a0 hw a b ks kk vs h0 n0 Z0 g0 hab hak E0 Eb Ek Fk SK V F_threads F_initialValues F_end F_memory F_holders F_clocks F_log) rfl (wk hw 13 rfl) (wk hw 14 rfl) (wk hw 3 rfl) (wk hw 15 rfl) (by decide) pd_3 (argsL := [(.int (2 : Int32)), (.ref b), (.int (0 : Int32)), (.ref ks), (.int (0 : Int32)), (.int (-1 : Int32))]) (rest := []) rfl rfl rfl rfl (W := 0) (Nat.le_of_eq rfl) (by decide) d2_22 (pc' := 25) rfl fun T3 L3 v3 P3 Q3 => ?_
  obtain ⟨rfl, N3, K3, Q3⟩ := Q3
  have N4 := Fr.app N0 N3
  have K5 := K0.trans K3 (allS (Or.inl (List.mem_of_getElem? (i := 0) rfl)) all0)
  show Go p e below _ (T3.setTop (mkF m 25 #[.val (.ref a), .val (.int (2 : Int32)), .val (.ref b), .val (.int (0 : Int32)), .val (.int (1 : Int32)), .val (.int (0 : Int32)), .val (.int (-1 : Int32))] []))
  exact G.retV P3 d2_25 (by decide) (by decide) ⟨rfl, N4, K5, Q3⟩

theorem ef_rmC1 (m : MethodId) (a b : Addr) : entryFrame m #[(.ref a), (.int (2 : Int32)), (.ref b), (.int (0 : Int32)), (.int (1 : Int32)), (.int (0 : Int32))] 6 = mkF m 0 #[.val (.ref a), .val (.int (2 : Int32)), .val (.ref b), .val (.int (0 : Int32)), .val (.int (1 : Int32)), .val (.int (0 : Int32))] [] := by first | (simp [entryFrame, mkF, argsToLocals, Value.category]; done) | rfl
set_option maxRecDepth 65536 in
set_option maxHeartbeats 40000000 in
theorem rmC1 (l : Launch) (Z : State) (a0 : Array Value) (hw : ∀ d ∈ tables_1, d.before a0 Z = true) (a b ks : Addr) (kk : ClassId) (vs : List Value) (h0 : Heap) (n0 : Nat) (Z0 : n0 ≤ Array.size h0) (g0 : n0 ≤ a) (hab : a ≠ b) (hak : a ≠ ks) (E0 : Exa Z h0 a "dev/happenstance/model/HappensBefore") (Eb : Exa Z h0 b "[I") (Ek : Exa Z h0 ks "dev/happenstance/model/HappensBefore$Keeping") (Fk : Fld Z h0 ks "java/lang/Enum" "ordinal" "I" (.int (1 : Int32))) (SK : Sta Z h0 "dev/happenstance/model/HappensBefore$Keeping" "IN_STATE" "Ldev/happenstance/model/HappensBefore$Keeping;" (.ref ks)) (V : Arv Z h0 b kk .int (1 : Int32) vs (.int (0 : Int32))) (F_threads : Fld Z h0 a "dev/happenstance/model/HappensBefore" "threads" "I" (.int (0 : Int32))) (F_initialValues : Fld Z h0 a "dev/happenstance/model/HappensBefore" "initialValues" "[I" .null) (F_end : Fld Z h0 a "dev/happenstance/model/HappensBefore" "end" "I" (.int (0 : Int32))) (F_memory : Fld Z h0 a "dev/happenstance/model/HappensBefore" "memory" "I" (.int (0 : Int32))) (F_holders : Fld Z h0 a "dev/happenstance/model/HappensBefore" "holders" "I" (.int (0 : Int32))) (F_clocks : Fld Z h0 a "dev/happenstance/model/HappensBefore" "clocks" "Ldev/happenstance/model/HappensBefore$Clocks;" .null) (F_log : Fld Z h0 a "dev/happenstance/model/HappensBefore" "log" "I" (.int (0 : Int32))) :
    OMeets l Z y1 prog_48_method_1_code 6 none ({ frames := 4, cells := 2, slots := 3, locals := 71 } : Room) #[(.ref a), (.int (2 : Int32)), (.ref b), (.int (0 : Int32)), (.int (1 : Int32)), (.int (0 : Int32))] h0 (fun v h L => v = none ∧ Fr n0 L ∧ Keep h0 h [a] ∧ Exa Z h a "dev/happenstance/model/HappensBefore" ∧ ∃ ic, Array.size h0 ≤ ic ∧ n0 ≤ ic ∧ Exa Z h ic "dev/happenstance/model/HappensBefore$InState" ∧ Fld Z h a "dev/happenstance/model/HappensBefore" "threads" "I" (.int (2 : Int32)) ∧ Fld Z h a "dev/happenstance/model/HappensBefore" "clocks" "Ldev/happenstance/model/HappensBefore$Clocks;" (.ref ic) ∧ Fld Z h a "dev/happenstance/model/HappensBefore" "log" "I" (.int (-1 : Int32)) ∧ Fld Z h ic "dev/happenstance/model/HappensBefore$InState" "at" "I" (.int (1 : Int32)) ∧ Fld Z h ic "dev/happenstance/model/HappensBefore$InState" "threads" "I" (.int (2 : Int32))) := by
  refine met (Q := fun v h L => v = none ∧ Fr n0 L ∧ Keep h0 h [a] ∧ Exa Z h a "dev/happenstance/model/HappensBefore" ∧ ∃ ic, Array.size h0 ≤ ic ∧ n0 ≤ ic ∧ Exa Z h ic "dev/happenstance/model/HappensBefore$InState" ∧ Fld Z h a "dev/happenstance/model/HappensBefore" "threads" "I" (.int (2 : Int32)) ∧ Fld Z h a "dev/happenstance/model/HappensBefore" "clocks" "Ldev/happenstance/model/HappensBefore$Clocks;" (.ref ic) ∧ Fld Z h a "dev/happenstance/model/HappensBefore" "log" "I" (.int (-1 : Int32)) ∧ Fld Z h ic "dev/happenstance/model/HappensBefore$InState" "at" "I" (.int (1 : Int32)) ∧ Fld Z h ic "dev/happenstance/model/HappensBefore$InState" "threads" "I" (.int (2 : Int32))) pf_1 (fun m => ef_rmC1 m a b) fun p e s m below meth c T0 P0 => ?_
  have N0 := Fr.nil n0
  have K0 := Keep.refl h0 [a]
  refine G.aloadN P0 d1_0 rfl rfl (pc' := 1) rfl ?_
  refine G.iloadN P0 d1_1 rfl (pc' := 2) rfl ?_
  refine G.aloadN P0 d1_2 rfl rfl (pc' := 3) rfl ?_
  refine G.iloadN P0 d1_3 rfl (pc' := 4) rfl ?_
  refine G.iload P0 d1_4 rfl (pc' := 6) rfl ?_
  refine G.iload P0 d1_6 rfl (pc' := 8) rfl ?_
  refine G.iconst P0 d1_8 (z := (-1 : Int32)) rfl (pc' := 9) rfl ?_
  refine G.callI P0 (rmC2 l Z a0 hw a b ks kk vs h0 n0 Z0 g0 hab hak E0 Eb Ek Fk SK V F_threads F_initialValues F_end F_memory F_holders F_clocks F_log) rfl (wk hw 7 rfl) (wk hw 8 rfl) (wk hw 3 rfl) (wk hw 9 rfl) (by decide) pd_2 (argsL := [(.int (2 : Int32)), (.ref b), (.int (0 : Int32)), (.int (1 : Int32)), (.int (0 : Int32)), (.int (-1 : Int32))]) (rest := []) rfl rfl rfl rfl (W := 0) (Nat.le_of_eq rfl) (by decide) d1_9 (pc' := 12) rfl fun T1 L1 v1 P1 Q1 => ?_
  obtain ⟨rfl, N1, K1, Q1⟩ := Q1
  have N2 := Fr.app N0 N1
  have K3 := K0.trans K1 (allS (Or.inl (List.mem_of_getElem? (i := 0) rfl)) all0)
  show Go p e below _ (T1.setTop (mkF m 12 #[.val (.ref a), .val (.int (2 : Int32)), .val (.ref b), .val (.int (0 : Int32)), .val (.int (1 : Int32)), .val (.int (0 : Int32))] []))
  exact G.retV P1 d1_12 (by decide) (by decide) ⟨rfl, N2, K3, Q1⟩

theorem ef_rmSt0 (m : MethodId) (a : Addr) : entryFrame m #[(.ref a), (.int (0 : Int32))] 2 = mkF m 0 #[.val (.ref a), .val (.int (0 : Int32))] [] := by first | (simp [entryFrame, mkF, argsToLocals, Value.category]; done) | rfl
set_option maxRecDepth 65536 in
set_option maxHeartbeats 40000000 in
theorem rmSt0 (l : Launch) (Z : State) (a0 : Array Value) (hw : ∀ d ∈ tables_1, d.before a0 Z = true) (a : Addr) (h0 : Heap) (FA : Fld Z h0 a "dev/happenstance/model/HappensBefore$InState" "at" "I" (.int (1 : Int32))) (FT : Fld Z h0 a "dev/happenstance/model/HappensBefore$InState" "threads" "I" (.int (2 : Int32))) :
    OMeets l Z y13 prog_51_method_2_code 2 (some .int) ({ frames := 0, cells := 0, slots := 0, locals := 0 } : Room) #[(.ref a), (.int (0 : Int32))] h0 (OPure (some (.int (1 : Int32))) h0) := by
  refine met (Q := OPure (some (.int (1 : Int32))) h0) pf_13 (fun m => ef_rmSt0 m a) fun p e s m below meth c T0 P0 => ?_
  refine G.aloadN P0 d13_0 rfl rfl (pc' := 1) rfl ?_
  refine G.getF P0 (host := "") (Or.inl (wk hw 62 rfl)) Via.refl FA d13_1 (pc' := 4) rfl fun T1 P1 => ?_
  refine G.iloadN P1 d13_4 rfl (pc' := 5) rfl ?_
  refine G.aloadN P1 d13_5 rfl rfl (pc' := 6) rfl ?_
  refine G.getF P1 (host := "") (Or.inl (wk hw 64 rfl)) Via.refl FT d13_6 (pc' := 9) rfl fun T2 P2 => ?_
  refine G.imul P2 d13_9 (z := (0 : Int32)) (by decide) (pc' := 10) rfl ?_
  refine G.iadd P2 d13_10 (z := (1 : Int32)) (by decide) (pc' := 11) rfl ?_
  exact G.retI P2 d13_11 (by decide) (by decide) ⟨rfl, rfl, rfl⟩

theorem ef_rmSt1 (m : MethodId) (a : Addr) : entryFrame m #[(.ref a), (.int (1 : Int32))] 2 = mkF m 0 #[.val (.ref a), .val (.int (1 : Int32))] [] := by first | (simp [entryFrame, mkF, argsToLocals, Value.category]; done) | rfl
set_option maxRecDepth 65536 in
set_option maxHeartbeats 40000000 in
theorem rmSt1 (l : Launch) (Z : State) (a0 : Array Value) (hw : ∀ d ∈ tables_1, d.before a0 Z = true) (a : Addr) (h0 : Heap) (FA : Fld Z h0 a "dev/happenstance/model/HappensBefore$InState" "at" "I" (.int (1 : Int32))) (FT : Fld Z h0 a "dev/happenstance/model/HappensBefore$InState" "threads" "I" (.int (2 : Int32))) :
    OMeets l Z y13 prog_51_method_2_code 2 (some .int) ({ frames := 0, cells := 0, slots := 0, locals := 0 } : Room) #[(.ref a), (.int (1 : Int32))] h0 (OPure (some (.int (3 : Int32))) h0) := by
  refine met (Q := OPure (some (.int (3 : Int32))) h0) pf_13 (fun m => ef_rmSt1 m a) fun p e s m below meth c T0 P0 => ?_
  refine G.aloadN P0 d13_0 rfl rfl (pc' := 1) rfl ?_
  refine G.getF P0 (host := "") (Or.inl (wk hw 62 rfl)) Via.refl FA d13_1 (pc' := 4) rfl fun T1 P1 => ?_
  refine G.iloadN P1 d13_4 rfl (pc' := 5) rfl ?_
  refine G.aloadN P1 d13_5 rfl rfl (pc' := 6) rfl ?_
  refine G.getF P1 (host := "") (Or.inl (wk hw 64 rfl)) Via.refl FT d13_6 (pc' := 9) rfl fun T2 P2 => ?_
  refine G.imul P2 d13_9 (z := (2 : Int32)) (by decide) (pc' := 10) rfl ?_
  refine G.iadd P2 d13_10 (z := (3 : Int32)) (by decide) (pc' := 11) rfl ?_
  exact G.retI P2 d13_11 (by decide) (by decide) ⟨rfl, rfl, rfl⟩

theorem ef_rmSt2 (m : MethodId) (a : Addr) : entryFrame m #[(.ref a), (.int (2 : Int32))] 2 = mkF m 0 #[.val (.ref a), .val (.int (2 : Int32))] [] := by first | (simp [entryFrame, mkF, argsToLocals, Value.category]; done) | rfl
set_option maxRecDepth 65536 in
set_option maxHeartbeats 40000000 in
theorem rmSt2 (l : Launch) (Z : State) (a0 : Array Value) (hw : ∀ d ∈ tables_1, d.before a0 Z = true) (a : Addr) (h0 : Heap) (FA : Fld Z h0 a "dev/happenstance/model/HappensBefore$InState" "at" "I" (.int (1 : Int32))) (FT : Fld Z h0 a "dev/happenstance/model/HappensBefore$InState" "threads" "I" (.int (2 : Int32))) :
    OMeets l Z y13 prog_51_method_2_code 2 (some .int) ({ frames := 0, cells := 0, slots := 0, locals := 0 } : Room) #[(.ref a), (.int (2 : Int32))] h0 (OPure (some (.int (5 : Int32))) h0) := by
  refine met (Q := OPure (some (.int (5 : Int32))) h0) pf_13 (fun m => ef_rmSt2 m a) fun p e s m below meth c T0 P0 => ?_
  refine G.aloadN P0 d13_0 rfl rfl (pc' := 1) rfl ?_
  refine G.getF P0 (host := "") (Or.inl (wk hw 62 rfl)) Via.refl FA d13_1 (pc' := 4) rfl fun T1 P1 => ?_
  refine G.iloadN P1 d13_4 rfl (pc' := 5) rfl ?_
  refine G.aloadN P1 d13_5 rfl rfl (pc' := 6) rfl ?_
  refine G.getF P1 (host := "") (Or.inl (wk hw 64 rfl)) Via.refl FT d13_6 (pc' := 9) rfl fun T2 P2 => ?_
  refine G.imul P2 d13_9 (z := (4 : Int32)) (by decide) (pc' := 10) rfl ?_
  refine G.iadd P2 d13_10 (z := (5 : Int32)) (by decide) (pc' := 11) rfl ?_
  exact G.retI P2 d13_11 (by decide) (by decide) ⟨rfl, rfl, rfl⟩

theorem ef_rmICnt0 (m : MethodId) (a b : Addr) : entryFrame m #[(.ref a), (.ref b), (.int (0 : Int32))] 3 = mkF m 0 #[.val (.ref a), .val (.ref b), .val (.int (0 : Int32))] [] := by first | (simp [entryFrame, mkF, argsToLocals, Value.category]; done) | rfl
set_option maxRecDepth 65536 in
set_option maxHeartbeats 40000000 in
theorem rmICnt0 (l : Launch) (Z : State) (a0 : Array Value) (hw : ∀ d ∈ tables_1, d.before a0 Z = true) (a b : Addr) (kk : ClassId) (u0 u1 u2 u3 u4 u5 u6 : Int32) (h0 : Heap) (n0 : Nat) (gb : n0 ≤ b) (hab : a ≠ b) (E0 : Exa Z h0 a "dev/happenstance/model/HappensBefore$InState") (FA : Fld Z h0 a "dev/happenstance/model/HappensBefore$InState" "at" "I" (.int (1 : Int32))) (FT : Fld Z h0 a "dev/happenstance/model/HappensBefore$InState" "threads" "I" (.int (2 : Int32))) (V : Arv Z h0 b kk .int (7 : Int32) [(.int u0), (.int u1), (.int u2), (.int u3), (.int u4), (.int u5), (.int u6)] (.int (0 : Int32))) :
    OMeets l Z y19 prog_51_method_4_code 3 (some .int) ({ frames := 1, cells := 0, slots := 0, locals := 14 } : Room) #[(.ref a), (.ref b), (.int (0 : Int32))] h0 (fun v h L => v = some (.int (u1 + (1 : Int32))) ∧ Fr n0 L ∧ Keep h0 h [b] ∧ Arv Z h b kk .int (7 : Int32) [(.int u0), (.int (u1 + (1 : Int32))), (.int u2), (.int u3), (.int u4), (.int u5), (.int u6)] (.int (0 : Int32))) := by
  refine met (Q := fun v h L => v = some (.int (u1 + (1 : Int32))) ∧ Fr n0 L ∧ Keep h0 h [b] ∧ Arv Z h b kk .int (7 : Int32) [(.int u0), (.int (u1 + (1 : Int32))), (.int u2), (.int u3), (.int u4), (.int u5), (.int u6)] (.int (0 : Int32))) pf_19 (fun m => ef_rmICnt0 m a b) fun p e s m below meth c T0 P0 => ?_
  have N0 := Fr.nil n0
  have K0 := Keep.refl h0 [b]
  refine G.aloadN P0 d19_0 rfl rfl (pc' := 1) rfl ?_
  refine G.aloadN P0 d19_1 rfl rfl (pc' := 2) rfl ?_
  refine G.iloadN P0 d19_2 rfl (pc' := 3) rfl ?_
  refine G.callVP P0 (rmSt0 l Z a0 hw a h0 FA FT) (wk hw 92 rfl) (wk hw 93 rfl) (wk hw 95 rfl) rfl (wk hw 94 rfl) (wk hw 57 rfl) (wk hw 96 rfl) (by decide) E0 pd_13 (argsL := [(.int (0 : Int32))]) (rest := [(.ref b)]) rfl rfl rfl rfl (W := 1) (Nat.le_of_eq rfl) (by decide) d19_3 (pc' := 6) rfl fun T1 P1 => ?_
  show Go p e below _ (T1.setTop (mkF m 6 #[.val (.ref a), .val (.ref b), .val (.int (0 : Int32))] [(.int (1 : Int32)), (.ref b)]))
  refine G.iloadN P1 d19_6 rfl (pc' := 7) rfl ?_
  refine G.iadd P1 d19_7 (z := (1 : Int32)) (by decide) (pc' := 8) rfl ?_
  refine G.dup2 P1 d19_8 rfl rfl (pc' := 9) rfl ?_
  refine G.iaload P1 V (j := (1 : Int32)) (v := (.int u1)) (by decide) rfl d19_9 (pc' := 10) rfl ?_
  refine G.iconst P1 d19_10 (z := (1 : Int32)) rfl (pc' := 11) rfl ?_
  refine G.iadd P1 d19_11 rfl (pc' := 12) rfl ?_
  refine G.dupX2 P1 d19_12 rfl rfl rfl (pc' := 13) rfl ?_
  refine G.stI P1 V (1) rfl (by decide) (Nat.le_of_ble_eq_true rfl) d19_13 (pc' := 14) rfl fun T2 h2 P2 W2 V2 => ?_
  have V2p : Arv Z h2 b kk .int (7 : Int32) [(.int u0), (.int (u1 + (1 : Int32))), (.int u2), (.int u3), (.int u4), (.int u5), (.int u6)] (.int (0 : Int32)) := V2
  have N3 := Fr.snoc P2.st N0 gb
  have K4 := K0.wr W2 (Or.inl (List.mem_of_getElem? (i := 0) rfl))
  exact G.retI P2 d19_14 (by decide) (by decide) ⟨rfl, N3, K4, V2p⟩

theorem ef_rmICnt1 (m : MethodId) (a b : Addr) : entryFrame m #[(.ref a), (.ref b), (.int (1 : Int32))] 3 = mkF m 0 #[.val (.ref a), .val (.ref b), .val (.int (1 : Int32))] [] := by first | (simp [entryFrame, mkF, argsToLocals, Value.category]; done) | rfl
set_option maxRecDepth 65536 in
set_option maxHeartbeats 40000000 in
theorem rmICnt1 (l : Launch) (Z : State) (a0 : Array Value) (hw : ∀ d ∈ tables_1, d.before a0 Z = true) (a b : Addr) (kk : ClassId) (u0 u1 u2 u3 u4 u5 u6 : Int32) (h0 : Heap) (n0 : Nat) (gb : n0 ≤ b) (hab : a ≠ b) (E0 : Exa Z h0 a "dev/happenstance/model/HappensBefore$InState") (FA : Fld Z h0 a "dev/happenstance/model/HappensBefore$InState" "at" "I" (.int (1 : Int32))) (FT : Fld Z h0 a "dev/happenstance/model/HappensBefore$InState" "threads" "I" (.int (2 : Int32))) (V : Arv Z h0 b kk .int (7 : Int32) [(.int u0), (.int u1), (.int u2), (.int u3), (.int u4), (.int u5), (.int u6)] (.int (0 : Int32))) :
    OMeets l Z y19 prog_51_method_4_code 3 (some .int) ({ frames := 1, cells := 0, slots := 0, locals := 14 } : Room) #[(.ref a), (.ref b), (.int (1 : Int32))] h0 (fun v h L => v = some (.int (u4 + (1 : Int32))) ∧ Fr n0 L ∧ Keep h0 h [b] ∧ Arv Z h b kk .int (7 : Int32) [(.int u0), (.int u1), (.int u2), (.int u3), (.int (u4 + (1 : Int32))), (.int u5), (.int u6)] (.int (0 : Int32))) := by
  refine met (Q := fun v h L => v = some (.int (u4 + (1 : Int32))) ∧ Fr n0 L ∧ Keep h0 h [b] ∧ Arv Z h b kk .int (7 : Int32) [(.int u0), (.int u1), (.int u2), (.int u3), (.int (u4 + (1 : Int32))), (.int u5), (.int u6)] (.int (0 : Int32))) pf_19 (fun m => ef_rmICnt1 m a b) fun p e s m below meth c T0 P0 => ?_
  have N0 := Fr.nil n0
  have K0 := Keep.refl h0 [b]
  refine G.aloadN P0 d19_0 rfl rfl (pc' := 1) rfl ?_
  refine G.aloadN P0 d19_1 rfl rfl (pc' := 2) rfl ?_
  refine G.iloadN P0 d19_2 rfl (pc' := 3) rfl ?_
  refine G.callVP P0 (rmSt1 l Z a0 hw a h0 FA FT) (wk hw 92 rfl) (wk hw 93 rfl) (wk hw 95 rfl) rfl (wk hw 94 rfl) (wk hw 57 rfl) (wk hw 96 rfl) (by decide) E0 pd_13 (argsL := [(.int (1 : Int32))]) (rest := [(.ref b)]) rfl rfl rfl rfl (W := 1) (Nat.le_of_eq rfl) (by decide) d19_3 (pc' := 6) rfl fun T1 P1 => ?_
  show Go p e below _ (T1.setTop (mkF m 6 #[.val (.ref a), .val (.ref b), .val (.int (1 : Int32))] [(.int (3 : Int32)), (.ref b)]))
  refine G.iloadN P1 d19_6 rfl (pc' := 7) rfl ?_
  refine G.iadd P1 d19_7 (z := (4 : Int32)) (by decide) (pc' := 8) rfl ?_
  refine G.dup2 P1 d19_8 rfl rfl (pc' := 9) rfl ?_
  refine G.iaload P1 V (j := (4 : Int32)) (v := (.int u4)) (by decide) rfl d19_9 (pc' := 10) rfl ?_
  refine G.iconst P1 d19_10 (z := (1 : Int32)) rfl (pc' := 11) rfl ?_
  refine G.iadd P1 d19_11 rfl (pc' := 12) rfl ?_
  refine G.dupX2 P1 d19_12 rfl rfl rfl (pc' := 13) rfl ?_
  refine G.stI P1 V (4) rfl (by decide) (Nat.le_of_ble_eq_true rfl) d19_13 (pc' := 14) rfl fun T2 h2 P2 W2 V2 => ?_
  have V2p : Arv Z h2 b kk .int (7 : Int32) [(.int u0), (.int u1), (.int u2), (.int u3), (.int (u4 + (1 : Int32))), (.int u5), (.int u6)] (.int (0 : Int32)) := V2
  have N3 := Fr.snoc P2.st N0 gb
  have K4 := K0.wr W2 (Or.inl (List.mem_of_getElem? (i := 0) rfl))
  exact G.retI P2 d19_14 (by decide) (by decide) ⟨rfl, N3, K4, V2p⟩

theorem ef_rmITk2 (m : MethodId) (a b : Addr) : entryFrame m #[(.ref a), (.ref b), (.int (2 : Int32)), (.int (0 : Int32))] 7 = mkF m 0 #[.val (.ref a), .val (.ref b), .val (.int (2 : Int32)), .val (.int (0 : Int32)), .unset, .unset, .unset] [] := by first | (simp [entryFrame, mkF, argsToLocals, Value.category]; done) | rfl
set_option maxRecDepth 65536 in
set_option maxHeartbeats 40000000 in
theorem rmITk2 (l : Launch) (Z : State) (a0 : Array Value) (hw : ∀ d ∈ tables_1, d.before a0 Z = true) (a b : Addr) (kk : ClassId) (u0 u1 u2 u3 u4 u5 u6 : Int32) (h0 : Heap) (n0 : Nat) (gb : n0 ≤ b) (hab : a ≠ b) (E0 : Exa Z h0 a "dev/happenstance/model/HappensBefore$InState") (FA : Fld Z h0 a "dev/happenstance/model/HappensBefore$InState" "at" "I" (.int (1 : Int32))) (FT : Fld Z h0 a "dev/happenstance/model/HappensBefore$InState" "threads" "I" (.int (2 : Int32))) (V : Arv Z h0 b kk .int (7 : Int32) [(.int u0), (.int u1), (.int u2), (.int u3), (.int u4), (.int u5), (.int u6)] (.int (0 : Int32))) :
    OMeets l Z y12 prog_51_method_3_code 7 none ({ frames := 1, cells := 0, slots := 0, locals := 15 } : Room) #[(.ref a), (.ref b), (.int (2 : Int32)), (.int (0 : Int32))] h0 (fun v h L => v = none ∧ Fr n0 L ∧ Keep h0 h [b] ∧ Arv Z h b kk .int (7 : Int32) [(.int u0), (.int u1), (.int u2), (.int u3), (.int u4), (.int (own_max u5 u1)), (.int (own_max u6 u2))] (.int (0 : Int32))) := by
  refine met (Q := fun v h L => v = none ∧ Fr n0 L ∧ Keep h0 h [b] ∧ Arv Z h b kk .int (7 : Int32) [(.int u0), (.int u1), (.int u2), (.int u3), (.int u4), (.int (own_max u5 u1)), (.int (own_max u6 u2))] (.int (0 : Int32))) pf_12 (fun m => ef_rmITk2 m a b) fun p e s m below meth c T0 P0 => ?_
  have N0 := Fr.nil n0
  have K0 := Keep.refl h0 [b]
  refine G.aloadN P0 d12_0 rfl rfl (pc' := 1) rfl ?_
  refine G.iloadN P0 d12_1 rfl (pc' := 2) rfl ?_
  refine G.callVP P0 (rmSt2 l Z a0 hw a h0 FA FT) (wk hw 92 rfl) (wk hw 93 rfl) (wk hw 95 rfl) rfl (wk hw 94 rfl) (wk hw 57 rfl) (wk hw 96 rfl) (by decide) E0 pd_13 (argsL := [(.int (2 : Int32))]) (rest := []) rfl rfl rfl rfl (W := 0) (Nat.le_of_eq rfl) (by decide) d12_2 (pc' := 5) rfl fun T1 P1 => ?_
  show Go p e below _ (T1.setTop (mkF m 5 #[.val (.ref a), .val (.ref b), .val (.int (2 : Int32)), .val (.int (0 : Int32)), .unset, .unset, .unset] [(.int (5 : Int32))]))
  refine G.istore P1 d12_5 (l' := #[.val (.ref a), .val (.ref b), .val (.int (2 : Int32)), .val (.int (0 : Int32)), .val (.int (5 : Int32)), .unset, .unset]) rfl (pc' := 7) rfl ?_
  refine G.aloadN P1 d12_7 rfl rfl (pc' := 8) rfl ?_
  refine G.iloadN P1 d12_8 rfl (pc' := 9) rfl ?_
  refine G.callVP P1 (rmSt0 l Z a0 hw a h0 FA FT) (wk hw 92 rfl) (wk hw 93 rfl) (wk hw 95 rfl) rfl (wk hw 94 rfl) (wk hw 57 rfl) (wk hw 96 rfl) (by decide) E0 pd_13 (argsL := [(.int (0 : Int32))]) (rest := []) rfl rfl rfl rfl (W := 0) (Nat.le_of_eq rfl) (by decide) d12_9 (pc' := 12) rfl fun T2 P2 => ?_
  show Go p e below _ (T2.setTop (mkF m 12 #[.val (.ref a), .val (.ref b), .val (.int (2 : Int32)), .val (.int (0 : Int32)), .val (.int (5 : Int32)), .unset, .unset] [(.int (1 : Int32))]))
  refine G.istore P2 d12_12 (l' := #[.val (.ref a), .val (.ref b), .val (.int (2 : Int32)), .val (.int (0 : Int32)), .val (.int (5 : Int32)), .val (.int (1 : Int32)), .unset]) rfl (pc' := 14) rfl ?_
  refine G.iconst P2 d12_14 (z := (0 : Int32)) rfl (pc' := 15) rfl ?_
  refine G.istore P2 d12_15 (l' := #[.val (.ref a), .val (.ref b), .val (.int (2 : Int32)), .val (.int (0 : Int32)), .val (.int (5 : Int32)), .val (.int (1 : Int32)), .val (.int (0 : Int32))]) rfl (pc' := 17) rfl ?_
  refine G.iload P2 d12_17 rfl (pc' := 19) rfl ?_
  refine G.aloadN P2 d12_19 rfl rfl (pc' := 20) rfl ?_
  refine G.getF P2 (host := "") (Or.inl (wk hw 64 rfl)) Via.refl FT d12_20 (pc' := 23) rfl fun T3 P3 => ?_
  refine G.icmp_ge P3 d12_23 (by decide) (pcY := 56) (by decide) (pcN := 26) rfl (fun c4 => absurd c4 (by decide)) (fun c4 => ?_)
  refine G.aloadN P3 d12_26 rfl rfl (pc' := 27) rfl ?_
  refine G.iload P3 d12_27 rfl (pc' := 29) rfl ?_
  refine G.iload P3 d12_29 rfl (pc' := 31) rfl ?_
  refine G.iadd P3 d12_31 (z := (5 : Int32)) (by decide) (pc' := 32) rfl ?_
  refine G.aloadN P3 d12_32 rfl rfl (pc' := 33) rfl ?_
  refine G.iload P3 d12_33 rfl (pc' := 35) rfl ?_
  refine G.iload P3 d12_35 rfl (pc' := 37) rfl ?_
  refine G.iadd P3 d12_37 (z := (5 : Int32)) (by decide) (pc' := 38) rfl ?_
  refine G.iaload P3 V (j := (5 : Int32)) (v := (.int u5)) (by decide) rfl d12_38 (pc' := 39) rfl ?_
  refine G.aloadN P3 d12_39 rfl rfl (pc' := 40) rfl ?_
  refine G.iload P3 d12_40 rfl (pc' := 42) rfl ?_
  refine G.iload P3 d12_42 rfl (pc' := 44) rfl ?_
  refine G.iadd P3 d12_44 (z := (1 : Int32)) (by decide) (pc' := 45) rfl ?_
  refine G.iaload P3 V (j := (1 : Int32)) (v := (.int u1)) (by decide) rfl d12_45 (pc' := 46) rfl ?_
  refine G.callSP P3 (rmMax l Z a0 hw u5 u1 h0) (wk hw 97 rfl) (wk hw 98 rfl) (wk hw 99 rfl) (wk hw 100 rfl) (by decide) pd_14 (argsL := [(.int u5), (.int u1)]) (rest := [(.int (5 : Int32)), (.ref b)]) rfl rfl rfl rfl (W := 2) (Nat.le_of_eq rfl) (by decide) d12_46 (pc' := 49) rfl fun T5 P5 => ?_
  show Go p e below _ (T5.setTop (mkF m 49 #[.val (.ref a), .val (.ref b), .val (.int (2 : Int32)), .val (.int (0 : Int32)), .val (.int (5 : Int32)), .val (.int (1 : Int32)), .val (.int (0 : Int32))] [(.int (own_max u5 u1)), (.int (5 : Int32)), (.ref b)]))
  refine G.stI P5 V (5) rfl (by decide) (Nat.le_of_ble_eq_true rfl) d12_49 (pc' := 50) rfl fun T6 h6 P6 W6 V6 => ?_
  have V6p : Arv Z h6 b kk .int (7 : Int32) [(.int u0), (.int u1), (.int u2), (.int u3), (.int u4), (.int (own_max u5 u1)), (.int u6)] (.int (0 : Int32)) := V6
  have N7 := Fr.snoc P6.st N0 gb
  have K8 := K0.wr W6 (Or.inl (List.mem_of_getElem? (i := 0) rfl))
  refine G.iinc P6 d12_50 rfl (z := (1 : Int32)) (by decide) (l' := #[.val (.ref a), .val (.ref b), .val (.int (2 : Int32)), .val (.int (0 : Int32)), .val (.int (5 : Int32)), .val (.int (1 : Int32)), .val (.int (1 : Int32))]) rfl (pc' := 53) rfl ?_
  refine G.goto P6 d12_53 (by decide) (pc' := 17) (by decide) ?_
  refine G.iload P6 d12_17 rfl (pc' := 19) rfl ?_
  refine G.aloadN P6 d12_19 rfl rfl (pc' := 20) rfl ?_
  have f9 := (FT.other W6 (Or.inl hab))
  refine G.getF P6 (host := "") (Or.inl (wk hw 64 rfl)) Via.refl f9 d12_20 (pc' := 23) rfl fun T10 P10 => ?_
  refine G.icmp_ge P10 d12_23 (by decide) (pcY := 56) (by decide) (pcN := 26) rfl (fun c11 => absurd c11 (by decide)) (fun c11 => ?_)
  refine G.aloadN P10 d12_26 rfl rfl (pc' := 27) rfl ?_
  refine G.iload P10 d12_27 rfl (pc' := 29) rfl ?_
  refine G.iload P10 d12_29 rfl (pc' := 31) rfl ?_
  refine G.iadd P10 d12_31 (z := (6 : Int32)) (by decide) (pc' := 32) rfl ?_
  refine G.aloadN P10 d12_32 rfl rfl (pc' := 33) rfl ?_
  refine G.iload P10 d12_33 rfl (pc' := 35) rfl ?_
  refine G.iload P10 d12_35 rfl (pc' := 37) rfl ?_
  refine G.iadd P10 d12_37 (z := (6 : Int32)) (by decide) (pc' := 38) rfl ?_
  refine G.iaload P10 V6p (j := (6 : Int32)) (v := (.int u6)) (by decide) rfl d12_38 (pc' := 39) rfl ?_
  refine G.aloadN P10 d12_39 rfl rfl (pc' := 40) rfl ?_
  refine G.iload P10 d12_40 rfl (pc' := 42) rfl ?_
  refine G.iload P10 d12_42 rfl (pc' := 44) rfl ?_
  refine G.iadd P10 d12_44 (z := (2 : Int32)) (by decide) (pc' := 45) rfl ?_
  refine G.iaload P10 V6p (j := (2 : Int32)) (v := (.int u2)) (by decide) rfl d12_45 (pc' := 46) rfl ?_
  refine G.callSP P10 (rmMax l Z a0 hw u6 u2 h6) (wk hw 97 rfl) (wk hw 98 rfl) (wk hw 99 rfl) (wk hw 100 rfl) (by decide) pd_14 (argsL := [(.int u6), (.int u2)]) (rest := [(.int (6 : Int32)), (.ref b)]) rfl rfl rfl rfl (W := 2) (Nat.le_of_eq rfl) (by decide) d12_46 (pc' := 49) rfl fun T12 P12 => ?_
  show Go p e below _ (T12.setTop (mkF m 49 #[.val (.ref a), .val (.ref b), .val (.int (2 : Int32)), .val (.int (0 : Int32)), .val (.int (5 : Int32)), .val (.int (1 : Int32)), .val (.int (1 : Int32))] [(.int (own_max u6 u2)), (.int (6 : Int32)), (.ref b)]))
  refine G.stI P12 V6p (6) rfl (by decide) (Nat.le_of_ble_eq_true rfl) d12_49 (pc' := 50) rfl fun T13 h13 P13 W13 V13 => ?_
  have V13p : Arv Z h13 b kk .int (7 : Int32) [(.int u0), (.int u1), (.int u2), (.int u3), (.int u4), (.int (own_max u5 u1)), (.int (own_max u6 u2))] (.int (0 : Int32)) := V13
  have N14 := Fr.snoc P13.st N7 gb
  have K15 := K8.wr W13 (Or.inl (List.mem_of_getElem? (i := 0) rfl))
  refine G.iinc P13 d12_50 rfl (z := (2 : Int32)) (by decide) (l' := #[.val (.ref a), .val (.ref b), .val (.int (2 : Int32)), .val (.int (0 : Int32)), .val (.int (5 : Int32)), .val (.int (1 : Int32)), .val (.int (2 : Int32))]) rfl (pc' := 53) rfl ?_
  refine G.goto P13 d12_53 (by decide) (pc' := 17) (by decide) ?_
  refine G.iload P13 d12_17 rfl (pc' := 19) rfl ?_
  refine G.aloadN P13 d12_19 rfl rfl (pc' := 20) rfl ?_
  have f16 := (f9.other W13 (Or.inl hab))
  refine G.getF P13 (host := "") (Or.inl (wk hw 64 rfl)) Via.refl f16 d12_20 (pc' := 23) rfl fun T17 P17 => ?_
  refine G.icmp_ge P17 d12_23 (by decide) (pcY := 56) (by decide) (pcN := 26) rfl (fun c18 => ?_) (fun c18 => absurd c18 (by decide))
  exact G.retV P17 d12_56 (by decide) (by decide) ⟨rfl, N14, K15, V13p⟩

theorem ef_rmITk1 (m : MethodId) (a b : Addr) : entryFrame m #[(.ref a), (.ref b), (.int (1 : Int32)), (.int (2 : Int32))] 7 = mkF m 0 #[.val (.ref a), .val (.ref b), .val (.int (1 : Int32)), .val (.int (2 : Int32)), .unset, .unset, .unset] [] := by first | (simp [entryFrame, mkF, argsToLocals, Value.category]; done) | rfl
set_option maxRecDepth 65536 in
set_option maxHeartbeats 40000000 in
theorem rmITk1 (l : Launch) (Z : State) (a0 : Array Value) (hw : ∀ d ∈ tables_1, d.before a0 Z = true) (a b : Addr) (kk : ClassId) (u0 u1 u2 u3 u4 u5 u6 : Int32) (h0 : Heap) (n0 : Nat) (gb : n0 ≤ b) (hab : a ≠ b) (E0 : Exa Z h0 a "dev/happenstance/model/HappensBefore$InState") (FA : Fld Z h0 a "dev/happenstance/model/HappensBefore$InState" "at" "I" (.int (1 : Int32))) (FT : Fld Z h0 a "dev/happenstance/model/HappensBefore$InState" "threads" "I" (.int (2 : Int32))) (V : Arv Z h0 b kk .int (7 : Int32) [(.int u0), (.int u1), (.int u2), (.int u3), (.int u4), (.int u5), (.int u6)] (.int (0 : Int32))) :
    OMeets l Z y12 prog_51_method_3_code 7 none ({ frames := 1, cells := 0, slots := 0, locals := 15 } : Room) #[(.ref a), (.ref b), (.int (1 : Int32)), (.int (2 : Int32))] h0 (fun v h L => v = none ∧ Fr n0 L ∧ Keep h0 h [b] ∧ Arv Z h b kk .int (7 : Int32) [(.int u0), (.int u1), (.int u2), (.int (own_max u3 u5)), (.int (own_max u4 u6)), (.int u5), (.int u6)] (.int (0 : Int32))) := by
  refine met (Q := fun v h L => v = none ∧ Fr n0 L ∧ Keep h0 h [b] ∧ Arv Z h b kk .int (7 : Int32) [(.int u0), (.int u1), (.int u2), (.int (own_max u3 u5)), (.int (own_max u4 u6)), (.int u5), (.int u6)] (.int (0 : Int32))) pf_12 (fun m => ef_rmITk1 m a b) fun p e s m below meth c T0 P0 => ?_
  have N0 := Fr.nil n0
  have K0 := Keep.refl h0 [b]
  refine G.aloadN P0 d12_0 rfl rfl (pc' := 1) rfl ?_
  refine G.iloadN P0 d12_1 rfl (pc' := 2) rfl ?_
  refine G.callVP P0 (rmSt1 l Z a0 hw a h0 FA FT) (wk hw 92 rfl) (wk hw 93 rfl) (wk hw 95 rfl) rfl (wk hw 94 rfl) (wk hw 57 rfl) (wk hw 96 rfl) (by decide) E0 pd_13 (argsL := [(.int (1 : Int32))]) (rest := []) rfl rfl rfl rfl (W := 0) (Nat.le_of_eq rfl) (by decide) d12_2 (pc' := 5) rfl fun T1 P1 => ?_
  show Go p e below _ (T1.setTop (mkF m 5 #[.val (.ref a), .val (.ref b), .val (.int (1 : Int32)), .val (.int (2 : Int32)), .unset, .unset, .unset] [(.int (3 : Int32))]))
  refine G.istore P1 d12_5 (l' := #[.val (.ref a), .val (.ref b), .val (.int (1 : Int32)), .val (.int (2 : Int32)), .val (.int (3 : Int32)), .unset, .unset]) rfl (pc' := 7) rfl ?_
  refine G.aloadN P1 d12_7 rfl rfl (pc' := 8) rfl ?_
  refine G.iloadN P1 d12_8 rfl (pc' := 9) rfl ?_
  refine G.callVP P1 (rmSt2 l Z a0 hw a h0 FA FT) (wk hw 92 rfl) (wk hw 93 rfl) (wk hw 95 rfl) rfl (wk hw 94 rfl) (wk hw 57 rfl) (wk hw 96 rfl) (by decide) E0 pd_13 (argsL := [(.int (2 : Int32))]) (rest := []) rfl rfl rfl rfl (W := 0) (Nat.le_of_eq rfl) (by decide) d12_9 (pc' := 12) rfl fun T2 P2 => ?_
  show Go p e below _ (T2.setTop (mkF m 12 #[.val (.ref a), .val (.ref b), .val (.int (1 : Int32)), .val (.int (2 : Int32)), .val (.int (3 : Int32)), .unset, .unset] [(.int (5 : Int32))]))
  refine G.istore P2 d12_12 (l' := #[.val (.ref a), .val (.ref b), .val (.int (1 : Int32)), .val (.int (2 : Int32)), .val (.int (3 : Int32)), .val (.int (5 : Int32)), .unset]) rfl (pc' := 14) rfl ?_
  refine G.iconst P2 d12_14 (z := (0 : Int32)) rfl (pc' := 15) rfl ?_
  refine G.istore P2 d12_15 (l' := #[.val (.ref a), .val (.ref b), .val (.int (1 : Int32)), .val (.int (2 : Int32)), .val (.int (3 : Int32)), .val (.int (5 : Int32)), .val (.int (0 : Int32))]) rfl (pc' := 17) rfl ?_
  refine G.iload P2 d12_17 rfl (pc' := 19) rfl ?_
  refine G.aloadN P2 d12_19 rfl rfl (pc' := 20) rfl ?_
  refine G.getF P2 (host := "") (Or.inl (wk hw 64 rfl)) Via.refl FT d12_20 (pc' := 23) rfl fun T3 P3 => ?_
  refine G.icmp_ge P3 d12_23 (by decide) (pcY := 56) (by decide) (pcN := 26) rfl (fun c4 => absurd c4 (by decide)) (fun c4 => ?_)
  refine G.aloadN P3 d12_26 rfl rfl (pc' := 27) rfl ?_
  refine G.iload P3 d12_27 rfl (pc' := 29) rfl ?_
  refine G.iload P3 d12_29 rfl (pc' := 31) rfl ?_
  refine G.iadd P3 d12_31 (z := (3 : Int32)) (by decide) (pc' := 32) rfl ?_
  refine G.aloadN P3 d12_32 rfl rfl (pc' := 33) rfl ?_
  refine G.iload P3 d12_33 rfl (pc' := 35) rfl ?_
  refine G.iload P3 d12_35 rfl (pc' := 37) rfl ?_
  refine G.iadd P3 d12_37 (z := (3 : Int32)) (by decide) (pc' := 38) rfl ?_
  refine G.iaload P3 V (j := (3 : Int32)) (v := (.int u3)) (by decide) rfl d12_38 (pc' := 39) rfl ?_
  refine G.aloadN P3 d12_39 rfl rfl (pc' := 40) rfl ?_
  refine G.iload P3 d12_40 rfl (pc' := 42) rfl ?_
  refine G.iload P3 d12_42 rfl (pc' := 44) rfl ?_
  refine G.iadd P3 d12_44 (z := (5 : Int32)) (by decide) (pc' := 45) rfl ?_
  refine G.iaload P3 V (j := (5 : Int32)) (v := (.int u5)) (by decide) rfl d12_45 (pc' := 46) rfl ?_
  refine G.callSP P3 (rmMax l Z a0 hw u3 u5 h0) (wk hw 97 rfl) (wk hw 98 rfl) (wk hw 99 rfl) (wk hw 100 rfl) (by decide) pd_14 (argsL := [(.int u3), (.int u5)]) (rest := [(.int (3 : Int32)), (.ref b)]) rfl rfl rfl rfl (W := 2) (Nat.le_of_eq rfl) (by decide) d12_46 (pc' := 49) rfl fun T5 P5 => ?_
  show Go p e below _ (T5.setTop (mkF m 49 #[.val (.ref a), .val (.ref b), .val (.int (1 : Int32)), .val (.int (2 : Int32)), .val (.int (3 : Int32)), .val (.int (5 : Int32)), .val (.int (0 : Int32))] [(.int (own_max u3 u5)), (.int (3 : Int32)), (.ref b)]))
  refine G.stI P5 V (3) rfl (by decide) (Nat.le_of_ble_eq_true rfl) d12_49 (pc' := 50) rfl fun T6 h6 P6 W6 V6 => ?_
  have V6p : Arv Z h6 b kk .int (7 : Int32) [(.int u0), (.int u1), (.int u2), (.int (own_max u3 u5)), (.int u4), (.int u5), (.int u6)] (.int (0 : Int32)) := V6
  have N7 := Fr.snoc P6.st N0 gb
  have K8 := K0.wr W6 (Or.inl (List.mem_of_getElem? (i := 0) rfl))
  refine G.iinc P6 d12_50 rfl (z := (1 : Int32)) (by decide) (l' := #[.val (.ref a), .val (.ref b), .val (.int (1 : Int32)), .val (.int (2 : Int32)), .val (.int (3 : Int32)), .val (.int (5 : Int32)), .val (.int (1 : Int32))]) rfl (pc' := 53) rfl ?_
  refine G.goto P6 d12_53 (by decide) (pc' := 17) (by decide) ?_
  refine G.iload P6 d12_17 rfl (pc' := 19) rfl ?_
  refine G.aloadN P6 d12_19 rfl rfl (pc' := 20) rfl ?_
  have f9 := (FT.other W6 (Or.inl hab))
  refine G.getF P6 (host := "") (Or.inl (wk hw 64 rfl)) Via.refl f9 d12_20 (pc' := 23) rfl fun T10 P10 => ?_
  refine G.icmp_ge P10 d12_23 (by decide) (pcY := 56) (by decide) (pcN := 26) rfl (fun c11 => absurd c11 (by decide)) (fun c11 => ?_)
  refine G.aloadN P10 d12_26 rfl rfl (pc' := 27) rfl ?_
  refine G.iload P10 d12_27 rfl (pc' := 29) rfl ?_
  refine G.iload P10 d12_29 rfl (pc' := 31) rfl ?_
  refine G.iadd P10 d12_31 (z := (4 : Int32)) (by decide) (pc' := 32) rfl ?_
  refine G.aloadN P10 d12_32 rfl rfl (pc' := 33) rfl ?_
  refine G.iload P10 d12_33 rfl (pc' := 35) rfl ?_
  refine G.iload P10 d12_35 rfl (pc' := 37) rfl ?_
  refine G.iadd P10 d12_37 (z := (4 : Int32)) (by decide) (pc' := 38) rfl ?_
  refine G.iaload P10 V6p (j := (4 : Int32)) (v := (.int u4)) (by decide) rfl d12_38 (pc' := 39) rfl ?_
  refine G.aloadN P10 d12_39 rfl rfl (pc' := 40) rfl ?_
  refine G.iload P10 d12_40 rfl (pc' := 42) rfl ?_
  refine G.iload P10 d12_42 rfl (pc' := 44) rfl ?_
  refine G.iadd P10 d12_44 (z := (6 : Int32)) (by decide) (pc' := 45) rfl ?_
  refine G.iaload P10 V6p (j := (6 : Int32)) (v := (.int u6)) (by decide) rfl d12_45 (pc' := 46) rfl ?_
  refine G.callSP P10 (rmMax l Z a0 hw u4 u6 h6) (wk hw 97 rfl) (wk hw 98 rfl) (wk hw 99 rfl) (wk hw 100 rfl) (by decide) pd_14 (argsL := [(.int u4), (.int u6)]) (rest := [(.int (4 : Int32)), (.ref b)]) rfl rfl rfl rfl (W := 2) (Nat.le_of_eq rfl) (by decide) d12_46 (pc' := 49) rfl fun T12 P12 => ?_
  show Go p e below _ (T12.setTop (mkF m 49 #[.val (.ref a), .val (.ref b), .val (.int (1 : Int32)), .val (.int (2 : Int32)), .val (.int (3 : Int32)), .val (.int (5 : Int32)), .val (.int (1 : Int32))] [(.int (own_max u4 u6)), (.int (4 : Int32)), (.ref b)]))
  refine G.stI P12 V6p (4) rfl (by decide) (Nat.le_of_ble_eq_true rfl) d12_49 (pc' := 50) rfl fun T13 h13 P13 W13 V13 => ?_
  have V13p : Arv Z h13 b kk .int (7 : Int32) [(.int u0), (.int u1), (.int u2), (.int (own_max u3 u5)), (.int (own_max u4 u6)), (.int u5), (.int u6)] (.int (0 : Int32)) := V13
  have N14 := Fr.snoc P13.st N7 gb
  have K15 := K8.wr W13 (Or.inl (List.mem_of_getElem? (i := 0) rfl))
  refine G.iinc P13 d12_50 rfl (z := (2 : Int32)) (by decide) (l' := #[.val (.ref a), .val (.ref b), .val (.int (1 : Int32)), .val (.int (2 : Int32)), .val (.int (3 : Int32)), .val (.int (5 : Int32)), .val (.int (2 : Int32))]) rfl (pc' := 53) rfl ?_
  refine G.goto P13 d12_53 (by decide) (pc' := 17) (by decide) ?_
  refine G.iload P13 d12_17 rfl (pc' := 19) rfl ?_
  refine G.aloadN P13 d12_19 rfl rfl (pc' := 20) rfl ?_
  have f16 := (f9.other W13 (Or.inl hab))
  refine G.getF P13 (host := "") (Or.inl (wk hw 64 rfl)) Via.refl f16 d12_20 (pc' := 23) rfl fun T17 P17 => ?_
  refine G.icmp_ge P17 d12_23 (by decide) (pcY := 56) (by decide) (pcN := 26) rfl (fun c18 => ?_) (fun c18 => absurd c18 (by decide))
  exact G.retV P17 d12_56 (by decide) (by decide) ⟨rfl, N14, K15, V13p⟩

theorem ef_rmNote (m : MethodId) (a b k1 : Addr) (x3 x4 x5 : Int32) : entryFrame m #[(.ref a), (.ref b), (.ref k1), (.int x3), (.int x4), (.int x5)] 7 = mkF m 0 #[.val (.ref a), .val (.ref b), .val (.ref k1), .val (.int x3), .val (.int x4), .val (.int x5), .unset] [] := by first | (simp [entryFrame, mkF, argsToLocals, Value.category]; done) | rfl
set_option maxRecDepth 65536 in
set_option maxHeartbeats 40000000 in
theorem rmNote (l : Launch) (Z : State) (a0 : Array Value) (hw : ∀ d ∈ tables_1, d.before a0 Z = true) (a b k1 : Addr) (x3 x4 x5 : Int32) (h0 : Heap) (FL : Fld Z h0 a "dev/happenstance/model/HappensBefore" "log" "I" (.int (-1 : Int32))) :
    OMeets l Z y15 prog_48_method_29_code 7 none ({ frames := 0, cells := 0, slots := 0, locals := 0 } : Room) #[(.ref a), (.ref b), (.ref k1), (.int x3), (.int x4), (.int x5)] h0 (OPure none h0) := by
  refine met (Q := OPure none h0) pf_15 (fun m => ef_rmNote m a b k1 x3 x4 x5) fun p e s m below meth c T0 P0 => ?_
  refine G.aloadN P0 d15_0 rfl rfl (pc' := 1) rfl ?_
  refine G.getF P0 (host := "") (Or.inl (wk hw 68 rfl)) Via.refl FL d15_1 (pc' := 4) rfl fun T1 P1 => ?_
  refine G.if_lt P1 d15_4 (by decide) (pcY := 55) (by decide) (pcN := 7) rfl (fun c2 => ?_) (fun c2 => absurd c2 (by decide))
  exact G.retV P1 d15_55 (by decide) (by decide) ⟨rfl, rfl, rfl⟩

theorem ef_rmVc (m : MethodId) (a : Addr) : entryFrame m #[(.ref a), (.int (0 : Int32))] 2 = mkF m 0 #[.val (.ref a), .val (.int (0 : Int32))] [] := by first | (simp [entryFrame, mkF, argsToLocals, Value.category]; done) | rfl
set_option maxRecDepth 65536 in
set_option maxHeartbeats 40000000 in
theorem rmVc (l : Launch) (Z : State) (a0 : Array Value) (hw : ∀ d ∈ tables_1, d.before a0 Z = true) (a : Addr) (h0 : Heap) (FT : Fld Z h0 a "dev/happenstance/model/HappensBefore" "threads" "I" (.int (2 : Int32))) :
    OMeets l Z y10 prog_48_method_36_code 2 (some .int) ({ frames := 0, cells := 0, slots := 0, locals := 0 } : Room) #[(.ref a), (.int (0 : Int32))] h0 (OPure (some (.int (2 : Int32))) h0) := by
  refine met (Q := OPure (some (.int (2 : Int32))) h0) pf_10 (fun m => ef_rmVc m a) fun p e s m below meth c T0 P0 => ?_
  refine G.aloadN P0 d10_0 rfl rfl (pc' := 1) rfl ?_
  refine G.getF P0 (host := "") (Or.inl (wk hw 19 rfl)) Via.refl FT d10_1 (pc' := 4) rfl fun T1 P1 => ?_
  refine G.iloadN P1 d10_4 rfl (pc' := 5) rfl ?_
  refine G.iadd P1 d10_5 (z := (2 : Int32)) (by decide) (pc' := 6) rfl ?_
  exact G.retI P1 d10_6 (by decide) (by decide) ⟨rfl, rfl, rfl⟩

theorem ef_rmHTk2 (m : MethodId) (a b : Addr) : entryFrame m #[(.ref a), (.ref b), (.int (2 : Int32)), (.int (0 : Int32))] 4 = mkF m 0 #[.val (.ref a), .val (.ref b), .val (.int (2 : Int32)), .val (.int (0 : Int32))] [] := by first | (simp [entryFrame, mkF, argsToLocals, Value.category]; done) | rfl
set_option maxRecDepth 65536 in
set_option maxHeartbeats 40000000 in
theorem rmHTk2 (l : Launch) (Z : State) (a0 : Array Value) (hw : ∀ d ∈ tables_1, d.before a0 Z = true) (a b ic : Addr) (kk : ClassId) (u0 u1 u2 u3 u4 u5 u6 : Int32) (h0 : Heap) (n0 : Nat) (gb : n0 ≤ b) (hab : a ≠ b) (hib : ic ≠ b) (E0 : Exa Z h0 a "dev/happenstance/model/HappensBefore") (Ei : Exa Z h0 ic "dev/happenstance/model/HappensBefore$InState") (FT : Fld Z h0 a "dev/happenstance/model/HappensBefore" "threads" "I" (.int (2 : Int32))) (FC : Fld Z h0 a "dev/happenstance/model/HappensBefore" "clocks" "Ldev/happenstance/model/HappensBefore$Clocks;" (.ref ic)) (FL : Fld Z h0 a "dev/happenstance/model/HappensBefore" "log" "I" (.int (-1 : Int32))) (IA : Fld Z h0 ic "dev/happenstance/model/HappensBefore$InState" "at" "I" (.int (1 : Int32))) (IT : Fld Z h0 ic "dev/happenstance/model/HappensBefore$InState" "threads" "I" (.int (2 : Int32))) (V : Arv Z h0 b kk .int (7 : Int32) [(.int u0), (.int u1), (.int u2), (.int u3), (.int u4), (.int u5), (.int u6)] (.int (0 : Int32))) :
    OMeets l Z y11 prog_48_method_35_code 4 none ({ frames := 2, cells := 0, slots := 0, locals := 33 } : Room) #[(.ref a), (.ref b), (.int (2 : Int32)), (.int (0 : Int32))] h0 (fun v h L => v = none ∧ Fr n0 L ∧ Keep h0 h [b] ∧ Arv Z h b kk .int (7 : Int32) [(.int u0), (.int u1), (.int u2), (.int u3), (.int u4), (.int (own_max u5 u1)), (.int (own_max u6 u2))] (.int (0 : Int32))) := by
  refine met (Q := fun v h L => v = none ∧ Fr n0 L ∧ Keep h0 h [b] ∧ Arv Z h b kk .int (7 : Int32) [(.int u0), (.int u1), (.int u2), (.int u3), (.int u4), (.int (own_max u5 u1)), (.int (own_max u6 u2))] (.int (0 : Int32))) pf_11 (fun m => ef_rmHTk2 m a b) fun p e s m below meth c T0 P0 => ?_
  have N0 := Fr.nil n0
  have K0 := Keep.refl h0 [b]
  refine G.aloadN P0 d11_0 rfl rfl (pc' := 1) rfl ?_
  refine G.getF P0 (host := "") (Or.inl (wk hw 66 rfl)) Via.refl FC d11_1 (pc' := 4) rfl fun T1 P1 => ?_
  refine G.ifnullN P1 d11_4 (pc' := 7) rfl ?_
  refine G.aloadN P1 d11_7 rfl rfl (pc' := 8) rfl ?_
  refine G.getF P1 (host := "") (Or.inl (wk hw 66 rfl)) Via.refl FC d11_8 (pc' := 11) rfl fun T2 P2 => ?_
  refine G.aloadN P2 d11_11 rfl rfl (pc' := 12) rfl ?_
  refine G.iloadN P2 d11_12 rfl (pc' := 13) rfl ?_
  refine G.iloadN P2 d11_13 rfl (pc' := 14) rfl ?_
  refine G.callF P2 (rmITk2 l Z a0 hw ic b kk u0 u1 u2 u3 u4 u5 u6 h0 n0 gb hib Ei IA IT V) (wk hw 83 rfl) (wk hw 84 rfl) (wk hw 85 rfl) (wk hw 86 rfl) (wk hw 87 rfl) (wk hw 88 rfl) (wk hw 89 rfl) (wk hw 90 rfl) (wk hw 57 rfl) (wk hw 91 rfl) (by decide) Ei pd_12 (argsL := [(.ref b), (.int (2 : Int32)), (.int (0 : Int32))]) (rest := []) rfl rfl rfl rfl (W := 0) (Nat.le_of_eq rfl) (by decide) d11_14 (pc' := 19) rfl fun T3 L3 v3 P3 Q3 => ?_
  obtain ⟨rfl, N3, K3, V3⟩ := Q3
  have N4 := Fr.app N0 N3
  have K5 := K0.trans K3 (allS (Or.inl (List.mem_of_getElem? (i := 0) rfl)) all0)
  show Go p e below _ (T3.setTop (mkF m 19 #[.val (.ref a), .val (.ref b), .val (.int (2 : Int32)), .val (.int (0 : Int32))] []))
  exact G.retV P3 d11_19 (by decide) (by decide) ⟨rfl, N4, K5, V3⟩

theorem ef_rmHTk1 (m : MethodId) (a b : Addr) : entryFrame m #[(.ref a), (.ref b), (.int (1 : Int32)), (.int (2 : Int32))] 4 = mkF m 0 #[.val (.ref a), .val (.ref b), .val (.int (1 : Int32)), .val (.int (2 : Int32))] [] := by first | (simp [entryFrame, mkF, argsToLocals, Value.category]; done) | rfl
set_option maxRecDepth 65536 in
set_option maxHeartbeats 40000000 in
theorem rmHTk1 (l : Launch) (Z : State) (a0 : Array Value) (hw : ∀ d ∈ tables_1, d.before a0 Z = true) (a b ic : Addr) (kk : ClassId) (u0 u1 u2 u3 u4 u5 u6 : Int32) (h0 : Heap) (n0 : Nat) (gb : n0 ≤ b) (hab : a ≠ b) (hib : ic ≠ b) (E0 : Exa Z h0 a "dev/happenstance/model/HappensBefore") (Ei : Exa Z h0 ic "dev/happenstance/model/HappensBefore$InState") (FT : Fld Z h0 a "dev/happenstance/model/HappensBefore" "threads" "I" (.int (2 : Int32))) (FC : Fld Z h0 a "dev/happenstance/model/HappensBefore" "clocks" "Ldev/happenstance/model/HappensBefore$Clocks;" (.ref ic)) (FL : Fld Z h0 a "dev/happenstance/model/HappensBefore" "log" "I" (.int (-1 : Int32))) (IA : Fld Z h0 ic "dev/happenstance/model/HappensBefore$InState" "at" "I" (.int (1 : Int32))) (IT : Fld Z h0 ic "dev/happenstance/model/HappensBefore$InState" "threads" "I" (.int (2 : Int32))) (V : Arv Z h0 b kk .int (7 : Int32) [(.int u0), (.int u1), (.int u2), (.int u3), (.int u4), (.int u5), (.int u6)] (.int (0 : Int32))) :
    OMeets l Z y11 prog_48_method_35_code 4 none ({ frames := 2, cells := 0, slots := 0, locals := 33 } : Room) #[(.ref a), (.ref b), (.int (1 : Int32)), (.int (2 : Int32))] h0 (fun v h L => v = none ∧ Fr n0 L ∧ Keep h0 h [b] ∧ Arv Z h b kk .int (7 : Int32) [(.int u0), (.int u1), (.int u2), (.int (own_max u3 u5)), (.int (own_max u4 u6)), (.int u5), (.int u6)] (.int (0 : Int32))) := by
  refine met (Q := fun v h L => v = none ∧ Fr n0 L ∧ Keep h0 h [b] ∧ Arv Z h b kk .int (7 : Int32) [(.int u0), (.int u1), (.int u2), (.int (own_max u3 u5)), (.int (own_max u4 u6)), (.int u5), (.int u6)] (.int (0 : Int32))) pf_11 (fun m => ef_rmHTk1 m a b) fun p e s m below meth c T0 P0 => ?_
  have N0 := Fr.nil n0
  have K0 := Keep.refl h0 [b]
  refine G.aloadN P0 d11_0 rfl rfl (pc' := 1) rfl ?_
  refine G.getF P0 (host := "") (Or.inl (wk hw 66 rfl)) Via.refl FC d11_1 (pc' := 4) rfl fun T1 P1 => ?_
  refine G.ifnullN P1 d11_4 (pc' := 7) rfl ?_
  refine G.aloadN P1 d11_7 rfl rfl (pc' := 8) rfl ?_
  refine G.getF P1 (host := "") (Or.inl (wk hw 66 rfl)) Via.refl FC d11_8 (pc' := 11) rfl fun T2 P2 => ?_
  refine G.aloadN P2 d11_11 rfl rfl (pc' := 12) rfl ?_
  refine G.iloadN P2 d11_12 rfl (pc' := 13) rfl ?_
  refine G.iloadN P2 d11_13 rfl (pc' := 14) rfl ?_
  refine G.callF P2 (rmITk1 l Z a0 hw ic b kk u0 u1 u2 u3 u4 u5 u6 h0 n0 gb hib Ei IA IT V) (wk hw 83 rfl) (wk hw 84 rfl) (wk hw 85 rfl) (wk hw 86 rfl) (wk hw 87 rfl) (wk hw 88 rfl) (wk hw 89 rfl) (wk hw 90 rfl) (wk hw 57 rfl) (wk hw 91 rfl) (by decide) Ei pd_12 (argsL := [(.ref b), (.int (1 : Int32)), (.int (2 : Int32))]) (rest := []) rfl rfl rfl rfl (W := 0) (Nat.le_of_eq rfl) (by decide) d11_14 (pc' := 19) rfl fun T3 L3 v3 P3 Q3 => ?_
  obtain ⟨rfl, N3, K3, V3⟩ := Q3
  have N4 := Fr.app N0 N3
  have K5 := K0.trans K3 (allS (Or.inl (List.mem_of_getElem? (i := 0) rfl)) all0)
  show Go p e below _ (T3.setTop (mkF m 19 #[.val (.ref a), .val (.ref b), .val (.int (1 : Int32)), .val (.int (2 : Int32))] []))
  exact G.retV P3 d11_19 (by decide) (by decide) ⟨rfl, N4, K5, V3⟩

theorem ef_rmRelease (m : MethodId) (a b : Addr) (x4 : Int32) : entryFrame m #[(.ref a), (.ref b), (.int (0 : Int32)), (.int (0 : Int32)), (.int x4)] 5 = mkF m 0 #[.val (.ref a), .val (.ref b), .val (.int (0 : Int32)), .val (.int (0 : Int32)), .val (.int x4)] [] := by first | (simp [entryFrame, mkF, argsToLocals, Value.category]; done) | rfl
set_option maxRecDepth 65536 in
set_option maxHeartbeats 40000000 in
theorem rmRelease (l : Launch) (Z : State) (a0 : Array Value) (hw : ∀ d ∈ tables_1, d.before a0 Z = true) (a b ic : Addr) (kk : ClassId) (u0 u1 u2 u3 u4 u5 u6 : Int32) (k1 : Addr) (x4 : Int32) (h0 : Heap) (n0 : Nat) (gb : n0 ≤ b) (hab : a ≠ b) (hib : ic ≠ b) (E0 : Exa Z h0 a "dev/happenstance/model/HappensBefore") (Ei : Exa Z h0 ic "dev/happenstance/model/HappensBefore$InState") (FT : Fld Z h0 a "dev/happenstance/model/HappensBefore" "threads" "I" (.int (2 : Int32))) (FC : Fld Z h0 a "dev/happenstance/model/HappensBefore" "clocks" "Ldev/happenstance/model/HappensBefore$Clocks;" (.ref ic)) (FL : Fld Z h0 a "dev/happenstance/model/HappensBefore" "log" "I" (.int (-1 : Int32))) (IA : Fld Z h0 ic "dev/happenstance/model/HappensBefore$InState" "at" "I" (.int (1 : Int32))) (IT : Fld Z h0 ic "dev/happenstance/model/HappensBefore$InState" "threads" "I" (.int (2 : Int32))) (V : Arv Z h0 b kk .int (7 : Int32) [(.int u0), (.int u1), (.int u2), (.int u3), (.int u4), (.int u5), (.int u6)] (.int (0 : Int32))) (SK : Sta Z h0 "dev/happenstance/model/HappensBefore$Kind" "RELEASE" "Ldev/happenstance/model/HappensBefore$Kind;" (.ref k1)) :
    OMeets l Z y9 prog_48_method_13_code 5 none ({ frames := 3, cells := 0, slots := 0, locals := 48 } : Room) #[(.ref a), (.ref b), (.int (0 : Int32)), (.int (0 : Int32)), (.int x4)] h0 (fun v h L => v = none ∧ Fr n0 L ∧ Keep h0 h [b] ∧ Arv Z h b kk .int (7 : Int32) [(.int u0), (.int u1), (.int u2), (.int u3), (.int u4), (.int (own_max u5 u1)), (.int (own_max u6 u2))] (.int (0 : Int32))) := by
  refine met (Q := fun v h L => v = none ∧ Fr n0 L ∧ Keep h0 h [b] ∧ Arv Z h b kk .int (7 : Int32) [(.int u0), (.int u1), (.int u2), (.int u3), (.int u4), (.int (own_max u5 u1)), (.int (own_max u6 u2))] (.int (0 : Int32))) pf_9 (fun m => ef_rmRelease m a b x4) fun p e s m below meth c T0 P0 => ?_
  have gs := own_arr_plain V
  have N0 := Fr.nil n0
  have K0 := Keep.refl h0 [b]
  refine G.aloadN P0 d9_0 rfl rfl (pc' := 1) rfl ?_
  refine G.aloadN P0 d9_1 rfl rfl (pc' := 2) rfl ?_
  refine G.aloadN P0 d9_2 rfl rfl (pc' := 3) rfl ?_
  refine G.iloadN P0 d9_3 rfl (pc' := 4) rfl ?_
  refine G.callQ P0 (rmVc l Z a0 hw a h0 FT) (wk hw 75 rfl) (wk hw 76 rfl) (wk hw 73 rfl) rfl (wk hw 77 rfl) (wk hw 3 rfl) (wk hw 78 rfl) (by decide) E0 pd_10 (argsL := [(.int (0 : Int32))]) (rest := [(.ref b), (.ref a)]) rfl rfl rfl rfl (W := 2) (Nat.le_of_eq rfl) (by decide) d9_4 (pc' := 7) rfl (pureK fun T1 P1 => ?_)
  show Go p e below _ (T1.setTop (mkF m 7 #[.val (.ref a), .val (.ref b), .val (.int (0 : Int32)), .val (.int (0 : Int32)), .val (.int x4)] [(.int (2 : Int32)), (.ref b), (.ref a)]))
  refine G.iloadN P1 d9_7 rfl (pc' := 8) rfl ?_
  refine G.callQ P1 (rmHTk2 l Z a0 hw a b ic kk u0 u1 u2 u3 u4 u5 u6 h0 n0 gb hab hib E0 Ei FT FC FL IA IT V) (wk hw 79 rfl) (wk hw 80 rfl) (wk hw 73 rfl) rfl (wk hw 81 rfl) (wk hw 3 rfl) (wk hw 82 rfl) (by decide) E0 pd_11 (argsL := [(.ref b), (.int (2 : Int32)), (.int (0 : Int32))]) (rest := []) rfl rfl rfl rfl (W := 0) (Nat.le_of_eq rfl) (by decide) d9_8 (pc' := 11) rfl fun T2 L2 v2 P2 Q2 => ?_
  obtain ⟨rfl, N2, K2, V2⟩ := Q2
  have N3 := Fr.app N0 N2
  have K4 := K0.trans K2 (allS (Or.inl (List.mem_of_getElem? (i := 0) rfl)) all0)
  show Go p e below _ (T2.setTop (mkF m 11 #[.val (.ref a), .val (.ref b), .val (.int (0 : Int32)), .val (.int (0 : Int32)), .val (.int x4)] []))
  refine G.aloadN P2 d9_11 rfl rfl (pc' := 12) rfl ?_
  refine G.aloadN P2 d9_12 rfl rfl (pc' := 13) rfl ?_
  refine G.getS P2 (host := "") (Or.inl (wk hw 101 rfl)) Via.refl (own_sta SK K4 gs) d9_13 (pc' := 16) rfl fun T5 P5 => ?_
  refine G.iloadN P5 d9_16 rfl (pc' := 17) rfl ?_
  refine G.iloadN P5 d9_17 rfl (pc' := 18) rfl ?_
  refine G.iload P5 d9_18 rfl (pc' := 20) rfl ?_
  have f6 := (FL.keep K2 (ninS hab nin0))
  have f7 := (E0.keep K2)
  refine G.callQ P5 (rmNote l Z a0 hw a b k1 (0 : Int32) (0 : Int32) x4 T2.heap f6) (wk hw 104 rfl) (wk hw 105 rfl) (wk hw 73 rfl) rfl (wk hw 106 rfl) (wk hw 3 rfl) (wk hw 107 rfl) (by decide) f7 pd_15 (argsL := [(.ref b), (.ref k1), (.int (0 : Int32)), (.int (0 : Int32)), (.int x4)]) (rest := []) rfl rfl rfl rfl (W := 0) (Nat.le_of_eq rfl) (by decide) d9_20 (pc' := 23) rfl (pureK fun T8 P8 => ?_)
  show Go p e below _ (T8.setTop (mkF m 23 #[.val (.ref a), .val (.ref b), .val (.int (0 : Int32)), .val (.int (0 : Int32)), .val (.int x4)] []))
  exact G.retV P8 d9_23 (by decide) (by decide) ⟨rfl, N3, K4, V2⟩

theorem ef_rmAcquire (m : MethodId) (a b : Addr) (x4 : Int32) : entryFrame m #[(.ref a), (.ref b), (.int (1 : Int32)), (.int (0 : Int32)), (.int x4)] 5 = mkF m 0 #[.val (.ref a), .val (.ref b), .val (.int (1 : Int32)), .val (.int (0 : Int32)), .val (.int x4)] [] := by first | (simp [entryFrame, mkF, argsToLocals, Value.category]; done) | rfl
set_option maxRecDepth 65536 in
set_option maxHeartbeats 40000000 in
theorem rmAcquire (l : Launch) (Z : State) (a0 : Array Value) (hw : ∀ d ∈ tables_1, d.before a0 Z = true) (a b ic : Addr) (kk : ClassId) (u0 u1 u2 u3 u4 u5 u6 : Int32) (k1 : Addr) (x4 : Int32) (h0 : Heap) (n0 : Nat) (gb : n0 ≤ b) (hab : a ≠ b) (hib : ic ≠ b) (E0 : Exa Z h0 a "dev/happenstance/model/HappensBefore") (Ei : Exa Z h0 ic "dev/happenstance/model/HappensBefore$InState") (FT : Fld Z h0 a "dev/happenstance/model/HappensBefore" "threads" "I" (.int (2 : Int32))) (FC : Fld Z h0 a "dev/happenstance/model/HappensBefore" "clocks" "Ldev/happenstance/model/HappensBefore$Clocks;" (.ref ic)) (FL : Fld Z h0 a "dev/happenstance/model/HappensBefore" "log" "I" (.int (-1 : Int32))) (IA : Fld Z h0 ic "dev/happenstance/model/HappensBefore$InState" "at" "I" (.int (1 : Int32))) (IT : Fld Z h0 ic "dev/happenstance/model/HappensBefore$InState" "threads" "I" (.int (2 : Int32))) (V : Arv Z h0 b kk .int (7 : Int32) [(.int u0), (.int u1), (.int u2), (.int u3), (.int u4), (.int u5), (.int u6)] (.int (0 : Int32))) (SK : Sta Z h0 "dev/happenstance/model/HappensBefore$Kind" "ACQUIRE" "Ldev/happenstance/model/HappensBefore$Kind;" (.ref k1)) :
    OMeets l Z y20 prog_48_method_12_code 5 none ({ frames := 3, cells := 0, slots := 0, locals := 48 } : Room) #[(.ref a), (.ref b), (.int (1 : Int32)), (.int (0 : Int32)), (.int x4)] h0 (fun v h L => v = none ∧ Fr n0 L ∧ Keep h0 h [b] ∧ Arv Z h b kk .int (7 : Int32) [(.int u0), (.int u1), (.int u2), (.int (own_max u3 u5)), (.int (own_max u4 u6)), (.int u5), (.int u6)] (.int (0 : Int32))) := by
  refine met (Q := fun v h L => v = none ∧ Fr n0 L ∧ Keep h0 h [b] ∧ Arv Z h b kk .int (7 : Int32) [(.int u0), (.int u1), (.int u2), (.int (own_max u3 u5)), (.int (own_max u4 u6)), (.int u5), (.int u6)] (.int (0 : Int32))) pf_20 (fun m => ef_rmAcquire m a b x4) fun p e s m below meth c T0 P0 => ?_
  have gs := own_arr_plain V
  have N0 := Fr.nil n0
  have K0 := Keep.refl h0 [b]
  refine G.aloadN P0 d20_0 rfl rfl (pc' := 1) rfl ?_
  refine G.aloadN P0 d20_1 rfl rfl (pc' := 2) rfl ?_
  refine G.iloadN P0 d20_2 rfl (pc' := 3) rfl ?_
  refine G.aloadN P0 d20_3 rfl rfl (pc' := 4) rfl ?_
  refine G.iloadN P0 d20_4 rfl (pc' := 5) rfl ?_
  refine G.callQ P0 (rmVc l Z a0 hw a h0 FT) (wk hw 75 rfl) (wk hw 76 rfl) (wk hw 73 rfl) rfl (wk hw 77 rfl) (wk hw 3 rfl) (wk hw 78 rfl) (by decide) E0 pd_10 (argsL := [(.int (0 : Int32))]) (rest := [(.int (1 : Int32)), (.ref b), (.ref a)]) rfl rfl rfl rfl (W := 3) (Nat.le_of_eq rfl) (by decide) d20_5 (pc' := 8) rfl (pureK fun T1 P1 => ?_)
  show Go p e below _ (T1.setTop (mkF m 8 #[.val (.ref a), .val (.ref b), .val (.int (1 : Int32)), .val (.int (0 : Int32)), .val (.int x4)] [(.int (2 : Int32)), (.int (1 : Int32)), (.ref b), (.ref a)]))
  refine G.callQ P1 (rmHTk1 l Z a0 hw a b ic kk u0 u1 u2 u3 u4 u5 u6 h0 n0 gb hab hib E0 Ei FT FC FL IA IT V) (wk hw 79 rfl) (wk hw 80 rfl) (wk hw 73 rfl) rfl (wk hw 81 rfl) (wk hw 3 rfl) (wk hw 82 rfl) (by decide) E0 pd_11 (argsL := [(.ref b), (.int (1 : Int32)), (.int (2 : Int32))]) (rest := []) rfl rfl rfl rfl (W := 0) (Nat.le_of_eq rfl) (by decide) d20_8 (pc' := 11) rfl fun T2 L2 v2 P2 Q2 => ?_
  obtain ⟨rfl, N2, K2, V2⟩ := Q2
  have N3 := Fr.app N0 N2
  have K4 := K0.trans K2 (allS (Or.inl (List.mem_of_getElem? (i := 0) rfl)) all0)
  show Go p e below _ (T2.setTop (mkF m 11 #[.val (.ref a), .val (.ref b), .val (.int (1 : Int32)), .val (.int (0 : Int32)), .val (.int x4)] []))
  refine G.aloadN P2 d20_11 rfl rfl (pc' := 12) rfl ?_
  refine G.aloadN P2 d20_12 rfl rfl (pc' := 13) rfl ?_
  refine G.getS P2 (host := "") (Or.inl (wk hw 138 rfl)) Via.refl (own_sta SK K4 gs) d20_13 (pc' := 16) rfl fun T5 P5 => ?_
  refine G.iloadN P5 d20_16 rfl (pc' := 17) rfl ?_
  refine G.iloadN P5 d20_17 rfl (pc' := 18) rfl ?_
  refine G.iload P5 d20_18 rfl (pc' := 20) rfl ?_
  have f6 := (FL.keep K2 (ninS hab nin0))
  have f7 := (E0.keep K2)
  refine G.callQ P5 (rmNote l Z a0 hw a b k1 (1 : Int32) (0 : Int32) x4 T2.heap f6) (wk hw 104 rfl) (wk hw 105 rfl) (wk hw 73 rfl) rfl (wk hw 106 rfl) (wk hw 3 rfl) (wk hw 107 rfl) (by decide) f7 pd_15 (argsL := [(.ref b), (.ref k1), (.int (1 : Int32)), (.int (0 : Int32)), (.int x4)]) (rest := []) rfl rfl rfl rfl (W := 0) (Nat.le_of_eq rfl) (by decide) d20_20 (pc' := 23) rfl (pureK fun T8 P8 => ?_)
  show Go p e below _ (T8.setTop (mkF m 23 #[.val (.ref a), .val (.ref b), .val (.int (1 : Int32)), .val (.int (0 : Int32)), .val (.int x4)] []))
  exact G.retV P8 d20_23 (by decide) (by decide) ⟨rfl, N3, K4, V2⟩

theorem ef_rmCount0 (m : MethodId) (a b : Addr) (x3 : Int32) : entryFrame m #[(.ref a), (.ref b), (.int (0 : Int32)), (.int x3)] 4 = mkF m 0 #[.val (.ref a), .val (.ref b), .val (.int (0 : Int32)), .val (.int x3)] [] := by first | (simp [entryFrame, mkF, argsToLocals, Value.category]; done) | rfl
set_option maxRecDepth 65536 in
set_option maxHeartbeats 40000000 in
theorem rmCount0 (l : Launch) (Z : State) (a0 : Array Value) (hw : ∀ d ∈ tables_1, d.before a0 Z = true) (a b ic : Addr) (kk : ClassId) (u0 u1 u2 u3 u4 u5 u6 : Int32) (k1 : Addr) (x3 : Int32) (h0 : Heap) (n0 : Nat) (gb : n0 ≤ b) (hab : a ≠ b) (hib : ic ≠ b) (E0 : Exa Z h0 a "dev/happenstance/model/HappensBefore") (Ei : Exa Z h0 ic "dev/happenstance/model/HappensBefore$InState") (FT : Fld Z h0 a "dev/happenstance/model/HappensBefore" "threads" "I" (.int (2 : Int32))) (FC : Fld Z h0 a "dev/happenstance/model/HappensBefore" "clocks" "Ldev/happenstance/model/HappensBefore$Clocks;" (.ref ic)) (FL : Fld Z h0 a "dev/happenstance/model/HappensBefore" "log" "I" (.int (-1 : Int32))) (IA : Fld Z h0 ic "dev/happenstance/model/HappensBefore$InState" "at" "I" (.int (1 : Int32))) (IT : Fld Z h0 ic "dev/happenstance/model/HappensBefore$InState" "threads" "I" (.int (2 : Int32))) (V : Arv Z h0 b kk .int (7 : Int32) [(.int u0), (.int u1), (.int u2), (.int u3), (.int u4), (.int u5), (.int u6)] (.int (0 : Int32))) (SK : Sta Z h0 "dev/happenstance/model/HappensBefore$Kind" "PLAIN" "Ldev/happenstance/model/HappensBefore$Kind;" (.ref k1)) :
    OMeets l Z y18 prog_48_method_19_code 4 (some .int) ({ frames := 2, cells := 0, slots := 0, locals := 28 } : Room) #[(.ref a), (.ref b), (.int (0 : Int32)), (.int x3)] h0 (fun v h L => v = some (.int (u1 + (1 : Int32))) ∧ Fr n0 L ∧ Keep h0 h [b] ∧ Arv Z h b kk .int (7 : Int32) [(.int u0), (.int (u1 + (1 : Int32))), (.int u2), (.int u3), (.int u4), (.int u5), (.int u6)] (.int (0 : Int32))) := by
  refine met (Q := fun v h L => v = some (.int (u1 + (1 : Int32))) ∧ Fr n0 L ∧ Keep h0 h [b] ∧ Arv Z h b kk .int (7 : Int32) [(.int u0), (.int (u1 + (1 : Int32))), (.int u2), (.int u3), (.int u4), (.int u5), (.int u6)] (.int (0 : Int32))) pf_18 (fun m => ef_rmCount0 m a b x3) fun p e s m below meth c T0 P0 => ?_
  have N0 := Fr.nil n0
  have K0 := Keep.refl h0 [b]
  refine G.aloadN P0 d18_0 rfl rfl (pc' := 1) rfl ?_
  refine G.aloadN P0 d18_1 rfl rfl (pc' := 2) rfl ?_
  refine G.getS P0 (host := "") (Or.inl (wk hw 123 rfl)) Via.refl SK d18_2 (pc' := 5) rfl fun T1 P1 => ?_
  refine G.iloadN P1 d18_5 rfl (pc' := 6) rfl ?_
  refine G.iconst P1 d18_6 (z := (0 : Int32)) rfl (pc' := 7) rfl ?_
  refine G.iloadN P1 d18_7 rfl (pc' := 8) rfl ?_
  refine G.callQ P1 (rmNote l Z a0 hw a b k1 (0 : Int32) (0 : Int32) x3 h0 FL) (wk hw 104 rfl) (wk hw 105 rfl) (wk hw 73 rfl) rfl (wk hw 106 rfl) (wk hw 3 rfl) (wk hw 107 rfl) (by decide) E0 pd_15 (argsL := [(.ref b), (.ref k1), (.int (0 : Int32)), (.int (0 : Int32)), (.int x3)]) (rest := []) rfl rfl rfl rfl (W := 0) (Nat.le_of_eq rfl) (by decide) d18_8 (pc' := 11) rfl (pureK fun T2 P2 => ?_)
  show Go p e below _ (T2.setTop (mkF m 11 #[.val (.ref a), .val (.ref b), .val (.int (0 : Int32)), .val (.int x3)] []))
  refine G.aloadN P2 d18_11 rfl rfl (pc' := 12) rfl ?_
  refine G.getF P2 (host := "") (Or.inl (wk hw 66 rfl)) Via.refl FC d18_12 (pc' := 15) rfl fun T3 P3 => ?_
  refine G.aloadN P3 d18_15 rfl rfl (pc' := 16) rfl ?_
  refine G.iloadN P3 d18_16 rfl (pc' := 17) rfl ?_
  refine G.callF P3 (rmICnt0 l Z a0 hw ic b kk u0 u1 u2 u3 u4 u5 u6 h0 n0 gb hib Ei IA IT V) (wk hw 125 rfl) (wk hw 126 rfl) (wk hw 127 rfl) (wk hw 128 rfl) (wk hw 129 rfl) (wk hw 130 rfl) (wk hw 131 rfl) (wk hw 90 rfl) (wk hw 57 rfl) (wk hw 132 rfl) (by decide) Ei pd_19 (argsL := [(.ref b), (.int (0 : Int32))]) (rest := []) rfl rfl rfl rfl (W := 0) (Nat.le_of_eq rfl) (by decide) d18_17 (pc' := 22) rfl fun T4 L4 v4 P4 Q4 => ?_
  obtain ⟨rfl, N4, K4, V4⟩ := Q4
  have N5 := Fr.app N0 N4
  have K6 := K0.trans K4 (allS (Or.inl (List.mem_of_getElem? (i := 0) rfl)) all0)
  show Go p e below _ (T4.setTop (mkF m 22 #[.val (.ref a), .val (.ref b), .val (.int (0 : Int32)), .val (.int x3)] [(.int (u1 + (1 : Int32)))]))
  exact G.retI P4 d18_22 (by decide) (by decide) ⟨rfl, N5, K6, V4⟩

theorem ef_rmCount1 (m : MethodId) (a b : Addr) (x3 : Int32) : entryFrame m #[(.ref a), (.ref b), (.int (1 : Int32)), (.int x3)] 4 = mkF m 0 #[.val (.ref a), .val (.ref b), .val (.int (1 : Int32)), .val (.int x3)] [] := by first | (simp [entryFrame, mkF, argsToLocals, Value.category]; done) | rfl
set_option maxRecDepth 65536 in
set_option maxHeartbeats 40000000 in
theorem rmCount1 (l : Launch) (Z : State) (a0 : Array Value) (hw : ∀ d ∈ tables_1, d.before a0 Z = true) (a b ic : Addr) (kk : ClassId) (u0 u1 u2 u3 u4 u5 u6 : Int32) (k1 : Addr) (x3 : Int32) (h0 : Heap) (n0 : Nat) (gb : n0 ≤ b) (hab : a ≠ b) (hib : ic ≠ b) (E0 : Exa Z h0 a "dev/happenstance/model/HappensBefore") (Ei : Exa Z h0 ic "dev/happenstance/model/HappensBefore$InState") (FT : Fld Z h0 a "dev/happenstance/model/HappensBefore" "threads" "I" (.int (2 : Int32))) (FC : Fld Z h0 a "dev/happenstance/model/HappensBefore" "clocks" "Ldev/happenstance/model/HappensBefore$Clocks;" (.ref ic)) (FL : Fld Z h0 a "dev/happenstance/model/HappensBefore" "log" "I" (.int (-1 : Int32))) (IA : Fld Z h0 ic "dev/happenstance/model/HappensBefore$InState" "at" "I" (.int (1 : Int32))) (IT : Fld Z h0 ic "dev/happenstance/model/HappensBefore$InState" "threads" "I" (.int (2 : Int32))) (V : Arv Z h0 b kk .int (7 : Int32) [(.int u0), (.int u1), (.int u2), (.int u3), (.int u4), (.int u5), (.int u6)] (.int (0 : Int32))) (SK : Sta Z h0 "dev/happenstance/model/HappensBefore$Kind" "PLAIN" "Ldev/happenstance/model/HappensBefore$Kind;" (.ref k1)) :
    OMeets l Z y18 prog_48_method_19_code 4 (some .int) ({ frames := 2, cells := 0, slots := 0, locals := 28 } : Room) #[(.ref a), (.ref b), (.int (1 : Int32)), (.int x3)] h0 (fun v h L => v = some (.int (u4 + (1 : Int32))) ∧ Fr n0 L ∧ Keep h0 h [b] ∧ Arv Z h b kk .int (7 : Int32) [(.int u0), (.int u1), (.int u2), (.int u3), (.int (u4 + (1 : Int32))), (.int u5), (.int u6)] (.int (0 : Int32))) := by
  refine met (Q := fun v h L => v = some (.int (u4 + (1 : Int32))) ∧ Fr n0 L ∧ Keep h0 h [b] ∧ Arv Z h b kk .int (7 : Int32) [(.int u0), (.int u1), (.int u2), (.int u3), (.int (u4 + (1 : Int32))), (.int u5), (.int u6)] (.int (0 : Int32))) pf_18 (fun m => ef_rmCount1 m a b x3) fun p e s m below meth c T0 P0 => ?_
  have N0 := Fr.nil n0
  have K0 := Keep.refl h0 [b]
  refine G.aloadN P0 d18_0 rfl rfl (pc' := 1) rfl ?_
  refine G.aloadN P0 d18_1 rfl rfl (pc' := 2) rfl ?_
  refine G.getS P0 (host := "") (Or.inl (wk hw 123 rfl)) Via.refl SK d18_2 (pc' := 5) rfl fun T1 P1 => ?_
  refine G.iloadN P1 d18_5 rfl (pc' := 6) rfl ?_
  refine G.iconst P1 d18_6 (z := (0 : Int32)) rfl (pc' := 7) rfl ?_
  refine G.iloadN P1 d18_7 rfl (pc' := 8) rfl ?_
  refine G.callQ P1 (rmNote l Z a0 hw a b k1 (1 : Int32) (0 : Int32) x3 h0 FL) (wk hw 104 rfl) (wk hw 105 rfl) (wk hw 73 rfl) rfl (wk hw 106 rfl) (wk hw 3 rfl) (wk hw 107 rfl) (by decide) E0 pd_15 (argsL := [(.ref b), (.ref k1), (.int (1 : Int32)), (.int (0 : Int32)), (.int x3)]) (rest := []) rfl rfl rfl rfl (W := 0) (Nat.le_of_eq rfl) (by decide) d18_8 (pc' := 11) rfl (pureK fun T2 P2 => ?_)
  show Go p e below _ (T2.setTop (mkF m 11 #[.val (.ref a), .val (.ref b), .val (.int (1 : Int32)), .val (.int x3)] []))
  refine G.aloadN P2 d18_11 rfl rfl (pc' := 12) rfl ?_
  refine G.getF P2 (host := "") (Or.inl (wk hw 66 rfl)) Via.refl FC d18_12 (pc' := 15) rfl fun T3 P3 => ?_
  refine G.aloadN P3 d18_15 rfl rfl (pc' := 16) rfl ?_
  refine G.iloadN P3 d18_16 rfl (pc' := 17) rfl ?_
  refine G.callF P3 (rmICnt1 l Z a0 hw ic b kk u0 u1 u2 u3 u4 u5 u6 h0 n0 gb hib Ei IA IT V) (wk hw 125 rfl) (wk hw 126 rfl) (wk hw 127 rfl) (wk hw 128 rfl) (wk hw 129 rfl) (wk hw 130 rfl) (wk hw 131 rfl) (wk hw 90 rfl) (wk hw 57 rfl) (wk hw 132 rfl) (by decide) Ei pd_19 (argsL := [(.ref b), (.int (1 : Int32))]) (rest := []) rfl rfl rfl rfl (W := 0) (Nat.le_of_eq rfl) (by decide) d18_17 (pc' := 22) rfl fun T4 L4 v4 P4 Q4 => ?_
  obtain ⟨rfl, N4, K4, V4⟩ := Q4
  have N5 := Fr.app N0 N4
  have K6 := K0.trans K4 (allS (Or.inl (List.mem_of_getElem? (i := 0) rfl)) all0)
  show Go p e below _ (T4.setTop (mkF m 22 #[.val (.ref a), .val (.ref b), .val (.int (1 : Int32)), .val (.int x3)] [(.int (u4 + (1 : Int32)))]))
  exact G.retI P4 d18_22 (by decide) (by decide) ⟨rfl, N5, K6, V4⟩

theorem ef_rmClk0 (m : MethodId) (a : Addr) : entryFrame m #[(.ref a), (.int (0 : Int32))] 4 = mkF m 0 #[.val (.ref a), .val (.int (0 : Int32)), .unset, .unset] [] := by first | (simp [entryFrame, mkF, argsToLocals, Value.category]; done) | rfl
set_option maxRecDepth 65536 in
set_option maxHeartbeats 40000000 in
theorem rmClk0 (l : Launch) (Z : State) (a0 : Array Value) (hw : ∀ d ∈ tables_1, d.before a0 Z = true) (a ic : Addr) (h0 : Heap) (Ei : Exa Z h0 ic "dev/happenstance/model/HappensBefore$InState") (FC : Fld Z h0 a "dev/happenstance/model/HappensBefore" "clocks" "Ldev/happenstance/model/HappensBefore$Clocks;" (.ref ic)) (IA : Fld Z h0 ic "dev/happenstance/model/HappensBefore$InState" "at" "I" (.int (1 : Int32))) (IT : Fld Z h0 ic "dev/happenstance/model/HappensBefore$InState" "threads" "I" (.int (2 : Int32))) :
    OMeets l Z y16 prog_48_method_22_code 4 (some .int) ({ frames := 1, cells := 0, slots := 0, locals := 13 } : Room) #[(.ref a), (.int (0 : Int32))] h0 (OPure (some (.int (1 : Int32))) h0) := by
  refine met (Q := OPure (some (.int (1 : Int32))) h0) pf_16 (fun m => ef_rmClk0 m a) fun p e s m below meth c T0 P0 => ?_
  refine G.aloadN P0 d16_0 rfl rfl (pc' := 1) rfl ?_
  refine G.getF P0 (host := "") (Or.inl (wk hw 66 rfl)) Via.refl FC d16_1 (pc' := 4) rfl fun T1 P1 => ?_
  refine G.astoreN P1 d16_4 rfl (l' := #[.val (.ref a), .val (.int (0 : Int32)), .unset, .val (.ref ic)]) rfl (pc' := 5) rfl ?_
  refine G.aloadN P1 d16_5 rfl rfl (pc' := 6) rfl ?_
  refine G.instY P1 (wk hw 55 rfl) (Ins.self Ei) d16_6 (pc' := 9) rfl fun T2 P2 => ?_
  refine G.if_eq P2 d16_9 (by decide) (pcY := 20) (by decide) (pcN := 12) rfl (fun c3 => absurd c3 (by decide)) (fun c3 => ?_)
  refine G.aloadN P2 d16_12 rfl rfl (pc' := 13) rfl ?_
  refine G.cast P2 (wk hw 55 rfl) (Ins.self Ei) d16_13 (pc' := 16) rfl fun T4 P4 => ?_
  refine G.astoreN P4 d16_16 rfl (l' := #[.val (.ref a), .val (.int (0 : Int32)), .val (.ref ic), .val (.ref ic)]) rfl (pc' := 17) rfl ?_
  refine G.goto P4 d16_17 (by decide) (pc' := 30) (by decide) ?_
  refine G.aloadN P4 d16_30 rfl rfl (pc' := 31) rfl ?_
  refine G.iloadN P4 d16_31 rfl (pc' := 32) rfl ?_
  refine G.callVP P4 (rmSt0 l Z a0 hw ic h0 IA IT) (wk hw 114 rfl) (wk hw 93 rfl) (wk hw 95 rfl) rfl (wk hw 94 rfl) (wk hw 57 rfl) (wk hw 96 rfl) (by decide) Ei pd_13 (argsL := [(.int (0 : Int32))]) (rest := []) rfl rfl rfl rfl (W := 0) (Nat.le_of_eq rfl) (by decide) d16_32 (pc' := 35) rfl fun T5 P5 => ?_
  show Go p e below _ (T5.setTop (mkF m 35 #[.val (.ref a), .val (.int (0 : Int32)), .val (.ref ic), .val (.ref ic)] [(.int (1 : Int32))]))
  exact G.retI P5 d16_35 (by decide) (by decide) ⟨rfl, rfl, rfl⟩

theorem ef_rmClk1 (m : MethodId) (a : Addr) : entryFrame m #[(.ref a), (.int (1 : Int32))] 4 = mkF m 0 #[.val (.ref a), .val (.int (1 : Int32)), .unset, .unset] [] := by first | (simp [entryFrame, mkF, argsToLocals, Value.category]; done) | rfl
set_option maxRecDepth 65536 in
set_option maxHeartbeats 40000000 in
theorem rmClk1 (l : Launch) (Z : State) (a0 : Array Value) (hw : ∀ d ∈ tables_1, d.before a0 Z = true) (a ic : Addr) (h0 : Heap) (Ei : Exa Z h0 ic "dev/happenstance/model/HappensBefore$InState") (FC : Fld Z h0 a "dev/happenstance/model/HappensBefore" "clocks" "Ldev/happenstance/model/HappensBefore$Clocks;" (.ref ic)) (IA : Fld Z h0 ic "dev/happenstance/model/HappensBefore$InState" "at" "I" (.int (1 : Int32))) (IT : Fld Z h0 ic "dev/happenstance/model/HappensBefore$InState" "threads" "I" (.int (2 : Int32))) :
    OMeets l Z y16 prog_48_method_22_code 4 (some .int) ({ frames := 1, cells := 0, slots := 0, locals := 13 } : Room) #[(.ref a), (.int (1 : Int32))] h0 (OPure (some (.int (3 : Int32))) h0) := by
  refine met (Q := OPure (some (.int (3 : Int32))) h0) pf_16 (fun m => ef_rmClk1 m a) fun p e s m below meth c T0 P0 => ?_
  refine G.aloadN P0 d16_0 rfl rfl (pc' := 1) rfl ?_
  refine G.getF P0 (host := "") (Or.inl (wk hw 66 rfl)) Via.refl FC d16_1 (pc' := 4) rfl fun T1 P1 => ?_
  refine G.astoreN P1 d16_4 rfl (l' := #[.val (.ref a), .val (.int (1 : Int32)), .unset, .val (.ref ic)]) rfl (pc' := 5) rfl ?_
  refine G.aloadN P1 d16_5 rfl rfl (pc' := 6) rfl ?_
  refine G.instY P1 (wk hw 55 rfl) (Ins.self Ei) d16_6 (pc' := 9) rfl fun T2 P2 => ?_
  refine G.if_eq P2 d16_9 (by decide) (pcY := 20) (by decide) (pcN := 12) rfl (fun c3 => absurd c3 (by decide)) (fun c3 => ?_)
  refine G.aloadN P2 d16_12 rfl rfl (pc' := 13) rfl ?_
  refine G.cast P2 (wk hw 55 rfl) (Ins.self Ei) d16_13 (pc' := 16) rfl fun T4 P4 => ?_
  refine G.astoreN P4 d16_16 rfl (l' := #[.val (.ref a), .val (.int (1 : Int32)), .val (.ref ic), .val (.ref ic)]) rfl (pc' := 17) rfl ?_
  refine G.goto P4 d16_17 (by decide) (pc' := 30) (by decide) ?_
  refine G.aloadN P4 d16_30 rfl rfl (pc' := 31) rfl ?_
  refine G.iloadN P4 d16_31 rfl (pc' := 32) rfl ?_
  refine G.callVP P4 (rmSt1 l Z a0 hw ic h0 IA IT) (wk hw 114 rfl) (wk hw 93 rfl) (wk hw 95 rfl) rfl (wk hw 94 rfl) (wk hw 57 rfl) (wk hw 96 rfl) (by decide) Ei pd_13 (argsL := [(.int (1 : Int32))]) (rest := []) rfl rfl rfl rfl (W := 0) (Nat.le_of_eq rfl) (by decide) d16_32 (pc' := 35) rfl fun T5 P5 => ?_
  show Go p e below _ (T5.setTop (mkF m 35 #[.val (.ref a), .val (.int (1 : Int32)), .val (.ref ic), .val (.ref ic)] [(.int (3 : Int32))]))
  exact G.retI P5 d16_35 (by decide) (by decide) ⟨rfl, rfl, rfl⟩

theorem ef_rmCts00 (m : MethodId) (b : Addr) (x3 : Int32) : entryFrame m #[(.ref b), (.int (1 : Int32)), (.int (0 : Int32)), (.int x3)] 4 = mkF m 0 #[.val (.ref b), .val (.int (1 : Int32)), .val (.int (0 : Int32)), .val (.int x3)] [] := by first | (simp [entryFrame, mkF, argsToLocals, Value.category]; done) | rfl
set_option maxRecDepth 65536 in
set_option maxHeartbeats 40000000 in
theorem rmCts00 (l : Launch) (Z : State) (a0 : Array Value) (hw : ∀ d ∈ tables_1, d.before a0 Z = true) (b : Addr) (kk : ClassId) (u0 u1 u2 u3 u4 u5 u6 : Int32) (x3 : Int32) (h0 : Heap) (V : Arv Z h0 b kk .int (7 : Int32) [(.int u0), (.int u1), (.int u2), (.int u3), (.int u4), (.int u5), (.int u6)] (.int (0 : Int32))) :
    OMeets l Z y17 prog_48_method_26_code 4 (some .boolean) ({ frames := 0, cells := 0, slots := 0, locals := 0 } : Room) #[(.ref b), (.int (1 : Int32)), (.int (0 : Int32)), (.int x3)] h0 (OPure (some (.int (if u1 < x3 then (0 : Int32) else (1 : Int32)))) h0) := by
  refine met (Q := OPure (some (.int (if u1 < x3 then (0 : Int32) else (1 : Int32)))) h0) pf_17 (fun m => ef_rmCts00 m b x3) fun p e s m below meth c T0 P0 => ?_
  refine G.aloadN P0 d17_0 rfl rfl (pc' := 1) rfl ?_
  refine G.iloadN P0 d17_1 rfl (pc' := 2) rfl ?_
  refine G.iloadN P0 d17_2 rfl (pc' := 3) rfl ?_
  refine G.iadd P0 d17_3 (z := (1 : Int32)) (by decide) (pc' := 4) rfl ?_
  refine G.iaload P0 V (j := (1 : Int32)) (v := (.int u1)) (by decide) rfl d17_4 (pc' := 5) rfl ?_
  refine G.iloadN P0 d17_5 rfl (pc' := 6) rfl ?_
  refine G.icmp_lt P0 d17_6 (by decide) (pcY := 13) (by decide) (pcN := 9) rfl (fun c1 => ?_) (fun c1 => ?_)
  · --
    refine G.iconst P0 d17_13 (z := (0 : Int32)) rfl (pc' := 14) rfl ?_
    have e_ : (0 : Int32) = (if u1 < x3 then (0 : Int32) else (1 : Int32)) := (if_pos c1).symm
    exact G.retN P0 (t := .boolean) rfl (by simp) d17_14 (by decide) (by decide) ⟨sI e_, rfl, rfl⟩
  · --
    refine G.iconst P0 d17_9 (z := (1 : Int32)) rfl (pc' := 10) rfl ?_
    refine G.goto P0 d17_10 (by decide) (pc' := 14) (by decide) ?_
    have e_ : (1 : Int32) = (if u1 < x3 then (0 : Int32) else (1 : Int32)) := (if_neg c1).symm
    exact G.retN P0 (t := .boolean) rfl (by simp) d17_14 (by decide) (by decide) ⟨sI e_, rfl, rfl⟩

theorem ef_rmCts01 (m : MethodId) (b : Addr) (x3 : Int32) : entryFrame m #[(.ref b), (.int (1 : Int32)), (.int (1 : Int32)), (.int x3)] 4 = mkF m 0 #[.val (.ref b), .val (.int (1 : Int32)), .val (.int (1 : Int32)), .val (.int x3)] [] := by first | (simp [entryFrame, mkF, argsToLocals, Value.category]; done) | rfl
set_option maxRecDepth 65536 in
set_option maxHeartbeats 40000000 in
theorem rmCts01 (l : Launch) (Z : State) (a0 : Array Value) (hw : ∀ d ∈ tables_1, d.before a0 Z = true) (b : Addr) (kk : ClassId) (u0 u1 u2 u3 u4 u5 u6 : Int32) (x3 : Int32) (h0 : Heap) (V : Arv Z h0 b kk .int (7 : Int32) [(.int u0), (.int u1), (.int u2), (.int u3), (.int u4), (.int u5), (.int u6)] (.int (0 : Int32))) :
    OMeets l Z y17 prog_48_method_26_code 4 (some .boolean) ({ frames := 0, cells := 0, slots := 0, locals := 0 } : Room) #[(.ref b), (.int (1 : Int32)), (.int (1 : Int32)), (.int x3)] h0 (OPure (some (.int (if u2 < x3 then (0 : Int32) else (1 : Int32)))) h0) := by
  refine met (Q := OPure (some (.int (if u2 < x3 then (0 : Int32) else (1 : Int32)))) h0) pf_17 (fun m => ef_rmCts01 m b x3) fun p e s m below meth c T0 P0 => ?_
  refine G.aloadN P0 d17_0 rfl rfl (pc' := 1) rfl ?_
  refine G.iloadN P0 d17_1 rfl (pc' := 2) rfl ?_
  refine G.iloadN P0 d17_2 rfl (pc' := 3) rfl ?_
  refine G.iadd P0 d17_3 (z := (2 : Int32)) (by decide) (pc' := 4) rfl ?_
  refine G.iaload P0 V (j := (2 : Int32)) (v := (.int u2)) (by decide) rfl d17_4 (pc' := 5) rfl ?_
  refine G.iloadN P0 d17_5 rfl (pc' := 6) rfl ?_
  refine G.icmp_lt P0 d17_6 (by decide) (pcY := 13) (by decide) (pcN := 9) rfl (fun c1 => ?_) (fun c1 => ?_)
  · --
    refine G.iconst P0 d17_13 (z := (0 : Int32)) rfl (pc' := 14) rfl ?_
    have e_ : (0 : Int32) = (if u2 < x3 then (0 : Int32) else (1 : Int32)) := (if_pos c1).symm
    exact G.retN P0 (t := .boolean) rfl (by simp) d17_14 (by decide) (by decide) ⟨sI e_, rfl, rfl⟩
  · --
    refine G.iconst P0 d17_9 (z := (1 : Int32)) rfl (pc' := 10) rfl ?_
    refine G.goto P0 d17_10 (by decide) (pc' := 14) (by decide) ?_
    have e_ : (1 : Int32) = (if u2 < x3 then (0 : Int32) else (1 : Int32)) := (if_neg c1).symm
    exact G.retN P0 (t := .boolean) rfl (by simp) d17_14 (by decide) (by decide) ⟨sI e_, rfl, rfl⟩

theorem ef_rmCts10 (m : MethodId) (b : Addr) (x3 : Int32) : entryFrame m #[(.ref b), (.int (3 : Int32)), (.int (0 : Int32)), (.int x3)] 4 = mkF m 0 #[.val (.ref b), .val (.int (3 : Int32)), .val (.int (0 : Int32)), .val (.int x3)] [] := by first | (simp [entryFrame, mkF, argsToLocals, Value.category]; done) | rfl
set_option maxRecDepth 65536 in
set_option maxHeartbeats 40000000 in
theorem rmCts10 (l : Launch) (Z : State) (a0 : Array Value) (hw : ∀ d ∈ tables_1, d.before a0 Z = true) (b : Addr) (kk : ClassId) (u0 u1 u2 u3 u4 u5 u6 : Int32) (x3 : Int32) (h0 : Heap) (V : Arv Z h0 b kk .int (7 : Int32) [(.int u0), (.int u1), (.int u2), (.int u3), (.int u4), (.int u5), (.int u6)] (.int (0 : Int32))) :
    OMeets l Z y17 prog_48_method_26_code 4 (some .boolean) ({ frames := 0, cells := 0, slots := 0, locals := 0 } : Room) #[(.ref b), (.int (3 : Int32)), (.int (0 : Int32)), (.int x3)] h0 (OPure (some (.int (if u3 < x3 then (0 : Int32) else (1 : Int32)))) h0) := by
  refine met (Q := OPure (some (.int (if u3 < x3 then (0 : Int32) else (1 : Int32)))) h0) pf_17 (fun m => ef_rmCts10 m b x3) fun p e s m below meth c T0 P0 => ?_
  refine G.aloadN P0 d17_0 rfl rfl (pc' := 1) rfl ?_
  refine G.iloadN P0 d17_1 rfl (pc' := 2) rfl ?_
  refine G.iloadN P0 d17_2 rfl (pc' := 3) rfl ?_
  refine G.iadd P0 d17_3 (z := (3 : Int32)) (by decide) (pc' := 4) rfl ?_
  refine G.iaload P0 V (j := (3 : Int32)) (v := (.int u3)) (by decide) rfl d17_4 (pc' := 5) rfl ?_
  refine G.iloadN P0 d17_5 rfl (pc' := 6) rfl ?_
  refine G.icmp_lt P0 d17_6 (by decide) (pcY := 13) (by decide) (pcN := 9) rfl (fun c1 => ?_) (fun c1 => ?_)
  · --
    refine G.iconst P0 d17_13 (z := (0 : Int32)) rfl (pc' := 14) rfl ?_
    have e_ : (0 : Int32) = (if u3 < x3 then (0 : Int32) else (1 : Int32)) := (if_pos c1).symm
    exact G.retN P0 (t := .boolean) rfl (by simp) d17_14 (by decide) (by decide) ⟨sI e_, rfl, rfl⟩
  · --
    refine G.iconst P0 d17_9 (z := (1 : Int32)) rfl (pc' := 10) rfl ?_
    refine G.goto P0 d17_10 (by decide) (pc' := 14) (by decide) ?_
    have e_ : (1 : Int32) = (if u3 < x3 then (0 : Int32) else (1 : Int32)) := (if_neg c1).symm
    exact G.retN P0 (t := .boolean) rfl (by simp) d17_14 (by decide) (by decide) ⟨sI e_, rfl, rfl⟩

theorem ef_rmCts11 (m : MethodId) (b : Addr) (x3 : Int32) : entryFrame m #[(.ref b), (.int (3 : Int32)), (.int (1 : Int32)), (.int x3)] 4 = mkF m 0 #[.val (.ref b), .val (.int (3 : Int32)), .val (.int (1 : Int32)), .val (.int x3)] [] := by first | (simp [entryFrame, mkF, argsToLocals, Value.category]; done) | rfl
set_option maxRecDepth 65536 in
set_option maxHeartbeats 40000000 in
theorem rmCts11 (l : Launch) (Z : State) (a0 : Array Value) (hw : ∀ d ∈ tables_1, d.before a0 Z = true) (b : Addr) (kk : ClassId) (u0 u1 u2 u3 u4 u5 u6 : Int32) (x3 : Int32) (h0 : Heap) (V : Arv Z h0 b kk .int (7 : Int32) [(.int u0), (.int u1), (.int u2), (.int u3), (.int u4), (.int u5), (.int u6)] (.int (0 : Int32))) :
    OMeets l Z y17 prog_48_method_26_code 4 (some .boolean) ({ frames := 0, cells := 0, slots := 0, locals := 0 } : Room) #[(.ref b), (.int (3 : Int32)), (.int (1 : Int32)), (.int x3)] h0 (OPure (some (.int (if u4 < x3 then (0 : Int32) else (1 : Int32)))) h0) := by
  refine met (Q := OPure (some (.int (if u4 < x3 then (0 : Int32) else (1 : Int32)))) h0) pf_17 (fun m => ef_rmCts11 m b x3) fun p e s m below meth c T0 P0 => ?_
  refine G.aloadN P0 d17_0 rfl rfl (pc' := 1) rfl ?_
  refine G.iloadN P0 d17_1 rfl (pc' := 2) rfl ?_
  refine G.iloadN P0 d17_2 rfl (pc' := 3) rfl ?_
  refine G.iadd P0 d17_3 (z := (4 : Int32)) (by decide) (pc' := 4) rfl ?_
  refine G.iaload P0 V (j := (4 : Int32)) (v := (.int u4)) (by decide) rfl d17_4 (pc' := 5) rfl ?_
  refine G.iloadN P0 d17_5 rfl (pc' := 6) rfl ?_
  refine G.icmp_lt P0 d17_6 (by decide) (pcY := 13) (by decide) (pcN := 9) rfl (fun c1 => ?_) (fun c1 => ?_)
  · --
    refine G.iconst P0 d17_13 (z := (0 : Int32)) rfl (pc' := 14) rfl ?_
    have e_ : (0 : Int32) = (if u4 < x3 then (0 : Int32) else (1 : Int32)) := (if_pos c1).symm
    exact G.retN P0 (t := .boolean) rfl (by simp) d17_14 (by decide) (by decide) ⟨sI e_, rfl, rfl⟩
  · --
    refine G.iconst P0 d17_9 (z := (1 : Int32)) rfl (pc' := 10) rfl ?_
    refine G.goto P0 d17_10 (by decide) (pc' := 14) (by decide) ?_
    have e_ : (1 : Int32) = (if u4 < x3 then (0 : Int32) else (1 : Int32)) := (if_neg c1).symm
    exact G.retN P0 (t := .boolean) rfl (by simp) d17_14 (by decide) (by decide) ⟨sI e_, rfl, rfl⟩

theorem own_01 (x : Int32) : (x &&& (1 : Int32)) = (0 : Int32) ∨ (x &&& (1 : Int32)) = (1 : Int32) := and_one x
theorem own_a (x : Int32) : 0 ≤ (x &&& (3 : Int32)).toInt ∧ (x &&& (3 : Int32)).toInt ≤ 3 := by
  have q := c_mask x (3 : Int32) 2 (by decide) (by decide)
  omega
theorem own_max0 {a : Int32} (h : 0 ≤ a.toInt) : own_max (0 : Int32) a = a := by
  unfold own_max
  have k0 : (0 : Int32).toInt = 0 := rfl
  by_cases q : (0 : Int32) < a
  · exact if_pos q
  · rw [if_neg q]
    rw [Int32.lt_iff_toInt_lt] at q
    exact Int32.toInt_inj.mp (by omega)
theorem own_maxc {c : Int32} (h : c = (0 : Int32) ∨ c = (1 : Int32)) : own_max c (0 : Int32) = c := by rcases h with rfl | rfl <;> decide
theorem own_lit {a : Int32} (h : 0 ≤ a.toInt ∧ a.toInt ≤ 3) : a = (0 : Int32) ∨ a = (1 : Int32) ∨ a = (2 : Int32) ∨ a = (3 : Int32) := by
  have k0 : (0 : Int32).toInt = 0 := rfl
  have k1 : (1 : Int32).toInt = 1 := rfl
  have k2 : (2 : Int32).toInt = 2 := rfl
  have k3 : (3 : Int32).toInt = 3 := rfl
  simp only [← Int32.toInt_inj, k0, k1, k2, k3]; omega

theorem ef_0 (m : MethodId) (x0 : Int32) (x1 : Int32) (x2 : Int32) : entryFrame m #[(.int x0), (.int x1), (.int x2)] maxLocals = mkF m 0 #[.val (.int x0), .val (.int x1), .val (.int x2), .unset, .unset, .unset, .unset, .unset, .unset, .unset, .unset, .unset, .unset, .unset, .unset] [] := by first | (simp [entryFrame, mkF, argsToLocals, Value.category, maxLocals]; done) | rfl
set_option maxRecDepth 65536 in
set_option maxHeartbeats 40000000 in
theorem rm0 (l : Launch) (Z : State) (a0 : Array Value) (hw : ∀ d ∈ tables_1, d.before a0 Z = true) (x0 : Int32) (x1 : Int32) (x2 : Int32) (h0 : Heap) (n0 : Nat) (Z0 : n0 ≤ Array.size h0) (O0 : Old Z n0 h0) (e_IN_STATE e_RELEASE e_PLAIN e_ACQUIRE : Addr) (S_IN_STATE : Sta Z Z.heap "dev/happenstance/model/HappensBefore$Keeping" "IN_STATE" "Ldev/happenstance/model/HappensBefore$Keeping;" (.ref e_IN_STATE)) (EK : Exa Z Z.heap e_IN_STATE "dev/happenstance/model/HappensBefore$Keeping") (FK : Fld Z Z.heap e_IN_STATE "java/lang/Enum" "ordinal" "I" (.int (1 : Int32))) (S_RELEASE : Sta Z Z.heap "dev/happenstance/model/HappensBefore$Kind" "RELEASE" "Ldev/happenstance/model/HappensBefore$Kind;" (.ref e_RELEASE)) (S_PLAIN : Sta Z Z.heap "dev/happenstance/model/HappensBefore$Kind" "PLAIN" "Ldev/happenstance/model/HappensBefore$Kind;" (.ref e_PLAIN)) (S_ACQUIRE : Sta Z Z.heap "dev/happenstance/model/HappensBefore$Kind" "ACQUIRE" "Ldev/happenstance/model/HappensBefore$Kind;" (.ref e_ACQUIRE)) :
    MetFree l x (head1 (Jvm.Cond.code x code maxLocals ret :: tables_1) room_1) (fun a U => a = #[(.int x0), (.int x1), (.int x2)] ∧ Z.Warmed39 U.vm ∧ U.heap = h0) (fun _ _ _ _ _ => True) (fun _ U o U' => ∃ v L, o = .returned v ∧ (fun v h L => v = some (.int 1) ∧ Fr n0 L) v U'.heap L ∧ FrameEnd U o U' L room_1.cells room_1.slots) := by
  refine met (Q := fun v h L => v = some (.int 1) ∧ Fr n0 L) pf_0 (fun m => ef_0 m x0 x1 x2) fun p e s m below meth c T0 P0 => ?_
  have N0 := Fr.nil n0
  refine G.iloadN P0 at_0 rfl (pc' := 1) rfl ?_
  refine G.iconst P0 at_1 (z := (3 : Int32)) rfl (pc' := 2) rfl ?_
  obtain ⟨a, h_a⟩ : ∃ z : Int32, (x0 &&& (3 : Int32)) = z := ⟨_, rfl⟩
  refine G.iand P0 at_2 (z := a) h_a (pc' := 3) rfl ?_
  refine G.istoreN P0 at_3 (l' := #[.val (.int x0), .val (.int x1), .val (.int x2), .val (.int a), .unset, .unset, .unset, .unset, .unset, .unset, .unset, .unset, .unset, .unset, .unset]) rfl (pc' := 4) rfl ?_
  refine G.iloadN P0 at_4 rfl (pc' := 5) rfl ?_
  refine G.iconst P0 at_5 (z := (2 : Int32)) rfl (pc' := 6) rfl ?_
  refine G.iushr P0 at_6 rfl (pc' := 7) rfl ?_
  refine G.iconst P0 at_7 (z := (1 : Int32)) rfl (pc' := 8) rfl ?_
  obtain ⟨b, h_b⟩ : ∃ z : Int32, ((ushr x0 (2 : Int32)) &&& (1 : Int32)) = z := ⟨_, rfl⟩
  refine G.iand P0 at_8 (z := b) h_b (pc' := 9) rfl ?_
  refine G.istore P0 at_9 (l' := #[.val (.int x0), .val (.int x1), .val (.int x2), .val (.int a), .val (.int b), .unset, .unset, .unset, .unset, .unset, .unset, .unset, .unset, .unset, .unset]) rfl (pc' := 11) rfl ?_
  refine G.iloadN P0 at_11 rfl (pc' := 12) rfl ?_
  refine G.iconst P0 at_12 (z := (3 : Int32)) rfl (pc' := 13) rfl ?_
  refine G.iushr P0 at_13 rfl (pc' := 14) rfl ?_
  refine G.iconst P0 at_14 (z := (1 : Int32)) rfl (pc' := 15) rfl ?_
  obtain ⟨c_, h_c_⟩ : ∃ z : Int32, ((ushr x0 (3 : Int32)) &&& (1 : Int32)) = z := ⟨_, rfl⟩
  refine G.iand P0 at_15 (z := c_) h_c_ (pc' := 16) rfl ?_
  refine G.istore P0 at_16 (l' := #[.val (.int x0), .val (.int x1), .val (.int x2), .val (.int a), .val (.int b), .val (.int c_), .unset, .unset, .unset, .unset, .unset, .unset, .unset, .unset, .unset]) rfl (pc' := 18) rfl ?_
  refine G.iloadN P0 at_18 rfl (pc' := 19) rfl ?_
  refine G.iconst P0 at_19 (z := (4 : Int32)) rfl (pc' := 20) rfl ?_
  refine G.iushr P0 at_20 rfl (pc' := 21) rfl ?_
  refine G.iconst P0 at_21 (z := (1 : Int32)) rfl (pc' := 22) rfl ?_
  refine G.iand P0 at_22 rfl (pc' := 23) rfl ?_
  refine Go.all (S1 := fun acq : Int32 => T0.setTop (mkF m 31 #[.val (.int x0), .val (.int x1), .val (.int x2), .val (.int a), .val (.int b), .val (.int c_), .unset, .unset, .unset, .unset, .unset, .unset, .unset, .unset, .unset] [(.int acq)])) (A := fun acq => acq = (0 : Int32) ∨ acq = (1 : Int32)) (fun H1 => ?_) (fun acq j1 => ?_)
  · --
    refine G.if_eq P0 at_23 (by decide) (pcY := 30) (by decide) (pcN := 26) rfl (fun c2 => ?_) (fun c2 => ?_)
    · --
      refine G.iconst P0 at_30 (z := (0 : Int32)) rfl (pc' := 31) rfl ?_
      exact H1 ((0 : Int32)) (Or.inl rfl)
    · --
      refine G.iconst P0 at_26 (z := (1 : Int32)) rfl (pc' := 27) rfl ?_
      refine G.goto P0 at_27 (by decide) (pc' := 31) (by decide) ?_
      exact H1 ((1 : Int32)) (Or.inr rfl)
  refine G.istore P0 at_31 (l' := #[.val (.int x0), .val (.int x1), .val (.int x2), .val (.int a), .val (.int b), .val (.int c_), .val (.int acq), .unset, .unset, .unset, .unset, .unset, .unset, .unset, .unset]) rfl (pc' := 33) rfl ?_
  refine G.iloadN P0 at_33 rfl (pc' := 34) rfl ?_
  refine G.iconst P0 at_34 (z := (5 : Int32)) rfl (pc' := 35) rfl ?_
  refine G.iushr P0 at_35 rfl (pc' := 36) rfl ?_
  refine G.iconst P0 at_36 (z := (1 : Int32)) rfl (pc' := 37) rfl ?_
  obtain ⟨s_, h_s_⟩ : ∃ z : Int32, ((ushr x0 (5 : Int32)) &&& (1 : Int32)) = z := ⟨_, rfl⟩
  refine G.iand P0 at_37 (z := s_) h_s_ (pc' := 38) rfl ?_
  refine G.istore P0 at_38 (l' := #[.val (.int x0), .val (.int x1), .val (.int x2), .val (.int a), .val (.int b), .val (.int c_), .val (.int acq), .val (.int s_), .unset, .unset, .unset, .unset, .unset, .unset, .unset]) rfl (pc' := 40) rfl ?_
  refine G.iloadN P0 at_40 rfl (pc' := 41) rfl ?_
  refine G.iconst P0 at_41 (z := (1 : Int32)) rfl (pc' := 42) rfl ?_
  obtain ⟨t_, h_t_⟩ : ∃ z : Int32, (x1 &&& (1 : Int32)) = z := ⟨_, rfl⟩
  refine G.iand P0 at_42 (z := t_) h_t_ (pc' := 43) rfl ?_
  refine G.istore P0 at_43 (l' := #[.val (.int x0), .val (.int x1), .val (.int x2), .val (.int a), .val (.int b), .val (.int c_), .val (.int acq), .val (.int s_), .val (.int t_), .unset, .unset, .unset, .unset, .unset, .unset]) rfl (pc' := 45) rfl ?_
  have ha : 0 ≤ a.toInt ∧ a.toInt ≤ 3 := by rw [← h_a]; exact own_a x0
  have hb_ : b = (0 : Int32) ∨ b = (1 : Int32) := by rw [← h_b]; exact own_01 _
  have hc_ : c_ = (0 : Int32) ∨ c_ = (1 : Int32) := by rw [← h_c_]; exact own_01 _
  have hs_ : s_ = (0 : Int32) ∨ s_ = (1 : Int32) := by rw [← h_s_]; exact own_01 _
  have ht_ : t_ = (0 : Int32) ∨ t_ = (1 : Int32) := by rw [← h_t_]; exact own_01 _
  refine G.iloadN P0 at_45 rfl (pc' := 46) rfl ?_
  refine G.istore P0 at_46 (l' := #[.val (.int x0), .val (.int x1), .val (.int x2), .val (.int a), .val (.int b), .val (.int c_), .val (.int acq), .val (.int s_), .val (.int t_), .val (.int x2), .unset, .unset, .unset, .unset, .unset]) rfl (pc' := 48) rfl ?_
  refine G.iconst P0 at_48 (z := (1 : Int32)) rfl (pc' := 49) rfl ?_
  refine G.newPE P0 (wk hw 0 rfl) (by decide) (cap := 1) (by decide) (by decide) (by decide) (ad := "[I") (by decide) at_49 (pc' := 51) rfl fun T3 h3 a3 k3 g3 P3 E3 V3 X3 => ?_
  have g4 : n0 ≤ a3 := by rw [g3]; exact Z0
  have V3p : Arv Z h3 a3 k3 .int (1 : Int32) [(.int (0 : Int32))] (.int (0 : Int32)) := V3.pad (pad_rep [] _ 1)
  refine G.astore P3 at_51 rfl (l' := #[.val (.int x0), .val (.int x1), .val (.int x2), .val (.int a), .val (.int b), .val (.int c_), .val (.int acq), .val (.int s_), .val (.int t_), .val (.int x2), .val (.ref a3), .unset, .unset, .unset, .unset]) rfl (pc' := 53) rfl ?_
  refine G.bipush P3 at_53 (z := (7 : Int32)) rfl (pc' := 55) rfl ?_
  have z5 : n0 ≤ Array.size h3 := (Nat.le_trans Z0 E3.1)
  refine G.newPE P3 (wk hw 0 rfl) (by decide) (cap := 7) (by decide) (by decide) (by decide) (ad := "[I") (by decide) at_55 (pc' := 57) rfl fun T6 h6 a6 k6 g6 P6 E6 V6 X6 => ?_
  have n7 : a3 ≠ a6 := by rw [g6]; exact Nat.ne_of_lt X3.lt
  have g8 : n0 ≤ a6 := by rw [g6]; exact z5
  have V6p : Arv Z h6 a6 k6 .int (7 : Int32) [(.int (0 : Int32)), (.int (0 : Int32)), (.int (0 : Int32)), (.int (0 : Int32)), (.int (0 : Int32)), (.int (0 : Int32)), (.int (0 : Int32))] (.int (0 : Int32)) := V6.pad (pad_rep [] _ 7)
  refine G.astore P6 at_57 rfl (l' := #[.val (.int x0), .val (.int x1), .val (.int x2), .val (.int a), .val (.int b), .val (.int c_), .val (.int acq), .val (.int s_), .val (.int t_), .val (.int x2), .val (.ref a3), .val (.ref a6), .unset, .unset, .unset]) rfl (pc' := 59) rfl ?_
  have f9 := (X3.ext E6)
  have z10 : n0 ≤ Array.size h6 := (Nat.le_trans z5 E6.1)
  refine G.newO P6 (wk hw 1 rfl) (wk hw 2 rfl) (wk hw 3 rfl) at_59 (by decide) (pc' := 62) rfl fun T11 h11 a11 g11 P11 E11 A11 D11 => ?_
  have n12 : a3 ≠ a11 := by rw [g11]; exact Nat.ne_of_lt f9.lt
  have n13 : a6 ≠ a11 := by rw [g11]; exact Nat.ne_of_lt X6.lt
  have g14 : n0 ≤ a11 := by rw [g11]; exact z10
  have f15 : Fld Z h11 a11 "dev/happenstance/model/HappensBefore" "threads" "I" (.int (0 : Int32)) := D11 (Or.inr (wk hw 20 rfl)) (ty := .int) (by decide)
  have f16 : Fld Z h11 a11 "dev/happenstance/model/HappensBefore" "initialValues" "[I" .null := D11 (Or.inr (wk hw 31 rfl)) (ty := (.array .int)) (by decide)
  have f17 : Fld Z h11 a11 "dev/happenstance/model/HappensBefore" "end" "I" (.int (0 : Int32)) := D11 (Or.inr (wk hw 41 rfl)) (ty := .int) (by decide)
  have f18 : Fld Z h11 a11 "dev/happenstance/model/HappensBefore" "memory" "I" (.int (0 : Int32)) := D11 (Or.inr (wk hw 43 rfl)) (ty := .int) (by decide)
  have f19 : Fld Z h11 a11 "dev/happenstance/model/HappensBefore" "holders" "I" (.int (0 : Int32)) := D11 (Or.inr (wk hw 45 rfl)) (ty := .int) (by decide)
  have f20 : Fld Z h11 a11 "dev/happenstance/model/HappensBefore" "clocks" "Ldev/happenstance/model/HappensBefore$Clocks;" .null := D11 (Or.inr (wk hw 67 rfl)) (ty := (.object "dev/happenstance/model/HappensBefore$Clocks")) (by decide)
  have f21 : Fld Z h11 a11 "dev/happenstance/model/HappensBefore" "log" "I" (.int (0 : Int32)) := D11 (Or.inr (wk hw 69 rfl)) (ty := .int) (by decide)
  refine G.dup P11 at_62 rfl (pc' := 63) rfl ?_
  refine G.iconst P11 at_63 (z := (2 : Int32)) rfl (pc' := 64) rfl ?_
  refine G.aload P11 at_64 rfl rfl (pc' := 66) rfl ?_
  refine G.iconst P11 at_66 (z := (0 : Int32)) rfl (pc' := 67) rfl ?_
  refine G.iconst P11 at_67 (z := (1 : Int32)) rfl (pc' := 68) rfl ?_
  refine G.iconst P11 at_68 (z := (0 : Int32)) rfl (pc' := 69) rfl ?_
  have lk := EK.lt
  have f22 := (f9.ext E11)
  have f23 := ((V3p.ext E6).ext E11)
  have nhk : a11 ≠ e_IN_STATE := Ne.symm (Nat.ne_of_lt (Nat.lt_of_lt_of_le (O0.1 ▸ lk) g14))
  have o24 : Old Z n0 h11 := (((O0.ext E3).ext E6).ext E11)
  have f25 := (V6p.ext E11)
  have LTST := f25
  have z26 : n0 ≤ Array.size h11 := (Nat.le_trans z10 E11.1)
  refine G.callI P11 (rmC1 l Z a0 hw a11 a3 e_IN_STATE k3 _ h11 n0 z26 g14 (Ne.symm n12) nhk A11 f22 (EK.ext o24.2) (FK.ext o24.2) (S_IN_STATE.ext o24.2) f23 f15 f16 f17 f18 f19 f20 f21) rfl (wk hw 4 rfl) (wk hw 5 rfl) (wk hw 3 rfl) (wk hw 6 rfl) (by decide) pd_1 (argsL := [(.int (2 : Int32)), (.ref a3), (.int (0 : Int32)), (.int (1 : Int32)), (.int (0 : Int32))]) (rest := [(.ref a11)]) rfl rfl rfl rfl (W := 1) (Nat.le_of_eq rfl) (by decide) at_69 (pc' := 72) rfl fun T27 L27 v27 P27 Q27 => ?_
  obtain ⟨rfl, N27, K27, E27, ic, hic27, gic, Ei27, FT27, FC27, FL27, IA27, IT27⟩ := Q27
  have N28 := Fr.app N0 N27
  show Go p e below _ (T27.setTop (mkF m 72 #[.val (.int x0), .val (.int x1), .val (.int x2), .val (.int a), .val (.int b), .val (.int c_), .val (.int acq), .val (.int s_), .val (.int t_), .val (.int x2), .val (.ref a3), .val (.ref a6), .unset, .unset, .unset] [(.ref a11)]))
  have nist : ic ≠ a6 := Ne.symm (Nat.ne_of_lt (Nat.lt_of_lt_of_le LTST.lt hic27))
  refine G.astore P27 at_72 rfl (l' := #[.val (.int x0), .val (.int x1), .val (.int x2), .val (.int a), .val (.int b), .val (.int c_), .val (.int acq), .val (.int s_), .val (.int t_), .val (.int x2), .val (.ref a3), .val (.ref a6), .val (.ref a11), .unset, .unset]) rfl (pc' := 74) rfl ?_
  refine G.iloadN P27 at_74 rfl (pc' := 75) rfl ?_
  refine G.iconst P27 at_75 (z := (1 : Int32)) rfl (pc' := 76) rfl ?_
  refine Go.all (S1 := fun i_ : State × Heap × List Loc => (i_.1).setTop (mkF m 119 #[.val (.int x0), .val (.int x1), .val (.int x2), .val (.int a), .val (.int b), .val (.int c_), .val (.int acq), .val (.int s_), .val (.int t_), .val (.int x2), .val (.ref a3), .val (.ref a6), .val (.ref a11), .unset, .unset] [])) (A := fun i_ => (Pos p l e room_1 s m #[(.int x0), (.int x1), (.int x2)] below meth c Z x.cls code maxLocals ret x.name (i_.1) (i_.2.1) (i_.2.2) 5 18) ∧ (Fr n0 (i_.2.2)) ∧ (n0 ≤ Array.size (i_.2.1)) ∧ (Exa Z (i_.2.1) a11 "dev/happenstance/model/HappensBefore") ∧ (Exa Z (i_.2.1) ic "dev/happenstance/model/HappensBefore$InState") ∧ (Fld Z (i_.2.1) a11 "dev/happenstance/model/HappensBefore" "threads" "I" (.int (2 : Int32))) ∧ (Fld Z (i_.2.1) a11 "dev/happenstance/model/HappensBefore" "clocks" "Ldev/happenstance/model/HappensBefore$Clocks;" (.ref ic)) ∧ (Fld Z (i_.2.1) a11 "dev/happenstance/model/HappensBefore" "log" "I" (.int (-1 : Int32))) ∧ (Fld Z (i_.2.1) ic "dev/happenstance/model/HappensBefore$InState" "at" "I" (.int (1 : Int32))) ∧ (Fld Z (i_.2.1) ic "dev/happenstance/model/HappensBefore$InState" "threads" "I" (.int (2 : Int32))) ∧ (Arv Z (i_.2.1) a6 k6 .int (7 : Int32) [(.int (0 : Int32)), (.int a), (.int (0 : Int32)), (.int (0 : Int32)), (.int (0 : Int32)), (.int (0 : Int32)), (.int (0 : Int32))] (.int (0 : Int32))) ∧ (Old Z n0 (i_.2.1))) (fun H29 => ?_) (fun i_ j29 => ?_)
  · --
    refine G.icmp_lt P27 at_76 (by decide) (pcY := 89) (by decide) (pcN := 79) rfl (fun c30 => ?_) (fun c30 => ?_)
    · --
      refine G.iloadN P27 at_89 rfl (pc' := 90) rfl ?_
      refine G.iconst P27 at_90 (z := (2 : Int32)) rfl (pc' := 91) rfl ?_
      refine G.icmp_lt P27 at_91 (by decide) (pcY := 104) (by decide) (pcN := 94) rfl (fun c31 => ?_) (fun c31 => ?_)
      · --
        refine G.iloadN P27 at_104 rfl (pc' := 105) rfl ?_
        refine G.iconst P27 at_105 (z := (3 : Int32)) rfl (pc' := 106) rfl ?_
        refine G.icmp_lt P27 at_106 (by decide) (pcY := 119) (by decide) (pcN := 109) rfl (fun c32 => ?_) (fun c32 => ?_)
        · --
          have f33 := (f25.keep K27 (ninS n13 nin0))
          have la : a = (0 : Int32) := by
            rcases own_lit ha with q | q | q | q <;> subst q <;> first | rfl | exact absurd c30 (by decide) | exact absurd c31 (by decide) | exact absurd c32 (by decide)
          have v34 : Arv Z T27.heap a6 k6 .int (7 : Int32) [(.int (0 : Int32)), (.int a), (.int (0 : Int32)), (.int (0 : Int32)), (.int (0 : Int32)), (.int (0 : Int32)), (.int (0 : Int32))] (.int (0 : Int32)) := by
            have q := f33
            rw [la]; exact q
          have o35 : Old Z n0 T27.heap := (o24.keep K27 (allS g14 all0))
          have z36 : n0 ≤ Array.size T27.heap := (Nat.le_trans z26 K27.1)
          exact H29 (T27, T27.heap, _) ⟨P27, N28, z36, E27, Ei27, FT27, FC27, FL27, IA27, IT27, v34, o35⟩
        · --
          refine G.aload P27 at_109 rfl rfl (pc' := 111) rfl ?_
          refine G.aload P27 at_111 rfl rfl (pc' := 113) rfl ?_
          refine G.iconst P27 at_113 (z := (0 : Int32)) rfl (pc' := 114) rfl ?_
          refine G.iconst P27 at_114 (z := (1 : Int32)) rfl (pc' := 115) rfl ?_
          have f37 := (f25.keep K27 (ninS n13 nin0))
          have o38 : Old Z n0 T27.heap := (o24.keep K27 (allS g14 all0))
          refine G.callV P27 (rmCount0 l Z a0 hw a11 a6 ic k6 (0 : Int32) (0 : Int32) (0 : Int32) (0 : Int32) (0 : Int32) (0 : Int32) (0 : Int32) e_PLAIN (1 : Int32) T27.heap n0 g8 (Ne.symm n13) nist E27 Ei27 FT27 FC27 FL27 IA27 IT27 f37 (S_PLAIN.ext o38.2)) (wk hw 118 rfl) (wk hw 119 rfl) (wk hw 121 rfl) rfl (wk hw 120 rfl) (wk hw 3 rfl) (wk hw 122 rfl) (by decide) E27 pd_18 (argsL := [(.ref a6), (.int (0 : Int32)), (.int (1 : Int32))]) (rest := []) rfl rfl rfl rfl (W := 0) (Nat.le_of_eq rfl) (by decide) at_115 (pc' := 118) rfl fun T39 L39 v39 P39 Q39 => ?_
          obtain ⟨rfl, N39, K39, V39⟩ := Q39
          have N40 := Fr.app N28 N39
          show Go p e below _ (T39.setTop (mkF m 118 #[.val (.int x0), .val (.int x1), .val (.int x2), .val (.int a), .val (.int b), .val (.int c_), .val (.int acq), .val (.int s_), .val (.int t_), .val (.int x2), .val (.ref a3), .val (.ref a6), .val (.ref a11), .unset, .unset] [(.int ((0 : Int32) + (1 : Int32)))]))
          refine G.pop P39 at_118 rfl (pc' := 119) rfl ?_
          have la : a = ((0 : Int32) + (1 : Int32)) := by
            rcases own_lit ha with q | q | q | q <;> subst q <;> first | rfl | exact absurd c30 (by decide) | exact absurd c31 (by decide) | exact absurd c32 (by decide)
          have v41 : Arv Z T39.heap a6 k6 .int (7 : Int32) [(.int (0 : Int32)), (.int a), (.int (0 : Int32)), (.int (0 : Int32)), (.int (0 : Int32)), (.int (0 : Int32)), (.int (0 : Int32))] (.int (0 : Int32)) := by
            have q := V39
            rw [← la] at q; exact q
          have o42 : Old Z n0 T39.heap := (o38.keep K39 (allS g8 all0))
          have f43 := (E27.keep K39)
          have f44 := (Ei27.keep K39)
          have f45 := (FT27.keep K39 (ninS (Ne.symm n13) nin0))
          have f46 := (FC27.keep K39 (ninS (Ne.symm n13) nin0))
          have f47 := (FL27.keep K39 (ninS (Ne.symm n13) nin0))
          have f48 := (IA27.keep K39 (ninS nist nin0))
          have f49 := (IT27.keep K39 (ninS nist nin0))
          have z50 : n0 ≤ Array.size T39.heap := (Nat.le_trans (Nat.le_trans z26 K27.1) K39.1)
          exact H29 (T39, T39.heap, _) ⟨P39, N40, z50, f43, f44, f45, f46, f47, f48, f49, v41, o42⟩
      · --
        refine G.aload P27 at_94 rfl rfl (pc' := 96) rfl ?_
        refine G.aload P27 at_96 rfl rfl (pc' := 98) rfl ?_
        refine G.iconst P27 at_98 (z := (0 : Int32)) rfl (pc' := 99) rfl ?_
        refine G.iconst P27 at_99 (z := (1 : Int32)) rfl (pc' := 100) rfl ?_
        have f51 := (f25.keep K27 (ninS n13 nin0))
        have o52 : Old Z n0 T27.heap := (o24.keep K27 (allS g14 all0))
        refine G.callV P27 (rmCount0 l Z a0 hw a11 a6 ic k6 (0 : Int32) (0 : Int32) (0 : Int32) (0 : Int32) (0 : Int32) (0 : Int32) (0 : Int32) e_PLAIN (1 : Int32) T27.heap n0 g8 (Ne.symm n13) nist E27 Ei27 FT27 FC27 FL27 IA27 IT27 f51 (S_PLAIN.ext o52.2)) (wk hw 118 rfl) (wk hw 119 rfl) (wk hw 121 rfl) rfl (wk hw 120 rfl) (wk hw 3 rfl) (wk hw 122 rfl) (by decide) E27 pd_18 (argsL := [(.ref a6), (.int (0 : Int32)), (.int (1 : Int32))]) (rest := []) rfl rfl rfl rfl (W := 0) (Nat.le_of_eq rfl) (by decide) at_100 (pc' := 103) rfl fun T53 L53 v53 P53 Q53 => ?_
        obtain ⟨rfl, N53, K53, V53⟩ := Q53
        have N54 := Fr.app N28 N53
        show Go p e below _ (T53.setTop (mkF m 103 #[.val (.int x0), .val (.int x1), .val (.int x2), .val (.int a), .val (.int b), .val (.int c_), .val (.int acq), .val (.int s_), .val (.int t_), .val (.int x2), .val (.ref a3), .val (.ref a6), .val (.ref a11), .unset, .unset] [(.int ((0 : Int32) + (1 : Int32)))]))
        refine G.pop P53 at_103 rfl (pc' := 104) rfl ?_
        refine G.iloadN P53 at_104 rfl (pc' := 105) rfl ?_
        refine G.iconst P53 at_105 (z := (3 : Int32)) rfl (pc' := 106) rfl ?_
        refine G.icmp_lt P53 at_106 (by decide) (pcY := 119) (by decide) (pcN := 109) rfl (fun c55 => ?_) (fun c55 => ?_)
        · --
          have la : a = ((0 : Int32) + (1 : Int32)) := by
            rcases own_lit ha with q | q | q | q <;> subst q <;> first | rfl | exact absurd c30 (by decide) | exact absurd c31 (by decide) | exact absurd c55 (by decide)
          have v56 : Arv Z T53.heap a6 k6 .int (7 : Int32) [(.int (0 : Int32)), (.int a), (.int (0 : Int32)), (.int (0 : Int32)), (.int (0 : Int32)), (.int (0 : Int32)), (.int (0 : Int32))] (.int (0 : Int32)) := by
            have q := V53
            rw [← la] at q; exact q
          have o57 : Old Z n0 T53.heap := (o52.keep K53 (allS g8 all0))
          have f58 := (E27.keep K53)
          have f59 := (Ei27.keep K53)
          have f60 := (FT27.keep K53 (ninS (Ne.symm n13) nin0))
          have f61 := (FC27.keep K53 (ninS (Ne.symm n13) nin0))
          have f62 := (FL27.keep K53 (ninS (Ne.symm n13) nin0))
          have f63 := (IA27.keep K53 (ninS nist nin0))
          have f64 := (IT27.keep K53 (ninS nist nin0))
          have z65 : n0 ≤ Array.size T53.heap := (Nat.le_trans (Nat.le_trans z26 K27.1) K53.1)
          exact H29 (T53, T53.heap, _) ⟨P53, N54, z65, f58, f59, f60, f61, f62, f63, f64, v56, o57⟩
        · --
          refine G.aload P53 at_109 rfl rfl (pc' := 111) rfl ?_
          refine G.aload P53 at_111 rfl rfl (pc' := 113) rfl ?_
          refine G.iconst P53 at_113 (z := (0 : Int32)) rfl (pc' := 114) rfl ?_
          refine G.iconst P53 at_114 (z := (1 : Int32)) rfl (pc' := 115) rfl ?_
          have o66 : Old Z n0 T53.heap := (o52.keep K53 (allS g8 all0))
          have f67 := (E27.keep K53)
          have f68 := (Ei27.keep K53)
          have f69 := (FT27.keep K53 (ninS (Ne.symm n13) nin0))
          have f70 := (FC27.keep K53 (ninS (Ne.symm n13) nin0))
          have f71 := (FL27.keep K53 (ninS (Ne.symm n13) nin0))
          have f72 := (IA27.keep K53 (ninS nist nin0))
          have f73 := (IT27.keep K53 (ninS nist nin0))
          refine G.callV P53 (rmCount0 l Z a0 hw a11 a6 ic k6 (0 : Int32) ((0 : Int32) + (1 : Int32)) (0 : Int32) (0 : Int32) (0 : Int32) (0 : Int32) (0 : Int32) e_PLAIN (1 : Int32) T53.heap n0 g8 (Ne.symm n13) nist f67 f68 f69 f70 f71 f72 f73 V53 (S_PLAIN.ext o66.2)) (wk hw 118 rfl) (wk hw 119 rfl) (wk hw 121 rfl) rfl (wk hw 120 rfl) (wk hw 3 rfl) (wk hw 122 rfl) (by decide) f67 pd_18 (argsL := [(.ref a6), (.int (0 : Int32)), (.int (1 : Int32))]) (rest := []) rfl rfl rfl rfl (W := 0) (Nat.le_of_eq rfl) (by decide) at_115 (pc' := 118) rfl fun T74 L74 v74 P74 Q74 => ?_
          obtain ⟨rfl, N74, K74, V74⟩ := Q74
          have N75 := Fr.app N54 N74
          show Go p e below _ (T74.setTop (mkF m 118 #[.val (.int x0), .val (.int x1), .val (.int x2), .val (.int a), .val (.int b), .val (.int c_), .val (.int acq), .val (.int s_), .val (.int t_), .val (.int x2), .val (.ref a3), .val (.ref a6), .val (.ref a11), .unset, .unset] [(.int (((0 : Int32) + (1 : Int32)) + (1 : Int32)))]))
          refine G.pop P74 at_118 rfl (pc' := 119) rfl ?_
          have la : a = (((0 : Int32) + (1 : Int32)) + (1 : Int32)) := by
            rcases own_lit ha with q | q | q | q <;> subst q <;> first | rfl | exact absurd c30 (by decide) | exact absurd c31 (by decide) | exact absurd c55 (by decide)
          have v76 : Arv Z T74.heap a6 k6 .int (7 : Int32) [(.int (0 : Int32)), (.int a), (.int (0 : Int32)), (.int (0 : Int32)), (.int (0 : Int32)), (.int (0 : Int32)), (.int (0 : Int32))] (.int (0 : Int32)) := by
            have q := V74
            rw [← la] at q; exact q
          have o77 : Old Z n0 T74.heap := (o66.keep K74 (allS g8 all0))
          have f78 := (f67.keep K74)
          have f79 := (f68.keep K74)
          have f80 := (f69.keep K74 (ninS (Ne.symm n13) nin0))
          have f81 := (f70.keep K74 (ninS (Ne.symm n13) nin0))
          have f82 := (f71.keep K74 (ninS (Ne.symm n13) nin0))
          have f83 := (f72.keep K74 (ninS nist nin0))
          have f84 := (f73.keep K74 (ninS nist nin0))
          have z85 : n0 ≤ Array.size T74.heap := (Nat.le_trans (Nat.le_trans (Nat.le_trans z26 K27.1) K53.1) K74.1)
          exact H29 (T74, T74.heap, _) ⟨P74, N75, z85, f78, f79, f80, f81, f82, f83, f84, v76, o77⟩
    · --
      refine G.aload P27 at_79 rfl rfl (pc' := 81) rfl ?_
      refine G.aload P27 at_81 rfl rfl (pc' := 83) rfl ?_
      refine G.iconst P27 at_83 (z := (0 : Int32)) rfl (pc' := 84) rfl ?_
      refine G.iconst P27 at_84 (z := (1 : Int32)) rfl (pc' := 85) rfl ?_
      have f86 := (f25.keep K27 (ninS n13 nin0))
      have o87 : Old Z n0 T27.heap := (o24.keep K27 (allS g14 all0))
      refine G.callV P27 (rmCount0 l Z a0 hw a11 a6 ic k6 (0 : Int32) (0 : Int32) (0 : Int32) (0 : Int32) (0 : Int32) (0 : Int32) (0 : Int32) e_PLAIN (1 : Int32) T27.heap n0 g8 (Ne.symm n13) nist E27 Ei27 FT27 FC27 FL27 IA27 IT27 f86 (S_PLAIN.ext o87.2)) (wk hw 118 rfl) (wk hw 119 rfl) (wk hw 121 rfl) rfl (wk hw 120 rfl) (wk hw 3 rfl) (wk hw 122 rfl) (by decide) E27 pd_18 (argsL := [(.ref a6), (.int (0 : Int32)), (.int (1 : Int32))]) (rest := []) rfl rfl rfl rfl (W := 0) (Nat.le_of_eq rfl) (by decide) at_85 (pc' := 88) rfl fun T88 L88 v88 P88 Q88 => ?_
      obtain ⟨rfl, N88, K88, V88⟩ := Q88
      have N89 := Fr.app N28 N88
      show Go p e below _ (T88.setTop (mkF m 88 #[.val (.int x0), .val (.int x1), .val (.int x2), .val (.int a), .val (.int b), .val (.int c_), .val (.int acq), .val (.int s_), .val (.int t_), .val (.int x2), .val (.ref a3), .val (.ref a6), .val (.ref a11), .unset, .unset] [(.int ((0 : Int32) + (1 : Int32)))]))
      refine G.pop P88 at_88 rfl (pc' := 89) rfl ?_
      refine G.iloadN P88 at_89 rfl (pc' := 90) rfl ?_
      refine G.iconst P88 at_90 (z := (2 : Int32)) rfl (pc' := 91) rfl ?_
      refine G.icmp_lt P88 at_91 (by decide) (pcY := 104) (by decide) (pcN := 94) rfl (fun c90 => ?_) (fun c90 => ?_)
      · --
        refine G.iloadN P88 at_104 rfl (pc' := 105) rfl ?_
        refine G.iconst P88 at_105 (z := (3 : Int32)) rfl (pc' := 106) rfl ?_
        refine G.icmp_lt P88 at_106 (by decide) (pcY := 119) (by decide) (pcN := 109) rfl (fun c91 => ?_) (fun c91 => ?_)
        · --
          have la : a = ((0 : Int32) + (1 : Int32)) := by
            rcases own_lit ha with q | q | q | q <;> subst q <;> first | rfl | exact absurd c30 (by decide) | exact absurd c90 (by decide) | exact absurd c91 (by decide)
          have v92 : Arv Z T88.heap a6 k6 .int (7 : Int32) [(.int (0 : Int32)), (.int a), (.int (0 : Int32)), (.int (0 : Int32)), (.int (0 : Int32)), (.int (0 : Int32)), (.int (0 : Int32))] (.int (0 : Int32)) := by
            have q := V88
            rw [← la] at q; exact q
          have o93 : Old Z n0 T88.heap := (o87.keep K88 (allS g8 all0))
          have f94 := (E27.keep K88)
          have f95 := (Ei27.keep K88)
          have f96 := (FT27.keep K88 (ninS (Ne.symm n13) nin0))
          have f97 := (FC27.keep K88 (ninS (Ne.symm n13) nin0))
          have f98 := (FL27.keep K88 (ninS (Ne.symm n13) nin0))
          have f99 := (IA27.keep K88 (ninS nist nin0))
          have f100 := (IT27.keep K88 (ninS nist nin0))
          have z101 : n0 ≤ Array.size T88.heap := (Nat.le_trans (Nat.le_trans z26 K27.1) K88.1)
          exact H29 (T88, T88.heap, _) ⟨P88, N89, z101, f94, f95, f96, f97, f98, f99, f100, v92, o93⟩
        · --
          refine G.aload P88 at_109 rfl rfl (pc' := 111) rfl ?_
          refine G.aload P88 at_111 rfl rfl (pc' := 113) rfl ?_
          refine G.iconst P88 at_113 (z := (0 : Int32)) rfl (pc' := 114) rfl ?_
          refine G.iconst P88 at_114 (z := (1 : Int32)) rfl (pc' := 115) rfl ?_
          have o102 : Old Z n0 T88.heap := (o87.keep K88 (allS g8 all0))
          have f103 := (E27.keep K88)
          have f104 := (Ei27.keep K88)
          have f105 := (FT27.keep K88 (ninS (Ne.symm n13) nin0))
          have f106 := (FC27.keep K88 (ninS (Ne.symm n13) nin0))
          have f107 := (FL27.keep K88 (ninS (Ne.symm n13) nin0))
          have f108 := (IA27.keep K88 (ninS nist nin0))
          have f109 := (IT27.keep K88 (ninS nist nin0))
          refine G.callV P88 (rmCount0 l Z a0 hw a11 a6 ic k6 (0 : Int32) ((0 : Int32) + (1 : Int32)) (0 : Int32) (0 : Int32) (0 : Int32) (0 : Int32) (0 : Int32) e_PLAIN (1 : Int32) T88.heap n0 g8 (Ne.symm n13) nist f103 f104 f105 f106 f107 f108 f109 V88 (S_PLAIN.ext o102.2)) (wk hw 118 rfl) (wk hw 119 rfl) (wk hw 121 rfl) rfl (wk hw 120 rfl) (wk hw 3 rfl) (wk hw 122 rfl) (by decide) f103 pd_18 (argsL := [(.ref a6), (.int (0 : Int32)), (.int (1 : Int32))]) (rest := []) rfl rfl rfl rfl (W := 0) (Nat.le_of_eq rfl) (by decide) at_115 (pc' := 118) rfl fun T110 L110 v110 P110 Q110 => ?_
          obtain ⟨rfl, N110, K110, V110⟩ := Q110
          have N111 := Fr.app N89 N110
          show Go p e below _ (T110.setTop (mkF m 118 #[.val (.int x0), .val (.int x1), .val (.int x2), .val (.int a), .val (.int b), .val (.int c_), .val (.int acq), .val (.int s_), .val (.int t_), .val (.int x2), .val (.ref a3), .val (.ref a6), .val (.ref a11), .unset, .unset] [(.int (((0 : Int32) + (1 : Int32)) + (1 : Int32)))]))
          refine G.pop P110 at_118 rfl (pc' := 119) rfl ?_
          have la : a = (((0 : Int32) + (1 : Int32)) + (1 : Int32)) := by
            rcases own_lit ha with q | q | q | q <;> subst q <;> first | rfl | exact absurd c30 (by decide) | exact absurd c90 (by decide) | exact absurd c91 (by decide)
          have v112 : Arv Z T110.heap a6 k6 .int (7 : Int32) [(.int (0 : Int32)), (.int a), (.int (0 : Int32)), (.int (0 : Int32)), (.int (0 : Int32)), (.int (0 : Int32)), (.int (0 : Int32))] (.int (0 : Int32)) := by
            have q := V110
            rw [← la] at q; exact q
          have o113 : Old Z n0 T110.heap := (o102.keep K110 (allS g8 all0))
          have f114 := (f103.keep K110)
          have f115 := (f104.keep K110)
          have f116 := (f105.keep K110 (ninS (Ne.symm n13) nin0))
          have f117 := (f106.keep K110 (ninS (Ne.symm n13) nin0))
          have f118 := (f107.keep K110 (ninS (Ne.symm n13) nin0))
          have f119 := (f108.keep K110 (ninS nist nin0))
          have f120 := (f109.keep K110 (ninS nist nin0))
          have z121 : n0 ≤ Array.size T110.heap := (Nat.le_trans (Nat.le_trans (Nat.le_trans z26 K27.1) K88.1) K110.1)
          exact H29 (T110, T110.heap, _) ⟨P110, N111, z121, f114, f115, f116, f117, f118, f119, f120, v112, o113⟩
      · --
        refine G.aload P88 at_94 rfl rfl (pc' := 96) rfl ?_
        refine G.aload P88 at_96 rfl rfl (pc' := 98) rfl ?_
        refine G.iconst P88 at_98 (z := (0 : Int32)) rfl (pc' := 99) rfl ?_
        refine G.iconst P88 at_99 (z := (1 : Int32)) rfl (pc' := 100) rfl ?_
        have o122 : Old Z n0 T88.heap := (o87.keep K88 (allS g8 all0))
        have f123 := (E27.keep K88)
        have f124 := (Ei27.keep K88)
        have f125 := (FT27.keep K88 (ninS (Ne.symm n13) nin0))
        have f126 := (FC27.keep K88 (ninS (Ne.symm n13) nin0))
        have f127 := (FL27.keep K88 (ninS (Ne.symm n13) nin0))
        have f128 := (IA27.keep K88 (ninS nist nin0))
        have f129 := (IT27.keep K88 (ninS nist nin0))
        refine G.callV P88 (rmCount0 l Z a0 hw a11 a6 ic k6 (0 : Int32) ((0 : Int32) + (1 : Int32)) (0 : Int32) (0 : Int32) (0 : Int32) (0 : Int32) (0 : Int32) e_PLAIN (1 : Int32) T88.heap n0 g8 (Ne.symm n13) nist f123 f124 f125 f126 f127 f128 f129 V88 (S_PLAIN.ext o122.2)) (wk hw 118 rfl) (wk hw 119 rfl) (wk hw 121 rfl) rfl (wk hw 120 rfl) (wk hw 3 rfl) (wk hw 122 rfl) (by decide) f123 pd_18 (argsL := [(.ref a6), (.int (0 : Int32)), (.int (1 : Int32))]) (rest := []) rfl rfl rfl rfl (W := 0) (Nat.le_of_eq rfl) (by decide) at_100 (pc' := 103) rfl fun T130 L130 v130 P130 Q130 => ?_
        obtain ⟨rfl, N130, K130, V130⟩ := Q130
        have N131 := Fr.app N89 N130
        show Go p e below _ (T130.setTop (mkF m 103 #[.val (.int x0), .val (.int x1), .val (.int x2), .val (.int a), .val (.int b), .val (.int c_), .val (.int acq), .val (.int s_), .val (.int t_), .val (.int x2), .val (.ref a3), .val (.ref a6), .val (.ref a11), .unset, .unset] [(.int (((0 : Int32) + (1 : Int32)) + (1 : Int32)))]))
        refine G.pop P130 at_103 rfl (pc' := 104) rfl ?_
        refine G.iloadN P130 at_104 rfl (pc' := 105) rfl ?_
        refine G.iconst P130 at_105 (z := (3 : Int32)) rfl (pc' := 106) rfl ?_
        refine G.icmp_lt P130 at_106 (by decide) (pcY := 119) (by decide) (pcN := 109) rfl (fun c132 => ?_) (fun c132 => ?_)
        · --
          have la : a = (((0 : Int32) + (1 : Int32)) + (1 : Int32)) := by
            rcases own_lit ha with q | q | q | q <;> subst q <;> first | rfl | exact absurd c30 (by decide) | exact absurd c90 (by decide) | exact absurd c132 (by decide)
          have v133 : Arv Z T130.heap a6 k6 .int (7 : Int32) [(.int (0 : Int32)), (.int a), (.int (0 : Int32)), (.int (0 : Int32)), (.int (0 : Int32)), (.int (0 : Int32)), (.int (0 : Int32))] (.int (0 : Int32)) := by
            have q := V130
            rw [← la] at q; exact q
          have o134 : Old Z n0 T130.heap := (o122.keep K130 (allS g8 all0))
          have f135 := (f123.keep K130)
          have f136 := (f124.keep K130)
          have f137 := (f125.keep K130 (ninS (Ne.symm n13) nin0))
          have f138 := (f126.keep K130 (ninS (Ne.symm n13) nin0))
          have f139 := (f127.keep K130 (ninS (Ne.symm n13) nin0))
          have f140 := (f128.keep K130 (ninS nist nin0))
          have f141 := (f129.keep K130 (ninS nist nin0))
          have z142 : n0 ≤ Array.size T130.heap := (Nat.le_trans (Nat.le_trans (Nat.le_trans z26 K27.1) K88.1) K130.1)
          exact H29 (T130, T130.heap, _) ⟨P130, N131, z142, f135, f136, f137, f138, f139, f140, f141, v133, o134⟩
        · --
          refine G.aload P130 at_109 rfl rfl (pc' := 111) rfl ?_
          refine G.aload P130 at_111 rfl rfl (pc' := 113) rfl ?_
          refine G.iconst P130 at_113 (z := (0 : Int32)) rfl (pc' := 114) rfl ?_
          refine G.iconst P130 at_114 (z := (1 : Int32)) rfl (pc' := 115) rfl ?_
          have o143 : Old Z n0 T130.heap := (o122.keep K130 (allS g8 all0))
          have f144 := (f123.keep K130)
          have f145 := (f124.keep K130)
          have f146 := (f125.keep K130 (ninS (Ne.symm n13) nin0))
          have f147 := (f126.keep K130 (ninS (Ne.symm n13) nin0))
          have f148 := (f127.keep K130 (ninS (Ne.symm n13) nin0))
          have f149 := (f128.keep K130 (ninS nist nin0))
          have f150 := (f129.keep K130 (ninS nist nin0))
          refine G.callV P130 (rmCount0 l Z a0 hw a11 a6 ic k6 (0 : Int32) (((0 : Int32) + (1 : Int32)) + (1 : Int32)) (0 : Int32) (0 : Int32) (0 : Int32) (0 : Int32) (0 : Int32) e_PLAIN (1 : Int32) T130.heap n0 g8 (Ne.symm n13) nist f144 f145 f146 f147 f148 f149 f150 V130 (S_PLAIN.ext o143.2)) (wk hw 118 rfl) (wk hw 119 rfl) (wk hw 121 rfl) rfl (wk hw 120 rfl) (wk hw 3 rfl) (wk hw 122 rfl) (by decide) f144 pd_18 (argsL := [(.ref a6), (.int (0 : Int32)), (.int (1 : Int32))]) (rest := []) rfl rfl rfl rfl (W := 0) (Nat.le_of_eq rfl) (by decide) at_115 (pc' := 118) rfl fun T151 L151 v151 P151 Q151 => ?_
          obtain ⟨rfl, N151, K151, V151⟩ := Q151
          have N152 := Fr.app N131 N151
          show Go p e below _ (T151.setTop (mkF m 118 #[.val (.int x0), .val (.int x1), .val (.int x2), .val (.int a), .val (.int b), .val (.int c_), .val (.int acq), .val (.int s_), .val (.int t_), .val (.int x2), .val (.ref a3), .val (.ref a6), .val (.ref a11), .unset, .unset] [(.int ((((0 : Int32) + (1 : Int32)) + (1 : Int32)) + (1 : Int32)))]))
          refine G.pop P151 at_118 rfl (pc' := 119) rfl ?_
          have la : a = ((((0 : Int32) + (1 : Int32)) + (1 : Int32)) + (1 : Int32)) := by
            rcases own_lit ha with q | q | q | q <;> subst q <;> first | rfl | exact absurd c30 (by decide) | exact absurd c90 (by decide) | exact absurd c132 (by decide)
          have v153 : Arv Z T151.heap a6 k6 .int (7 : Int32) [(.int (0 : Int32)), (.int a), (.int (0 : Int32)), (.int (0 : Int32)), (.int (0 : Int32)), (.int (0 : Int32)), (.int (0 : Int32))] (.int (0 : Int32)) := by
            have q := V151
            rw [← la] at q; exact q
          have o154 : Old Z n0 T151.heap := (o143.keep K151 (allS g8 all0))
          have f155 := (f144.keep K151)
          have f156 := (f145.keep K151)
          have f157 := (f146.keep K151 (ninS (Ne.symm n13) nin0))
          have f158 := (f147.keep K151 (ninS (Ne.symm n13) nin0))
          have f159 := (f148.keep K151 (ninS (Ne.symm n13) nin0))
          have f160 := (f149.keep K151 (ninS nist nin0))
          have f161 := (f150.keep K151 (ninS nist nin0))
          have z162 : n0 ≤ Array.size T151.heap := (Nat.le_trans (Nat.le_trans (Nat.le_trans (Nat.le_trans z26 K27.1) K88.1) K130.1) K151.1)
          exact H29 (T151, T151.heap, _) ⟨P151, N152, z162, f155, f156, f157, f158, f159, f160, f161, v153, o154⟩
  obtain ⟨T29, h29, L29⟩ := i_
  obtain ⟨P29, N29, z29, f163, f164, f165, f166, f167, f168, f169, f170, j29⟩ := j29
  try dsimp only at *
  show Go p e below _ (T29.setTop (mkF m 119 #[.val (.int x0), .val (.int x1), .val (.int x2), .val (.int a), .val (.int b), .val (.int c_), .val (.int acq), .val (.int s_), .val (.int t_), .val (.int x2), .val (.ref a3), .val (.ref a6), .val (.ref a11), .unset, .unset] []))
  refine G.aload P29 at_119 rfl rfl (pc' := 121) rfl ?_
  refine G.aload P29 at_121 rfl rfl (pc' := 123) rfl ?_
  refine G.iconst P29 at_123 (z := (0 : Int32)) rfl (pc' := 124) rfl ?_
  refine G.iconst P29 at_124 (z := (0 : Int32)) rfl (pc' := 125) rfl ?_
  refine G.iconst P29 at_125 (z := (2 : Int32)) rfl (pc' := 126) rfl ?_
  refine G.callV P29 (rmRelease l Z a0 hw a11 a6 ic k6 (0 : Int32) a (0 : Int32) (0 : Int32) (0 : Int32) (0 : Int32) (0 : Int32) e_RELEASE (2 : Int32) h29 n0 g8 (Ne.symm n13) nist f163 f164 f165 f166 f167 f168 f169 f170 (S_RELEASE.ext j29.2)) (wk hw 70 rfl) (wk hw 71 rfl) (wk hw 73 rfl) rfl (wk hw 72 rfl) (wk hw 3 rfl) (wk hw 74 rfl) (by decide) f163 pd_9 (argsL := [(.ref a6), (.int (0 : Int32)), (.int (0 : Int32)), (.int (2 : Int32))]) (rest := []) rfl rfl rfl rfl (W := 0) (Nat.le_of_eq rfl) (by decide) at_126 (pc' := 129) rfl fun T171 L171 v171 P171 Q171 => ?_
  obtain ⟨rfl, N171, K171, V171⟩ := Q171
  have N172 := Fr.app N29 N171
  show Go p e below _ (T171.setTop (mkF m 129 #[.val (.int x0), .val (.int x1), .val (.int x2), .val (.int a), .val (.int b), .val (.int c_), .val (.int acq), .val (.int s_), .val (.int t_), .val (.int x2), .val (.ref a3), .val (.ref a6), .val (.ref a11), .unset, .unset] []))
  have v173 : Arv Z T171.heap a6 k6 .int (7 : Int32) [(.int (0 : Int32)), (.int a), (.int (0 : Int32)), (.int (0 : Int32)), (.int (0 : Int32)), (.int a), (.int (0 : Int32))] (.int (0 : Int32)) := by
    have q := V171
    rw [own_max0 ha.1, show own_max (0 : Int32) (0 : Int32) = (0 : Int32) from by decide] at q; exact q
  refine G.iload P171 at_129 rfl (pc' := 131) rfl ?_
  refine G.iconst P171 at_131 (z := (1 : Int32)) rfl (pc' := 132) rfl ?_
  refine Go.all (S1 := fun i_ : State × Heap × List Loc => (i_.1).setTop (mkF m 145 #[.val (.int x0), .val (.int x1), .val (.int x2), .val (.int a), .val (.int b), .val (.int c_), .val (.int acq), .val (.int s_), .val (.int t_), .val (.int x2), .val (.ref a3), .val (.ref a6), .val (.ref a11), .unset, .unset] [])) (A := fun i_ => (Pos p l e room_1 s m #[(.int x0), (.int x1), (.int x2)] below meth c Z x.cls code maxLocals ret x.name (i_.1) (i_.2.1) (i_.2.2) 5 18) ∧ (Fr n0 (i_.2.2)) ∧ (n0 ≤ Array.size (i_.2.1)) ∧ (Exa Z (i_.2.1) a11 "dev/happenstance/model/HappensBefore") ∧ (Exa Z (i_.2.1) ic "dev/happenstance/model/HappensBefore$InState") ∧ (Fld Z (i_.2.1) a11 "dev/happenstance/model/HappensBefore" "threads" "I" (.int (2 : Int32))) ∧ (Fld Z (i_.2.1) a11 "dev/happenstance/model/HappensBefore" "clocks" "Ldev/happenstance/model/HappensBefore$Clocks;" (.ref ic)) ∧ (Fld Z (i_.2.1) a11 "dev/happenstance/model/HappensBefore" "log" "I" (.int (-1 : Int32))) ∧ (Fld Z (i_.2.1) ic "dev/happenstance/model/HappensBefore$InState" "at" "I" (.int (1 : Int32))) ∧ (Fld Z (i_.2.1) ic "dev/happenstance/model/HappensBefore$InState" "threads" "I" (.int (2 : Int32))) ∧ (Arv Z (i_.2.1) a6 k6 .int (7 : Int32) [(.int (0 : Int32)), (.int (a + b)), (.int (0 : Int32)), (.int (0 : Int32)), (.int (0 : Int32)), (.int a), (.int (0 : Int32))] (.int (0 : Int32))) ∧ (Old Z n0 (i_.2.1))) (fun H174 => ?_) (fun i_ j174 => ?_)
  · --
    refine G.icmp_ne P171 at_132 (by decide) (pcY := 145) (by decide) (pcN := 135) rfl (fun c175 => ?_) (fun c175 => ?_)
    · --
      have v176 : Arv Z T171.heap a6 k6 .int (7 : Int32) [(.int (0 : Int32)), (.int (a + b)), (.int (0 : Int32)), (.int (0 : Int32)), (.int (0 : Int32)), (.int a), (.int (0 : Int32))] (.int (0 : Int32)) := by
        have q := v173
        have e0 : b = (0 : Int32) := hb_.resolve_right c175
        rw [e0, Int32.add_zero]; exact q
      have o177 : Old Z n0 T171.heap := (j29.keep K171 (allS g8 all0))
      have f178 := (f163.keep K171)
      have f179 := (f164.keep K171)
      have f180 := (f165.keep K171 (ninS (Ne.symm n13) nin0))
      have f181 := (f166.keep K171 (ninS (Ne.symm n13) nin0))
      have f182 := (f167.keep K171 (ninS (Ne.symm n13) nin0))
      have f183 := (f168.keep K171 (ninS nist nin0))
      have f184 := (f169.keep K171 (ninS nist nin0))
      have z185 : n0 ≤ Array.size T171.heap := (Nat.le_trans z29 K171.1)
      exact H174 (T171, T171.heap, _) ⟨P171, N172, z185, f178, f179, f180, f181, f182, f183, f184, v176, o177⟩
    · --
      refine G.aload P171 at_135 rfl rfl (pc' := 137) rfl ?_
      refine G.aload P171 at_137 rfl rfl (pc' := 139) rfl ?_
      refine G.iconst P171 at_139 (z := (0 : Int32)) rfl (pc' := 140) rfl ?_
      refine G.iconst P171 at_140 (z := (3 : Int32)) rfl (pc' := 141) rfl ?_
      have o186 : Old Z n0 T171.heap := (j29.keep K171 (allS g8 all0))
      have f187 := (f163.keep K171)
      have f188 := (f164.keep K171)
      have f189 := (f165.keep K171 (ninS (Ne.symm n13) nin0))
      have f190 := (f166.keep K171 (ninS (Ne.symm n13) nin0))
      have f191 := (f167.keep K171 (ninS (Ne.symm n13) nin0))
      have f192 := (f168.keep K171 (ninS nist nin0))
      have f193 := (f169.keep K171 (ninS nist nin0))
      refine G.callV P171 (rmCount0 l Z a0 hw a11 a6 ic k6 (0 : Int32) a (0 : Int32) (0 : Int32) (0 : Int32) a (0 : Int32) e_PLAIN (3 : Int32) T171.heap n0 g8 (Ne.symm n13) nist f187 f188 f189 f190 f191 f192 f193 v173 (S_PLAIN.ext o186.2)) (wk hw 118 rfl) (wk hw 119 rfl) (wk hw 121 rfl) rfl (wk hw 120 rfl) (wk hw 3 rfl) (wk hw 122 rfl) (by decide) f187 pd_18 (argsL := [(.ref a6), (.int (0 : Int32)), (.int (3 : Int32))]) (rest := []) rfl rfl rfl rfl (W := 0) (Nat.le_of_eq rfl) (by decide) at_141 (pc' := 144) rfl fun T194 L194 v194 P194 Q194 => ?_
      obtain ⟨rfl, N194, K194, V194⟩ := Q194
      have N195 := Fr.app N172 N194
      show Go p e below _ (T194.setTop (mkF m 144 #[.val (.int x0), .val (.int x1), .val (.int x2), .val (.int a), .val (.int b), .val (.int c_), .val (.int acq), .val (.int s_), .val (.int t_), .val (.int x2), .val (.ref a3), .val (.ref a6), .val (.ref a11), .unset, .unset] [(.int (a + (1 : Int32)))]))
      refine G.pop P194 at_144 rfl (pc' := 145) rfl ?_
      have v196 : Arv Z T194.heap a6 k6 .int (7 : Int32) [(.int (0 : Int32)), (.int (a + b)), (.int (0 : Int32)), (.int (0 : Int32)), (.int (0 : Int32)), (.int a), (.int (0 : Int32))] (.int (0 : Int32)) := by
        have q := V194
        rw [c175]; exact q
      have o197 : Old Z n0 T194.heap := (o186.keep K194 (allS g8 all0))
      have f198 := (f187.keep K194)
      have f199 := (f188.keep K194)
      have f200 := (f189.keep K194 (ninS (Ne.symm n13) nin0))
      have f201 := (f190.keep K194 (ninS (Ne.symm n13) nin0))
      have f202 := (f191.keep K194 (ninS (Ne.symm n13) nin0))
      have f203 := (f192.keep K194 (ninS nist nin0))
      have f204 := (f193.keep K194 (ninS nist nin0))
      have z205 : n0 ≤ Array.size T194.heap := (Nat.le_trans (Nat.le_trans z29 K171.1) K194.1)
      exact H174 (T194, T194.heap, _) ⟨P194, N195, z205, f198, f199, f200, f201, f202, f203, f204, v196, o197⟩
  obtain ⟨T174, h174, L174⟩ := i_
  obtain ⟨P174, N174, z174, f206, f207, f208, f209, f210, f211, f212, f213, j174⟩ := j174
  try dsimp only at *
  show Go p e below _ (T174.setTop (mkF m 145 #[.val (.int x0), .val (.int x1), .val (.int x2), .val (.int a), .val (.int b), .val (.int c_), .val (.int acq), .val (.int s_), .val (.int t_), .val (.int x2), .val (.ref a3), .val (.ref a6), .val (.ref a11), .unset, .unset] []))
  refine G.iload P174 at_145 rfl (pc' := 147) rfl ?_
  refine G.iconst P174 at_147 (z := (1 : Int32)) rfl (pc' := 148) rfl ?_
  refine Go.all (S1 := fun i_ : State × Heap × List Loc => (i_.1).setTop (mkF m 161 #[.val (.int x0), .val (.int x1), .val (.int x2), .val (.int a), .val (.int b), .val (.int c_), .val (.int acq), .val (.int s_), .val (.int t_), .val (.int x2), .val (.ref a3), .val (.ref a6), .val (.ref a11), .unset, .unset] [])) (A := fun i_ => (Pos p l e room_1 s m #[(.int x0), (.int x1), (.int x2)] below meth c Z x.cls code maxLocals ret x.name (i_.1) (i_.2.1) (i_.2.2) 5 18) ∧ (Fr n0 (i_.2.2)) ∧ (n0 ≤ Array.size (i_.2.1)) ∧ (Exa Z (i_.2.1) a11 "dev/happenstance/model/HappensBefore") ∧ (Exa Z (i_.2.1) ic "dev/happenstance/model/HappensBefore$InState") ∧ (Fld Z (i_.2.1) a11 "dev/happenstance/model/HappensBefore" "threads" "I" (.int (2 : Int32))) ∧ (Fld Z (i_.2.1) a11 "dev/happenstance/model/HappensBefore" "clocks" "Ldev/happenstance/model/HappensBefore$Clocks;" (.ref ic)) ∧ (Fld Z (i_.2.1) a11 "dev/happenstance/model/HappensBefore" "log" "I" (.int (-1 : Int32))) ∧ (Fld Z (i_.2.1) ic "dev/happenstance/model/HappensBefore$InState" "at" "I" (.int (1 : Int32))) ∧ (Fld Z (i_.2.1) ic "dev/happenstance/model/HappensBefore$InState" "threads" "I" (.int (2 : Int32))) ∧ (Arv Z (i_.2.1) a6 k6 .int (7 : Int32) [(.int (0 : Int32)), (.int (a + b)), (.int (0 : Int32)), (.int (0 : Int32)), (.int c_), (.int a), (.int (0 : Int32))] (.int (0 : Int32))) ∧ (Old Z n0 (i_.2.1))) (fun H214 => ?_) (fun i_ j214 => ?_)
  · --
    refine G.icmp_ne P174 at_148 (by decide) (pcY := 161) (by decide) (pcN := 151) rfl (fun c215 => ?_) (fun c215 => ?_)
    · --
      have v216 : Arv Z h174 a6 k6 .int (7 : Int32) [(.int (0 : Int32)), (.int (a + b)), (.int (0 : Int32)), (.int (0 : Int32)), (.int c_), (.int a), (.int (0 : Int32))] (.int (0 : Int32)) := by
        have q := f213
        have e0 : c_ = (0 : Int32) := hc_.resolve_right c215
        rw [e0]; exact q
      exact H214 (T174, h174, _) ⟨P174, N174, z174, f206, f207, f208, f209, f210, f211, f212, v216, j174⟩
    · --
      refine G.aload P174 at_151 rfl rfl (pc' := 153) rfl ?_
      refine G.aload P174 at_153 rfl rfl (pc' := 155) rfl ?_
      refine G.iconst P174 at_155 (z := (1 : Int32)) rfl (pc' := 156) rfl ?_
      refine G.iconst P174 at_156 (z := (4 : Int32)) rfl (pc' := 157) rfl ?_
      refine G.callV P174 (rmCount1 l Z a0 hw a11 a6 ic k6 (0 : Int32) (a + b) (0 : Int32) (0 : Int32) (0 : Int32) a (0 : Int32) e_PLAIN (4 : Int32) h174 n0 g8 (Ne.symm n13) nist f206 f207 f208 f209 f210 f211 f212 f213 (S_PLAIN.ext j174.2)) (wk hw 118 rfl) (wk hw 119 rfl) (wk hw 121 rfl) rfl (wk hw 120 rfl) (wk hw 3 rfl) (wk hw 122 rfl) (by decide) f206 pd_18 (argsL := [(.ref a6), (.int (1 : Int32)), (.int (4 : Int32))]) (rest := []) rfl rfl rfl rfl (W := 0) (Nat.le_of_eq rfl) (by decide) at_157 (pc' := 160) rfl fun T217 L217 v217 P217 Q217 => ?_
      obtain ⟨rfl, N217, K217, V217⟩ := Q217
      have N218 := Fr.app N174 N217
      show Go p e below _ (T217.setTop (mkF m 160 #[.val (.int x0), .val (.int x1), .val (.int x2), .val (.int a), .val (.int b), .val (.int c_), .val (.int acq), .val (.int s_), .val (.int t_), .val (.int x2), .val (.ref a3), .val (.ref a6), .val (.ref a11), .unset, .unset] [(.int ((0 : Int32) + (1 : Int32)))]))
      refine G.pop P217 at_160 rfl (pc' := 161) rfl ?_
      have v219 : Arv Z T217.heap a6 k6 .int (7 : Int32) [(.int (0 : Int32)), (.int (a + b)), (.int (0 : Int32)), (.int (0 : Int32)), (.int c_), (.int a), (.int (0 : Int32))] (.int (0 : Int32)) := by
        have q := V217
        rw [c215]; exact q
      have o220 : Old Z n0 T217.heap := (j174.keep K217 (allS g8 all0))
      have f221 := (f206.keep K217)
      have f222 := (f207.keep K217)
      have f223 := (f208.keep K217 (ninS (Ne.symm n13) nin0))
      have f224 := (f209.keep K217 (ninS (Ne.symm n13) nin0))
      have f225 := (f210.keep K217 (ninS (Ne.symm n13) nin0))
      have f226 := (f211.keep K217 (ninS nist nin0))
      have f227 := (f212.keep K217 (ninS nist nin0))
      have z228 : n0 ≤ Array.size T217.heap := (Nat.le_trans z174 K217.1)
      exact H214 (T217, T217.heap, _) ⟨P217, N218, z228, f221, f222, f223, f224, f225, f226, f227, v219, o220⟩
  obtain ⟨T214, h214, L214⟩ := i_
  obtain ⟨P214, N214, z214, f229, f230, f231, f232, f233, f234, f235, f236, j214⟩ := j214
  try dsimp only at *
  show Go p e below _ (T214.setTop (mkF m 161 #[.val (.int x0), .val (.int x1), .val (.int x2), .val (.int a), .val (.int b), .val (.int c_), .val (.int acq), .val (.int s_), .val (.int t_), .val (.int x2), .val (.ref a3), .val (.ref a6), .val (.ref a11), .unset, .unset] []))
  refine G.iload P214 at_161 rfl (pc' := 163) rfl ?_
  refine Go.all (S1 := fun i_ : State × Heap × List Loc => (i_.1).setTop (mkF m 176 #[.val (.int x0), .val (.int x1), .val (.int x2), .val (.int a), .val (.int b), .val (.int c_), .val (.int acq), .val (.int s_), .val (.int t_), .val (.int x2), .val (.ref a3), .val (.ref a6), .val (.ref a11), .unset, .unset] [])) (A := fun i_ => (Pos p l e room_1 s m #[(.int x0), (.int x1), (.int x2)] below meth c Z x.cls code maxLocals ret x.name (i_.1) (i_.2.1) (i_.2.2) 5 18) ∧ (Fr n0 (i_.2.2)) ∧ (n0 ≤ Array.size (i_.2.1)) ∧ (Exa Z (i_.2.1) a11 "dev/happenstance/model/HappensBefore") ∧ (Exa Z (i_.2.1) ic "dev/happenstance/model/HappensBefore$InState") ∧ (Fld Z (i_.2.1) a11 "dev/happenstance/model/HappensBefore" "threads" "I" (.int (2 : Int32))) ∧ (Fld Z (i_.2.1) a11 "dev/happenstance/model/HappensBefore" "clocks" "Ldev/happenstance/model/HappensBefore$Clocks;" (.ref ic)) ∧ (Fld Z (i_.2.1) a11 "dev/happenstance/model/HappensBefore" "log" "I" (.int (-1 : Int32))) ∧ (Fld Z (i_.2.1) ic "dev/happenstance/model/HappensBefore$InState" "at" "I" (.int (1 : Int32))) ∧ (Fld Z (i_.2.1) ic "dev/happenstance/model/HappensBefore$InState" "threads" "I" (.int (2 : Int32))) ∧ (Arv Z (i_.2.1) a6 k6 .int (7 : Int32) [(.int (0 : Int32)), (.int (a + b)), (.int (0 : Int32)), (.int (if acq = (0 : Int32) then (0 : Int32) else a)), (.int c_), (.int a), (.int (0 : Int32))] (.int (0 : Int32))) ∧ (Old Z n0 (i_.2.1))) (fun H237 => ?_) (fun i_ j237 => ?_)
  · --
    refine G.if_eq P214 at_163 (by decide) (pcY := 176) (by decide) (pcN := 166) rfl (fun c238 => ?_) (fun c238 => ?_)
    · --
      have v239 : Arv Z h214 a6 k6 .int (7 : Int32) [(.int (0 : Int32)), (.int (a + b)), (.int (0 : Int32)), (.int (if acq = (0 : Int32) then (0 : Int32) else a)), (.int c_), (.int a), (.int (0 : Int32))] (.int (0 : Int32)) := by
        have q := f236
        rw [if_pos c238]; exact q
      exact H237 (T214, h214, _) ⟨P214, N214, z214, f229, f230, f231, f232, f233, f234, f235, v239, j214⟩
    · --
      refine G.aload P214 at_166 rfl rfl (pc' := 168) rfl ?_
      refine G.aload P214 at_168 rfl rfl (pc' := 170) rfl ?_
      refine G.iconst P214 at_170 (z := (1 : Int32)) rfl (pc' := 171) rfl ?_
      refine G.iconst P214 at_171 (z := (0 : Int32)) rfl (pc' := 172) rfl ?_
      refine G.iconst P214 at_172 (z := (5 : Int32)) rfl (pc' := 173) rfl ?_
      refine G.callV P214 (rmAcquire l Z a0 hw a11 a6 ic k6 (0 : Int32) (a + b) (0 : Int32) (0 : Int32) c_ a (0 : Int32) e_ACQUIRE (5 : Int32) h214 n0 g8 (Ne.symm n13) nist f229 f230 f231 f232 f233 f234 f235 f236 (S_ACQUIRE.ext j214.2)) (wk hw 133 rfl) (wk hw 134 rfl) (wk hw 136 rfl) rfl (wk hw 135 rfl) (wk hw 3 rfl) (wk hw 137 rfl) (by decide) f229 pd_20 (argsL := [(.ref a6), (.int (1 : Int32)), (.int (0 : Int32)), (.int (5 : Int32))]) (rest := []) rfl rfl rfl rfl (W := 0) (Nat.le_of_eq rfl) (by decide) at_173 (pc' := 176) rfl fun T240 L240 v240 P240 Q240 => ?_
      obtain ⟨rfl, N240, K240, V240⟩ := Q240
      have N241 := Fr.app N214 N240
      show Go p e below _ (T240.setTop (mkF m 176 #[.val (.int x0), .val (.int x1), .val (.int x2), .val (.int a), .val (.int b), .val (.int c_), .val (.int acq), .val (.int s_), .val (.int t_), .val (.int x2), .val (.ref a3), .val (.ref a6), .val (.ref a11), .unset, .unset] []))
      have v242 : Arv Z T240.heap a6 k6 .int (7 : Int32) [(.int (0 : Int32)), (.int (a + b)), (.int (0 : Int32)), (.int (if acq = (0 : Int32) then (0 : Int32) else a)), (.int c_), (.int a), (.int (0 : Int32))] (.int (0 : Int32)) := by
        have q := V240
        rw [if_neg c238]
        rw [own_max0 ha.1, own_maxc hc_] at q; exact q
      have o243 : Old Z n0 T240.heap := (j214.keep K240 (allS g8 all0))
      have f244 := (f229.keep K240)
      have f245 := (f230.keep K240)
      have f246 := (f231.keep K240 (ninS (Ne.symm n13) nin0))
      have f247 := (f232.keep K240 (ninS (Ne.symm n13) nin0))
      have f248 := (f233.keep K240 (ninS (Ne.symm n13) nin0))
      have f249 := (f234.keep K240 (ninS nist nin0))
      have f250 := (f235.keep K240 (ninS nist nin0))
      have z251 : n0 ≤ Array.size T240.heap := (Nat.le_trans z214 K240.1)
      exact H237 (T240, T240.heap, _) ⟨P240, N241, z251, f244, f245, f246, f247, f248, f249, f250, v242, o243⟩
  obtain ⟨T237, h237, L237⟩ := i_
  obtain ⟨P237, N237, z237, f252, f253, f254, f255, f256, f257, f258, f259, j237⟩ := j237
  try dsimp only at *
  show Go p e below _ (T237.setTop (mkF m 176 #[.val (.int x0), .val (.int x1), .val (.int x2), .val (.int a), .val (.int b), .val (.int c_), .val (.int acq), .val (.int s_), .val (.int t_), .val (.int x2), .val (.ref a3), .val (.ref a6), .val (.ref a11), .unset, .unset] []))
  rcases hs_ with rfl | rfl
  · --
    rcases ht_ with rfl | rfl
    · --
      show Go p e below _ (T237.setTop (mkF m 176 #[.val (.int x0), .val (.int x1), .val (.int x2), .val (.int a), .val (.int b), .val (.int c_), .val (.int acq), .val (.int (0 : Int32)), .val (.int (0 : Int32)), .val (.int x2), .val (.ref a3), .val (.ref a6), .val (.ref a11), .unset, .unset] []))
      refine G.iload P237 at_176 rfl (pc' := 178) rfl ?_
      refine G.if_ne P237 at_178 (by decide) (pcY := 199) (by decide) (pcN := 181) rfl (fun c260 => absurd c260 (by decide)) (fun c260 => ?_)
      refine G.iload P237 at_181 rfl (pc' := 183) rfl ?_
      refine G.if_ne P237 at_183 (by decide) (pcY := 193) (by decide) (pcN := 186) rfl (fun c261 => absurd c261 (by decide)) (fun c261 => ?_)
      refine G.iloadN P237 at_186 rfl (pc' := 187) rfl ?_
      refine G.iload P237 at_187 rfl (pc' := 189) rfl ?_
      refine G.iadd P237 at_189 rfl (pc' := 190) rfl ?_
      refine G.goto P237 at_190 (by decide) (pc' := 194) (by decide) ?_
      refine G.istore P237 at_194 (l' := #[.val (.int x0), .val (.int x1), .val (.int x2), .val (.int a), .val (.int b), .val (.int c_), .val (.int acq), .val (.int (0 : Int32)), .val (.int (0 : Int32)), .val (.int x2), .val (.ref a3), .val (.ref a6), .val (.ref a11), .val (.int (a + b)), .unset]) rfl (pc' := 196) rfl ?_
      refine G.goto P237 at_196 (by decide) (pc' := 221) (by decide) ?_
      refine G.aload P237 at_221 rfl rfl (pc' := 223) rfl ?_
      refine G.aload P237 at_223 rfl rfl (pc' := 225) rfl ?_
      refine G.iload P237 at_225 rfl (pc' := 227) rfl ?_
      refine G.callVP P237 (rmClk0 l Z a0 hw a11 ic h237 f253 f255 f257 f258) (wk hw 108 rfl) (wk hw 109 rfl) (wk hw 111 rfl) rfl (wk hw 110 rfl) (wk hw 3 rfl) (wk hw 112 rfl) (by decide) f252 pd_16 (argsL := [(.int (0 : Int32))]) (rest := [(.ref a6)]) rfl rfl rfl rfl (W := 1) (Nat.le_of_eq rfl) (by decide) at_227 (pc' := 230) rfl fun T262 P262 => ?_
      show Go p e below _ (T262.setTop (mkF m 230 #[.val (.int x0), .val (.int x1), .val (.int x2), .val (.int a), .val (.int b), .val (.int c_), .val (.int acq), .val (.int (0 : Int32)), .val (.int (0 : Int32)), .val (.int x2), .val (.ref a3), .val (.ref a6), .val (.ref a11), .val (.int (a + b)), .unset] [(.int (1 : Int32)), (.ref a6)]))
      refine G.iload P262 at_230 rfl (pc' := 232) rfl ?_
      refine G.iload P262 at_232 rfl (pc' := 234) rfl ?_
      refine G.callSP P262 (rmCts00 l Z a0 hw a6 k6 (0 : Int32) (a + b) (0 : Int32) (if acq = (0 : Int32) then (0 : Int32) else a) c_ a (0 : Int32) x2 h237 f259) (wk hw 115 rfl) (wk hw 116 rfl) (wk hw 3 rfl) (wk hw 117 rfl) (by decide) pd_17 (argsL := [(.ref a6), (.int (1 : Int32)), (.int (0 : Int32)), (.int x2)]) (rest := []) rfl rfl rfl rfl (W := 0) (Nat.le_of_eq rfl) (by decide) at_234 (pc' := 237) rfl fun T263 P263 => ?_
      show Go p e below _ (T263.setTop (mkF m 237 #[.val (.int x0), .val (.int x1), .val (.int x2), .val (.int a), .val (.int b), .val (.int c_), .val (.int acq), .val (.int (0 : Int32)), .val (.int (0 : Int32)), .val (.int x2), .val (.ref a3), .val (.ref a6), .val (.ref a11), .val (.int (a + b)), .unset] [(.int (if (a + b) < x2 then (0 : Int32) else (1 : Int32)))]))
      refine G.istore P263 at_237 (l' := #[.val (.int x0), .val (.int x1), .val (.int x2), .val (.int a), .val (.int b), .val (.int c_), .val (.int acq), .val (.int (0 : Int32)), .val (.int (0 : Int32)), .val (.int x2), .val (.ref a3), .val (.ref a6), .val (.ref a11), .val (.int (a + b)), .val (.int (if (a + b) < x2 then (0 : Int32) else (1 : Int32)))]) rfl (pc' := 239) rfl ?_
      refine G.iload P263 at_239 rfl (pc' := 241) rfl ?_
      refine G.iload P263 at_241 rfl (pc' := 243) rfl ?_
      refine G.iload P263 at_243 rfl (pc' := 245) rfl ?_
      refine Go.all (S1 := fun ee : Int32 => T263.setTop (mkF m 253 #[.val (.int x0), .val (.int x1), .val (.int x2), .val (.int a), .val (.int b), .val (.int c_), .val (.int acq), .val (.int (0 : Int32)), .val (.int (0 : Int32)), .val (.int x2), .val (.ref a3), .val (.ref a6), .val (.ref a11), .val (.int (a + b)), .val (.int (if (a + b) < x2 then (0 : Int32) else (1 : Int32)))] [(.int ee), (.int (if (a + b) < x2 then (0 : Int32) else (1 : Int32)))])) (A := fun ee => ee = (if (a + b) < x2 then (0 : Int32) else (1 : Int32))) (fun H264 => ?_) (fun ee j264 => ?_)
      · --
        refine G.icmp_gt P263 at_245 (by decide) (pcY := 252) (by decide) (pcN := 248) rfl (fun c265 => ?_) (fun c265 => ?_)
        · --
          refine G.iconst P263 at_252 (z := (0 : Int32)) rfl (pc' := 253) rfl ?_
          exact H264 ((0 : Int32)) ((if_pos c265).symm)
        · --
          refine G.iconst P263 at_248 (z := (1 : Int32)) rfl (pc' := 249) rfl ?_
          refine G.goto P263 at_249 (by decide) (pc' := 253) (by decide) ?_
          exact H264 ((1 : Int32)) ((if_neg c265).symm)
      refine G.icmp_ne P263 at_253 (by decide) (pcY := 260) (by decide) (pcN := 256) rfl (fun cc => absurd j264.symm cc) (fun cc => ?_)
      refine G.iconst P263 at_256 (z := (1 : Int32)) rfl (pc' := 257) rfl ?_
      refine G.goto P263 at_257 (by decide) (pc' := 261) (by decide) ?_
      exact G.retN P263 (t := .boolean) rfl (by simp) at_261 (by decide) (by decide) ⟨rfl, N237⟩
    · --
      show Go p e below _ (T237.setTop (mkF m 176 #[.val (.int x0), .val (.int x1), .val (.int x2), .val (.int a), .val (.int b), .val (.int c_), .val (.int acq), .val (.int (0 : Int32)), .val (.int (1 : Int32)), .val (.int x2), .val (.ref a3), .val (.ref a6), .val (.ref a11), .unset, .unset] []))
      refine G.iload P237 at_176 rfl (pc' := 178) rfl ?_
      refine G.if_ne P237 at_178 (by decide) (pcY := 199) (by decide) (pcN := 181) rfl (fun c266 => absurd c266 (by decide)) (fun c266 => ?_)
      refine G.iload P237 at_181 rfl (pc' := 183) rfl ?_
      refine G.if_ne P237 at_183 (by decide) (pcY := 193) (by decide) (pcN := 186) rfl (fun c267 => ?_) (fun c267 => absurd c267 (by decide))
      refine G.iconst P237 at_193 (z := (0 : Int32)) rfl (pc' := 194) rfl ?_
      refine G.istore P237 at_194 (l' := #[.val (.int x0), .val (.int x1), .val (.int x2), .val (.int a), .val (.int b), .val (.int c_), .val (.int acq), .val (.int (0 : Int32)), .val (.int (1 : Int32)), .val (.int x2), .val (.ref a3), .val (.ref a6), .val (.ref a11), .val (.int (0 : Int32)), .unset]) rfl (pc' := 196) rfl ?_
      refine G.goto P237 at_196 (by decide) (pc' := 221) (by decide) ?_
      refine G.aload P237 at_221 rfl rfl (pc' := 223) rfl ?_
      refine G.aload P237 at_223 rfl rfl (pc' := 225) rfl ?_
      refine G.iload P237 at_225 rfl (pc' := 227) rfl ?_
      refine G.callVP P237 (rmClk0 l Z a0 hw a11 ic h237 f253 f255 f257 f258) (wk hw 108 rfl) (wk hw 109 rfl) (wk hw 111 rfl) rfl (wk hw 110 rfl) (wk hw 3 rfl) (wk hw 112 rfl) (by decide) f252 pd_16 (argsL := [(.int (0 : Int32))]) (rest := [(.ref a6)]) rfl rfl rfl rfl (W := 1) (Nat.le_of_eq rfl) (by decide) at_227 (pc' := 230) rfl fun T268 P268 => ?_
      show Go p e below _ (T268.setTop (mkF m 230 #[.val (.int x0), .val (.int x1), .val (.int x2), .val (.int a), .val (.int b), .val (.int c_), .val (.int acq), .val (.int (0 : Int32)), .val (.int (1 : Int32)), .val (.int x2), .val (.ref a3), .val (.ref a6), .val (.ref a11), .val (.int (0 : Int32)), .unset] [(.int (1 : Int32)), (.ref a6)]))
      refine G.iload P268 at_230 rfl (pc' := 232) rfl ?_
      refine G.iload P268 at_232 rfl (pc' := 234) rfl ?_
      refine G.callSP P268 (rmCts01 l Z a0 hw a6 k6 (0 : Int32) (a + b) (0 : Int32) (if acq = (0 : Int32) then (0 : Int32) else a) c_ a (0 : Int32) x2 h237 f259) (wk hw 115 rfl) (wk hw 116 rfl) (wk hw 3 rfl) (wk hw 117 rfl) (by decide) pd_17 (argsL := [(.ref a6), (.int (1 : Int32)), (.int (1 : Int32)), (.int x2)]) (rest := []) rfl rfl rfl rfl (W := 0) (Nat.le_of_eq rfl) (by decide) at_234 (pc' := 237) rfl fun T269 P269 => ?_
      show Go p e below _ (T269.setTop (mkF m 237 #[.val (.int x0), .val (.int x1), .val (.int x2), .val (.int a), .val (.int b), .val (.int c_), .val (.int acq), .val (.int (0 : Int32)), .val (.int (1 : Int32)), .val (.int x2), .val (.ref a3), .val (.ref a6), .val (.ref a11), .val (.int (0 : Int32)), .unset] [(.int (if (0 : Int32) < x2 then (0 : Int32) else (1 : Int32)))]))
      refine G.istore P269 at_237 (l' := #[.val (.int x0), .val (.int x1), .val (.int x2), .val (.int a), .val (.int b), .val (.int c_), .val (.int acq), .val (.int (0 : Int32)), .val (.int (1 : Int32)), .val (.int x2), .val (.ref a3), .val (.ref a6), .val (.ref a11), .val (.int (0 : Int32)), .val (.int (if (0 : Int32) < x2 then (0 : Int32) else (1 : Int32)))]) rfl (pc' := 239) rfl ?_
      refine G.iload P269 at_239 rfl (pc' := 241) rfl ?_
      refine G.iload P269 at_241 rfl (pc' := 243) rfl ?_
      refine G.iload P269 at_243 rfl (pc' := 245) rfl ?_
      refine Go.all (S1 := fun ee : Int32 => T269.setTop (mkF m 253 #[.val (.int x0), .val (.int x1), .val (.int x2), .val (.int a), .val (.int b), .val (.int c_), .val (.int acq), .val (.int (0 : Int32)), .val (.int (1 : Int32)), .val (.int x2), .val (.ref a3), .val (.ref a6), .val (.ref a11), .val (.int (0 : Int32)), .val (.int (if (0 : Int32) < x2 then (0 : Int32) else (1 : Int32)))] [(.int ee), (.int (if (0 : Int32) < x2 then (0 : Int32) else (1 : Int32)))])) (A := fun ee => ee = (if (0 : Int32) < x2 then (0 : Int32) else (1 : Int32))) (fun H270 => ?_) (fun ee j270 => ?_)
      · --
        refine G.icmp_gt P269 at_245 (by decide) (pcY := 252) (by decide) (pcN := 248) rfl (fun c271 => ?_) (fun c271 => ?_)
        · --
          refine G.iconst P269 at_252 (z := (0 : Int32)) rfl (pc' := 253) rfl ?_
          exact H270 ((0 : Int32)) ((if_pos c271).symm)
        · --
          refine G.iconst P269 at_248 (z := (1 : Int32)) rfl (pc' := 249) rfl ?_
          refine G.goto P269 at_249 (by decide) (pc' := 253) (by decide) ?_
          exact H270 ((1 : Int32)) ((if_neg c271).symm)
      refine G.icmp_ne P269 at_253 (by decide) (pcY := 260) (by decide) (pcN := 256) rfl (fun cc => absurd j270.symm cc) (fun cc => ?_)
      refine G.iconst P269 at_256 (z := (1 : Int32)) rfl (pc' := 257) rfl ?_
      refine G.goto P269 at_257 (by decide) (pc' := 261) (by decide) ?_
      exact G.retN P269 (t := .boolean) rfl (by simp) at_261 (by decide) (by decide) ⟨rfl, N237⟩
  · --
    rcases ht_ with rfl | rfl
    · --
      show Go p e below _ (T237.setTop (mkF m 176 #[.val (.int x0), .val (.int x1), .val (.int x2), .val (.int a), .val (.int b), .val (.int c_), .val (.int acq), .val (.int (1 : Int32)), .val (.int (0 : Int32)), .val (.int x2), .val (.ref a3), .val (.ref a6), .val (.ref a11), .unset, .unset] []))
      refine G.iload P237 at_176 rfl (pc' := 178) rfl ?_
      refine G.if_ne P237 at_178 (by decide) (pcY := 199) (by decide) (pcN := 181) rfl (fun c272 => ?_) (fun c272 => absurd c272 (by decide))
      refine G.iload P237 at_199 rfl (pc' := 201) rfl ?_
      refine G.if_ne P237 at_201 (by decide) (pcY := 217) (by decide) (pcN := 204) rfl (fun c273 => absurd c273 (by decide)) (fun c273 => ?_)
      refine G.iload P237 at_204 rfl (pc' := 206) rfl ?_
      refine Go.all (S1 := fun vv : Int32 => T237.setTop (mkF m 219 #[.val (.int x0), .val (.int x1), .val (.int x2), .val (.int a), .val (.int b), .val (.int c_), .val (.int acq), .val (.int (1 : Int32)), .val (.int (0 : Int32)), .val (.int x2), .val (.ref a3), .val (.ref a6), .val (.ref a11), .unset, .unset] [(.int vv)])) (A := fun vv => vv = (if acq = (0 : Int32) then (0 : Int32) else a)) (fun H274 => ?_) (fun vv j274 => ?_)
      · --
        refine G.if_eq P237 at_206 (by decide) (pcY := 213) (by decide) (pcN := 209) rfl (fun c275 => ?_) (fun c275 => ?_)
        · --
          refine G.iconst P237 at_213 (z := (0 : Int32)) rfl (pc' := 214) rfl ?_
          refine G.goto P237 at_214 (by decide) (pc' := 219) (by decide) ?_
          exact H274 ((0 : Int32)) ((if_pos c275).symm)
        · --
          refine G.iloadN P237 at_209 rfl (pc' := 210) rfl ?_
          refine G.goto P237 at_210 (by decide) (pc' := 219) (by decide) ?_
          exact H274 (a) ((if_neg c275).symm)
      refine G.istore P237 at_219 (l' := #[.val (.int x0), .val (.int x1), .val (.int x2), .val (.int a), .val (.int b), .val (.int c_), .val (.int acq), .val (.int (1 : Int32)), .val (.int (0 : Int32)), .val (.int x2), .val (.ref a3), .val (.ref a6), .val (.ref a11), .val (.int vv), .unset]) rfl (pc' := 221) rfl ?_
      refine G.aload P237 at_221 rfl rfl (pc' := 223) rfl ?_
      refine G.aload P237 at_223 rfl rfl (pc' := 225) rfl ?_
      refine G.iload P237 at_225 rfl (pc' := 227) rfl ?_
      refine G.callVP P237 (rmClk1 l Z a0 hw a11 ic h237 f253 f255 f257 f258) (wk hw 108 rfl) (wk hw 109 rfl) (wk hw 111 rfl) rfl (wk hw 110 rfl) (wk hw 3 rfl) (wk hw 112 rfl) (by decide) f252 pd_16 (argsL := [(.int (1 : Int32))]) (rest := [(.ref a6)]) rfl rfl rfl rfl (W := 1) (Nat.le_of_eq rfl) (by decide) at_227 (pc' := 230) rfl fun T276 P276 => ?_
      show Go p e below _ (T276.setTop (mkF m 230 #[.val (.int x0), .val (.int x1), .val (.int x2), .val (.int a), .val (.int b), .val (.int c_), .val (.int acq), .val (.int (1 : Int32)), .val (.int (0 : Int32)), .val (.int x2), .val (.ref a3), .val (.ref a6), .val (.ref a11), .val (.int vv), .unset] [(.int (3 : Int32)), (.ref a6)]))
      refine G.iload P276 at_230 rfl (pc' := 232) rfl ?_
      refine G.iload P276 at_232 rfl (pc' := 234) rfl ?_
      refine G.callSP P276 (rmCts10 l Z a0 hw a6 k6 (0 : Int32) (a + b) (0 : Int32) (if acq = (0 : Int32) then (0 : Int32) else a) c_ a (0 : Int32) x2 h237 f259) (wk hw 115 rfl) (wk hw 116 rfl) (wk hw 3 rfl) (wk hw 117 rfl) (by decide) pd_17 (argsL := [(.ref a6), (.int (3 : Int32)), (.int (0 : Int32)), (.int x2)]) (rest := []) rfl rfl rfl rfl (W := 0) (Nat.le_of_eq rfl) (by decide) at_234 (pc' := 237) rfl fun T277 P277 => ?_
      show Go p e below _ (T277.setTop (mkF m 237 #[.val (.int x0), .val (.int x1), .val (.int x2), .val (.int a), .val (.int b), .val (.int c_), .val (.int acq), .val (.int (1 : Int32)), .val (.int (0 : Int32)), .val (.int x2), .val (.ref a3), .val (.ref a6), .val (.ref a11), .val (.int vv), .unset] [(.int (if (if acq = (0 : Int32) then (0 : Int32) else a) < x2 then (0 : Int32) else (1 : Int32)))]))
      refine G.istore P277 at_237 (l' := #[.val (.int x0), .val (.int x1), .val (.int x2), .val (.int a), .val (.int b), .val (.int c_), .val (.int acq), .val (.int (1 : Int32)), .val (.int (0 : Int32)), .val (.int x2), .val (.ref a3), .val (.ref a6), .val (.ref a11), .val (.int vv), .val (.int (if (if acq = (0 : Int32) then (0 : Int32) else a) < x2 then (0 : Int32) else (1 : Int32)))]) rfl (pc' := 239) rfl ?_
      refine G.iload P277 at_239 rfl (pc' := 241) rfl ?_
      refine G.iload P277 at_241 rfl (pc' := 243) rfl ?_
      refine G.iload P277 at_243 rfl (pc' := 245) rfl ?_
      refine Go.all (S1 := fun ee : Int32 => T277.setTop (mkF m 253 #[.val (.int x0), .val (.int x1), .val (.int x2), .val (.int a), .val (.int b), .val (.int c_), .val (.int acq), .val (.int (1 : Int32)), .val (.int (0 : Int32)), .val (.int x2), .val (.ref a3), .val (.ref a6), .val (.ref a11), .val (.int vv), .val (.int (if (if acq = (0 : Int32) then (0 : Int32) else a) < x2 then (0 : Int32) else (1 : Int32)))] [(.int ee), (.int (if (if acq = (0 : Int32) then (0 : Int32) else a) < x2 then (0 : Int32) else (1 : Int32)))])) (A := fun ee => ee = (if vv < x2 then (0 : Int32) else (1 : Int32))) (fun H278 => ?_) (fun ee j278 => ?_)
      · --
        refine G.icmp_gt P277 at_245 (by decide) (pcY := 252) (by decide) (pcN := 248) rfl (fun c279 => ?_) (fun c279 => ?_)
        · --
          refine G.iconst P277 at_252 (z := (0 : Int32)) rfl (pc' := 253) rfl ?_
          exact H278 ((0 : Int32)) ((if_pos c279).symm)
        · --
          refine G.iconst P277 at_248 (z := (1 : Int32)) rfl (pc' := 249) rfl ?_
          refine G.goto P277 at_249 (by decide) (pc' := 253) (by decide) ?_
          exact H278 ((1 : Int32)) ((if_neg c279).symm)
      refine G.icmp_ne P277 at_253 (by decide) (pcY := 260) (by decide) (pcN := 256) rfl (fun cc => absurd (show (if (if acq = (0 : Int32) then (0 : Int32) else a) < x2 then (0 : Int32) else (1 : Int32)) = ee from by rw [j278, j274]) cc) (fun cc => ?_)
      refine G.iconst P277 at_256 (z := (1 : Int32)) rfl (pc' := 257) rfl ?_
      refine G.goto P277 at_257 (by decide) (pc' := 261) (by decide) ?_
      exact G.retN P277 (t := .boolean) rfl (by simp) at_261 (by decide) (by decide) ⟨rfl, N237⟩
    · --
      show Go p e below _ (T237.setTop (mkF m 176 #[.val (.int x0), .val (.int x1), .val (.int x2), .val (.int a), .val (.int b), .val (.int c_), .val (.int acq), .val (.int (1 : Int32)), .val (.int (1 : Int32)), .val (.int x2), .val (.ref a3), .val (.ref a6), .val (.ref a11), .unset, .unset] []))
      refine G.iload P237 at_176 rfl (pc' := 178) rfl ?_
      refine G.if_ne P237 at_178 (by decide) (pcY := 199) (by decide) (pcN := 181) rfl (fun c280 => ?_) (fun c280 => absurd c280 (by decide))
      refine G.iload P237 at_199 rfl (pc' := 201) rfl ?_
      refine G.if_ne P237 at_201 (by decide) (pcY := 217) (by decide) (pcN := 204) rfl (fun c281 => ?_) (fun c281 => absurd c281 (by decide))
      refine G.iload P237 at_217 rfl (pc' := 219) rfl ?_
      refine G.istore P237 at_219 (l' := #[.val (.int x0), .val (.int x1), .val (.int x2), .val (.int a), .val (.int b), .val (.int c_), .val (.int acq), .val (.int (1 : Int32)), .val (.int (1 : Int32)), .val (.int x2), .val (.ref a3), .val (.ref a6), .val (.ref a11), .val (.int c_), .unset]) rfl (pc' := 221) rfl ?_
      refine G.aload P237 at_221 rfl rfl (pc' := 223) rfl ?_
      refine G.aload P237 at_223 rfl rfl (pc' := 225) rfl ?_
      refine G.iload P237 at_225 rfl (pc' := 227) rfl ?_
      refine G.callVP P237 (rmClk1 l Z a0 hw a11 ic h237 f253 f255 f257 f258) (wk hw 108 rfl) (wk hw 109 rfl) (wk hw 111 rfl) rfl (wk hw 110 rfl) (wk hw 3 rfl) (wk hw 112 rfl) (by decide) f252 pd_16 (argsL := [(.int (1 : Int32))]) (rest := [(.ref a6)]) rfl rfl rfl rfl (W := 1) (Nat.le_of_eq rfl) (by decide) at_227 (pc' := 230) rfl fun T282 P282 => ?_
      show Go p e below _ (T282.setTop (mkF m 230 #[.val (.int x0), .val (.int x1), .val (.int x2), .val (.int a), .val (.int b), .val (.int c_), .val (.int acq), .val (.int (1 : Int32)), .val (.int (1 : Int32)), .val (.int x2), .val (.ref a3), .val (.ref a6), .val (.ref a11), .val (.int c_), .unset] [(.int (3 : Int32)), (.ref a6)]))
      refine G.iload P282 at_230 rfl (pc' := 232) rfl ?_
      refine G.iload P282 at_232 rfl (pc' := 234) rfl ?_
      refine G.callSP P282 (rmCts11 l Z a0 hw a6 k6 (0 : Int32) (a + b) (0 : Int32) (if acq = (0 : Int32) then (0 : Int32) else a) c_ a (0 : Int32) x2 h237 f259) (wk hw 115 rfl) (wk hw 116 rfl) (wk hw 3 rfl) (wk hw 117 rfl) (by decide) pd_17 (argsL := [(.ref a6), (.int (3 : Int32)), (.int (1 : Int32)), (.int x2)]) (rest := []) rfl rfl rfl rfl (W := 0) (Nat.le_of_eq rfl) (by decide) at_234 (pc' := 237) rfl fun T283 P283 => ?_
      show Go p e below _ (T283.setTop (mkF m 237 #[.val (.int x0), .val (.int x1), .val (.int x2), .val (.int a), .val (.int b), .val (.int c_), .val (.int acq), .val (.int (1 : Int32)), .val (.int (1 : Int32)), .val (.int x2), .val (.ref a3), .val (.ref a6), .val (.ref a11), .val (.int c_), .unset] [(.int (if c_ < x2 then (0 : Int32) else (1 : Int32)))]))
      refine G.istore P283 at_237 (l' := #[.val (.int x0), .val (.int x1), .val (.int x2), .val (.int a), .val (.int b), .val (.int c_), .val (.int acq), .val (.int (1 : Int32)), .val (.int (1 : Int32)), .val (.int x2), .val (.ref a3), .val (.ref a6), .val (.ref a11), .val (.int c_), .val (.int (if c_ < x2 then (0 : Int32) else (1 : Int32)))]) rfl (pc' := 239) rfl ?_
      refine G.iload P283 at_239 rfl (pc' := 241) rfl ?_
      refine G.iload P283 at_241 rfl (pc' := 243) rfl ?_
      refine G.iload P283 at_243 rfl (pc' := 245) rfl ?_
      refine Go.all (S1 := fun ee : Int32 => T283.setTop (mkF m 253 #[.val (.int x0), .val (.int x1), .val (.int x2), .val (.int a), .val (.int b), .val (.int c_), .val (.int acq), .val (.int (1 : Int32)), .val (.int (1 : Int32)), .val (.int x2), .val (.ref a3), .val (.ref a6), .val (.ref a11), .val (.int c_), .val (.int (if c_ < x2 then (0 : Int32) else (1 : Int32)))] [(.int ee), (.int (if c_ < x2 then (0 : Int32) else (1 : Int32)))])) (A := fun ee => ee = (if c_ < x2 then (0 : Int32) else (1 : Int32))) (fun H284 => ?_) (fun ee j284 => ?_)
      · --
        refine G.icmp_gt P283 at_245 (by decide) (pcY := 252) (by decide) (pcN := 248) rfl (fun c285 => ?_) (fun c285 => ?_)
        · --
          refine G.iconst P283 at_252 (z := (0 : Int32)) rfl (pc' := 253) rfl ?_
          exact H284 ((0 : Int32)) ((if_pos c285).symm)
        · --
          refine G.iconst P283 at_248 (z := (1 : Int32)) rfl (pc' := 249) rfl ?_
          refine G.goto P283 at_249 (by decide) (pc' := 253) (by decide) ?_
          exact H284 ((1 : Int32)) ((if_neg c285).symm)
      refine G.icmp_ne P283 at_253 (by decide) (pcY := 260) (by decide) (pcN := 256) rfl (fun cc => absurd j284.symm cc) (fun cc => ?_)
      refine G.iconst P283 at_256 (z := (1 : Int32)) rfl (pc' := 257) rfl ?_
      refine G.goto P283 at_257 (by decide) (pc' := 261) (by decide) ?_
      exact G.retN P283 (t := .boolean) rfl (by simp) at_261 (by decide) (by decide) ⟨rfl, N237⟩

set_option maxRecDepth 65536 in
set_option maxHeartbeats 40000000 in
theorem comes_1 {Post : Tables → Env → Array Value → State → Outcome → State → Prop} (hpost : ∀ tb e args s v u, (limb_1_1.after args s (.returned v) u = true ∧ limb_1_2.after args s (.returned v) u = true ∧ True) → FrameEnd s (.returned v) u (Jvm.fieldLocs frame_1_writes args s ++ Jvm.arrayLocs frame_1_arrays args s ++ Jvm.staticLocs frame_1_statics s) 24 128 → Post tb e args s (.returned v) u) :
    ArmFor flags0 classFile x code maxLocals ret World_1 tables_1 room_1 Calls_1 rest_1 Pre_1 Post := by
  intro l hfl _ _ p e ha hc hk s m args below hf hA hF happ hP
  obtain ⟨hcalls, hrest, hpre⟩ := hP
  obtain ⟨-, -, -, hnamed, -, -, -, hat⟩ := (Spec.applies_iff hf).mp happ
  obtain ⟨hg, hn⟩ := and_e (Cond.before_iff.mp (show (Jvm.Cond.and given_1 narrow_1).before args s = true from hpre))
  obtain ⟨h1, hg1⟩ := and_e hg
  obtain ⟨i0, hg2⟩ := and_e hg1
  obtain ⟨i1, hg3⟩ := and_e hg2
  have i2 := hg3
  obtain ⟨w0, w1, w2, rfl⟩ : ∃ w0 w1 w2 : Value, args = #[w0, w1, w2] := by
    have hs : args.size = 3 := by simpa [Cond.value, given_1] using h1
    obtain ⟨L⟩ := args
    match L, hs with
    | [w0, w1, w2], _ => exact ⟨w0, w1, w2, rfl⟩
  have hw := fun d (hd : d ∈ tables_1) => atoms_spec (ws := Jvm.Cond.code x code maxLocals ret :: tables_1) hat d (List.mem_cons_of_mem _ hd)
  obtain ⟨x0, e0⟩ := is_v i0
  obtain rfl : w0 = (.int x0) := Option.some.inj e0
  obtain ⟨x1, e1⟩ := is_v i1
  obtain rfl : w1 = (.int x1) := Option.some.inj e1
  obtain ⟨x2, e2⟩ := is_v i2
  obtain rfl : w2 = (.int x2) := Option.some.inj e2
  obtain ⟨q0, hn0⟩ := and_e hn
  obtain ⟨q1, hn1⟩ := and_e hn0
  obtain ⟨q2, hn2⟩ := and_e hn1
  obtain ⟨q3, hn3⟩ := and_e hn2
  have q4 := hn3
  obtain ⟨e_IN_STATE, v_IN_STATE⟩ := exa_v q0
  have S_IN_STATE : Sta s s.heap "dev/happenstance/model/HappensBefore$Keeping" "IN_STATE" "Ldev/happenstance/model/HappensBefore$Keeping;" (.ref e_IN_STATE) := Sta.start v_IN_STATE (Or.inr ⟨(wk hw 11 rfl), (wk hw 12 rfl)⟩)
  have X_IN_STATE : Exa s s.heap e_IN_STATE "dev/happenstance/model/HappensBefore$Keeping" := Exa.start v_IN_STATE q0
  obtain ⟨e_RELEASE, v_RELEASE⟩ := exa_v q2
  have S_RELEASE : Sta s s.heap "dev/happenstance/model/HappensBefore$Kind" "RELEASE" "Ldev/happenstance/model/HappensBefore$Kind;" (.ref e_RELEASE) := Sta.start v_RELEASE (Or.inr ⟨(wk hw 102 rfl), (wk hw 103 rfl)⟩)
  have X_RELEASE : Exa s s.heap e_RELEASE "dev/happenstance/model/HappensBefore$Kind" := Exa.start v_RELEASE q2
  obtain ⟨e_PLAIN, v_PLAIN⟩ := exa_v q3
  have S_PLAIN : Sta s s.heap "dev/happenstance/model/HappensBefore$Kind" "PLAIN" "Ldev/happenstance/model/HappensBefore$Kind;" (.ref e_PLAIN) := Sta.start v_PLAIN (Or.inr ⟨(wk hw 102 rfl), (wk hw 124 rfl)⟩)
  have X_PLAIN : Exa s s.heap e_PLAIN "dev/happenstance/model/HappensBefore$Kind" := Exa.start v_PLAIN q3
  obtain ⟨e_ACQUIRE, v_ACQUIRE⟩ := exa_v q4
  have S_ACQUIRE : Sta s s.heap "dev/happenstance/model/HappensBefore$Kind" "ACQUIRE" "Ldev/happenstance/model/HappensBefore$Kind;" (.ref e_ACQUIRE) := Sta.start v_ACQUIRE (Or.inr ⟨(wk hw 102 rfl), (wk hw 139 rfl)⟩)
  have X_ACQUIRE : Exa s s.heap e_ACQUIRE "dev/happenstance/model/HappensBefore$Kind" := Exa.start v_ACQUIRE q4
  have F_IN_STATE_ordinal : Fld s s.heap e_IN_STATE "java/lang/Enum" "ordinal" "I" (.int (1 : Int32)) := Fld.start ((fld_at v_IN_STATE).symm.trans (own_eqv q1))
  obtain ⟨n, o, h1, h2, h3, _, L, rfl, ⟨rfl, N⟩, hq⟩ := rm0 l s _ hw x0 x1 x2 s.heap s.heap.size (Nat.le_refl _) (Old.start s) e_IN_STATE e_RELEASE e_PLAIN e_ACQUIRE S_IN_STATE X_IN_STATE F_IN_STATE_ordinal S_RELEASE S_PLAIN S_ACQUIRE p e ha hc hk s m _ below hf ((Spec.applies_iff_loose hf).mp happ).1 ⟨rfl, State.Warmed39.refl s, rfl⟩ trivial
  refine ⟨n, _, h1, h2, h3, hpost _ _ _ _ _ _ ⟨Cond.after_iff.mpr rfl, Cond.after_iff.mpr (eq_i res_at (Term.int_eval (1)) rfl), trivial⟩ ⟨hq.1, hq.2.1, (hq.2.2.sift fun y hy => Or.inr (N y hy)).mono (by decide) (by decide)⟩⟩
theorem main_1_1 : Claimed_1_1 := comes_1 fun _ _ _ _ _ _ h hF => ⟨h.1, hF⟩
theorem main_1_2 : Claimed_1_2 := comes_1 fun _ _ _ _ _ _ h hF => ⟨h.2.1, hF⟩
end Jvm.Pilot.@@N@@
namespace Jvm.Pilot.@@N@@
open Jvm Jvm.ClassFile Sem Op Lib Jvm.Free Jvm.Stand Jvm.Pilot.@@N@@.Jvm.D
/-! MADE BY PROGRAM (witnessworld.py) out of the Statement's table words and the real class files: 17 classes; the members and pool entries that the words name. The judged class is class 1, her method 1. -/
namespace start1
open Jvm.ClassFile
def u (s : String) : CpInfo := .utf8 (stringToUtf16 s)
/-- a pool by its gaps: so many unusable entries, then the entry; so many at the end -/
def gap : Nat → List CpInfo → List CpInfo
  | 0, r => r
  | n + 1, r => .unusable :: gap n r
def poolList (es : List (Nat × CpInfo)) (last : Nat) : List CpInfo := es.foldr (fun e r => gap e.1 (e.2 :: r)) (gap last [])
def pool (es : List (Nat × CpInfo)) (last : Nat) : Array CpInfo := ⟨poolList es last⟩
def fileOf (pool : Array CpInfo) (this : Nat) (attrs : Array Attribute := #[]) (ms : Array MethodInfo := #[]) (fl : Nat := 33) (sup : Nat := 0) (ifs : Array Nat := #[]) (fds : Array FieldInfo := #[]) : ClassFile where
  minorVersion := 0
  majorVersion := 65
  constantPool := pool
  accessFlags := fl
  thisClass := this
  superClass := sup
  interfaces := ifs
  fields := fds
  methods := ms
  attributes := attrs
def plain (name : String) (sup : Option ClassId) : Class where
  name := name
  kind := .ordinary
  loader := none
  accessFlags := 33
  super := sup
  interfaces := #[]
  cf := none
  fields := #[]
  methods := #[]
  instanceTypes := #[]
  staticTypes := #[]
  resolved := #[]
  callSites := []
  init := .initialized
  statics := none
  mirror := none

def pool0 : Array CpInfo := pool [(5, u "<init>"), (0, u "()V"), (1, .class_ 10), (1, u "java/lang/Object"), (85, u "clone"), (0, u "()Ljava/lang/Object;")] 26

def k0c0 : Code := { maxStack := 0, maxLocals := 1, code := object_method_1_code, exceptionTable := #[], attributes := #[] }
def k0m0 : Method := { name := "<init>", desc := "()V", sig := { parameters := [], returnType := none }, accessFlags := 1, code := some k0c0 }
def k0m1 : Method := { name := "clone", desc := "()Ljava/lang/Object;", sig := { parameters := [], returnType := some (.object "java/lang/Object") }, accessFlags := 260, code := none }
/-- java/lang/Object -/
def k0 : Class := { plain "java/lang/Object" none with
  accessFlags := 33
  interfaces := #[]
  cf := some (fileOf pool0 8 #[] #[{ accessFlags := 1, nameIndex := 5, descriptorIndex := 6, attributes := #[] }, { accessFlags := 260, nameIndex := 96, descriptorIndex := 97, attributes := #[] }] 33 0 #[] #[])
  fields := #[]
  methods := #[k0m0, k0m1]
  instanceTypes := #[]
  staticTypes := #[]
  resolved := Array.replicate 124 none
  statics := none }

def pool1 : Array CpInfo := pool [(2, .class_ 4), (1, u "java/lang/Object"), (0, u "<init>"), (0, u "()V"), (0, .class_ 8), (0, u "dev/happenstance/model/HappensBefore"), (0, .methodref 7 10), (0, .nameAndType 5 11), (0, u "(I[IIZI)V"), (0, .methodref 7 13), (0, .nameAndType 14 15), (0, u "count"), (0, u "([III)I"), (0, .methodref 7 17), (0, .nameAndType 18 19), (0, u "release"), (0, u "([IIII)V"), (0, .methodref 7 21), (0, .nameAndType 22 19), (0, u "acquire"), (0, .methodref 7 24), (0, .nameAndType 25 26), (0, u "clock"), (0, u "(I)I"), (0, .methodref 7 28), (0, .nameAndType 29 30), (0, u "counts"), (0, u "([IIII)Z"), (0, .class_ 32), (0, u "dev/happenstance/model/HappensBeforeCountsPinLaw"), (2, u "law"), (0, u "(III)Z")] 5

def k1m0 : Method := { name := "<init>", desc := "()V", sig := { parameters := [], returnType := none }, accessFlags := 1, code := none }
def k1c1 : Code := { maxStack := 7, maxLocals := 15, code := code, exceptionTable := #[], attributes := #[] }
def k1m1 : Method := { name := "law", desc := "(III)Z", sig := { parameters := [.int, .int, .int], returnType := some .boolean }, accessFlags := 9, code := some k1c1 }
/-- dev/happenstance/model/HappensBeforeCountsPinLaw -/
def k1 : Class := { plain "dev/happenstance/model/HappensBeforeCountsPinLaw" (some 0) with
  accessFlags := 49
  interfaces := #[]
  cf := some (fileOf pool1 31 #[] #[{ accessFlags := 1, nameIndex := 5, descriptorIndex := 6, attributes := #[] }, { accessFlags := 9, nameIndex := 35, descriptorIndex := 36, attributes := #[] }] 49 2 #[] #[])
  fields := #[]
  methods := #[k1m0, k1m1]
  instanceTypes := #[]
  staticTypes := #[]
  resolved := Array.replicate 42 none
  statics := none }

def pool2 : Array CpInfo := pool [(1, .methodref 2 3), (0, .class_ 4), (0, .nameAndType 5 6), (0, u "dev/happenstance/model/HappensBefore"), (0, u "<init>"), (0, u "(I[IIZII)V"), (0, .fieldref 8 9), (0, .class_ 10), (0, .nameAndType 11 12), (0, u "dev/happenstance/model/HappensBefore$Keeping"), (0, u "IN_STATE"), (0, u "Ldev/happenstance/model/HappensBefore$Keeping;"), (3, .methodref 2 17), (0, .nameAndType 5 18), (0, u "(I[IILdev/happenstance/model/HappensBefore$Keeping;II)V"), (0, .methodref 20 21), (0, .class_ 22), (0, .nameAndType 5 23), (0, u "java/lang/Object"), (0, u "()V"), (0, .fieldref 2 25), (0, .nameAndType 26 27), (0, u "threads"), (0, u "I"), (0, .methodref 29 30), (0, .class_ 31), (0, .nameAndType 32 33), (0, u "[I"), (0, u "clone"), (0, u "()Ljava/lang/Object;"), (0, .fieldref 2 35), (0, .nameAndType 36 31), (0, u "initialValues"), (0, .methodref 2 38), (0, .nameAndType 39 40), (0, u "size"), (0, u "(IIIZ)I"), (0, .methodref 2 42), (0, .nameAndType 43 44), (0, u "ints"), (0, u "(J)I"), (0, .fieldref 2 46), (0, .nameAndType 47 27), (0, u "end"), (0, .fieldref 2 49), (0, .nameAndType 50 27), (0, u "memory"), (0, .fieldref 2 52), (0, .nameAndType 53 27), (0, u "holders"), (0, .methodref 8 55), (0, .nameAndType 56 57), (0, u "ordinal"), (0, u "()I"), (5, .class_ 64), (0, u "dev/happenstance/model/HappensBefore$InState"), (0, .methodref 63 66), (0, .nameAndType 5 67), (0, u "(II)V"), (0, .class_ 69), (0, u "dev/happenstance/model/HappensBefore$Apart"), (3, .fieldref 2 74), (0, .nameAndType 75 76), (0, u "clocks"), (0, u "Ldev/happenstance/model/HappensBefore$Clocks;"), (0, .fieldref 2 78), (0, .nameAndType 79 27), (0, u "log"), (3, .long 2), (3, .long 2147483647), (16, .methodref 2 105), (0, .nameAndType 106 107), (0, u "variableClock"), (0, u "(I)I"), (0, .methodref 2 109), (0, .nameAndType 110 111), (0, u "takeIn"), (0, u "([III)V"), (0, .fieldref 113 114), (0, .class_ 115), (0, .nameAndType 116 117), (0, u "dev/happenstance/model/HappensBefore$Kind"), (0, u "ACQUIRE"), (0, u "Ldev/happenstance/model/HappensBefore$Kind;"), (0, .methodref 2 119), (0, .nameAndType 120 121), (0, u "note"), (0, u "([ILdev/happenstance/model/HappensBefore$Kind;III)V"), (0, .fieldref 113 123), (0, .nameAndType 124 117), (0, u "RELEASE"), (18, .fieldref 113 144), (0, .nameAndType 145 117), (0, u "PLAIN"), (0, .interfaceMethodref 147 148), (0, .class_ 149), (0, .nameAndType 150 151), (0, u "dev/happenstance/model/HappensBefore$Clocks"), (0, u "count"), (0, u "([II)I"), (83, .methodref 63 236), (0, .nameAndType 237 107), (0, u "start"), (4, u "clock"), (3, u "counts"), (0, u "([IIII)Z"), (23, .interfaceMethodref 147 109), (0, u "ENTRY"), (2, u "(I[IIZI)V"), (10, u "acquire"), (0, u "([IIII)V"), (0, u "release"), (4, u "([III)I")] 37

def k2c0 : Code := { maxStack := 7, maxLocals := 6, code := prog_48_method_1_code, exceptionTable := #[], attributes := #[] }
def k2m0 : Method := { name := "<init>", desc := "(I[IIZI)V", sig := { parameters := [.int, (.array .int), .int, .boolean, .int], returnType := none }, accessFlags := 0, code := some k2c0 }
def k2c1 : Code := { maxStack := 7, maxLocals := 7, code := prog_48_method_2_code, exceptionTable := #[], attributes := #[] }
def k2m1 : Method := { name := "<init>", desc := "(I[IIZII)V", sig := { parameters := [.int, (.array .int), .int, .boolean, .int, .int], returnType := none }, accessFlags := 0, code := some k2c1 }
def k2c2 : Code := { maxStack := 8, maxLocals := 7, code := prog_48_method_3_code, exceptionTable := #[], attributes := #[] }
def k2m2 : Method := { name := "<init>", desc := "(I[IILdev/happenstance/model/HappensBefore$Keeping;II)V", sig := { parameters := [.int, (.array .int), .int, (.object "dev/happenstance/model/HappensBefore$Keeping"), .int, .int], returnType := none }, accessFlags := 2, code := some k2c2 }
def k2c3 : Code := { maxStack := 6, maxLocals := 8, code := prog_48_method_5_code, exceptionTable := #[], attributes := #[] }
def k2m3 : Method := { name := "size", desc := "(IIIZ)I", sig := { parameters := [.int, .int, .int, .boolean], returnType := some .int }, accessFlags := 8, code := some k2c3 }
def k2c4 : Code := { maxStack := 4, maxLocals := 2, code := prog_48_method_6_code, exceptionTable := #[], attributes := #[] }
def k2m4 : Method := { name := "ints", desc := "(J)I", sig := { parameters := [.long], returnType := some .int }, accessFlags := 10, code := some k2c4 }
def k2c5 : Code := { maxStack := 6, maxLocals := 5, code := prog_48_method_12_code, exceptionTable := #[], attributes := #[] }
def k2m5 : Method := { name := "acquire", desc := "([IIII)V", sig := { parameters := [(.array .int), .int, .int, .int], returnType := none }, accessFlags := 0, code := some k2c5 }
def k2c6 : Code := { maxStack := 6, maxLocals := 5, code := prog_48_method_13_code, exceptionTable := #[], attributes := #[] }
def k2m6 : Method := { name := "release", desc := "([IIII)V", sig := { parameters := [(.array .int), .int, .int, .int], returnType := none }, accessFlags := 0, code := some k2c6 }
def k2c7 : Code := { maxStack := 6, maxLocals := 4, code := prog_48_method_19_code, exceptionTable := #[], attributes := #[] }
def k2m7 : Method := { name := "count", desc := "([III)I", sig := { parameters := [(.array .int), .int, .int], returnType := some .int }, accessFlags := 0, code := some k2c7 }
def k2c8 : Code := { maxStack := 3, maxLocals := 4, code := prog_48_method_22_code, exceptionTable := #[], attributes := #[] }
def k2m8 : Method := { name := "clock", desc := "(I)I", sig := { parameters := [.int], returnType := some .int }, accessFlags := 0, code := some k2c8 }
def k2c9 : Code := { maxStack := 3, maxLocals := 4, code := prog_48_method_26_code, exceptionTable := #[], attributes := #[] }
def k2m9 : Method := { name := "counts", desc := "([IIII)Z", sig := { parameters := [(.array .int), .int, .int, .int], returnType := some .boolean }, accessFlags := 8, code := some k2c9 }
def k2c10 : Code := { maxStack := 6, maxLocals := 7, code := prog_48_method_29_code, exceptionTable := #[], attributes := #[] }
def k2m10 : Method := { name := "note", desc := "([ILdev/happenstance/model/HappensBefore$Kind;III)V", sig := { parameters := [(.array .int), (.object "dev/happenstance/model/HappensBefore$Kind"), .int, .int, .int], returnType := none }, accessFlags := 2, code := some k2c10 }
def k2c11 : Code := { maxStack := 4, maxLocals := 4, code := prog_48_method_35_code, exceptionTable := #[], attributes := #[] }
def k2m11 : Method := { name := "takeIn", desc := "([III)V", sig := { parameters := [(.array .int), .int, .int], returnType := none }, accessFlags := 2, code := some k2c11 }
def k2c12 : Code := { maxStack := 2, maxLocals := 2, code := prog_48_method_36_code, exceptionTable := #[], attributes := #[] }
def k2m12 : Method := { name := "variableClock", desc := "(I)I", sig := { parameters := [.int], returnType := some .int }, accessFlags := 2, code := some k2c12 }
/-- dev/happenstance/model/HappensBefore -/
def k2 : Class := { plain "dev/happenstance/model/HappensBefore" (some 0) with
  accessFlags := 48
  interfaces := #[]
  cf := some (fileOf pool2 2 #[.nestMembers #[68, 63, 147, 8, 113]] #[{ accessFlags := 0, nameIndex := 5, descriptorIndex := 275, attributes := #[] }, { accessFlags := 0, nameIndex := 5, descriptorIndex := 6, attributes := #[] }, { accessFlags := 2, nameIndex := 5, descriptorIndex := 18, attributes := #[] }, { accessFlags := 8, nameIndex := 39, descriptorIndex := 40, attributes := #[] }, { accessFlags := 10, nameIndex := 43, descriptorIndex := 44, attributes := #[] }, { accessFlags := 0, nameIndex := 286, descriptorIndex := 287, attributes := #[] }, { accessFlags := 0, nameIndex := 288, descriptorIndex := 287, attributes := #[] }, { accessFlags := 0, nameIndex := 150, descriptorIndex := 293, attributes := #[] }, { accessFlags := 0, nameIndex := 242, descriptorIndex := 107, attributes := #[] }, { accessFlags := 8, nameIndex := 246, descriptorIndex := 247, attributes := #[] }, { accessFlags := 2, nameIndex := 120, descriptorIndex := 121, attributes := #[] }, { accessFlags := 2, nameIndex := 110, descriptorIndex := 111, attributes := #[] }, { accessFlags := 2, nameIndex := 106, descriptorIndex := 107, attributes := #[] }] 48 20 #[] #[{ accessFlags := 26, nameIndex := 272, descriptorIndex := 27, attributes := #[] }, { accessFlags := 18, nameIndex := 26, descriptorIndex := 27, attributes := #[] }, { accessFlags := 18, nameIndex := 36, descriptorIndex := 31, attributes := #[] }, { accessFlags := 18, nameIndex := 75, descriptorIndex := 76, attributes := #[] }, { accessFlags := 18, nameIndex := 50, descriptorIndex := 27, attributes := #[] }, { accessFlags := 18, nameIndex := 53, descriptorIndex := 27, attributes := #[] }, { accessFlags := 18, nameIndex := 47, descriptorIndex := 27, attributes := #[] }, { accessFlags := 18, nameIndex := 79, descriptorIndex := 27, attributes := #[] }])
  fields := #[{ name := "ENTRY", type := .int, accessFlags := 26, slot := 0, constantValue := 0 }, { name := "threads", type := .int, accessFlags := 18, slot := 0, constantValue := 0 }, { name := "initialValues", type := (.array .int), accessFlags := 18, slot := 1, constantValue := 0 }, { name := "clocks", type := (.object "dev/happenstance/model/HappensBefore$Clocks"), accessFlags := 18, slot := 2, constantValue := 0 }, { name := "memory", type := .int, accessFlags := 18, slot := 3, constantValue := 0 }, { name := "holders", type := .int, accessFlags := 18, slot := 4, constantValue := 0 }, { name := "end", type := .int, accessFlags := 18, slot := 5, constantValue := 0 }, { name := "log", type := .int, accessFlags := 18, slot := 6, constantValue := 0 }]
  methods := #[k2m0, k2m1, k2m2, k2m3, k2m4, k2m5, k2m6, k2m7, k2m8, k2m9, k2m10, k2m11, k2m12]
  instanceTypes := #[.int, (.array .int), (.object "dev/happenstance/model/HappensBefore$Clocks"), .int, .int, .int, .int]
  staticTypes := #[.int]
  resolved := Array.replicate 331 none
  statics := none }

def pool3 : Array CpInfo := pool [(1, .class_ 2), (0, u "java/lang/constant/Constable"), (0, .class_ 4), (0, u "java/lang/Object")] 6

/-- java/lang/constant/Constable -/
def k3 : Class := { plain "java/lang/constant/Constable" (some 0) with
  accessFlags := 1537
  interfaces := #[]
  cf := some (fileOf pool3 1 #[] #[] 1537 3 #[] #[])
  fields := #[]
  methods := #[]
  instanceTypes := #[]
  staticTypes := #[]
  resolved := Array.replicate 11 none
  statics := none }

def pool4 : Array CpInfo := pool [(1, .class_ 2), (0, u "java/lang/Comparable"), (0, .class_ 4), (0, u "java/lang/Object")] 7

/-- java/lang/Comparable -/
def k4 : Class := { plain "java/lang/Comparable" (some 0) with
  accessFlags := 1537
  interfaces := #[]
  cf := some (fileOf pool4 1 #[] #[] 1537 3 #[] #[])
  fields := #[]
  methods := #[]
  instanceTypes := #[]
  staticTypes := #[]
  resolved := Array.replicate 12 none
  statics := none }

def pool5 : Array CpInfo := pool [(1, .class_ 2), (0, u "java/io/Serializable"), (0, .class_ 4), (0, u "java/lang/Object")] 2

/-- java/io/Serializable -/
def k5 : Class := { plain "java/io/Serializable" (some 0) with
  accessFlags := 1537
  interfaces := #[]
  cf := some (fileOf pool5 1 #[] #[] 1537 3 #[] #[])
  fields := #[]
  methods := #[]
  instanceTypes := #[]
  staticTypes := #[]
  resolved := Array.replicate 7 none
  statics := none }

def pool6 : Array CpInfo := pool [(2, .class_ 4), (1, u "java/lang/Enum"), (0, u "name"), (0, u "Ljava/lang/String;"), (0, .fieldref 2 8), (0, .nameAndType 9 10), (0, u "ordinal"), (0, u "I"), (1, .class_ 14), (1, u "java/lang/Object"), (4, u "hash"), (86, .class_ 108), (1, u "java/lang/Enum$EnumDesc"), (2, .class_ 112), (0, u "java/lang/constant/Constable"), (0, .class_ 114), (0, u "java/lang/Comparable"), (0, .class_ 116), (0, u "java/io/Serializable"), (9, u "()I")] 77

def k6c0 : Code := { maxStack := 1, maxLocals := 1, code := jdk_37_method_2_code, exceptionTable := #[], attributes := #[] }
def k6m0 : Method := { name := "ordinal", desc := "()I", sig := { parameters := [], returnType := some .int }, accessFlags := 17, code := some k6c0 }
/-- java/lang/Enum -/
def k6 : Class := { plain "java/lang/Enum" (some 0) with
  accessFlags := 1057
  interfaces := #[3, 4, 5]
  cf := some (fileOf pool6 2 #[.nestMembers #[106]] #[{ accessFlags := 17, nameIndex := 9, descriptorIndex := 126, attributes := #[] }] 1057 12 #[111, 113, 115] #[{ accessFlags := 18, nameIndex := 5, descriptorIndex := 6, attributes := #[] }, { accessFlags := 18, nameIndex := 9, descriptorIndex := 10, attributes := #[] }, { accessFlags := 2, nameIndex := 19, descriptorIndex := 10, attributes := #[] }])
  fields := #[{ name := "name", type := (.object "java/lang/String"), accessFlags := 18, slot := 0, constantValue := 0 }, { name := "ordinal", type := .int, accessFlags := 18, slot := 1, constantValue := 0 }, { name := "hash", type := .int, accessFlags := 2, slot := 2, constantValue := 0 }]
  methods := #[k6m0]
  instanceTypes := #[(.object "java/lang/String"), .int, .int]
  staticTypes := #[]
  resolved := Array.replicate 204 none
  statics := none }

def pool7 : Array CpInfo := pool [(1, .class_ 2), (0, u "dev/happenstance/model/HappensBefore$Keeping"), (2, u "NONE"), (0, u "Ldev/happenstance/model/HappensBefore$Keeping;"), (2, u "IN_STATE"), (2, u "APART"), (2, u "$VALUES"), (0, u "[Ldev/happenstance/model/HappensBefore$Keeping;"), (6, .class_ 25), (1, u "java/lang/Enum"), (26, .class_ 53), (0, u "dev/happenstance/model/HappensBefore")] 2

/-- dev/happenstance/model/HappensBefore$Keeping -/
def k7 : Class := { plain "dev/happenstance/model/HappensBefore$Keeping" (some 6) with
  accessFlags := 16432
  interfaces := #[]
  cf := some (fileOf pool7 1 #[.nestHost 52] #[] 16432 23 #[] #[{ accessFlags := 16409, nameIndex := 5, descriptorIndex := 6, attributes := #[] }, { accessFlags := 16409, nameIndex := 9, descriptorIndex := 6, attributes := #[] }, { accessFlags := 16409, nameIndex := 12, descriptorIndex := 6, attributes := #[] }, { accessFlags := 4122, nameIndex := 15, descriptorIndex := 16, attributes := #[] }])
  fields := #[{ name := "NONE", type := (.object "dev/happenstance/model/HappensBefore$Keeping"), accessFlags := 16409, slot := 0, constantValue := 0 }, { name := "IN_STATE", type := (.object "dev/happenstance/model/HappensBefore$Keeping"), accessFlags := 16409, slot := 1, constantValue := 0 }, { name := "APART", type := (.object "dev/happenstance/model/HappensBefore$Keeping"), accessFlags := 16409, slot := 2, constantValue := 0 }, { name := "$VALUES", type := (.array (.object "dev/happenstance/model/HappensBefore$Keeping")), accessFlags := 4122, slot := 3, constantValue := 0 }]
  methods := #[]
  instanceTypes := #[(.object "java/lang/String"), .int, .int]
  staticTypes := #[(.object "dev/happenstance/model/HappensBefore$Keeping"), (.object "dev/happenstance/model/HappensBefore$Keeping"), (.object "dev/happenstance/model/HappensBefore$Keeping"), (.array (.object "dev/happenstance/model/HappensBefore$Keeping"))]
  resolved := Array.replicate 56 none
  statics := some 0 }

def pool8 : Array CpInfo := pool [(1, .class_ 2), (0, u "java/lang/Cloneable"), (0, .class_ 4), (0, u "java/lang/Object")] 2

/-- java/lang/Cloneable -/
def k8 : Class := { plain "java/lang/Cloneable" (some 0) with
  accessFlags := 1537
  interfaces := #[]
  cf := some (fileOf pool8 1 #[] #[] 1537 3 #[] #[])
  fields := #[]
  methods := #[]
  instanceTypes := #[]
  staticTypes := #[]
  resolved := Array.replicate 7 none
  statics := none }

def pool9 : Array CpInfo := pool [(1, .class_ 2), (0, u "dev/happenstance/model/HappensBefore$Clocks"), (0, .class_ 4), (0, u "java/lang/Object"), (0, u "takeIn"), (0, u "([III)V"), (0, u "count"), (0, u "([II)I"), (3, .class_ 13), (0, u "dev/happenstance/model/HappensBefore")] 2

def k9m0 : Method := { name := "takeIn", desc := "([III)V", sig := { parameters := [(.array .int), .int, .int], returnType := none }, accessFlags := 1025, code := none }
def k9m1 : Method := { name := "count", desc := "([II)I", sig := { parameters := [(.array .int), .int], returnType := some .int }, accessFlags := 1025, code := none }
/-- dev/happenstance/model/HappensBefore$Clocks -/
def k9 : Class := { plain "dev/happenstance/model/HappensBefore$Clocks" (some 0) with
  accessFlags := 1536
  interfaces := #[]
  cf := some (fileOf pool9 1 #[.nestHost 12] #[{ accessFlags := 1025, nameIndex := 5, descriptorIndex := 6, attributes := #[] }, { accessFlags := 1025, nameIndex := 7, descriptorIndex := 8, attributes := #[] }] 1536 3 #[] #[])
  fields := #[]
  methods := #[k9m0, k9m1]
  instanceTypes := #[]
  staticTypes := #[]
  resolved := Array.replicate 16 none
  statics := none }

def pool10 : Array CpInfo := pool [(1, .methodref 2 3), (0, .class_ 4), (0, .nameAndType 5 6), (0, u "java/lang/Object"), (0, u "<init>"), (0, u "()V"), (0, .fieldref 8 9), (0, .class_ 10), (0, .nameAndType 11 12), (0, u "dev/happenstance/model/HappensBefore$InState"), (0, u "at"), (0, u "I"), (0, .fieldref 8 14), (0, .nameAndType 15 12), (0, u "threads"), (0, .methodref 8 17), (0, .nameAndType 18 19), (0, u "start"), (0, u "(I)I"), (0, .methodref 21 22), (0, .class_ 23), (0, .nameAndType 24 25), (0, u "java/lang/Math"), (0, u "max"), (0, u "(II)I"), (0, .class_ 27), (0, u "dev/happenstance/model/HappensBefore$Clocks"), (0, u "(II)V"), (2, u "takeIn"), (0, u "([III)V"), (1, u "count"), (0, u "([II)I"), (3, .class_ 40), (0, u "dev/happenstance/model/HappensBefore")] 3

def k10c0 : Code := { maxStack := 2, maxLocals := 3, code := prog_51_method_1_code, exceptionTable := #[], attributes := #[] }
def k10m0 : Method := { name := "<init>", desc := "(II)V", sig := { parameters := [.int, .int], returnType := none }, accessFlags := 0, code := some k10c0 }
def k10c1 : Code := { maxStack := 3, maxLocals := 2, code := prog_51_method_2_code, exceptionTable := #[], attributes := #[] }
def k10m1 : Method := { name := "start", desc := "(I)I", sig := { parameters := [.int], returnType := some .int }, accessFlags := 0, code := some k10c1 }
def k10c2 : Code := { maxStack := 6, maxLocals := 7, code := prog_51_method_3_code, exceptionTable := #[], attributes := #[] }
def k10m2 : Method := { name := "takeIn", desc := "([III)V", sig := { parameters := [(.array .int), .int, .int], returnType := none }, accessFlags := 1, code := some k10c2 }
def k10c3 : Code := { maxStack := 4, maxLocals := 3, code := prog_51_method_4_code, exceptionTable := #[], attributes := #[] }
def k10m3 : Method := { name := "count", desc := "([II)I", sig := { parameters := [(.array .int), .int], returnType := some .int }, accessFlags := 1, code := some k10c3 }
/-- dev/happenstance/model/HappensBefore$InState -/
def k10 : Class := { plain "dev/happenstance/model/HappensBefore$InState" (some 0) with
  accessFlags := 48
  interfaces := #[9]
  cf := some (fileOf pool10 8 #[.nestHost 39] #[{ accessFlags := 0, nameIndex := 5, descriptorIndex := 28, attributes := #[] }, { accessFlags := 0, nameIndex := 18, descriptorIndex := 19, attributes := #[] }, { accessFlags := 1, nameIndex := 31, descriptorIndex := 32, attributes := #[] }, { accessFlags := 1, nameIndex := 34, descriptorIndex := 35, attributes := #[] }] 48 2 #[26] #[{ accessFlags := 18, nameIndex := 11, descriptorIndex := 12, attributes := #[] }, { accessFlags := 18, nameIndex := 15, descriptorIndex := 12, attributes := #[] }])
  fields := #[{ name := "at", type := .int, accessFlags := 18, slot := 0, constantValue := 0 }, { name := "threads", type := .int, accessFlags := 18, slot := 1, constantValue := 0 }]
  methods := #[k10m0, k10m1, k10m2, k10m3]
  instanceTypes := #[.int, .int]
  staticTypes := #[]
  resolved := Array.replicate 44 none
  statics := none }

def pool11 : Array CpInfo := pool [(1, .class_ 2), (0, u "java/lang/Math"), (1, .class_ 6), (1, u "java/lang/Object"), (0, u "<init>"), (0, u "()V"), (89, .class_ 100), (1, u "java/lang/Math$RandomNumberGeneratorHolder"), (71, u "negativeZeroFloatBits"), (0, u "J"), (2, u "negativeZeroDoubleBits"), (21, u "max"), (46, u "$assertionsDisabled"), (0, u "Z"), (88, u "(II)I"), (2, u "twoToTheDoubleScaleDown"), (0, u "D"), (4, u "twoToTheDoubleScaleUp"), (9, u "E"), (3, u "PI"), (2, u "TAU"), (2, u "DEGREES_TO_RADIANS"), (0, u "RADIANS_TO_DEGREES")] 94

def k11m0 : Method := { name := "<init>", desc := "()V", sig := { parameters := [], returnType := none }, accessFlags := 2, code := none }
def k11c1 : Code := { maxStack := 2, maxLocals := 2, code := jdk_29_method_65_code, exceptionTable := #[], attributes := #[] }
def k11m1 : Method := { name := "max", desc := "(II)I", sig := { parameters := [.int, .int], returnType := some .int }, accessFlags := 9, code := some k11c1 }
/-- java/lang/Math -/
def k11 : Class := { plain "java/lang/Math" (some 0) with
  accessFlags := 49
  interfaces := #[]
  cf := some (fileOf pool11 1 #[.nestMembers #[98]] #[{ accessFlags := 2, nameIndex := 7, descriptorIndex := 8, attributes := #[] }, { accessFlags := 9, nameIndex := 198, descriptorIndex := 335, attributes := #[] }] 49 4 #[] #[{ accessFlags := 25, nameIndex := 354, descriptorIndex := 339, attributes := #[] }, { accessFlags := 25, nameIndex := 358, descriptorIndex := 339, attributes := #[] }, { accessFlags := 25, nameIndex := 361, descriptorIndex := 339, attributes := #[] }, { accessFlags := 26, nameIndex := 364, descriptorIndex := 339, attributes := #[] }, { accessFlags := 26, nameIndex := 365, descriptorIndex := 339, attributes := #[] }, { accessFlags := 26, nameIndex := 172, descriptorIndex := 173, attributes := #[] }, { accessFlags := 26, nameIndex := 176, descriptorIndex := 173, attributes := #[] }, { accessFlags := 8, nameIndex := 344, descriptorIndex := 339, attributes := #[] }, { accessFlags := 8, nameIndex := 338, descriptorIndex := 339, attributes := #[] }, { accessFlags := 4120, nameIndex := 245, descriptorIndex := 246, attributes := #[] }])
  fields := #[{ name := "E", type := .double, accessFlags := 25, slot := 0, constantValue := 0 }, { name := "PI", type := .double, accessFlags := 25, slot := 1, constantValue := 0 }, { name := "TAU", type := .double, accessFlags := 25, slot := 2, constantValue := 0 }, { name := "DEGREES_TO_RADIANS", type := .double, accessFlags := 26, slot := 3, constantValue := 0 }, { name := "RADIANS_TO_DEGREES", type := .double, accessFlags := 26, slot := 4, constantValue := 0 }, { name := "negativeZeroFloatBits", type := .long, accessFlags := 26, slot := 5, constantValue := 0 }, { name := "negativeZeroDoubleBits", type := .long, accessFlags := 26, slot := 6, constantValue := 0 }, { name := "twoToTheDoubleScaleUp", type := .double, accessFlags := 8, slot := 7, constantValue := 0 }, { name := "twoToTheDoubleScaleDown", type := .double, accessFlags := 8, slot := 8, constantValue := 0 }, { name := "$assertionsDisabled", type := .boolean, accessFlags := 4120, slot := 9, constantValue := 0 }]
  methods := #[k11m0, k11m1]
  instanceTypes := #[]
  staticTypes := #[.double, .double, .double, .double, .double, .long, .long, .double, .double, .boolean]
  resolved := Array.replicate 460 none
  statics := none }

def pool12 : Array CpInfo := pool [(1, .class_ 2), (0, u "dev/happenstance/model/HappensBefore$Kind"), (2, u "PLAIN"), (0, u "Ldev/happenstance/model/HappensBefore$Kind;"), (2, u "ACQUIRE"), (2, u "RELEASE"), (2, u "LOCK"), (2, u "UNLOCK"), (2, u "START"), (2, u "JOIN"), (2, u "$VALUES"), (0, u "[Ldev/happenstance/model/HappensBefore$Kind;"), (6, .class_ 37), (1, u "java/lang/Enum"), (23, u "ALL"), (11, .class_ 74), (0, u "dev/happenstance/model/HappensBefore")] 2

/-- dev/happenstance/model/HappensBefore$Kind -/
def k12 : Class := { plain "dev/happenstance/model/HappensBefore$Kind" (some 6) with
  accessFlags := 16432
  interfaces := #[]
  cf := some (fileOf pool12 1 #[.nestHost 73] #[] 16432 35 #[] #[{ accessFlags := 16409, nameIndex := 5, descriptorIndex := 6, attributes := #[] }, { accessFlags := 16409, nameIndex := 9, descriptorIndex := 6, attributes := #[] }, { accessFlags := 16409, nameIndex := 12, descriptorIndex := 6, attributes := #[] }, { accessFlags := 16409, nameIndex := 15, descriptorIndex := 6, attributes := #[] }, { accessFlags := 16409, nameIndex := 18, descriptorIndex := 6, attributes := #[] }, { accessFlags := 16409, nameIndex := 21, descriptorIndex := 6, attributes := #[] }, { accessFlags := 16409, nameIndex := 24, descriptorIndex := 6, attributes := #[] }, { accessFlags := 26, nameIndex := 61, descriptorIndex := 28, attributes := #[] }, { accessFlags := 4122, nameIndex := 27, descriptorIndex := 28, attributes := #[] }])
  fields := #[{ name := "PLAIN", type := (.object "dev/happenstance/model/HappensBefore$Kind"), accessFlags := 16409, slot := 0, constantValue := 0 }, { name := "ACQUIRE", type := (.object "dev/happenstance/model/HappensBefore$Kind"), accessFlags := 16409, slot := 1, constantValue := 0 }, { name := "RELEASE", type := (.object "dev/happenstance/model/HappensBefore$Kind"), accessFlags := 16409, slot := 2, constantValue := 0 }, { name := "LOCK", type := (.object "dev/happenstance/model/HappensBefore$Kind"), accessFlags := 16409, slot := 3, constantValue := 0 }, { name := "UNLOCK", type := (.object "dev/happenstance/model/HappensBefore$Kind"), accessFlags := 16409, slot := 4, constantValue := 0 }, { name := "START", type := (.object "dev/happenstance/model/HappensBefore$Kind"), accessFlags := 16409, slot := 5, constantValue := 0 }, { name := "JOIN", type := (.object "dev/happenstance/model/HappensBefore$Kind"), accessFlags := 16409, slot := 6, constantValue := 0 }, { name := "ALL", type := (.array (.object "dev/happenstance/model/HappensBefore$Kind")), accessFlags := 26, slot := 7, constantValue := 0 }, { name := "$VALUES", type := (.array (.object "dev/happenstance/model/HappensBefore$Kind")), accessFlags := 4122, slot := 8, constantValue := 0 }]
  methods := #[]
  instanceTypes := #[(.object "java/lang/String"), .int, .int]
  staticTypes := #[(.object "dev/happenstance/model/HappensBefore$Kind"), (.object "dev/happenstance/model/HappensBefore$Kind"), (.object "dev/happenstance/model/HappensBefore$Kind"), (.object "dev/happenstance/model/HappensBefore$Kind"), (.object "dev/happenstance/model/HappensBefore$Kind"), (.object "dev/happenstance/model/HappensBefore$Kind"), (.object "dev/happenstance/model/HappensBefore$Kind"), (.array (.object "dev/happenstance/model/HappensBefore$Kind")), (.array (.object "dev/happenstance/model/HappensBefore$Kind"))]
  resolved := Array.replicate 77 none
  statics := some 1 }

/-- the primitive byte -/
def k13 : Class := { plain "byte" none with kind := .primitive 'B', accessFlags := 0x411 }
/-- [B -/
def k14 : Class := { plain "[B" (some 0) with kind := .array 13 .byte, interfaces := #[8, 5], accessFlags := 1041 }

/-- the primitive int -/
def k15 : Class := { plain "int" none with kind := .primitive 'I', accessFlags := 0x411 }
/-- [I -/
def k16 : Class := { plain "[I" (some 0) with kind := .array 15 .int, interfaces := #[8, 5], accessFlags := 1041 }

def heap : Heap := #[{ cls := 7, slots := #[.null, .ref 2, .null, .null], vm := .statics 7 },
  { cls := 12, slots := #[.ref 4, .ref 5, .ref 3, .null, .null, .null, .null, .null, .null], vm := .statics 12 },
  { cls := 7, slots := #[.null, .int 1, .int 0], vm := .none },
  { cls := 12, slots := #[.null, .int 0, .int 0], vm := .none },
  { cls := 12, slots := #[.null, .int 0, .int 0], vm := .none },
  { cls := 12, slots := #[.null, .int 0, .int 0], vm := .none }]
def classes : Array Class := #[k0, k1, k2, k3, k4, k5, k6, k7, k8, k9, k10, k11, k12, k13, k14, k15, k16]
def interned : List (Array UInt16 × Addr) := []
def slotsUsed : Nat := 25
def theMethod : MethodId := ⟨1, 1⟩
def args0 : Array Value := #[.int 2, .int 256, .int 77]
def aboutOver (below : List Frame) : State where
  vm := { classes := classes, interned := interned.toArray }
  heap := heap
  slotsUsed := slotsUsed
  threads := #[{ frames := .invoking theMethod args0 :: below }]
def below0 : List Frame := [.native { method := ⟨0, 0⟩, args := #[] }]
def about1 : State := aboutOver below0
def p0 : Program := .bare "" "" ""
def e0 : Env := launch0.env 0 0 0
theorem w_frames : about1.frames = Frame.invoking theMethod args0 :: below0 := rfl
set_option maxRecDepth 65536 in
theorem w_args : argsFit about1.vm theMethod args0 = true := by decide +kernel
set_option maxRecDepth 65536 in
theorem w_heap : heapFits about1 = true := by decide +kernel
set_option maxRecDepth 65536 in
theorem w_runnable : about1.curStatus? = some .runnable := by decide +kernel
set_option maxRecDepth 65536 in
theorem w_alone : about1.alone = true := by decide +kernel
set_option maxRecDepth 65536 in
theorem w_named : about1.methodNamed? x = some theMethod := by decide +kernel
set_option maxRecDepth 65536 in
theorem w_hears : about1.hears theMethod below0 = true := by decide +kernel
set_option maxRecDepth 65536 in
theorem w_ripe : about1.ripe theMethod args0 below0 = true := by decide +kernel
theorem w_running : about1.status = .running := rfl
set_option maxRecDepth 65536 in
theorem w_room : about1.hasRoom e0.platform room_1 = true :=
  launch0.hasRoom_least _ room_1 (by decide +kernel) (by decide +kernel) (by decide +kernel) (by decide +kernel) (by decide +kernel) (by decide +kernel)
theorem allAtoms_all (ts : List Jvm.Cond) (a : Array Jvm.Value) (st : Jvm.State) : (allAtoms ts).before a st = ts.all (fun c => c.before a st) := by
  induction ts with
  | nil => rfl
  | cons c t ih =>
    show (Jvm.Cond.and c (allAtoms t)).before a st = _
    rw [Jvm.Cond.before_and, ih, List.all_cons]
def words1 : List Jvm.Cond := Jvm.Cond.code x code maxLocals ret :: tables_1
/-- a 'code' word, met by the world's own term for the bytes: nothing is compared byte by byte -/
theorem code_word {y : MethodName} {bytes : ByteArray} {mx : Nat} {rt : Option FieldType} {a : Array Value} {s : State} {m : MethodId} {meth : Method} {c : Code} (h1 : s.methodNamed? y = some m) (h2 : s.vm.method? m = some meth) (h3 : meth.code = some c) (h4 : c.code = bytes)
    (h5 : (c.maxLocals == mx && c.exceptionTable.isEmpty && decide (c.maxStack ≤ mostOperands) && decide (meth.sig.returnType = rt) && !meth.locks && decide (parseMethodDescriptor y.desc = some meth.sig)) = true) : (Jvm.Cond.code y bytes mx rt).before a s = true := by
  simp only [Bool.and_eq_true, beq_iff_eq, Bool.not_eq_true', decide_eq_true_eq] at h5
  obtain ⟨⟨⟨⟨⟨g1, g2⟩, g3⟩, g4⟩, g5⟩, g6⟩ := h5
  simp [Cond.before, Cond.holds, Cond.value, h1, h2, h3, h4, g1, g2, g3, g4, g5, g6]
def isCode : Jvm.Cond → Bool
  | .code _ _ _ _ => true
  | _ => false
theorem all_split {L : List Jvm.Cond} {P : Jvm.Cond → Bool} (h1 : L.all (fun c => isCode c || P c) = true) (h2 : ∀ c ∈ L.filter isCode, P c = true) : L.all P = true := by
  refine List.all_eq_true.mpr fun c hc => ?_
  have h := List.all_eq_true.mp h1 c hc
  rcases Bool.eq_false_or_eq_true (isCode c) with hi | hi
  · exact h2 c (List.mem_filter.mpr ⟨hc, hi⟩)
  · simpa [hi] using h
set_option maxRecDepth 65536 in
theorem w_c0 : (Jvm.Cond.code x code maxLocals ret).before args0 about1 = true := code_word (m := ⟨1, 1⟩) (meth := k1m1) (c := k1c1) (by decide +kernel) rfl rfl rfl (by decide +kernel)
set_option maxRecDepth 65536 in
theorem w_c1 : (Jvm.Cond.code ({ cls := "dev/happenstance/model/HappensBefore", name := "<init>", desc := "(I[IIZI)V" } : Jvm.MethodName) prog_48_method_1_code (6 : Nat) (Option.none : Option Jvm.ClassFile.FieldType)).before args0 about1 = true := code_word (m := ⟨2, 0⟩) (meth := k2m0) (c := k2c0) (by decide +kernel) rfl rfl rfl (by decide +kernel)
set_option maxRecDepth 65536 in
theorem w_c2 : (Jvm.Cond.code ({ cls := "dev/happenstance/model/HappensBefore", name := "<init>", desc := "(I[IIZII)V" } : Jvm.MethodName) prog_48_method_2_code (7 : Nat) (Option.none : Option Jvm.ClassFile.FieldType)).before args0 about1 = true := code_word (m := ⟨2, 1⟩) (meth := k2m1) (c := k2c1) (by decide +kernel) rfl rfl rfl (by decide +kernel)
set_option maxRecDepth 65536 in
theorem w_c3 : (Jvm.Cond.code ({ cls := "dev/happenstance/model/HappensBefore", name := "<init>", desc := "(I[IILdev/happenstance/model/HappensBefore$Keeping;II)V" } : Jvm.MethodName) prog_48_method_3_code (7 : Nat) (Option.none : Option Jvm.ClassFile.FieldType)).before args0 about1 = true := code_word (m := ⟨2, 2⟩) (meth := k2m2) (c := k2c2) (by decide +kernel) rfl rfl rfl (by decide +kernel)
set_option maxRecDepth 65536 in
theorem w_c4 : (Jvm.Cond.code ({ cls := "java/lang/Object", name := "<init>", desc := "()V" } : Jvm.MethodName) object_method_1_code (1 : Nat) (Option.none : Option Jvm.ClassFile.FieldType)).before args0 about1 = true := code_word (m := ⟨0, 0⟩) (meth := k0m0) (c := k0c0) (by decide +kernel) rfl rfl rfl (by decide +kernel)
set_option maxRecDepth 65536 in
theorem w_c5 : (Jvm.Cond.code ({ cls := "dev/happenstance/model/HappensBefore", name := "size", desc := "(IIIZ)I" } : Jvm.MethodName) prog_48_method_5_code (8 : Nat) (Option.some Jvm.ClassFile.FieldType.int)).before args0 about1 = true := code_word (m := ⟨2, 3⟩) (meth := k2m3) (c := k2c3) (by decide +kernel) rfl rfl rfl (by decide +kernel)
set_option maxRecDepth 65536 in
theorem w_c6 : (Jvm.Cond.code ({ cls := "dev/happenstance/model/HappensBefore", name := "ints", desc := "(J)I" } : Jvm.MethodName) prog_48_method_6_code (2 : Nat) (Option.some Jvm.ClassFile.FieldType.int)).before args0 about1 = true := code_word (m := ⟨2, 4⟩) (meth := k2m4) (c := k2c4) (by decide +kernel) rfl rfl rfl (by decide +kernel)
set_option maxRecDepth 65536 in
theorem w_c7 : (Jvm.Cond.code ({ cls := "java/lang/Enum", name := "ordinal", desc := "()I" } : Jvm.MethodName) jdk_37_method_2_code (1 : Nat) (Option.some Jvm.ClassFile.FieldType.int)).before args0 about1 = true := code_word (m := ⟨6, 0⟩) (meth := k6m0) (c := k6c0) (by decide +kernel) rfl rfl rfl (by decide +kernel)
set_option maxRecDepth 65536 in
theorem w_c8 : (Jvm.Cond.code ({ cls := "dev/happenstance/model/HappensBefore$InState", name := "<init>", desc := "(II)V" } : Jvm.MethodName) prog_51_method_1_code (3 : Nat) (Option.none : Option Jvm.ClassFile.FieldType)).before args0 about1 = true := code_word (m := ⟨10, 0⟩) (meth := k10m0) (c := k10c0) (by decide +kernel) rfl rfl rfl (by decide +kernel)
set_option maxRecDepth 65536 in
theorem w_c9 : (Jvm.Cond.code ({ cls := "dev/happenstance/model/HappensBefore", name := "release", desc := "([IIII)V" } : Jvm.MethodName) prog_48_method_13_code (5 : Nat) (Option.none : Option Jvm.ClassFile.FieldType)).before args0 about1 = true := code_word (m := ⟨2, 6⟩) (meth := k2m6) (c := k2c6) (by decide +kernel) rfl rfl rfl (by decide +kernel)
set_option maxRecDepth 65536 in
theorem w_c10 : (Jvm.Cond.code ({ cls := "dev/happenstance/model/HappensBefore", name := "variableClock", desc := "(I)I" } : Jvm.MethodName) prog_48_method_36_code (2 : Nat) (Option.some Jvm.ClassFile.FieldType.int)).before args0 about1 = true := code_word (m := ⟨2, 12⟩) (meth := k2m12) (c := k2c12) (by decide +kernel) rfl rfl rfl (by decide +kernel)
set_option maxRecDepth 65536 in
theorem w_c11 : (Jvm.Cond.code ({ cls := "dev/happenstance/model/HappensBefore", name := "takeIn", desc := "([III)V" } : Jvm.MethodName) prog_48_method_35_code (4 : Nat) (Option.none : Option Jvm.ClassFile.FieldType)).before args0 about1 = true := code_word (m := ⟨2, 11⟩) (meth := k2m11) (c := k2c11) (by decide +kernel) rfl rfl rfl (by decide +kernel)
set_option maxRecDepth 65536 in
theorem w_c12 : (Jvm.Cond.code ({ cls := "dev/happenstance/model/HappensBefore$InState", name := "takeIn", desc := "([III)V" } : Jvm.MethodName) prog_51_method_3_code (7 : Nat) (Option.none : Option Jvm.ClassFile.FieldType)).before args0 about1 = true := code_word (m := ⟨10, 2⟩) (meth := k10m2) (c := k10c2) (by decide +kernel) rfl rfl rfl (by decide +kernel)
set_option maxRecDepth 65536 in
theorem w_c13 : (Jvm.Cond.code ({ cls := "dev/happenstance/model/HappensBefore$InState", name := "start", desc := "(I)I" } : Jvm.MethodName) prog_51_method_2_code (2 : Nat) (Option.some Jvm.ClassFile.FieldType.int)).before args0 about1 = true := code_word (m := ⟨10, 1⟩) (meth := k10m1) (c := k10c1) (by decide +kernel) rfl rfl rfl (by decide +kernel)
set_option maxRecDepth 65536 in
theorem w_c14 : (Jvm.Cond.code ({ cls := "java/lang/Math", name := "max", desc := "(II)I" } : Jvm.MethodName) jdk_29_method_65_code (2 : Nat) (Option.some Jvm.ClassFile.FieldType.int)).before args0 about1 = true := code_word (m := ⟨11, 1⟩) (meth := k11m1) (c := k11c1) (by decide +kernel) rfl rfl rfl (by decide +kernel)
set_option maxRecDepth 65536 in
theorem w_c15 : (Jvm.Cond.code ({ cls := "dev/happenstance/model/HappensBefore", name := "note", desc := "([ILdev/happenstance/model/HappensBefore$Kind;III)V" } : Jvm.MethodName) prog_48_method_29_code (7 : Nat) (Option.none : Option Jvm.ClassFile.FieldType)).before args0 about1 = true := code_word (m := ⟨2, 10⟩) (meth := k2m10) (c := k2c10) (by decide +kernel) rfl rfl rfl (by decide +kernel)
set_option maxRecDepth 65536 in
theorem w_c16 : (Jvm.Cond.code ({ cls := "dev/happenstance/model/HappensBefore", name := "clock", desc := "(I)I" } : Jvm.MethodName) prog_48_method_22_code (4 : Nat) (Option.some Jvm.ClassFile.FieldType.int)).before args0 about1 = true := code_word (m := ⟨2, 8⟩) (meth := k2m8) (c := k2c8) (by decide +kernel) rfl rfl rfl (by decide +kernel)
set_option maxRecDepth 65536 in
theorem w_c17 : (Jvm.Cond.code ({ cls := "dev/happenstance/model/HappensBefore", name := "counts", desc := "([IIII)Z" } : Jvm.MethodName) prog_48_method_26_code (4 : Nat) (Option.some Jvm.ClassFile.FieldType.boolean)).before args0 about1 = true := code_word (m := ⟨2, 9⟩) (meth := k2m9) (c := k2c9) (by decide +kernel) rfl rfl rfl (by decide +kernel)
set_option maxRecDepth 65536 in
theorem w_c18 : (Jvm.Cond.code ({ cls := "dev/happenstance/model/HappensBefore", name := "count", desc := "([III)I" } : Jvm.MethodName) prog_48_method_19_code (4 : Nat) (Option.some Jvm.ClassFile.FieldType.int)).before args0 about1 = true := code_word (m := ⟨2, 7⟩) (meth := k2m7) (c := k2c7) (by decide +kernel) rfl rfl rfl (by decide +kernel)
set_option maxRecDepth 65536 in
theorem w_c19 : (Jvm.Cond.code ({ cls := "dev/happenstance/model/HappensBefore$InState", name := "count", desc := "([II)I" } : Jvm.MethodName) prog_51_method_4_code (3 : Nat) (Option.some Jvm.ClassFile.FieldType.int)).before args0 about1 = true := code_word (m := ⟨10, 3⟩) (meth := k10m3) (c := k10c3) (by decide +kernel) rfl rfl rfl (by decide +kernel)
set_option maxRecDepth 65536 in
theorem w_c20 : (Jvm.Cond.code ({ cls := "dev/happenstance/model/HappensBefore", name := "acquire", desc := "([IIII)V" } : Jvm.MethodName) prog_48_method_12_code (5 : Nat) (Option.none : Option Jvm.ClassFile.FieldType)).before args0 about1 = true := code_word (m := ⟨2, 5⟩) (meth := k2m5) (c := k2c5) (by decide +kernel) rfl rfl rfl (by decide +kernel)
def codes1 : List Jvm.Cond := [Jvm.Cond.code x code maxLocals ret, Jvm.Cond.code ({ cls := "dev/happenstance/model/HappensBefore", name := "<init>", desc := "(I[IIZI)V" } : Jvm.MethodName) prog_48_method_1_code (6 : Nat) (Option.none : Option Jvm.ClassFile.FieldType), Jvm.Cond.code ({ cls := "dev/happenstance/model/HappensBefore", name := "<init>", desc := "(I[IIZII)V" } : Jvm.MethodName) prog_48_method_2_code (7 : Nat) (Option.none : Option Jvm.ClassFile.FieldType), Jvm.Cond.code ({ cls := "dev/happenstance/model/HappensBefore", name := "<init>", desc := "(I[IILdev/happenstance/model/HappensBefore$Keeping;II)V" } : Jvm.MethodName) prog_48_method_3_code (7 : Nat) (Option.none : Option Jvm.ClassFile.FieldType), Jvm.Cond.code ({ cls := "java/lang/Object", name := "<init>", desc := "()V" } : Jvm.MethodName) object_method_1_code (1 : Nat) (Option.none : Option Jvm.ClassFile.FieldType), Jvm.Cond.code ({ cls := "dev/happenstance/model/HappensBefore", name := "size", desc := "(IIIZ)I" } : Jvm.MethodName) prog_48_method_5_code (8 : Nat) (Option.some Jvm.ClassFile.FieldType.int), Jvm.Cond.code ({ cls := "dev/happenstance/model/HappensBefore", name := "ints", desc := "(J)I" } : Jvm.MethodName) prog_48_method_6_code (2 : Nat) (Option.some Jvm.ClassFile.FieldType.int), Jvm.Cond.code ({ cls := "java/lang/Enum", name := "ordinal", desc := "()I" } : Jvm.MethodName) jdk_37_method_2_code (1 : Nat) (Option.some Jvm.ClassFile.FieldType.int), Jvm.Cond.code ({ cls := "dev/happenstance/model/HappensBefore$InState", name := "<init>", desc := "(II)V" } : Jvm.MethodName) prog_51_method_1_code (3 : Nat) (Option.none : Option Jvm.ClassFile.FieldType), Jvm.Cond.code ({ cls := "dev/happenstance/model/HappensBefore", name := "release", desc := "([IIII)V" } : Jvm.MethodName) prog_48_method_13_code (5 : Nat) (Option.none : Option Jvm.ClassFile.FieldType), Jvm.Cond.code ({ cls := "dev/happenstance/model/HappensBefore", name := "variableClock", desc := "(I)I" } : Jvm.MethodName) prog_48_method_36_code (2 : Nat) (Option.some Jvm.ClassFile.FieldType.int), Jvm.Cond.code ({ cls := "dev/happenstance/model/HappensBefore", name := "takeIn", desc := "([III)V" } : Jvm.MethodName) prog_48_method_35_code (4 : Nat) (Option.none : Option Jvm.ClassFile.FieldType), Jvm.Cond.code ({ cls := "dev/happenstance/model/HappensBefore$InState", name := "takeIn", desc := "([III)V" } : Jvm.MethodName) prog_51_method_3_code (7 : Nat) (Option.none : Option Jvm.ClassFile.FieldType), Jvm.Cond.code ({ cls := "dev/happenstance/model/HappensBefore$InState", name := "start", desc := "(I)I" } : Jvm.MethodName) prog_51_method_2_code (2 : Nat) (Option.some Jvm.ClassFile.FieldType.int), Jvm.Cond.code ({ cls := "java/lang/Math", name := "max", desc := "(II)I" } : Jvm.MethodName) jdk_29_method_65_code (2 : Nat) (Option.some Jvm.ClassFile.FieldType.int), Jvm.Cond.code ({ cls := "dev/happenstance/model/HappensBefore", name := "note", desc := "([ILdev/happenstance/model/HappensBefore$Kind;III)V" } : Jvm.MethodName) prog_48_method_29_code (7 : Nat) (Option.none : Option Jvm.ClassFile.FieldType), Jvm.Cond.code ({ cls := "dev/happenstance/model/HappensBefore", name := "clock", desc := "(I)I" } : Jvm.MethodName) prog_48_method_22_code (4 : Nat) (Option.some Jvm.ClassFile.FieldType.int), Jvm.Cond.code ({ cls := "dev/happenstance/model/HappensBefore", name := "counts", desc := "([IIII)Z" } : Jvm.MethodName) prog_48_method_26_code (4 : Nat) (Option.some Jvm.ClassFile.FieldType.boolean), Jvm.Cond.code ({ cls := "dev/happenstance/model/HappensBefore", name := "count", desc := "([III)I" } : Jvm.MethodName) prog_48_method_19_code (4 : Nat) (Option.some Jvm.ClassFile.FieldType.int), Jvm.Cond.code ({ cls := "dev/happenstance/model/HappensBefore$InState", name := "count", desc := "([II)I" } : Jvm.MethodName) prog_51_method_4_code (3 : Nat) (Option.some Jvm.ClassFile.FieldType.int), Jvm.Cond.code ({ cls := "dev/happenstance/model/HappensBefore", name := "acquire", desc := "([IIII)V" } : Jvm.MethodName) prog_48_method_12_code (5 : Nat) (Option.none : Option Jvm.ClassFile.FieldType)]
set_option maxRecDepth 65536 in
theorem codes_eq : words1.filter isCode = codes1 := rfl
theorem w_codes : ∀ c ∈ words1.filter isCode, c.before args0 about1 = true := by
  rw [codes_eq]
  intro c hc
  simp only [codes1, List.mem_cons, List.not_mem_nil, or_false] at hc
  rcases hc with rfl | rfl | rfl | rfl | rfl | rfl | rfl | rfl | rfl | rfl | rfl | rfl | rfl | rfl | rfl | rfl | rfl | rfl | rfl | rfl | rfl
  · exact w_c0
  · exact w_c1
  · exact w_c2
  · exact w_c3
  · exact w_c4
  · exact w_c5
  · exact w_c6
  · exact w_c7
  · exact w_c8
  · exact w_c9
  · exact w_c10
  · exact w_c11
  · exact w_c12
  · exact w_c13
  · exact w_c14
  · exact w_c15
  · exact w_c16
  · exact w_c17
  · exact w_c18
  · exact w_c19
  · exact w_c20
set_option maxRecDepth 65536 in
theorem w_t1 : (words1.take 24).all (fun c => isCode c || c.before args0 about1) = true := by decide +kernel
set_option maxRecDepth 65536 in
theorem w_t2 : ((words1.drop 24).take 24).all (fun c => isCode c || c.before args0 about1) = true := by decide +kernel
set_option maxRecDepth 65536 in
theorem w_t3 : (((words1.drop 24).drop 24).take 24).all (fun c => isCode c || c.before args0 about1) = true := by decide +kernel
set_option maxRecDepth 65536 in
theorem w_t4 : ((((words1.drop 24).drop 24).drop 24).take 24).all (fun c => isCode c || c.before args0 about1) = true := by decide +kernel
set_option maxRecDepth 65536 in
theorem w_t5 : (((((words1.drop 24).drop 24).drop 24).drop 24).take 24).all (fun c => isCode c || c.before args0 about1) = true := by decide +kernel
set_option maxRecDepth 65536 in
theorem w_t6 : (((((words1.drop 24).drop 24).drop 24).drop 24).drop 24).all (fun c => isCode c || c.before args0 about1) = true := by decide +kernel
theorem w_tables : (allAtoms (Jvm.Cond.code x code maxLocals ret :: tables_1)).before args0 about1 = true := by
  rw [allAtoms_all]
  show words1.all (fun c => c.before args0 about1) = true
  refine all_split ?_ w_codes
  rw [← List.take_append_drop 24 words1, List.all_append, w_t1, ← List.take_append_drop 24 (words1.drop 24), List.all_append, w_t2, ← List.take_append_drop 24 ((words1.drop 24).drop 24), List.all_append, w_t3, ← List.take_append_drop 24 (((words1.drop 24).drop 24).drop 24), List.all_append, w_t4, ← List.take_append_drop 24 ((((words1.drop 24).drop 24).drop 24).drop 24), List.all_append, w_t5, w_t6]
  rfl
set_option maxRecDepth 65536 in
theorem w_case : (Jvm.Cond.and given_1 narrow_1).before args0 about1 = true := by decide +kernel
theorem w_applies : (headSpec (Jvm.Cond.code x code maxLocals ret :: tables_1) room_1).applies x e0.platform about1 = true :=
  (Spec.applies_iff w_frames).mpr ⟨w_running, w_runnable, w_alone, w_named, w_hears, w_ripe, w_room, w_tables⟩
theorem atStart : AtStart classFile x code maxLocals ret World_1 tables_1 room_1 Calls_1 rest_1 Pre_1 launch0 p0 e0 about1 theMethod args0 below0 :=
  ⟨lists_1, trivial, launch0.admits_env _ _ _, launch0.least_env, fairChoices_fair.cas, fairChoices_fair.clock, w_frames, w_args, w_heap, w_applies, trivial, trivial, w_case⟩
end start1
theorem witness_1 : WitnessClaimed_1 := ⟨start1.p0, start1.e0, start1.about1, start1.theMethod, start1.args0, start1.below0, start1.atStart⟩
end Jvm.Pilot.@@N@@
