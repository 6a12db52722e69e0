import JvmDerived
import JvmDerived.Pilot.@@N@@Statement
import JvmDerived.Pilot.@@N@@Code
set_option linter.unusedVariables false
set_option linter.unusedSimpArgs false
namespace Jvm.RoadKit
open Sem ClassFile Op Lib Jvm.Stand Jvm.Free Jvm.LawKit
section New
variable {p : Program} {l : Launch} {e : Env} {R : Room} {s : State} {m : MethodId} {args : Array Value} {below : List Frame} {meth : Method} {c : Code} {T : State} {locs : List Loc} {cells slots : Nat}
theorem retI (X : Stand p l e R s m args below meth c T locs cells slots) (hx : p.tables.exec = Jvm.exec) {pc : Nat} {Ls : Array Slot} {z : Int32} {rest : List Value} (hret : meth.sig.returnType = some .int) (hd : decode c.code pc = .ok (.ireturn, 1)) {fs : List Frame}
    (hl : ∀ (f : JFrame) (acts : List Action), f.method = m → f.locked = none → f.entered = [] → (doReturn e (T.setTop f) acts (some (.int z))).1 = T.setFrames fs) : Steps p.tables e below (T.setTop (mkF m pc Ls (.int z :: rest))) (T.setFrames fs) := by
  have hm' : T.vm.method? m = some meth := X.method'
  have hn : narrow .int (.int z) = .int z := rfl
  show Steps p.tables e below (T.setTop { method := m, pc := pc, locals := Ls, stack := _ :: rest, locked := none }) _
  jvm_step X.here [X.here.top, hx, hd, hm', hret, hn]
  first | (intro acts; rw [hl _ acts rfl rfl rfl]) | rw [hl _ _ rfl rfl rfl]
  exact Steps.refl _
end New
end Jvm.RoadKit
namespace Jvm.OwnKit
open Jvm Jvm.ClassFile Sem Op Lib Jvm.Free Jvm.Stand Jvm.LawKit Jvm.RoadKit
/-- the walk comes to an end as Q says -/
def Go (p : Program) (e : Env) (below : List Frame) (F : Option Value → State → Prop) (S0 : State) : Prop :=
  ∃ (t : State) (o : Outcome), Steps p.tables e below S0 t ∧ t.status = .running ∧ Ended t below o ∧ ∃ v, o = .returned v ∧ F v t
/-- the end as a contract says it -/
def NF (s : State) (cs ss : Nat) (Q : Option Value → Heap → List Loc → Prop) : Option Value → State → Prop := fun v t => ∃ L, Q v t.heap L ∧ FrameEnd s (.returned v) t L cs ss
/-- where the walk stands: what is fixed for the whole body, the Stand, the heap -/
def Pos (p : Program) (l : Launch) (e : Env) (R : Room) (s : State) (m : MethodId) (args : Array Value) (below : List Frame) (meth : Method) (c : Code) (Z : State) (own : String) (bytes : ByteArray) (ml : Nat) (ret : Option FieldType) (nm : String) (T : State) (h : Heap) (locs : List Loc) (cells slots : Nat) : Prop :=
  (p.tables.exec = Jvm.exec ∧ Z.Warmed39 s.vm ∧ s.vm.findClass own = some m.cls ∧ c.code = bytes ∧ c.maxLocals = ml ∧ meth.sig.returnType = ret ∧ meth.locks = false ∧ meth.name = nm) ∧ Stand p l e R s m args below meth c T locs cells slots ∧ T.heap = h
def ushr (x y : Int32) : Int32 := (x.toUInt32 >>> (y &&& 31).toUInt32).toInt32
def ushrJ (x : Int64) (y : Int32) : Int64 := (x.toUInt64 >>> (y &&& 0x3f).toInt64.toUInt64).toInt64
def lcmpO (x y : Int64) : Int32 := if x > y then 1 else if x = y then 0 else -1
/-- a callee's contract, at one heap, for one list of arguments -/
abbrev OMeets (l : Launch) (Z : State) (y : MethodName) (bytes : ByteArray) (ml : Nat) (ret : Option FieldType) (rm : Room) (as' : Array Value) (h0 : Heap) (Q : Option Value → Heap → List Loc → Prop) : Prop :=
  MetFree l y (head1 [Jvm.Cond.code y bytes ml ret] rm) (fun a U => a = as' ∧ Z.Warmed39 U.vm ∧ U.heap = h0) (fun _ _ _ _ _ => True) (fun _ U o U' => ∃ v L, o = .returned v ∧ Q v U'.heap L ∧ FrameEnd U o U' L rm.cells rm.slots)
/-- it returns v and has moved nothing -/
def OPure (v0 : Option Value) (h0 : Heap) (v : Option Value) (h : Heap) (L : List Loc) : Prop := v = v0 ∧ h = h0 ∧ L = []
theorem wk {ws : List Jvm.Cond} {a0 : Array Value} {Z : State} (hw : ∀ d ∈ ws, d.before a0 Z = true) (i : Nat) {d : Jvm.Cond} (h : ws[i]? = some d) : d.before a0 Z = true := hw _ (List.mem_of_getElem? h)
section Own
variable {p : Program} {l : Launch} {e : Env} {R : Room} {s : State} {m : MethodId} {args : Array Value} {below : List Frame} {meth : Method} {c : Code} {Z : State} {own : String} {bytes : ByteArray} {ml : Nat} {ret : Option FieldType} {nm : String} {T : State} {h : Heap} {locs : List Loc} {cells slots : Nat} {cs ss : Nat} {Q : Option Value → Heap → List Loc → Prop} {FF : Option Value → State → Prop} {a0 : Array Value} {pc pc' : Nat} {Ls : Array Slot} {St : List Value}
theorem Pos.x (P : Pos p l e R s m args below meth c Z own bytes ml ret nm T h locs cells slots) : p.tables.exec = Jvm.exec := P.1.1
theorem Pos.z (P : Pos p l e R s m args below meth c Z own bytes ml ret nm T h locs cells slots) : Z.Warmed39 s.vm := P.1.2.1
theorem Pos.ow (P : Pos p l e R s m args below meth c Z own bytes ml ret nm T h locs cells slots) : s.vm.findClass own = some m.cls := P.1.2.2.1
theorem Pos.bt (P : Pos p l e R s m args below meth c Z own bytes ml ret nm T h locs cells slots) : c.code = bytes := P.1.2.2.2.1
theorem Pos.mx (P : Pos p l e R s m args below meth c Z own bytes ml ret nm T h locs cells slots) : c.maxLocals = ml := P.1.2.2.2.2.1
theorem Pos.rt (P : Pos p l e R s m args below meth c Z own bytes ml ret nm T h locs cells slots) : meth.sig.returnType = ret := P.1.2.2.2.2.2.1
theorem Pos.lk (P : Pos p l e R s m args below meth c Z own bytes ml ret nm T h locs cells slots) : meth.locks = false := P.1.2.2.2.2.2.2.1
theorem Pos.mn (P : Pos p l e R s m args below meth c Z own bytes ml ret nm T h locs cells slots) : meth.name = nm := P.1.2.2.2.2.2.2.2
theorem Pos.st (P : Pos p l e R s m args below meth c Z own bytes ml ret nm T h locs cells slots) : Stand p l e R s m args below meth c T locs cells slots := P.2.1
theorem Pos.eh (P : Pos p l e R s m args below meth c Z own bytes ml ret nm T h locs cells slots) : T.heap = h := P.2.2
theorem Pos.here (P : Pos p l e R s m args below meth c Z own bytes ml ret nm T h locs cells slots) : At T m c below := P.2.1.here
theorem Go.via {S0 S1 : State} (st : ∀ target, Steps p.tables e below S1 target → Steps p.tables e below S0 target) (k : Go p e below FF S1) : Go p e below FF S0 := by
  obtain ⟨t, o, h1, r⟩ := k
  exact ⟨t, o, st t h1, r⟩
theorem Go.come {S0 S1 : State} (st : Steps p.tables e below S0 S1) (k : Go p e below FF S1) : Go p e below FF S0 := by
  obtain ⟨t, o, h1, r⟩ := k
  exact ⟨t, o, st.trans h1, r⟩
theorem Go.dia {S0 S1 : State} (hh : Go p e below FF S1 → Go p e below FF S0) (kk : Go p e below FF S1) : Go p e below FF S0 := hh kk
theorem Go.all {ι : Type} {S0 : State} {A : ι → Prop} {S1 : ι → State} (hh : (∀ i, A i → Go p e below FF (S1 i)) → Go p e below FF S0) (kk : ∀ i, A i → Go p e below FF (S1 i)) : Go p e below FF S0 := hh kk
theorem sI {a b : Int32} (q : a = b) : some (Value.int a) = some (Value.int b) := by rw [q]
theorem sJ {a b : Int64} (q : a = b) : some (Value.long a) = some (Value.long b) := by rw [q]
theorem sR {a b : Addr} (q : a = b) : some (Value.ref a) = some (Value.ref b) := by rw [q]
theorem met {l : Launch} {Z : State} {y : MethodName} {bytes : ByteArray} {ml : Nat} {ret : Option FieldType} {ws : List Jvm.Cond} {rm : Room} {as' : Array Value} {h0 : Heap} {Ls : Array Slot} {Q : Option Value → Heap → List Loc → Prop} (hn : plainFor y = true) (hf : ∀ m, entryFrame m as' ml = mkF m 0 Ls [])
    (body : ∀ p e s m below meth c T, Pos p l e rm s m as' below meth c Z y.cls bytes ml ret y.name T h0 [] 0 0 → Go p e below (NF s rm.cells rm.slots Q) (T.setTop (mkF m 0 Ls []))) :
    MetFree l y (head1 (Jvm.Cond.code y bytes ml ret :: ws) rm) (fun a U => a = as' ∧ Z.Warmed39 U.vm ∧ U.heap = h0) (fun _ _ _ _ _ => True) (fun _ U o U' => ∃ v L, o = .returned v ∧ Q v U'.heap L ∧ FrameEnd U o U' L rm.cells rm.slots) := by
  refine MetFree.of_bodySF hn hisR ?_
  intro p e s m args below meth c s₁ Bd hml0 hP hK
  obtain ⟨rfl, hZ, hh⟩ := hP
  have X0 : Stand p l e rm s m args below meth c s₁ [] 0 0 := Stand.of_body Bd
  have e0 : s₁.heap = h0 := by rw [← hh, Bd.state]; rfl
  have hlk : meth.locks = false := by first | exact BodyLoose.notSynchronized Bd | exact Bd.locks
  have P : Pos p l e rm s m args below meth c Z y.cls bytes ml ret y.name s₁ h0 [] 0 0 := ⟨⟨Bd.exec, hZ, findClass_of_methodNamed Bd.named, Bd.bytes, hml0, Bd.returns, hlk, (name_of_methodNamed Bd.named Bd.method).1⟩, X0, e0⟩
  obtain ⟨t, o, h1, h2, h3, v, rfl, L, hQ, hF⟩ := body p e s m below meth c s₁ P
  exact ⟨t, _, castTop (hf m) h1, h2, h3, v, L, rfl, hQ, hF⟩
/-! ### plain steps -/
theorem G.aloadN (P : Pos p l e R s m args below meth c Z own bytes ml ret nm T h locs cells slots) {k : Fin 4} {v : Value} (hd : decode bytes pc = .ok (.aload_n k, 1)) (hl : Ls[k.val]? = some (.val v)) (hv : v.isRef = true) (hp : pc + 1 = pc') (kk : Go p e below FF (T.setTop (mkF m pc' Ls (v :: St)))) : Go p e below FF (T.setTop (mkF m pc Ls St)) := by
  subst hp; exact Go.via (fun _ => XS.aloadN P.here P.x rfl (hb P.bt hd) hl hv) kk
theorem G.iloadN (P : Pos p l e R s m args below meth c Z own bytes ml ret nm T h locs cells slots) {k : Fin 4} {v : Int32} (hd : decode bytes pc = .ok (.iload_n k, 1)) (hl : Ls[k.val]? = some (.val (.int v))) (hp : pc + 1 = pc') (kk : Go p e below FF (T.setTop (mkF m pc' Ls (.int v :: St)))) : Go p e below FF (T.setTop (mkF m pc Ls St)) := by
  subst hp; exact Go.via (fun _ => XS.iloadN P.here P.x rfl (hb P.bt hd) hl) kk
theorem G.lloadN (P : Pos p l e R s m args below meth c Z own bytes ml ret nm T h locs cells slots) {k : Fin 4} {v : Int64} (hd : decode bytes pc = .ok (.lload_n k, 1)) (hl : Ls[k.val]? = some (.val (.long v))) (hp : pc + 1 = pc') (kk : Go p e below FF (T.setTop (mkF m pc' Ls (.long v :: St)))) : Go p e below FF (T.setTop (mkF m pc Ls St)) := by
  subst hp; exact Go.via (fun _ => XS.lloadN P.here P.x rfl (hb P.bt hd) hl) kk
theorem G.istoreN (P : Pos p l e R s m args below meth c Z own bytes ml ret nm T h locs cells slots) {k : Fin 4} {x : Int32} {l' : Array Slot} (hd : decode bytes pc = .ok (.istore_n k, 1)) (hl : storeLocals Ls k.val (.int x) = some l') (hp : pc + 1 = pc') (kk : Go p e below FF (T.setTop (mkF m pc' l' St))) : Go p e below FF (T.setTop (mkF m pc Ls (.int x :: St))) := by
  subst hp; exact Go.via (fun _ => XS.istoreN P.here P.x rfl (hb P.bt hd) rfl hl) kk
theorem G.lstoreN (P : Pos p l e R s m args below meth c Z own bytes ml ret nm T h locs cells slots) {k : Fin 4} {x : Int64} {l' : Array Slot} (hd : decode bytes pc = .ok (.lstore_n k, 1)) (hl : storeLocals Ls k.val (.long x) = some l') (hp : pc + 1 = pc') (kk : Go p e below FF (T.setTop (mkF m pc' l' St))) : Go p e below FF (T.setTop (mkF m pc Ls (.long x :: St))) := by
  subst hp; exact Go.via (fun _ => XS.lstoreN P.here P.x rfl (hb P.bt hd) rfl hl) kk
theorem G.astoreN (P : Pos p l e R s m args below meth c Z own bytes ml ret nm T h locs cells slots) {k : Fin 4} {x : Value} {l' : Array Slot} (hd : decode bytes pc = .ok (.astore_n k, 1)) (hv : x.isRef = true) (hl : storeLocals Ls k.val x = some l') (hp : pc + 1 = pc') (kk : Go p e below FF (T.setTop (mkF m pc' l' St))) : Go p e below FF (T.setTop (mkF m pc Ls (x :: St))) := by
  subst hp; exact Go.via (fun _ => XS.astoreN P.here P.x rfl (hb P.bt hd) rfl hv hl) kk
theorem G.aload (P : Pos p l e R s m args below meth c Z own bytes ml ret nm T h locs cells slots) {k : Nat} {v : Value} (hd : decode bytes pc = .ok (.aload k, 2)) (hl : Ls[k]? = some (.val v)) (hv : v.isRef = true) (hp : pc + 2 = pc') (kk : Go p e below FF (T.setTop (mkF m pc' Ls (v :: St)))) : Go p e below FF (T.setTop (mkF m pc Ls St)) := by
  subst hp; exact Go.via (fun _ => XS.aload P.here P.x rfl (hb P.bt hd) hl hv) kk
theorem G.iload (P : Pos p l e R s m args below meth c Z own bytes ml ret nm T h locs cells slots) {k : Nat} {v : Int32} (hd : decode bytes pc = .ok (.iload k, 2)) (hl : Ls[k]? = some (.val (.int v))) (hp : pc + 2 = pc') (kk : Go p e below FF (T.setTop (mkF m pc' Ls (.int v :: St)))) : Go p e below FF (T.setTop (mkF m pc Ls St)) := by
  subst hp; exact Go.via (fun _ => XS.iload P.here P.x rfl (hb P.bt hd) hl) kk
theorem G.lload (P : Pos p l e R s m args below meth c Z own bytes ml ret nm T h locs cells slots) {k : Nat} {v : Int64} (hd : decode bytes pc = .ok (.lload k, 2)) (hl : Ls[k]? = some (.val (.long v))) (hp : pc + 2 = pc') (kk : Go p e below FF (T.setTop (mkF m pc' Ls (.long v :: St)))) : Go p e below FF (T.setTop (mkF m pc Ls St)) := by
  subst hp; exact Go.via (fun _ => XS.lload P.here P.x rfl (hb P.bt hd) hl) kk
theorem G.istore (P : Pos p l e R s m args below meth c Z own bytes ml ret nm T h locs cells slots) {k : Nat} {x : Int32} {l' : Array Slot} (hd : decode bytes pc = .ok (.istore k, 2)) (hl : storeLocals Ls k (.int x) = some l') (hp : pc + 2 = pc') (kk : Go p e below FF (T.setTop (mkF m pc' l' St))) : Go p e below FF (T.setTop (mkF m pc Ls (.int x :: St))) := by
  subst hp; exact Go.via (fun _ => XS.istore P.here P.x rfl (hb P.bt hd) rfl hl) kk
theorem G.lstore (P : Pos p l e R s m args below meth c Z own bytes ml ret nm T h locs cells slots) {k : Nat} {x : Int64} {l' : Array Slot} (hd : decode bytes pc = .ok (.lstore k, 2)) (hl : storeLocals Ls k (.long x) = some l') (hp : pc + 2 = pc') (kk : Go p e below FF (T.setTop (mkF m pc' l' St))) : Go p e below FF (T.setTop (mkF m pc Ls (.long x :: St))) := by
  subst hp; exact Go.via (fun _ => XS.lstore P.here P.x rfl (hb P.bt hd) rfl hl) kk
theorem G.astore (P : Pos p l e R s m args below meth c Z own bytes ml ret nm T h locs cells slots) {k : Nat} {x : Value} {l' : Array Slot} (hd : decode bytes pc = .ok (.astore k, 2)) (hv : x.isRef = true) (hl : storeLocals Ls k x = some l') (hp : pc + 2 = pc') (kk : Go p e below FF (T.setTop (mkF m pc' l' St))) : Go p e below FF (T.setTop (mkF m pc Ls (x :: St))) := by
  subst hp; exact Go.via (fun _ => XS.astore P.here P.x rfl (hb P.bt hd) rfl hv hl) kk
theorem G.iconst (P : Pos p l e R s m args below meth c Z own bytes ml ret nm T h locs cells slots) {i : Int} {z : Int32} (hd : decode bytes pc = .ok (.iconst i, 1)) (hz : Int32.ofInt i = z) (hp : pc + 1 = pc') (kk : Go p e below FF (T.setTop (mkF m pc' Ls (.int z :: St)))) : Go p e below FF (T.setTop (mkF m pc Ls St)) := by
  subst hp hz; exact Go.via (fun _ => XS.iconst P.here P.x rfl (hb P.bt hd) ) kk
theorem G.bipush (P : Pos p l e R s m args below meth c Z own bytes ml ret nm T h locs cells slots) {i : Int} {z : Int32} (hd : decode bytes pc = .ok (.bipush i, 2)) (hz : (Int8.ofInt i).toInt32 = z) (hp : pc + 2 = pc') (kk : Go p e below FF (T.setTop (mkF m pc' Ls (.int z :: St)))) : Go p e below FF (T.setTop (mkF m pc Ls St)) := by
  subst hp hz; exact Go.via (fun _ => XS.bipush P.here P.x rfl (hb P.bt hd) ) kk
theorem G.sipush (P : Pos p l e R s m args below meth c Z own bytes ml ret nm T h locs cells slots) {i : Int} {z : Int32} (hd : decode bytes pc = .ok (.sipush i, 3)) (hz : (Int16.ofInt i).toInt32 = z) (hp : pc + 3 = pc') (kk : Go p e below FF (T.setTop (mkF m pc' Ls (.int z :: St)))) : Go p e below FF (T.setTop (mkF m pc Ls St)) := by
  subst hp hz; exact Go.via (fun _ => XS.sipush P.here P.x rfl (hb P.bt hd) ) kk
theorem G.lconst (P : Pos p l e R s m args below meth c Z own bytes ml ret nm T h locs cells slots) {k : Fin 2} {z : Int64} (hd : decode bytes pc = .ok (.lconst k, 1)) (hz : Int64.ofNat k = z) (hp : pc + 1 = pc') (kk : Go p e below FF (T.setTop (mkF m pc' Ls (.long z :: St)))) : Go p e below FF (T.setTop (mkF m pc Ls St)) := by
  subst hp hz; exact Go.via (fun _ => XS.lconst P.here P.x rfl (hb P.bt hd) ) kk
theorem G.aconstNull (P : Pos p l e R s m args below meth c Z own bytes ml ret nm T h locs cells slots)  (hd : decode bytes pc = .ok (.aconst_null, 1))  (hp : pc + 1 = pc') (kk : Go p e below FF (T.setTop (mkF m pc' Ls (.null :: St)))) : Go p e below FF (T.setTop (mkF m pc Ls St)) := by
  subst hp; exact Go.via (fun _ => XS.aconstNull P.here P.x rfl (hb P.bt hd) ) kk
theorem G.iadd (P : Pos p l e R s m args below meth c Z own bytes ml ret nm T h locs cells slots) {x y z : Int32} (hd : decode bytes pc = .ok (.iadd, 1)) (hz : x + y = z) (hp : pc + 1 = pc') (kk : Go p e below FF (T.setTop (mkF m pc' Ls (.int z :: St)))) : Go p e below FF (T.setTop (mkF m pc Ls (.int y :: .int x :: St))) := by
  subst hp hz; exact Go.via (fun _ => XS.iadd P.here P.x rfl (hb P.bt hd) rfl) kk
theorem G.isub (P : Pos p l e R s m args below meth c Z own bytes ml ret nm T h locs cells slots) {x y z : Int32} (hd : decode bytes pc = .ok (.isub, 1)) (hz : x - y = z) (hp : pc + 1 = pc') (kk : Go p e below FF (T.setTop (mkF m pc' Ls (.int z :: St)))) : Go p e below FF (T.setTop (mkF m pc Ls (.int y :: .int x :: St))) := by
  subst hp hz; exact Go.via (fun _ => XS.isub P.here P.x rfl (hb P.bt hd) rfl) kk
theorem G.imul (P : Pos p l e R s m args below meth c Z own bytes ml ret nm T h locs cells slots) {x y z : Int32} (hd : decode bytes pc = .ok (.imul, 1)) (hz : x * y = z) (hp : pc + 1 = pc') (kk : Go p e below FF (T.setTop (mkF m pc' Ls (.int z :: St)))) : Go p e below FF (T.setTop (mkF m pc Ls (.int y :: .int x :: St))) := by
  subst hp hz; exact Go.via (fun _ => XS.imul P.here P.x rfl (hb P.bt hd) rfl) kk
theorem G.iand (P : Pos p l e R s m args below meth c Z own bytes ml ret nm T h locs cells slots) {x y z : Int32} (hd : decode bytes pc = .ok (.iand, 1)) (hz : x &&& y = z) (hp : pc + 1 = pc') (kk : Go p e below FF (T.setTop (mkF m pc' Ls (.int z :: St)))) : Go p e below FF (T.setTop (mkF m pc Ls (.int y :: .int x :: St))) := by
  subst hp hz; exact Go.via (fun _ => XS.iand P.here P.x rfl (hb P.bt hd) rfl) kk
theorem G.ior (P : Pos p l e R s m args below meth c Z own bytes ml ret nm T h locs cells slots) {x y z : Int32} (hd : decode bytes pc = .ok (.ior, 1)) (hz : x ||| y = z) (hp : pc + 1 = pc') (kk : Go p e below FF (T.setTop (mkF m pc' Ls (.int z :: St)))) : Go p e below FF (T.setTop (mkF m pc Ls (.int y :: .int x :: St))) := by
  subst hp hz; exact Go.via (fun _ => XS.ior P.here P.x rfl (hb P.bt hd) rfl) kk
theorem G.ixor (P : Pos p l e R s m args below meth c Z own bytes ml ret nm T h locs cells slots) {x y z : Int32} (hd : decode bytes pc = .ok (.ixor, 1)) (hz : x ^^^ y = z) (hp : pc + 1 = pc') (kk : Go p e below FF (T.setTop (mkF m pc' Ls (.int z :: St)))) : Go p e below FF (T.setTop (mkF m pc Ls (.int y :: .int x :: St))) := by
  subst hp hz; exact Go.via (fun _ => XS.ixor P.here P.x rfl (hb P.bt hd) rfl) kk
theorem G.ishl (P : Pos p l e R s m args below meth c Z own bytes ml ret nm T h locs cells slots) {x y z : Int32} (hd : decode bytes pc = .ok (.ishl, 1)) (hz : x <<< (y &&& 31) = z) (hp : pc + 1 = pc') (kk : Go p e below FF (T.setTop (mkF m pc' Ls (.int z :: St)))) : Go p e below FF (T.setTop (mkF m pc Ls (.int y :: .int x :: St))) := by
  subst hp hz; exact Go.via (fun _ => XS.ishl P.here P.x rfl (hb P.bt hd) rfl) kk
theorem G.ishr (P : Pos p l e R s m args below meth c Z own bytes ml ret nm T h locs cells slots) {x y z : Int32} (hd : decode bytes pc = .ok (.ishr, 1)) (hz : x >>> (y &&& 31) = z) (hp : pc + 1 = pc') (kk : Go p e below FF (T.setTop (mkF m pc' Ls (.int z :: St)))) : Go p e below FF (T.setTop (mkF m pc Ls (.int y :: .int x :: St))) := by
  subst hp hz; exact Go.via (fun _ => XS.ishr P.here P.x rfl (hb P.bt hd) rfl) kk
theorem G.iushr (P : Pos p l e R s m args below meth c Z own bytes ml ret nm T h locs cells slots) {x y z : Int32} (hd : decode bytes pc = .ok (.iushr, 1)) (hz : ushr x y = z) (hp : pc + 1 = pc') (kk : Go p e below FF (T.setTop (mkF m pc' Ls (.int z :: St)))) : Go p e below FF (T.setTop (mkF m pc Ls (.int y :: .int x :: St))) := by
  subst hp hz; exact Go.via (fun _ => XS.iushr P.here P.x rfl (hb P.bt hd) rfl) kk
theorem G.idiv (P : Pos p l e R s m args below meth c Z own bytes ml ret nm T h locs cells slots) {x y z : Int32} (hd : decode bytes pc = .ok (.idiv, 1)) (hy : y ≠ 0) (hz : x / y = z) (hp : pc + 1 = pc') (kk : Go p e below FF (T.setTop (mkF m pc' Ls (.int z :: St)))) : Go p e below FF (T.setTop (mkF m pc Ls (.int y :: .int x :: St))) := by
  subst hp hz; exact Go.via (fun _ => XS.idiv P.here P.x rfl (hb P.bt hd) rfl hy) kk
theorem G.ladd (P : Pos p l e R s m args below meth c Z own bytes ml ret nm T h locs cells slots) {x y z : Int64} (hd : decode bytes pc = .ok (.ladd, 1)) (hz : x + y = z) (hp : pc + 1 = pc') (kk : Go p e below FF (T.setTop (mkF m pc' Ls (.long z :: St)))) : Go p e below FF (T.setTop (mkF m pc Ls (.long y :: .long x :: St))) := by
  subst hp hz; exact Go.via (fun _ => XS.ladd P.here P.x rfl (hb P.bt hd) rfl) kk
theorem G.lsub (P : Pos p l e R s m args below meth c Z own bytes ml ret nm T h locs cells slots) {x y z : Int64} (hd : decode bytes pc = .ok (.lsub, 1)) (hz : x - y = z) (hp : pc + 1 = pc') (kk : Go p e below FF (T.setTop (mkF m pc' Ls (.long z :: St)))) : Go p e below FF (T.setTop (mkF m pc Ls (.long y :: .long x :: St))) := by
  subst hp hz; exact Go.via (fun _ => XS.lsub P.here P.x rfl (hb P.bt hd) rfl) kk
theorem G.lmul (P : Pos p l e R s m args below meth c Z own bytes ml ret nm T h locs cells slots) {x y z : Int64} (hd : decode bytes pc = .ok (.lmul, 1)) (hz : x * y = z) (hp : pc + 1 = pc') (kk : Go p e below FF (T.setTop (mkF m pc' Ls (.long z :: St)))) : Go p e below FF (T.setTop (mkF m pc Ls (.long y :: .long x :: St))) := by
  subst hp hz; exact Go.via (fun _ => XS.lmul P.here P.x rfl (hb P.bt hd) rfl) kk
theorem G.land (P : Pos p l e R s m args below meth c Z own bytes ml ret nm T h locs cells slots) {x y z : Int64} (hd : decode bytes pc = .ok (.land, 1)) (hz : x &&& y = z) (hp : pc + 1 = pc') (kk : Go p e below FF (T.setTop (mkF m pc' Ls (.long z :: St)))) : Go p e below FF (T.setTop (mkF m pc Ls (.long y :: .long x :: St))) := by
  subst hp hz; exact Go.via (fun _ => XS.land P.here P.x rfl (hb P.bt hd) rfl) kk
theorem G.lor (P : Pos p l e R s m args below meth c Z own bytes ml ret nm T h locs cells slots) {x y z : Int64} (hd : decode bytes pc = .ok (.lor, 1)) (hz : x ||| y = z) (hp : pc + 1 = pc') (kk : Go p e below FF (T.setTop (mkF m pc' Ls (.long z :: St)))) : Go p e below FF (T.setTop (mkF m pc Ls (.long y :: .long x :: St))) := by
  subst hp hz; exact Go.via (fun _ => XS.lor P.here P.x rfl (hb P.bt hd) rfl) kk
theorem G.lxor (P : Pos p l e R s m args below meth c Z own bytes ml ret nm T h locs cells slots) {x y z : Int64} (hd : decode bytes pc = .ok (.lxor, 1)) (hz : x ^^^ y = z) (hp : pc + 1 = pc') (kk : Go p e below FF (T.setTop (mkF m pc' Ls (.long z :: St)))) : Go p e below FF (T.setTop (mkF m pc Ls (.long y :: .long x :: St))) := by
  subst hp hz; exact Go.via (fun _ => XS.lxor P.here P.x rfl (hb P.bt hd) rfl) kk
theorem G.ldiv (P : Pos p l e R s m args below meth c Z own bytes ml ret nm T h locs cells slots) {x y z : Int64} (hd : decode bytes pc = .ok (.ldiv, 1)) (hy : y ≠ 0) (hz : x / y = z) (hp : pc + 1 = pc') (kk : Go p e below FF (T.setTop (mkF m pc' Ls (.long z :: St)))) : Go p e below FF (T.setTop (mkF m pc Ls (.long y :: .long x :: St))) := by
  subst hp hz; exact Go.via (fun _ => XS.ldiv P.here P.x rfl (hb P.bt hd) rfl hy) kk
theorem G.lushr (P : Pos p l e R s m args below meth c Z own bytes ml ret nm T h locs cells slots) {x z : Int64} {y : Int32} (hd : decode bytes pc = .ok (.lushr, 1)) (hz : ushrJ x y = z) (hp : pc + 1 = pc') (kk : Go p e below FF (T.setTop (mkF m pc' Ls (.long z :: St)))) : Go p e below FF (T.setTop (mkF m pc Ls (.int y :: .long x :: St))) := by
  subst hp hz; exact Go.via (fun _ => XS.lushr P.here P.x rfl (hb P.bt hd) rfl) kk
theorem G.lcmp (P : Pos p l e R s m args below meth c Z own bytes ml ret nm T h locs cells slots) {x y : Int64} {z : Int32} (hd : decode bytes pc = .ok (.lcmp, 1)) (hz : lcmpO x y = z) (hp : pc + 1 = pc') (kk : Go p e below FF (T.setTop (mkF m pc' Ls (.int z :: St)))) : Go p e below FF (T.setTop (mkF m pc Ls (.long y :: .long x :: St))) := by
  subst hp hz; exact Go.via (fun _ => XS.lcmp P.here P.x rfl (hb P.bt hd) rfl) kk
theorem G.ineg (P : Pos p l e R s m args below meth c Z own bytes ml ret nm T h locs cells slots) {x : Int32} {z : Int32} (hd : decode bytes pc = .ok (.ineg, 1)) (hz : -x = z) (hp : pc + 1 = pc') (kk : Go p e below FF (T.setTop (mkF m pc' Ls (.int z :: St)))) : Go p e below FF (T.setTop (mkF m pc Ls (.int x :: St))) := by
  subst hp hz; exact Go.via (fun _ => XS.ineg P.here P.x rfl (hb P.bt hd) rfl) kk
theorem G.i2b (P : Pos p l e R s m args below meth c Z own bytes ml ret nm T h locs cells slots) {x : Int32} {z : Int32} (hd : decode bytes pc = .ok (.i2b, 1)) (hz : x.toInt8.toInt32 = z) (hp : pc + 1 = pc') (kk : Go p e below FF (T.setTop (mkF m pc' Ls (.int z :: St)))) : Go p e below FF (T.setTop (mkF m pc Ls (.int x :: St))) := by
  subst hp hz; exact Go.via (fun _ => XS.i2b P.here P.x rfl (hb P.bt hd) rfl) kk
theorem G.i2c (P : Pos p l e R s m args below meth c Z own bytes ml ret nm T h locs cells slots) {x : Int32} {z : Int32} (hd : decode bytes pc = .ok (.i2c, 1)) (hz : x.toUInt32.toUInt16.toUInt32.toInt32 = z) (hp : pc + 1 = pc') (kk : Go p e below FF (T.setTop (mkF m pc' Ls (.int z :: St)))) : Go p e below FF (T.setTop (mkF m pc Ls (.int x :: St))) := by
  subst hp hz; exact Go.via (fun _ => XS.i2c P.here P.x rfl (hb P.bt hd) rfl) kk
theorem G.i2s (P : Pos p l e R s m args below meth c Z own bytes ml ret nm T h locs cells slots) {x : Int32} {z : Int32} (hd : decode bytes pc = .ok (.i2s, 1)) (hz : x.toInt16.toInt32 = z) (hp : pc + 1 = pc') (kk : Go p e below FF (T.setTop (mkF m pc' Ls (.int z :: St)))) : Go p e below FF (T.setTop (mkF m pc Ls (.int x :: St))) := by
  subst hp hz; exact Go.via (fun _ => XS.i2s P.here P.x rfl (hb P.bt hd) rfl) kk
theorem G.i2l (P : Pos p l e R s m args below meth c Z own bytes ml ret nm T h locs cells slots) {x : Int32} {z : Int64} (hd : decode bytes pc = .ok (.i2l, 1)) (hz : x.toInt64 = z) (hp : pc + 1 = pc') (kk : Go p e below FF (T.setTop (mkF m pc' Ls (.long z :: St)))) : Go p e below FF (T.setTop (mkF m pc Ls (.int x :: St))) := by
  subst hp hz; exact Go.via (fun _ => XS.i2l P.here P.x rfl (hb P.bt hd) rfl) kk
theorem G.l2i (P : Pos p l e R s m args below meth c Z own bytes ml ret nm T h locs cells slots) {x : Int64} {z : Int32} (hd : decode bytes pc = .ok (.l2i, 1)) (hz : x.toInt32 = z) (hp : pc + 1 = pc') (kk : Go p e below FF (T.setTop (mkF m pc' Ls (.int z :: St)))) : Go p e below FF (T.setTop (mkF m pc Ls (.long x :: St))) := by
  subst hp hz; exact Go.via (fun _ => XS.l2i P.here P.x rfl (hb P.bt hd) rfl) kk
theorem G.lneg (P : Pos p l e R s m args below meth c Z own bytes ml ret nm T h locs cells slots) {x : Int64} {z : Int64} (hd : decode bytes pc = .ok (.lneg, 1)) (hz : -x = z) (hp : pc + 1 = pc') (kk : Go p e below FF (T.setTop (mkF m pc' Ls (.long z :: St)))) : Go p e below FF (T.setTop (mkF m pc Ls (.long x :: St))) := by
  subst hp hz; exact Go.via (fun _ => XS.lneg P.here P.x rfl (hb P.bt hd) rfl) kk
theorem G.pop (P : Pos p l e R s m args below meth c Z own bytes ml ret nm T h locs cells slots) {x : Value} (hd : decode bytes pc = .ok (.pop, 1)) (hc : x.category = 1) (hp : pc + 1 = pc') (kk : Go p e below FF (T.setTop (mkF m pc' Ls St))) : Go p e below FF (T.setTop (mkF m pc Ls (x :: St))) := by
  subst hp; exact Go.via (fun _ => XS.pop P.here P.x rfl (hb P.bt hd) rfl hc) kk
theorem G.dup (P : Pos p l e R s m args below meth c Z own bytes ml ret nm T h locs cells slots) {x : Value} (hd : decode bytes pc = .ok (.dup, 1)) (hc : x.category = 1) (hp : pc + 1 = pc') (kk : Go p e below FF (T.setTop (mkF m pc' Ls (x :: x :: St)))) : Go p e below FF (T.setTop (mkF m pc Ls (x :: St))) := by
  subst hp; exact Go.via (fun _ => XS.dup P.here P.x rfl (hb P.bt hd) rfl hc) kk
theorem G.dupX1 (P : Pos p l e R s m args below meth c Z own bytes ml ret nm T h locs cells slots) {x y : Value} (hd : decode bytes pc = .ok (.dup_x1, 1)) (hc : x.category = 1) (hc2 : y.category = 1) (hp : pc + 1 = pc') (kk : Go p e below FF (T.setTop (mkF m pc' Ls (x :: y :: x :: St)))) : Go p e below FF (T.setTop (mkF m pc Ls (x :: y :: St))) := by
  subst hp; exact Go.via (fun _ => XS.dupX1 P.here P.x rfl (hb P.bt hd) rfl hc hc2) kk
theorem G.iinc (P : Pos p l e R s m args below meth c Z own bytes ml ret nm T h locs cells slots) {k : Nat} {cst : Int} {x z : Int32} {l' : Array Slot} (hd : decode bytes pc = .ok (.iinc k cst, 3)) (hl : Ls[k]? = some (.val (.int x))) (hz : x + Int32.ofInt cst = z) (hl' : storeLocals Ls k (.int z) = some l') (hp : pc + 3 = pc') (kk : Go p e below FF (T.setTop (mkF m pc' l' St))) : Go p e below FF (T.setTop (mkF m pc Ls St)) := by
  subst hp hz; exact Go.via (fun _ => XS.iinc P.here P.x rfl (hb P.bt hd) hl hl') kk
theorem G.dup2 (P : Pos p l e R s m args below meth c Z own bytes ml ret nm T h locs cells slots) {x y : Value} (hd : decode bytes pc = .ok (.dup2, 1)) (hc : x.category = 1) (hc2 : y.category = 1) (hp : pc + 1 = pc') (kk : Go p e below FF (T.setTop (mkF m pc' Ls (x :: y :: x :: y :: St)))) : Go p e below FF (T.setTop (mkF m pc Ls (x :: y :: St))) := by
  subst hp; exact Go.via (fun _ => XT.dup2 P.here P.x rfl (hb P.bt hd) rfl hc hc2) kk
theorem G.dupX2 (P : Pos p l e R s m args below meth c Z own bytes ml ret nm T h locs cells slots) {x y w : Value} (hd : decode bytes pc = .ok (.dup_x2, 1)) (hc : x.category = 1) (hc2 : y.category = 1) (hc3 : w.category = 1) (hp : pc + 1 = pc') (kk : Go p e below FF (T.setTop (mkF m pc' Ls (x :: y :: w :: x :: St)))) : Go p e below FF (T.setTop (mkF m pc Ls (x :: y :: w :: St))) := by
  subst hp
  refine Go.via (S1 := T.setTop (mkF m (pc + 1) Ls (x :: y :: w :: x :: St))) (fun target hr => ?_) kk
  have hd' := hb P.bt hd
  have hx := P.x
  show Steps p.tables e below (T.setTop { method := m, pc := pc, locals := Ls, stack := x :: y :: w :: St, locked := none }) _
  jvm_step P.here [P.here.top, hx, hd', hc, hc2, hc3]
  exact hr
theorem G.goto (P : Pos p l e R s m args below meth c Z own bytes ml ret nm T h locs cells slots) {o : Int} (hd : decode bytes pc = .ok (.goto o, 3)) (ho : 0 ≤ (pc : Int) + o) (hp : ((pc : Int) + o).toNat = pc') (kk : Go p e below FF (T.setTop (mkF m pc' Ls St))) : Go p e below FF (T.setTop (mkF m pc Ls St)) :=
  Go.via (fun _ => XS.goto P.here P.x rfl (pc0 := pc) rfl (hb P.bt hd) ho hp) kk
theorem G.irem (P : Pos p l e R s m args below meth c Z own bytes ml ret nm T h locs cells slots) {x y z : Int32} (hd : decode bytes pc = .ok (.irem, 1)) (hy : y ≠ 0) (hz : x % y = z) (hp : pc + 1 = pc') (kk : Go p e below FF (T.setTop (mkF m pc' Ls (.int z :: St)))) : Go p e below FF (T.setTop (mkF m pc Ls (.int y :: .int x :: St))) := by
  subst hp hz; exact Go.via (fun _ => iremM (g := mkF m pc Ls (.int y :: .int x :: St)) P.st P.x rfl (hb P.bt hd) rfl hy) kk
theorem G.ldcI (P : Pos p l e R s m args below meth c Z own bytes ml ret nm T h locs cells slots) {i : Nat} {v : Int32} (w : (Jvm.Cond.constant own i v).before a0 Z = true) (hd : decode bytes pc = .ok (.ldc i, 2)) (hp : pc + 2 = pc') (kk : Go p e below FF (T.setTop (mkF m pc' Ls (.int v :: St)))) : Go p e below FF (T.setTop (mkF m pc Ls St)) := by
  subst hp; exact Go.via (P.st.ldcInt P.x P.ow (mvT P.z w) (g := mkF m pc Ls St) rfl (hb P.bt hd)) kk
theorem G.ldcJ (P : Pos p l e R s m args below meth c Z own bytes ml ret nm T h locs cells slots) {i : Nat} {v : Int64} (w : (Jvm.Cond.constantLong own i v).before a0 Z = true) (hd : decode bytes pc = .ok (.ldc2_w i, 3)) (hp : pc + 3 = pc') (kk : Go p e below FF (T.setTop (mkF m pc' Ls (.long v :: St)))) : Go p e below FF (T.setTop (mkF m pc Ls St)) := by
  subst hp; exact Go.via (P.st.ldc2Long P.x P.ow (mvT P.z w) (g := mkF m pc Ls St) rfl (hb P.bt hd)) kk
/-! ### branches -/
theorem G.icmp (P : Pos p l e R s m args below meth c Z own bytes ml ret nm T h locs cells slots) {cd : ClassFile.Cond} {x y : Int32} {o : Int} {pcY pcN : Nat} (hd : decode bytes pc = .ok (.if_icmp cd o, 3)) (ho : 0 ≤ (pc : Int) + o) (hp : ((pc : Int) + o).toNat = pcY) (hn : pc + 3 = pcN)
    (hY : if_icmp.holds cd x y = true → Go p e below FF (T.setTop (mkF m pcY Ls St))) (hN : if_icmp.holds cd x y = false → Go p e below FF (T.setTop (mkF m pcN Ls St))) : Go p e below FF (T.setTop (mkF m pc Ls (.int y :: .int x :: St))) := by
  subst hn
  cases hc : if_icmp.holds cd x y
  · exact Go.via (fun _ => XS.icmpNo P.here P.x rfl (hb P.bt hd) rfl hc) (hN hc)
  · exact Go.via (fun _ => XS.icmpYes P.here P.x rfl (pc0 := pc) rfl (hb P.bt hd) rfl hc ho hp) (hY hc)
theorem G.if0 (P : Pos p l e R s m args below meth c Z own bytes ml ret nm T h locs cells slots) {cd : ClassFile.Cond} {x : Int32} {o : Int} {pcY pcN : Nat} (hd : decode bytes pc = .ok (.ifCond cd o, 3)) (ho : 0 ≤ (pc : Int) + o) (hp : ((pc : Int) + o).toNat = pcY) (hn : pc + 3 = pcN)
    (hY : if_icmp.holds cd x 0 = true → Go p e below FF (T.setTop (mkF m pcY Ls St))) (hN : if_icmp.holds cd x 0 = false → Go p e below FF (T.setTop (mkF m pcN Ls St))) : Go p e below FF (T.setTop (mkF m pc Ls (.int x :: St))) := by
  subst hn
  cases hc : if_icmp.holds cd x 0
  · exact Go.via (fun _ => XS.ifNo P.here P.x rfl (hb P.bt hd) rfl ((Jvm.RoadKit.if0 _ _).trans hc)) (hN hc)
  · exact Go.via (fun _ => XS.ifYes P.here P.x rfl (pc0 := pc) rfl (hb P.bt hd) rfl ((Jvm.RoadKit.if0 _ _).trans hc) ho hp) (hY hc)
theorem h_eq {x y : Int32} : (if_icmp.holds .eq x y = true → x = y) ∧ (if_icmp.holds .eq x y = false → ¬ x = y) := ⟨fun h => Classical.byContradiction fun q => (by rw [(feq q).1] at h; cases h), fun h q => (by rw [(teq q).1] at h; cases h)⟩
theorem h_ne {x y : Int32} : (if_icmp.holds .ne x y = true → ¬ x = y) ∧ (if_icmp.holds .ne x y = false → x = y) := ⟨fun h q => (by rw [(teq q).2] at h; cases h), fun h => Classical.byContradiction fun q => (by rw [(feq q).2] at h; cases h)⟩
theorem h_lt {x y : Int32} : (if_icmp.holds .lt x y = true → x < y) ∧ (if_icmp.holds .lt x y = false → ¬ x < y) := ⟨fun h => Classical.byContradiction fun q => (by rw [(flt q).1] at h; cases h), fun h q => (by rw [(tlt q).1] at h; cases h)⟩
theorem h_ge {x y : Int32} : (if_icmp.holds .ge x y = true → ¬ x < y) ∧ (if_icmp.holds .ge x y = false → x < y) := ⟨fun h q => (by rw [(tlt q).2.1] at h; cases h), fun h => Classical.byContradiction fun q => (by rw [(flt q).2.1] at h; cases h)⟩
theorem h_gt {x y : Int32} : (if_icmp.holds .gt x y = true → y < x) ∧ (if_icmp.holds .gt x y = false → ¬ y < x) := ⟨fun h => Classical.byContradiction fun q => (by rw [(flt q).2.2.1] at h; cases h), fun h q => (by rw [(tlt q).2.2.1] at h; cases h)⟩
theorem h_le {x y : Int32} : (if_icmp.holds .le x y = true → ¬ y < x) ∧ (if_icmp.holds .le x y = false → y < x) := ⟨fun h q => (by rw [(tlt q).2.2.2] at h; cases h), fun h => Classical.byContradiction fun q => (by rw [(flt q).2.2.2] at h; cases h)⟩
theorem G.icmp_eq (P : Pos p l e R s m args below meth c Z own bytes ml ret nm T h locs cells slots) {x y : Int32} {o : Int} {pcY pcN : Nat} (hd : decode bytes pc = .ok (.if_icmp .eq o, 3)) (ho : 0 ≤ (pc : Int) + o) (hp : ((pc : Int) + o).toNat = pcY) (hn : pc + 3 = pcN) (hY : x = y → Go p e below FF (T.setTop (mkF m pcY Ls St))) (hN : ¬ x = y → Go p e below FF (T.setTop (mkF m pcN Ls St))) : Go p e below FF (T.setTop (mkF m pc Ls (.int y :: .int x :: St))) :=
  G.icmp P hd ho hp hn (fun q => hY (h_eq.1 q)) (fun q => hN (h_eq.2 q))
theorem G.if_eq (P : Pos p l e R s m args below meth c Z own bytes ml ret nm T h locs cells slots) {x : Int32} {o : Int} {pcY pcN : Nat} (hd : decode bytes pc = .ok (.ifCond .eq o, 3)) (ho : 0 ≤ (pc : Int) + o) (hp : ((pc : Int) + o).toNat = pcY) (hn : pc + 3 = pcN) (hY : x = 0 → Go p e below FF (T.setTop (mkF m pcY Ls St))) (hN : ¬ x = 0 → Go p e below FF (T.setTop (mkF m pcN Ls St))) : Go p e below FF (T.setTop (mkF m pc Ls (.int x :: St))) :=
  G.if0 P hd ho hp hn (fun q => hY (h_eq.1 q)) (fun q => hN (h_eq.2 q))
theorem G.icmp_ne (P : Pos p l e R s m args below meth c Z own bytes ml ret nm T h locs cells slots) {x y : Int32} {o : Int} {pcY pcN : Nat} (hd : decode bytes pc = .ok (.if_icmp .ne o, 3)) (ho : 0 ≤ (pc : Int) + o) (hp : ((pc : Int) + o).toNat = pcY) (hn : pc + 3 = pcN) (hY : ¬ x = y → Go p e below FF (T.setTop (mkF m pcY Ls St))) (hN : x = y → Go p e below FF (T.setTop (mkF m pcN Ls St))) : Go p e below FF (T.setTop (mkF m pc Ls (.int y :: .int x :: St))) :=
  G.icmp P hd ho hp hn (fun q => hY (h_ne.1 q)) (fun q => hN (h_ne.2 q))
theorem G.if_ne (P : Pos p l e R s m args below meth c Z own bytes ml ret nm T h locs cells slots) {x : Int32} {o : Int} {pcY pcN : Nat} (hd : decode bytes pc = .ok (.ifCond .ne o, 3)) (ho : 0 ≤ (pc : Int) + o) (hp : ((pc : Int) + o).toNat = pcY) (hn : pc + 3 = pcN) (hY : ¬ x = 0 → Go p e below FF (T.setTop (mkF m pcY Ls St))) (hN : x = 0 → Go p e below FF (T.setTop (mkF m pcN Ls St))) : Go p e below FF (T.setTop (mkF m pc Ls (.int x :: St))) :=
  G.if0 P hd ho hp hn (fun q => hY (h_ne.1 q)) (fun q => hN (h_ne.2 q))
theorem G.icmp_lt (P : Pos p l e R s m args below meth c Z own bytes ml ret nm T h locs cells slots) {x y : Int32} {o : Int} {pcY pcN : Nat} (hd : decode bytes pc = .ok (.if_icmp .lt o, 3)) (ho : 0 ≤ (pc : Int) + o) (hp : ((pc : Int) + o).toNat = pcY) (hn : pc + 3 = pcN) (hY : x < y → Go p e below FF (T.setTop (mkF m pcY Ls St))) (hN : ¬ x < y → Go p e below FF (T.setTop (mkF m pcN Ls St))) : Go p e below FF (T.setTop (mkF m pc Ls (.int y :: .int x :: St))) :=
  G.icmp P hd ho hp hn (fun q => hY (h_lt.1 q)) (fun q => hN (h_lt.2 q))
theorem G.if_lt (P : Pos p l e R s m args below meth c Z own bytes ml ret nm T h locs cells slots) {x : Int32} {o : Int} {pcY pcN : Nat} (hd : decode bytes pc = .ok (.ifCond .lt o, 3)) (ho : 0 ≤ (pc : Int) + o) (hp : ((pc : Int) + o).toNat = pcY) (hn : pc + 3 = pcN) (hY : x < 0 → Go p e below FF (T.setTop (mkF m pcY Ls St))) (hN : ¬ x < 0 → Go p e below FF (T.setTop (mkF m pcN Ls St))) : Go p e below FF (T.setTop (mkF m pc Ls (.int x :: St))) :=
  G.if0 P hd ho hp hn (fun q => hY (h_lt.1 q)) (fun q => hN (h_lt.2 q))
theorem G.icmp_ge (P : Pos p l e R s m args below meth c Z own bytes ml ret nm T h locs cells slots) {x y : Int32} {o : Int} {pcY pcN : Nat} (hd : decode bytes pc = .ok (.if_icmp .ge o, 3)) (ho : 0 ≤ (pc : Int) + o) (hp : ((pc : Int) + o).toNat = pcY) (hn : pc + 3 = pcN) (hY : ¬ x < y → Go p e below FF (T.setTop (mkF m pcY Ls St))) (hN : x < y → Go p e below FF (T.setTop (mkF m pcN Ls St))) : Go p e below FF (T.setTop (mkF m pc Ls (.int y :: .int x :: St))) :=
  G.icmp P hd ho hp hn (fun q => hY (h_ge.1 q)) (fun q => hN (h_ge.2 q))
theorem G.if_ge (P : Pos p l e R s m args below meth c Z own bytes ml ret nm T h locs cells slots) {x : Int32} {o : Int} {pcY pcN : Nat} (hd : decode bytes pc = .ok (.ifCond .ge o, 3)) (ho : 0 ≤ (pc : Int) + o) (hp : ((pc : Int) + o).toNat = pcY) (hn : pc + 3 = pcN) (hY : ¬ x < 0 → Go p e below FF (T.setTop (mkF m pcY Ls St))) (hN : x < 0 → Go p e below FF (T.setTop (mkF m pcN Ls St))) : Go p e below FF (T.setTop (mkF m pc Ls (.int x :: St))) :=
  G.if0 P hd ho hp hn (fun q => hY (h_ge.1 q)) (fun q => hN (h_ge.2 q))
theorem G.icmp_gt (P : Pos p l e R s m args below meth c Z own bytes ml ret nm T h locs cells slots) {x y : Int32} {o : Int} {pcY pcN : Nat} (hd : decode bytes pc = .ok (.if_icmp .gt o, 3)) (ho : 0 ≤ (pc : Int) + o) (hp : ((pc : Int) + o).toNat = pcY) (hn : pc + 3 = pcN) (hY : y < x → Go p e below FF (T.setTop (mkF m pcY Ls St))) (hN : ¬ y < x → Go p e below FF (T.setTop (mkF m pcN Ls St))) : Go p e below FF (T.setTop (mkF m pc Ls (.int y :: .int x :: St))) :=
  G.icmp P hd ho hp hn (fun q => hY (h_gt.1 q)) (fun q => hN (h_gt.2 q))
theorem G.if_gt (P : Pos p l e R s m args below meth c Z own bytes ml ret nm T h locs cells slots) {x : Int32} {o : Int} {pcY pcN : Nat} (hd : decode bytes pc = .ok (.ifCond .gt o, 3)) (ho : 0 ≤ (pc : Int) + o) (hp : ((pc : Int) + o).toNat = pcY) (hn : pc + 3 = pcN) (hY : 0 < x → Go p e below FF (T.setTop (mkF m pcY Ls St))) (hN : ¬ 0 < x → Go p e below FF (T.setTop (mkF m pcN Ls St))) : Go p e below FF (T.setTop (mkF m pc Ls (.int x :: St))) :=
  G.if0 P hd ho hp hn (fun q => hY (h_gt.1 q)) (fun q => hN (h_gt.2 q))
theorem G.icmp_le (P : Pos p l e R s m args below meth c Z own bytes ml ret nm T h locs cells slots) {x y : Int32} {o : Int} {pcY pcN : Nat} (hd : decode bytes pc = .ok (.if_icmp .le o, 3)) (ho : 0 ≤ (pc : Int) + o) (hp : ((pc : Int) + o).toNat = pcY) (hn : pc + 3 = pcN) (hY : ¬ y < x → Go p e below FF (T.setTop (mkF m pcY Ls St))) (hN : y < x → Go p e below FF (T.setTop (mkF m pcN Ls St))) : Go p e below FF (T.setTop (mkF m pc Ls (.int y :: .int x :: St))) :=
  G.icmp P hd ho hp hn (fun q => hY (h_le.1 q)) (fun q => hN (h_le.2 q))
theorem G.if_le (P : Pos p l e R s m args below meth c Z own bytes ml ret nm T h locs cells slots) {x : Int32} {o : Int} {pcY pcN : Nat} (hd : decode bytes pc = .ok (.ifCond .le o, 3)) (ho : 0 ≤ (pc : Int) + o) (hp : ((pc : Int) + o).toNat = pcY) (hn : pc + 3 = pcN) (hY : ¬ 0 < x → Go p e below FF (T.setTop (mkF m pcY Ls St))) (hN : 0 < x → Go p e below FF (T.setTop (mkF m pcN Ls St))) : Go p e below FF (T.setTop (mkF m pc Ls (.int x :: St))) :=
  G.if0 P hd ho hp hn (fun q => hY (h_le.1 q)) (fun q => hN (h_le.2 q))
theorem G.acmp_eq (P : Pos p l e R s m args below meth c Z own bytes ml ret nm T h locs cells slots) {a b : Addr} {o : Int} {pcY pcN : Nat} (hd : decode bytes pc = .ok (.if_acmp .eq o, 3)) (ho : 0 ≤ (pc : Int) + o) (hp : ((pc : Int) + o).toNat = pcY) (hn : pc + 3 = pcN)
    (hY : a = b → Go p e below FF (T.setTop (mkF m pcY Ls St))) (hN : ¬ a = b → Go p e below FF (T.setTop (mkF m pcN Ls St))) : Go p e below FF (T.setTop (mkF m pc Ls (.ref b :: .ref a :: St))) := by
  subst hn
  by_cases hc : a = b
  · refine Go.via (fun _ => XS.acmpYes P.here P.x rfl (pc0 := pc) rfl (hb P.bt hd) rfl ?_ ho hp) (hY hc)
    simp [if_acmp.holds, hc]
  · refine Go.via (fun _ => XS.acmpNo P.here P.x rfl (hb P.bt hd) rfl ?_) (hN hc)
    simp [if_acmp.holds, hc]
theorem G.acmp_ne (P : Pos p l e R s m args below meth c Z own bytes ml ret nm T h locs cells slots) {a b : Addr} {o : Int} {pcY pcN : Nat} (hd : decode bytes pc = .ok (.if_acmp .ne o, 3)) (ho : 0 ≤ (pc : Int) + o) (hp : ((pc : Int) + o).toNat = pcY) (hn : pc + 3 = pcN)
    (hY : ¬ a = b → Go p e below FF (T.setTop (mkF m pcY Ls St))) (hN : a = b → Go p e below FF (T.setTop (mkF m pcN Ls St))) : Go p e below FF (T.setTop (mkF m pc Ls (.ref b :: .ref a :: St))) := by
  subst hn
  by_cases hc : a = b
  · refine Go.via (fun _ => XS.acmpNo P.here P.x rfl (hb P.bt hd) rfl ?_) (hN hc)
    simp [if_acmp.holds, hc]
  · refine Go.via (fun _ => XS.acmpYes P.here P.x rfl (pc0 := pc) rfl (hb P.bt hd) rfl ?_ ho hp) (hY hc)
    simp [if_acmp.holds, hc]
theorem G.acmpNe (P : Pos p l e R s m args below meth c Z own bytes ml ret nm T h locs cells slots) {cd : ACond} {x y : Value} (h1 : x.isRef = true) (h2 : y.isRef = true) (hq : ¬ x = y) {o : Int} {pcT : Nat} (hd : decode bytes pc = .ok (.if_acmp cd o, 3)) (ho : 0 ≤ (pc : Int) + o) (hp : pcT = if acV cd false = true then ((pc : Int) + o).toNat else pc + 3)
    (kk : Go p e below FF (T.setTop (mkF m pcT Ls St))) : Go p e below FF (T.setTop (mkF m pc Ls (y :: x :: St))) :=
  Go.via (fun _ => Jvm.RoadKit.acmp (g := mkF m pc Ls (y :: x :: St)) P.st P.x rfl h1 h2 (pc0 := pc) rfl (hb P.bt hd) rfl (decide_eq_false hq) ho hp) kk
theorem G.acmpEq (P : Pos p l e R s m args below meth c Z own bytes ml ret nm T h locs cells slots) {cd : ACond} {x y : Value} (h1 : x.isRef = true) (h2 : y.isRef = true) (hq : x = y) {o : Int} {pcT : Nat} (hd : decode bytes pc = .ok (.if_acmp cd o, 3)) (ho : 0 ≤ (pc : Int) + o) (hp : pcT = if acV cd true = true then ((pc : Int) + o).toNat else pc + 3)
    (kk : Go p e below FF (T.setTop (mkF m pcT Ls St))) : Go p e below FF (T.setTop (mkF m pc Ls (y :: x :: St))) :=
  Go.via (fun _ => Jvm.RoadKit.acmp (g := mkF m pc Ls (y :: x :: St)) P.st P.x rfl h1 h2 (pc0 := pc) rfl (hb P.bt hd) rfl (decide_eq_true hq) ho hp) kk
theorem G.ifnullY (P : Pos p l e R s m args below meth c Z own bytes ml ret nm T h locs cells slots) {o : Int} (hd : decode bytes pc = .ok (.ifnull o, 3)) (ho : 0 ≤ (pc : Int) + o) (hp : ((pc : Int) + o).toNat = pc') (kk : Go p e below FF (T.setTop (mkF m pc' Ls St))) : Go p e below FF (T.setTop (mkF m pc Ls (.null :: St))) :=
  Go.via (fun _ => XS.ifnullYes P.here P.x rfl (pc0 := pc) rfl (hb P.bt hd) rfl ho hp) kk
theorem G.ifnullN (P : Pos p l e R s m args below meth c Z own bytes ml ret nm T h locs cells slots) {o : Int} {b : Addr} (hd : decode bytes pc = .ok (.ifnull o, 3)) (hp : pc + 3 = pc') (kk : Go p e below FF (T.setTop (mkF m pc' Ls St))) : Go p e below FF (T.setTop (mkF m pc Ls (.ref b :: St))) := by
  subst hp; exact Go.via (fun _ => XS.ifnullNo P.here P.x rfl (hb P.bt hd) rfl) kk
theorem G.ifnonnullY (P : Pos p l e R s m args below meth c Z own bytes ml ret nm T h locs cells slots) {o : Int} {b : Addr} (hd : decode bytes pc = .ok (.ifnonnull o, 3)) (ho : 0 ≤ (pc : Int) + o) (hp : ((pc : Int) + o).toNat = pc') (kk : Go p e below FF (T.setTop (mkF m pc' Ls St))) : Go p e below FF (T.setTop (mkF m pc Ls (.ref b :: St))) :=
  Go.via (fun _ => XS.ifnonnullYes P.here P.x rfl (pc0 := pc) rfl (hb P.bt hd) rfl ho hp) kk
theorem G.ifnonnullN (P : Pos p l e R s m args below meth c Z own bytes ml ret nm T h locs cells slots) {o : Int} (hd : decode bytes pc = .ok (.ifnonnull o, 3)) (hp : pc + 3 = pc') (kk : Go p e below FF (T.setTop (mkF m pc' Ls St))) : Go p e below FF (T.setTop (mkF m pc Ls (.null :: St))) := by
  subst hp; exact Go.via (fun _ => XS.ifnonnullNo P.here P.x rfl (hb P.bt hd) rfl) kk
/-! ### the heap -/
theorem G.getF (P : Pos p l e R s m args below meth c Z own bytes ml ret nm T h locs cells slots) {R0 O n d host : String} {i : Nat} (w : (Jvm.Cond.fieldLink own i R0 n d).before a0 Z = true ∨ (Jvm.Cond.fieldLinkNest own i R0 n d host).before a0 Z = true) (via : Via Z R0 O n d) {a : Addr} {v : Value} (F : Fld Z h a O n d v) (hd : decode bytes pc = .ok (.getfield i, 3)) (hp : pc + 3 = pc')
    (kk : ∀ T', Pos p l e R s m args below meth c Z own bytes ml ret nm T' h locs cells slots → Go p e below FF (T'.setTop (mkF m pc' Ls (v :: St)))) : Go p e below FF (T.setTop (mkF m pc Ls (.ref a :: St))) := by
  subst hp
  obtain ⟨T', X', e', st⟩ := Jvm.RoadKit.getF P.st P.x P.z P.ow w via P.eh F (g := mkF m pc Ls (.ref a :: St)) rfl rfl (hb P.bt hd)
  exact Go.via st (kk T' ⟨P.1, X', e'⟩)
theorem G.putF (P : Pos p l e R s m args below meth c Z own bytes ml ret nm T h locs cells slots) {R0 O n d host C : String} {i kn : Nat} {ty : FieldType} (w : (Jvm.Cond.fieldLink own i R0 n d).before a0 Z = true ∨ (Jvm.Cond.fieldLinkNest own i R0 n d host).before a0 Z = true) (via : Via Z R0 O n d) {a : Addr} {v old : Value} (F : Fld Z h a O n d old) (E : Exa Z h a C)
    (L : (Jvm.Cond.lays C O n d).before a0 Z = true ∨ ((Jvm.Cond.laysFinal C O n d).before a0 Z = true ∧ own = O ∧ nm = "<init>")) (wi : (Jvm.Cond.instantiable C kn).before a0 Z = true) (hty : parseFieldDescriptor d = some ty) (hn : narrow ty v = v) (hf : fits ty v = true) (hd : decode bytes pc = .ok (.putfield i, 3)) (hp : pc + 3 = pc')
    (kk : ∀ T' h', Pos p l e R s m args below meth c Z own bytes ml ret nm T' h' (locs ++ [⟨a, Jvm.RoadKit.slotOf Z O n d⟩]) cells slots → Wr h h' a (Jvm.RoadKit.slotOf Z O n d) v → Go p e below FF (T'.setTop (mkF m pc' Ls St))) : Go p e below FF (T.setTop (mkF m pc Ls (v :: .ref a :: St))) := by
  subst hp
  obtain ⟨T', h', X', e', W, st⟩ := Jvm.RoadKit.putF P.st P.x P.z P.ow w via P.eh F E (L.imp id fun q => ⟨q.1, q.2.1, P.mn.trans q.2.2⟩) wi hty hn hf (g := mkF m pc Ls (v :: .ref a :: St)) rfl rfl (hb P.bt hd)
  exact Go.via st (kk T' h' ⟨P.1, X', e'⟩ W)
theorem G.putFN (P : Pos p l e R s m args below meth c Z own bytes ml ret nm T h locs cells slots) {R0 O n d C : String} {i kn : Nat} {ty : FieldType} (w : (Jvm.Cond.fieldLink own i R0 n d).before a0 Z = true) (via : Via Z R0 O n d) {a : Addr} {v v' old : Value} (F : Fld Z h a O n d old) (E : Exa Z h a C)
    (L : (Jvm.Cond.lays C O n d).before a0 Z = true ∨ ((Jvm.Cond.laysFinal C O n d).before a0 Z = true ∧ own = O ∧ nm = "<init>")) (wi : (Jvm.Cond.instantiable C kn).before a0 Z = true) (hty : parseFieldDescriptor d = some ty) (hn : narrow ty v = v') (hf : fits ty v' = true) (hd : decode bytes pc = .ok (.putfield i, 3)) (hp : pc + 3 = pc')
    (kk : ∀ T' h', Pos p l e R s m args below meth c Z own bytes ml ret nm T' h' (locs ++ [⟨a, Jvm.RoadKit.slotOf Z O n d⟩]) cells slots → Wr h h' a (Jvm.RoadKit.slotOf Z O n d) v' → Go p e below FF (T'.setTop (mkF m pc' Ls St))) : Go p e below FF (T.setTop (mkF m pc Ls (v :: .ref a :: St))) := by
  subst hp
  obtain ⟨T', h', X', e', W, st⟩ := Jvm.RoadKit.putFN P.st P.x P.z P.ow w via P.eh F E (L.imp id fun q => ⟨q.1, q.2.1, P.mn.trans q.2.2⟩) wi hty hn hf (g := mkF m pc Ls (v :: .ref a :: St)) rfl rfl (hb P.bt hd)
  exact Go.via st (kk T' h' ⟨P.1, X', e'⟩ W)
theorem G.getS (P : Pos p l e R s m args below meth c Z own bytes ml ret nm T h locs cells slots) {R0 O n d host : String} {i : Nat} (w : (Jvm.Cond.fieldLink own i R0 n d).before a0 Z = true ∨ (Jvm.Cond.fieldLinkNest own i R0 n d host).before a0 Z = true) (via : Via Z R0 O n d) {v : Value} (F : Sta Z h O n d v) (hd : decode bytes pc = .ok (.getstatic i, 3)) (hp : pc + 3 = pc')
    (kk : ∀ T', Pos p l e R s m args below meth c Z own bytes ml ret nm T' h locs cells slots → Go p e below FF (T'.setTop (mkF m pc' Ls (v :: St)))) : Go p e below FF (T.setTop (mkF m pc Ls St)) := by
  subst hp
  obtain ⟨T', X', e', st⟩ := getS2 P.st P.x P.z P.ow w via P.eh F (g := mkF m pc Ls St) rfl (hb P.bt hd)
  exact Go.via st (kk T' ⟨P.1, X', e'⟩)
theorem G.newO (P : Pos p l e R s m args below meth c Z own bytes ml ret nm T h locs cells slots) {C : String} {i n : Nat} (w : (Jvm.Cond.classLink own i C).before a0 Z = true) (wi : (Jvm.Cond.instantiable C n).before a0 Z = true) (wz : (Jvm.Cond.initialized C).before a0 Z = true) (hd : decode bytes pc = .ok (.new i, 3)) (hro : cells + 1 ≤ R.cells ∧ slots + n ≤ R.slots) (hp : pc + 3 = pc')
    (kk : ∀ T' h' a, a = h.size → Pos p l e R s m args below meth c Z own bytes ml ret nm T' h' locs (cells + 1) (slots + n) → Ext h h' → Exa Z h' a C → (∀ {O fn d : String} {ty : FieldType}, Laid Z a0 C O fn d → parseFieldDescriptor d = some ty → Fld Z h' a O fn d (defaultValue ty)) → Go p e below FF (T'.setTop (mkF m pc' Ls (.ref a :: St)))) : Go p e below FF (T.setTop (mkF m pc Ls St)) := by
  subst hp
  obtain ⟨T', h', X', e', E, A, D, -, st⟩ := Jvm.RoadKit.newO P.st P.x P.z P.ow w wi wz P.eh (g := mkF m pc Ls St) rfl (hb P.bt hd) hro.1 hro.2
  exact Go.via st (kk T' h' h.size rfl ⟨P.1, X', e'⟩ E A D)
theorem G.newP (P : Pos p l e R s m args below meth c Z own bytes ml ret nm T h locs cells slots) {aty : ArrayType} (w : (Jvm.Cond.arrayClass (newarray.typeOf aty)).before a0 Z = true) {n : Int32} (hn : ¬ n < 0) {cap : Nat} (hcap : n.toNatClampNeg ≤ cap) (hbb : cap * 8 ≤ 536870912) (hro : cells + 1 ≤ R.cells ∧ slots + cap ≤ R.slots) (hd : decode bytes pc = .ok (.newarray aty, 2)) (hp : pc + 2 = pc')
    (kk : ∀ T' h' a k, a = h.size → Pos p l e R s m args below meth c Z own bytes ml ret nm T' h' locs (cells + 1) (slots + cap) → Ext h h' → Arv Z h' a k (newarray.typeOf aty) n [] (defaultValue (newarray.typeOf aty)) → Go p e below FF (T'.setTop (mkF m pc' Ls (.ref a :: St)))) : Go p e below FF (T.setTop (mkF m pc Ls (.int n :: St))) := by
  subst hp
  obtain ⟨T', h', k, X', e', E, A, st⟩ := Jvm.RoadKit.newP P.st P.x P.z w P.eh (g := mkF m pc Ls (.int n :: St)) rfl (hb P.bt hd) rfl hn hcap hbb hro.1 hro.2
  exact Go.via st (kk T' h' h.size k rfl ⟨P.1, X', e'⟩ E (Arv.new A hn))
theorem G.alen (P : Pos p l e R s m args below meth c Z own bytes ml ret nm T h locs cells slots) {a : Addr} {k : ClassId} {ty : FieldType} {z : Int32} {vs : List Value} {dv : Value} (V : Arv Z h a k ty z vs dv) (hd : decode bytes pc = .ok (.arraylength, 1)) (hp : pc + 1 = pc')
    (kk : Go p e below FF (T.setTop (mkF m pc' Ls (.int z :: St)))) : Go p e below FF (T.setTop (mkF m pc Ls (.ref a :: St))) := by
  subst hp
  obtain ⟨cl, A, -, S, N, -⟩ := V
  refine Go.via (fun t => P.st.arraylength P.x (cell := cl) (by rw [P.eh]; exact A.1) (State.isArrayOf_alike P.z.alike A.2.1) (g := mkF m pc Ls (.ref a :: St)) rfl rfl (hb P.bt hd) t) ?_
  rw [len_of S N]; exact kk
theorem G.stI (P : Pos p l e R s m args below meth c Z own bytes ml ret nm T h locs cells slots) {a : Addr} {k : ClassId} {z : Int32} {vs : List Value} {dv : Value} (V : Arv Z h a k .int z vs dv) {j x : Int32} (i : Nat) (hi : j.toNatClampNeg = i) (hin : ¬ j < 0 ∧ j < z) (hl : i < vs.length) (hd : decode bytes pc = .ok (.iastore, 1)) (hp : pc + 1 = pc')
    (kk : ∀ T' h', Pos p l e R s m args below meth c Z own bytes ml ret nm T' h' (locs ++ [⟨a, i⟩]) cells slots → Wr h h' a i (.int x) → Arv Z h' a k .int z (vs.set i (.int x)) dv → Go p e below FF (T'.setTop (mkF m pc' Ls St))) : Go p e below FF (T.setTop (mkF m pc Ls (.int x :: .int j :: .ref a :: St))) := by
  subst hp hi
  obtain ⟨cl, A, q1, S, N, H, Gf⟩ := V
  obtain ⟨T', h', X', e', W, st⟩ := Jvm.RoadKit.stI P.st P.x P.z P.eh A (inb_of S hin) (g := mkF m pc Ls (.int x :: .int j :: .ref a :: St)) rfl rfl (hb P.bt hd)
  exact Go.via st (kk T' h' ⟨P.1, X', e'⟩ W (Arv.set A q1 S N H Gf rfl W _ rfl hl))
theorem G.stB (P : Pos p l e R s m args below meth c Z own bytes ml ret nm T h locs cells slots) {a : Addr} {k : ClassId} {z : Int32} {vs : List Value} {dv : Value} (V : Arv Z h a k .byte z vs dv) {j x : Int32} (i : Nat) (hi : j.toNatClampNeg = i) (hin : ¬ j < 0 ∧ j < z) (hl : i < vs.length) (hd : decode bytes pc = .ok (.bastore, 1)) (hp : pc + 1 = pc')
    (kk : ∀ T' h', Pos p l e R s m args below meth c Z own bytes ml ret nm T' h' (locs ++ [⟨a, i⟩]) cells slots → Wr h h' a i (.int (nar .byte x)) → Arv Z h' a k .byte z (vs.set i (.int (nar .byte x))) dv → Go p e below FF (T'.setTop (mkF m pc' Ls St))) : Go p e below FF (T.setTop (mkF m pc Ls (.int x :: .int j :: .ref a :: St))) := by
  subst hp hi
  obtain ⟨cl, A, q1, S, N, H, Gf⟩ := V
  obtain ⟨T', h', X', e', W, st⟩ := Jvm.RoadKit.stB P.st P.x P.z P.eh A (inb_of S hin) (g := mkF m pc Ls (.int x :: .int j :: .ref a :: St)) rfl rfl (hb P.bt hd)
  exact Go.via st (kk T' h' ⟨P.1, X', e'⟩ W (Arv.set A q1 S N H Gf (fits_nar_byte _) W _ rfl hl))
theorem G.stZ (P : Pos p l e R s m args below meth c Z own bytes ml ret nm T h locs cells slots) {a : Addr} {k : ClassId} {z : Int32} {vs : List Value} {dv : Value} (V : Arv Z h a k .boolean z vs dv) {j x : Int32} (i : Nat) (hi : j.toNatClampNeg = i) (hin : ¬ j < 0 ∧ j < z) (hl : i < vs.length) (hd : decode bytes pc = .ok (.bastore, 1)) (hp : pc + 1 = pc')
    (kk : ∀ T' h', Pos p l e R s m args below meth c Z own bytes ml ret nm T' h' (locs ++ [⟨a, i⟩]) cells slots → Wr h h' a i (.int (nar .boolean x)) → Arv Z h' a k .boolean z (vs.set i (.int (nar .boolean x))) dv → Go p e below FF (T'.setTop (mkF m pc' Ls St))) : Go p e below FF (T.setTop (mkF m pc Ls (.int x :: .int j :: .ref a :: St))) := by
  subst hp hi
  obtain ⟨cl, A, q1, S, N, H, Gf⟩ := V
  obtain ⟨T', h', X', e', W, st⟩ := Jvm.RoadKit.stZ P.st P.x P.z P.eh A (inb_of S hin) (g := mkF m pc Ls (.int x :: .int j :: .ref a :: St)) rfl rfl (hb P.bt hd)
  exact Go.via st (kk T' h' ⟨P.1, X', e'⟩ W (Arv.set A q1 S N H Gf (fits_nar_bool _) W _ rfl hl))
theorem G.stC (P : Pos p l e R s m args below meth c Z own bytes ml ret nm T h locs cells slots) {a : Addr} {k : ClassId} {z : Int32} {vs : List Value} {dv : Value} (V : Arv Z h a k .char z vs dv) {j x : Int32} (i : Nat) (hi : j.toNatClampNeg = i) (hin : ¬ j < 0 ∧ j < z) (hl : i < vs.length) (hd : decode bytes pc = .ok (.castore, 1)) (hp : pc + 1 = pc')
    (kk : ∀ T' h', Pos p l e R s m args below meth c Z own bytes ml ret nm T' h' (locs ++ [⟨a, i⟩]) cells slots → Wr h h' a i (.int (nar .char x)) → Arv Z h' a k .char z (vs.set i (.int (nar .char x))) dv → Go p e below FF (T'.setTop (mkF m pc' Ls St))) : Go p e below FF (T.setTop (mkF m pc Ls (.int x :: .int j :: .ref a :: St))) := by
  subst hp hi
  obtain ⟨cl, A, q1, S, N, H, Gf⟩ := V
  obtain ⟨T', h', X', e', W, st⟩ := Jvm.RoadKit.stC P.st P.x P.z P.eh A (inb_of S hin) (g := mkF m pc Ls (.int x :: .int j :: .ref a :: St)) rfl rfl (hb P.bt hd)
  exact Go.via st (kk T' h' ⟨P.1, X', e'⟩ W (Arv.set A q1 S N H Gf (fits_nar_char _) W _ rfl hl))
theorem G.iaload (P : Pos p l e R s m args below meth c Z own bytes ml ret nm T h locs cells slots) {a : Addr} {k : ClassId} {z : Int32} {vs : List Value} {dv : Value} (V : Arv Z h a k .int z vs dv) {j : Int32} {v : Value} (hin : ¬ j < 0 ∧ j < z) (hv : vs.getD j.toNatClampNeg dv = v) (hd : decode bytes pc = .ok (.iaload, 1)) (hp : pc + 1 = pc')
    (kk : Go p e below FF (T.setTop (mkF m pc' Ls (v :: St)))) : Go p e below FF (T.setTop (mkF m pc Ls (.int j :: .ref a :: St))) := by
  subst hp
  obtain ⟨cl, A, q1, S, N, H, Gf⟩ := V
  have hb' := inb_of S hin
  exact Go.via (fun t => P.st.iaload P.x (by rw [P.eh]; exact A.1) (State.isArrayOf_alike P.z.alike A.2.1) A.2.2 hb' (Has.at H hb' hv) (g := mkF m pc Ls (.int j :: .ref a :: St)) rfl rfl (hb P.bt hd) t) kk
theorem G.baloadB (P : Pos p l e R s m args below meth c Z own bytes ml ret nm T h locs cells slots) {a : Addr} {k : ClassId} {z : Int32} {vs : List Value} {dv : Value} (V : Arv Z h a k .byte z vs dv) {j : Int32} {v : Value} (hin : ¬ j < 0 ∧ j < z) (hv : vs.getD j.toNatClampNeg dv = v) (hd : decode bytes pc = .ok (.baload, 1)) (hp : pc + 1 = pc')
    (kk : Go p e below FF (T.setTop (mkF m pc' Ls (v :: St)))) : Go p e below FF (T.setTop (mkF m pc Ls (.int j :: .ref a :: St))) := by
  subst hp
  obtain ⟨cl, A, q1, S, N, H, Gf⟩ := V
  have hb' := inb_of S hin
  exact Go.via (fun t => P.st.baloadBytes P.x (by rw [P.eh]; exact A.1) (State.isArrayOf_alike P.z.alike A.2.1) A.2.2 hb' (Has.at H hb' hv) (g := mkF m pc Ls (.int j :: .ref a :: St)) rfl rfl (hb P.bt hd) t) kk
theorem G.baloadZ (P : Pos p l e R s m args below meth c Z own bytes ml ret nm T h locs cells slots) {a : Addr} {k : ClassId} {z : Int32} {vs : List Value} {dv : Value} (V : Arv Z h a k .boolean z vs dv) {j : Int32} {v : Value} (hin : ¬ j < 0 ∧ j < z) (hv : vs.getD j.toNatClampNeg dv = v) (hd : decode bytes pc = .ok (.baload, 1)) (hp : pc + 1 = pc')
    (kk : Go p e below FF (T.setTop (mkF m pc' Ls (v :: St)))) : Go p e below FF (T.setTop (mkF m pc Ls (.int j :: .ref a :: St))) := by
  subst hp
  obtain ⟨cl, A, q1, S, N, H, Gf⟩ := V
  have hb' := inb_of S hin
  exact Go.via (fun t => P.st.baloadBooleans P.x (by rw [P.eh]; exact A.1) (State.isArrayOf_alike P.z.alike A.2.1) A.2.2 hb' (Has.at H hb' hv) (g := mkF m pc Ls (.int j :: .ref a :: St)) rfl rfl (hb P.bt hd) t) kk
theorem G.aaload (P : Pos p l e R s m args below meth c Z own bytes ml ret nm T h locs cells slots) {a : Addr} {k : ClassId} {ty : FieldType} {z : Int32} {vs : List Value} {dv : Value} (V : Arv Z h a k ty z vs dv) (hty : ty.isReference = true) {j : Int32} {v : Value} (hin : ¬ j < 0 ∧ j < z) (hv : vs.getD j.toNatClampNeg dv = v) (hd : decode bytes pc = .ok (.aaload, 1)) (hp : pc + 1 = pc')
    (kk : Go p e below FF (T.setTop (mkF m pc' Ls (v :: St)))) : Go p e below FF (T.setTop (mkF m pc Ls (.int j :: .ref a :: St))) := by
  subst hp
  obtain ⟨cl, A, q1, S, N, H, Gf⟩ := V
  have hb' := inb_of S hin
  exact Go.via (fun t => P.st.aaload P.x (by rw [P.eh]; exact A.1) (State.isArrayOf_alike P.z.alike A.2.1) hty A.2.2 hb' (Has.at H hb' hv) (g := mkF m pc Ls (.int j :: .ref a :: St)) rfl rfl (hb P.bt hd) t) kk
/-! ### returns -/
theorem Go.end_ {S0 : State} (P : Pos p l e R s m args below meth c Z own bytes ml ret nm T h locs cells slots) {v : Option Value} (hv : ret = none → v = none) (hc : cells ≤ cs) (hs : slots ≤ ss) (hq : Q v h locs)
    (st : ∀ fs, (∀ (f : JFrame) (acts : List Action), f.method = m → f.locked = none → f.entered = [] → (doReturn e (T.setTop f) acts v).1 = T.setFrames fs) → Steps p.tables e below S0 (T.setFrames fs)) : Go p e below (NF s cs ss Q) S0 := by
  have hlk := P.lk
  obtain ⟨fs, hr, hrun, hended, hW, hsame⟩ := P.st.leave (v := v) (fun q => hv (P.rt.symm.trans q)) hlk
  refine ⟨_, _, st fs hr, hrun, hended, _, rfl, _, ?_, ⟨_, rfl⟩, hW, hsame.mono hc hs⟩
  have q : (T.setFrames fs).heap = h := P.eh
  rw [q]; exact hq
theorem G.retI (P : Pos p l e R s m args below meth c Z own bytes ml (some .int) nm T h locs cells slots) {z : Int32} (hd : decode bytes pc = .ok (.ireturn, 1)) (hc : cells ≤ cs) (hs : slots ≤ ss) (hq : Q (some (.int z)) h locs) : Go p e below (NF s cs ss Q) (T.setTop (mkF m pc Ls (.int z :: St))) :=
  Go.end_ P (fun q => by cases q) hc hs hq (fun fs hr => Jvm.RoadKit.retI P.st P.x P.rt (hb P.bt hd) hr)
theorem G.retN (P : Pos p l e R s m args below meth c Z own bytes ml ret nm T h locs cells slots) {z : Int32} {t : FieldType} (ht : ret = some t) (ht2 : t = .boolean ∨ t = .byte ∨ t = .char ∨ t = .short) (hd : decode bytes pc = .ok (.ireturn, 1)) (hc : cells ≤ cs) (hs : slots ≤ ss) (hq : Q (some (.int (nar t z))) h locs) : Go p e below (NF s cs ss Q) (T.setTop (mkF m pc Ls (.int z :: St))) :=
  Go.end_ P (fun q => by rw [ht] at q; cases q) hc hs hq (fun fs hr => Jvm.RoadKit.retN P.st P.x (P.rt.trans ht) ht2 (hb P.bt hd) hr)
theorem G.retV (P : Pos p l e R s m args below meth c Z own bytes ml none nm T h locs cells slots) (hd : decode bytes pc = .ok (.return_, 1)) (hc : cells ≤ cs) (hs : slots ≤ ss) (hq : Q none h locs) : Go p e below (NF s cs ss Q) (T.setTop (mkF m pc Ls [])) :=
  Go.end_ P (fun _ => rfl) hc hs hq (fun fs hr => P.st.returnOut P.x P.rt (hb P.bt hd) hr)
theorem G.retA (P : Pos p l e R s m args below meth c Z own bytes ml ret nm T h locs cells slots) {w : Value} {t : FieldType} (ht : ret = some t) (ht2 : t.isReference = true) (hw : w.isRef = true) (hd : decode bytes pc = .ok (.areturn, 1)) (hc : cells ≤ cs) (hs : slots ≤ ss) (hq : Q (some w) h locs) : Go p e below (NF s cs ss Q) (T.setTop (mkF m pc Ls [w])) :=
  Go.end_ P (fun q => by rw [ht] at q; cases q) hc hs hq (fun fs hr => P.st.areturnOut P.x hw (P.rt.trans ht) ht2 (hb P.bt hd) hr)
theorem G.retJ (P : Pos p l e R s m args below meth c Z own bytes ml (some .long) nm T h locs cells slots) {w : Int64} (hd : decode bytes pc = .ok (.lreturn, 1)) (hc : cells ≤ cs) (hs : slots ≤ ss) (hq : Q (some (.long w)) h locs) : Go p e below (NF s cs ss Q) (T.setTop (mkF m pc Ls [.long w])) :=
  Go.end_ P (fun q => by cases q) hc hs hq (fun fs hr => P.st.lreturnOut P.x P.rt (hb P.bt hd) hr)
/-! ### calls -/
theorem Pos.re (P : Pos p l e R s m args below meth c Z own bytes ml ret nm T h locs cells slots) {T' : State} {h' : Heap} {locs' : List Loc} {cells' slots' : Nat} (X' : Stand p l e R s m args below meth c T' locs' cells' slots') (e' : T'.heap = h') : Pos p l e R s m args below meth c Z own bytes ml ret nm T' h' locs' cells' slots' := ⟨P.1, X', e'⟩
theorem G.callS (P : Pos p l e R s m args below meth c Z own bytes ml ret nm T h locs cells slots) {y : MethodName} {by' : ByteArray} {ml' : Nat} {ret' : Option FieldType} {i : Nat} {rm : Room} {as' : Array Value} {Qc : Option Value → Heap → List Loc → Prop} (hM : OMeets l Z y by' ml' ret' rm as' h Qc)
    (w1 : (Jvm.Cond.methodLink own i y).before a0 Z = true) (w2 : (Jvm.Cond.static y).before a0 Z = true) (w3 : (Jvm.Cond.initialized y.cls).before a0 Z = true) (w4 : (Jvm.Cond.code y by' ml' ret').before a0 Z = true)
    (hy : y.cls ≠ "java/lang/invoke/MethodHandle" ∧ y.cls ≠ "java/lang/invoke/VarHandle") {ps : List FieldType} {r : Option FieldType} (hds : parseMethodDescriptor y.desc = some ⟨ps, r⟩) {argsL rest : List Value} (hal : argsL.length = ps.length) (hst : argsL.reverse ++ rest = St) (has : argsL.toArray = as') (hsz : Ls.size = ml)
    {W : Nat} (hW : (rest.map fun v => v.category).sum ≤ W) (hro : rm.frames + 1 ≤ R.frames ∧ W + (ml' + 11) + rm.locals ≤ R.locals ∧ cells + rm.cells ≤ R.cells ∧ slots + rm.slots ≤ R.slots)
    (hd : decode bytes pc = .ok (.invokestatic i, 3)) (hp : pc + 3 = pc')
    (kk : ∀ T' L v, Pos p l e R s m args below meth c Z own bytes ml ret nm T' T'.heap (locs ++ L) (cells + rm.cells) (slots + rm.slots) → Qc v T'.heap L → Go p e below FF (T'.setTop (mkF m pc' Ls (v.toList ++ rest)))) : Go p e below FF (T.setTop (mkF m pc Ls St)) := by
  subst hp hst has
  obtain ⟨v, _, ⟨T', L', k', n'⟩, -, X', ⟨Lc, hQ, l1, l2, l3⟩, st⟩ := Jvm.LawKit.callS P.st P.x (y := y) P.ow (mvT P.z w1) (mvT P.z w2) (mvT P.z w3) (mvT P.z w4) hy (backOf (W := W) hM P.z w4 w3 hro.1 hro.2.1) (g := mkF m pc Ls (argsL.reverse ++ rest)) rfl (by rw [P.mx]; exact hsz) (argsL := argsL) (rest := rest) (lenOf hds hal) rfl (by show 2 * 0 + _ ≤ _; omega) (hb P.bt hd) (fun _ _ => ⟨rfl, P.eh, hro.2.2.1, hro.2.2.2⟩)
  dsimp only [Pt.U, Pt.locs, Pt.cells, Pt.slots] at X' l1 l2 l3 st hQ
  subst l1 l2 l3
  exact Go.via st (kk T' Lc v ⟨P.1, X', rfl⟩ hQ)
theorem G.callSP (P : Pos p l e R s m args below meth c Z own bytes ml ret nm T h locs cells slots) {y : MethodName} {by' : ByteArray} {ml' : Nat} {ret' : Option FieldType} {i fr lo : Nat} {as' : Array Value} {v0 : Option Value} (hM : OMeets l Z y by' ml' ret' ⟨fr, 0, 0, lo⟩ as' h (OPure v0 h))
    (w1 : (Jvm.Cond.methodLink own i y).before a0 Z = true) (w2 : (Jvm.Cond.static y).before a0 Z = true) (w3 : (Jvm.Cond.initialized y.cls).before a0 Z = true) (w4 : (Jvm.Cond.code y by' ml' ret').before a0 Z = true)
    (hy : y.cls ≠ "java/lang/invoke/MethodHandle" ∧ y.cls ≠ "java/lang/invoke/VarHandle") {ps : List FieldType} {r : Option FieldType} (hds : parseMethodDescriptor y.desc = some ⟨ps, r⟩) {argsL rest : List Value} (hal : argsL.length = ps.length) (hst : argsL.reverse ++ rest = St) (has : argsL.toArray = as') (hsz : Ls.size = ml)
    {W : Nat} (hW : (rest.map fun v => v.category).sum ≤ W) (hro : fr + 1 ≤ R.frames ∧ W + (ml' + 11) + lo ≤ R.locals ∧ cells ≤ R.cells ∧ slots ≤ R.slots)
    (hd : decode bytes pc = .ok (.invokestatic i, 3)) (hp : pc + 3 = pc')
    (kk : ∀ T', Pos p l e R s m args below meth c Z own bytes ml ret nm T' h locs cells slots → Go p e below FF (T'.setTop (mkF m pc' Ls (v0.toList ++ rest)))) : Go p e below FF (T.setTop (mkF m pc Ls St)) := by
  refine G.callS P hM w1 w2 w3 w4 hy hds hal hst has hsz hW hro hd hp fun T' L v P' hQ => ?_
  obtain ⟨rfl, e, rfl⟩ := hQ
  rw [List.append_nil] at P'
  exact kk T' ⟨P'.1, P'.2.1, e⟩
theorem G.callV (P : Pos p l e R s m args below meth c Z own bytes ml ret nm T h locs cells slots) {C : String} {y z : MethodName} {by' : ByteArray} {ml' : Nat} {ret' : Option FieldType} {i : Nat} {rm : Room} {as' : Array Value} {Qc : Option Value → Heap → List Loc → Prop} (hM : OMeets l Z z by' ml' ret' rm as' h Qc)
    (w1 : (Jvm.Cond.methodLink own i y).before a0 Z = true) (w2 : (Jvm.Cond.declares y).before a0 Z = true) (w3 : (Jvm.Cond.selects C y z).before a0 Z = true) (hyz : y = z) (w4 : (Jvm.Cond.instanceMethod z).before a0 Z = true) (w5 : (Jvm.Cond.initialized z.cls).before a0 Z = true) (w6 : (Jvm.Cond.code z by' ml' ret').before a0 Z = true)
    (hy : y.cls ≠ "java/lang/invoke/MethodHandle" ∧ y.cls ≠ "java/lang/invoke/VarHandle") {b : Addr} (E : Exa Z h b C) {ps : List FieldType} {r : Option FieldType} (hds : parseMethodDescriptor y.desc = some ⟨ps, r⟩) {argsL rest : List Value} (hal : argsL.length = ps.length) (hst : argsL.reverse ++ .ref b :: rest = St) (has : (.ref b :: argsL).toArray = as') (hsz : Ls.size = ml)
    {W : Nat} (hW : (rest.map fun v => v.category).sum ≤ W) (hro : rm.frames + 1 ≤ R.frames ∧ W + (ml' + 11) + rm.locals ≤ R.locals ∧ cells + rm.cells ≤ R.cells ∧ slots + rm.slots ≤ R.slots)
    (hd : decode bytes pc = .ok (.invokevirtual i, 3)) (hp : pc + 3 = pc')
    (kk : ∀ T' L v, Pos p l e R s m args below meth c Z own bytes ml ret nm T' T'.heap (locs ++ L) (cells + rm.cells) (slots + rm.slots) → Qc v T'.heap L → Go p e below FF (T'.setTop (mkF m pc' Ls (v.toList ++ rest)))) : Go p e below FF (T.setTop (mkF m pc Ls St)) := by
  subst hp hst has hyz
  obtain ⟨cB, kB, q1, q2, q3⟩ := isOf P.z P.eh E
  obtain ⟨v, _, ⟨T', L', k', n'⟩, -, X', ⟨Lc, hQ, l1, l2, l3⟩, st⟩ := P.st.virtualBack P.x (y := y) (z := y) P.ow (mvT P.z w1) (mvT P.z w2) (notFace_of_selects (args := #[]) (mvT P.z w3)) (mvT P.z w3) (mvT P.z w4) hy (backOf (W := W) hM P.z w6 w5 hro.1 hro.2.1) q1 q3 (g := mkF m pc Ls (argsL.reverse ++ .ref b :: rest)) rfl (by rw [P.mx]; exact hsz) (Steps.refl _) (argsL := argsL) (rest := rest) (lenOf hds hal) rfl (by show 2 * 0 + _ ≤ _; omega) (hb P.bt hd) (fun _ _ => ⟨rfl, P.eh, hro.2.2.1, hro.2.2.2⟩)
  dsimp only [Pt.U, Pt.locs, Pt.cells, Pt.slots] at X' l1 l2 l3 st hQ
  subst l1 l2 l3
  exact Go.come st (kk T' Lc v ⟨P.1, X', rfl⟩ hQ)
theorem G.callVP (P : Pos p l e R s m args below meth c Z own bytes ml ret nm T h locs cells slots) {C : String} {y z : MethodName} {by' : ByteArray} {ml' : Nat} {ret' : Option FieldType} {i fr lo : Nat} {as' : Array Value} {v0 : Option Value} (hM : OMeets l Z z by' ml' ret' ⟨fr, 0, 0, lo⟩ as' h (OPure v0 h))
    (w1 : (Jvm.Cond.methodLink own i y).before a0 Z = true) (w2 : (Jvm.Cond.declares y).before a0 Z = true) (w3 : (Jvm.Cond.selects C y z).before a0 Z = true) (hyz : y = z) (w4 : (Jvm.Cond.instanceMethod z).before a0 Z = true) (w5 : (Jvm.Cond.initialized z.cls).before a0 Z = true) (w6 : (Jvm.Cond.code z by' ml' ret').before a0 Z = true)
    (hy : y.cls ≠ "java/lang/invoke/MethodHandle" ∧ y.cls ≠ "java/lang/invoke/VarHandle") {b : Addr} (E : Exa Z h b C) {ps : List FieldType} {r : Option FieldType} (hds : parseMethodDescriptor y.desc = some ⟨ps, r⟩) {argsL rest : List Value} (hal : argsL.length = ps.length) (hst : argsL.reverse ++ .ref b :: rest = St) (has : (.ref b :: argsL).toArray = as') (hsz : Ls.size = ml)
    {W : Nat} (hW : (rest.map fun v => v.category).sum ≤ W) (hro : fr + 1 ≤ R.frames ∧ W + (ml' + 11) + lo ≤ R.locals ∧ cells ≤ R.cells ∧ slots ≤ R.slots)
    (hd : decode bytes pc = .ok (.invokevirtual i, 3)) (hp : pc + 3 = pc')
    (kk : ∀ T', Pos p l e R s m args below meth c Z own bytes ml ret nm T' h locs cells slots → Go p e below FF (T'.setTop (mkF m pc' Ls (v0.toList ++ rest)))) : Go p e below FF (T.setTop (mkF m pc Ls St)) := by
  refine G.callV P hM w1 w2 w3 hyz w4 w5 w6 hy E hds hal hst has hsz hW hro hd hp fun T' L v P' hQ => ?_
  obtain ⟨rfl, e, rfl⟩ := hQ
  rw [List.append_nil] at P'
  exact kk T' ⟨P'.1, P'.2.1, e⟩
theorem G.callI (P : Pos p l e R s m args below meth c Z own bytes ml ret nm T h locs cells slots) {y : MethodName} {by' : ByteArray} {ml' : Nat} {i : Nat} {rm : Room} {as' : Array Value} {Qc : Option Value → Heap → List Loc → Prop} (hM : OMeets l Z y by' ml' none rm as' h Qc) (hyn : y.name = "<init>")
    (w1 : (Jvm.Cond.methodLink own i y).before a0 Z = true) (w2 : (Jvm.Cond.instanceMethod y).before a0 Z = true) (w3 : (Jvm.Cond.initialized y.cls).before a0 Z = true) (w4 : (Jvm.Cond.code y by' ml' none).before a0 Z = true)
    (hy : y.cls ≠ "java/lang/invoke/MethodHandle" ∧ y.cls ≠ "java/lang/invoke/VarHandle") {b : Addr} {ps : List FieldType} {r : Option FieldType} (hds : parseMethodDescriptor y.desc = some ⟨ps, r⟩) {argsL rest : List Value} (hal : argsL.length = ps.length) (hst : argsL.reverse ++ .ref b :: rest = St) (has : (.ref b :: argsL).toArray = as') (hsz : Ls.size = ml)
    {W : Nat} (hW : (rest.map fun v => v.category).sum ≤ W) (hro : rm.frames + 1 ≤ R.frames ∧ W + (ml' + 11) + rm.locals ≤ R.locals ∧ cells + rm.cells ≤ R.cells ∧ slots + rm.slots ≤ R.slots)
    (hd : decode bytes pc = .ok (.invokespecial i, 3)) (hp : pc + 3 = pc')
    (kk : ∀ T' L v, Pos p l e R s m args below meth c Z own bytes ml ret nm T' T'.heap (locs ++ L) (cells + rm.cells) (slots + rm.slots) → Qc v T'.heap L → Go p e below FF (T'.setTop (mkF m pc' Ls (v.toList ++ rest)))) : Go p e below FF (T.setTop (mkF m pc Ls St)) := by
  subst hp hst has
  obtain ⟨v, _, ⟨T', L', k', n'⟩, -, X', ⟨Lc, hQ, l1, l2, l3⟩, st⟩ := P.st.specialBack P.x (y := y) hyn P.ow (mvT P.z w1) (mvT P.z w2) (mvT P.z w4) hy (backOf (W := W) hM P.z w4 w3 hro.1 hro.2.1) (g := mkF m pc Ls (argsL.reverse ++ .ref b :: rest)) rfl (by rw [P.mx]; exact hsz) (Steps.refl _) (a := b) (argsL := argsL) (rest := rest) (lenOf hds hal) rfl (by show 2 * 0 + _ ≤ _; omega) (hb P.bt hd) (fun _ _ => ⟨rfl, P.eh, hro.2.2.1, hro.2.2.2⟩)
  dsimp only [Pt.U, Pt.locs, Pt.cells, Pt.slots] at X' l1 l2 l3 st hQ
  subst l1 l2 l3
  exact Go.come st (kk T' Lc v ⟨P.1, X', rfl⟩ hQ)
theorem G.callIP (P : Pos p l e R s m args below meth c Z own bytes ml ret nm T h locs cells slots) {y : MethodName} {by' : ByteArray} {ml' : Nat} {i fr lo : Nat} {as' : Array Value} {v0 : Option Value} (hM : OMeets l Z y by' ml' none ⟨fr, 0, 0, lo⟩ as' h (OPure v0 h)) (hyn : y.name = "<init>")
    (w1 : (Jvm.Cond.methodLink own i y).before a0 Z = true) (w2 : (Jvm.Cond.instanceMethod y).before a0 Z = true) (w3 : (Jvm.Cond.initialized y.cls).before a0 Z = true) (w4 : (Jvm.Cond.code y by' ml' none).before a0 Z = true)
    (hy : y.cls ≠ "java/lang/invoke/MethodHandle" ∧ y.cls ≠ "java/lang/invoke/VarHandle") {b : Addr} {ps : List FieldType} {r : Option FieldType} (hds : parseMethodDescriptor y.desc = some ⟨ps, r⟩) {argsL rest : List Value} (hal : argsL.length = ps.length) (hst : argsL.reverse ++ .ref b :: rest = St) (has : (.ref b :: argsL).toArray = as') (hsz : Ls.size = ml)
    {W : Nat} (hW : (rest.map fun v => v.category).sum ≤ W) (hro : fr + 1 ≤ R.frames ∧ W + (ml' + 11) + lo ≤ R.locals ∧ cells ≤ R.cells ∧ slots ≤ R.slots)
    (hd : decode bytes pc = .ok (.invokespecial i, 3)) (hp : pc + 3 = pc')
    (kk : ∀ T', Pos p l e R s m args below meth c Z own bytes ml ret nm T' h locs cells slots → Go p e below FF (T'.setTop (mkF m pc' Ls (v0.toList ++ rest)))) : Go p e below FF (T.setTop (mkF m pc Ls St)) := by
  refine G.callI P hM hyn w1 w2 w3 w4 hy hds hal hst has hsz hW hro hd hp fun T' L v P' hQ => ?_
  obtain ⟨rfl, e, rfl⟩ := hQ
  rw [List.append_nil] at P'
  exact kk T' ⟨P'.1, P'.2.1, e⟩
theorem Pos.more (P : Pos p l e R s m args below meth c Z own bytes ml ret nm T h locs cells slots) {cells' slots' : Nat} (hc : cells ≤ cells') (hs : slots ≤ slots') : Pos p l e R s m args below meth c Z own bytes ml ret nm T h locs cells' slots' :=
  ⟨P.1, P.st.more hc hs, P.2.2⟩
theorem G.callF (P : Pos p l e R s m args below meth c Z own bytes ml ret nm T h locs cells slots) {C : String} {xi y : MethodName} {by' : ByteArray} {ml' : Nat} {ret' : Option FieldType} {i cnt : Nat} {rm : Room} {as' : Array Value} {Qc : Option Value → Heap → List Loc → Prop} (hM : OMeets l Z y by' ml' ret' rm as' h Qc)
    (w1 : (Jvm.Cond.methodLink own i xi).before a0 Z = true) (w2 : (Jvm.Cond.declares xi).before a0 Z = true) (w3 : (Jvm.Cond.interfaceMethod xi.cls xi.cls xi.name xi.desc).before a0 Z = true) (w4 : (Jvm.Cond.selects C xi y).before a0 Z = true) (w5 : (Jvm.Cond.instanceMethod y).before a0 Z = true)
    (w6 : (Jvm.Cond.publicMethod y).before a0 Z = true) (w7 : (Jvm.Cond.unhidden C xi.name xi.desc).before a0 Z = true) (w8 : (Jvm.Cond.castable C xi.cls).before a0 Z = true) (w9 : (Jvm.Cond.initialized y.cls).before a0 Z = true) (w10 : (Jvm.Cond.code y by' ml' ret').before a0 Z = true)
    (hy : xi.cls ≠ "java/lang/invoke/MethodHandle" ∧ xi.cls ≠ "java/lang/invoke/VarHandle") {b : Addr} (E : Exa Z h b C) {ps : List FieldType} {r : Option FieldType} (hds : parseMethodDescriptor xi.desc = some ⟨ps, r⟩) {argsL rest : List Value} (hal : argsL.length = ps.length) (hst : argsL.reverse ++ .ref b :: rest = St) (has : (.ref b :: argsL).toArray = as') (hsz : Ls.size = ml)
    {W : Nat} (hW : (rest.map fun v => v.category).sum ≤ W) (hro : rm.frames + 1 ≤ R.frames ∧ W + (ml' + 11) + rm.locals ≤ R.locals ∧ cells + rm.cells ≤ R.cells ∧ slots + rm.slots ≤ R.slots)
    (hd : decode bytes pc = .ok (.invokeinterface i cnt, 5)) (hp : pc + 5 = pc')
    (kk : ∀ T' L v, Pos p l e R s m args below meth c Z own bytes ml ret nm T' T'.heap (locs ++ L) (cells + rm.cells) (slots + rm.slots) → Qc v T'.heap L → Go p e below FF (T'.setTop (mkF m pc' Ls (v.toList ++ rest)))) : Go p e below FF (T.setTop (mkF m pc Ls St)) := by
  subst hp hst has
  obtain ⟨cB, kB, q1, q2, q3⟩ := isOf P.z P.eh E
  obtain ⟨v, _, ⟨T', L', k', n'⟩, -, X', ⟨Lc, hQ, l1, l2, l3⟩, st⟩ := P.st.interfaceBack P.x (xi := xi) (y := y) P.ow (mvT P.z w1) (mvT P.z w2) (mvT P.z w3 (by simp [Cond.onTables, Cond.keepsFace, Cond.keeps, Cond.steady, Cond.faceAtom, hy.1, hy.2])) (mvT P.z w4) (mvT P.z w5) (mvT P.z w6) (mvT P.z w7) (mvT P.z w8) hy (backOf (W := W) hM P.z w10 w9 hro.1 hro.2.1) q1 q2 q3 (g := mkF m pc Ls (argsL.reverse ++ .ref b :: rest)) rfl (by rw [P.mx]; exact hsz) (Steps.refl _) (argsL := argsL) (rest := rest) (lenOf hds hal) rfl (by show 2 * 0 + _ ≤ _; omega) (hb P.bt hd) (fun _ _ => ⟨rfl, P.eh, hro.2.2.1, hro.2.2.2⟩)
  dsimp only [Pt.U, Pt.locs, Pt.cells, Pt.slots] at X' l1 l2 l3 st hQ
  subst l1 l2 l3
  exact Go.come st (kk T' Lc v ⟨P.1, X', rfl⟩ hQ)
theorem G.callQ (P : Pos p l e R s m args below meth c Z own bytes ml ret nm T h locs cells slots) {y x0 z0 : MethodName} {C C0 : String} {by' : ByteArray} {ml' : Nat} {ret' : Option FieldType} {i : Nat} {rm : Room} {as' : Array Value} {Qc : Option Value → Heap → List Loc → Prop} (hM : OMeets l Z y by' ml' ret' rm as' h Qc)
    (w1 : (Jvm.Cond.methodLink own i y).before a0 Z = true) (w2 : (Jvm.Cond.instanceMethod y).before a0 Z = true) (w3 : (Jvm.Cond.selects C0 x0 z0).before a0 Z = true) (hz0 : z0.cls = y.cls) (w4 : (Jvm.Cond.privateMethod y).before a0 Z = true) (w5 : (Jvm.Cond.initialized y.cls).before a0 Z = true) (w6 : (Jvm.Cond.code y by' ml' ret').before a0 Z = true)
    (hy : y.cls ≠ "java/lang/invoke/MethodHandle" ∧ y.cls ≠ "java/lang/invoke/VarHandle") {b : Addr} (E : Exa Z h b C) {ps : List FieldType} {r : Option FieldType} (hds : parseMethodDescriptor y.desc = some ⟨ps, r⟩) {argsL rest : List Value} (hal : argsL.length = ps.length) (hst : argsL.reverse ++ .ref b :: rest = St) (has : (.ref b :: argsL).toArray = as') (hsz : Ls.size = ml)
    {W : Nat} (hW : (rest.map fun v => v.category).sum ≤ W) (hro : rm.frames + 1 ≤ R.frames ∧ W + (ml' + 11) + rm.locals ≤ R.locals ∧ cells + rm.cells ≤ R.cells ∧ slots + rm.slots ≤ R.slots)
    (hd : decode bytes pc = .ok (.invokevirtual i, 3)) (hp : pc + 3 = pc')
    (kk : ∀ T' L v, Pos p l e R s m args below meth c Z own bytes ml ret nm T' T'.heap (locs ++ L) (cells + rm.cells) (slots + rm.slots) → Qc v T'.heap L → Go p e below FF (T'.setTop (mkF m pc' Ls (v.toList ++ rest)))) : Go p e below FF (T.setTop (mkF m pc Ls St)) := by
  subst hp hst has
  obtain ⟨cq, q1, q2⟩ := E.cell
  obtain ⟨mk, mM, hn, hmM, hsM, haM⟩ := Cond.instanceMethod_spec (mvT (args := args) P.z w2)
  obtain ⟨mM', cM, hmM', -, -, -, -, -, -, hsg⟩ := Cond.code_spec hn (mvT (args := args) P.z w6)
  cases hmM.symm.trans hmM'
  obtain ⟨-, -, m2, -, -, q3, -, kP, hkP, hkI⟩ := Cond.selects_spec (mvT (args := args) P.z w3)
  have e1 := findClass_of_methodNamed q3
  rw [hz0] at e1
  have hcl : m2.cls = mk.cls := Option.some.inj (e1.symm.trans (findClass_of_methodNamed hn))
  rw [hcl] at hkP
  have hs0 : selectMethod e.platform s.vm cq.cls mk = .method mk := selectMethod_private hmM (Cond.privateMethod_at (mvP P.z w4 (args := #[])) mk mM hn hmM)
  obtain ⟨vm₁, X₁, st₁⟩ := P.st.invokevirtual P.x P.ow (mvT P.z w1) hn hmM hsM hkP hkI hy (a := b) (cell := cq) (by rw [P.eh]; exact q1) q2 hs0 hmM haM hkP hkI (g := mkF m pc Ls (argsL.reverse ++ .ref b :: rest)) rfl (argsL := argsL) (rest := rest) (lenOf hds hal _ hsg) rfl (hb P.bt hd)
  obtain ⟨v, ⟨T', L', k', n'⟩, X', ⟨Lc, hQ, l1, l2, l3⟩, st₂⟩ := (backOf (W := W) (len := 3) (R := R) (p := p) (e := e) (below := below) (args := args) hM P.z w6 w5 hro.1 hro.2.1) m meth c ⟨T.setVm vm₁, locs, cells, slots⟩ (mkF m pc Ls rest) (.invokevirtual i) mk (.ref b :: argsL).toArray X₁ rfl (by rw [P.mx]; exact hsz) (hb P.bt hd) (by show 2 * 0 + (rest.map fun v => v.category).sum ≤ _; omega) (X₁.named hn) ⟨rfl, P.eh, hro.2.2.1, hro.2.2.2⟩
  dsimp only [Pt.U, Pt.locs, Pt.cells, Pt.slots] at X' l1 l2 l3 st₂ hQ
  subst l1 l2 l3
  exact Go.come ((st₁ _ fun acts => by rw [doInvoke_state]; exact Steps.refl _).trans st₂) (kk T' Lc v ⟨P.1, X', rfl⟩ hQ)
theorem pureK {v0 : Option Value} (kk : ∀ T', Pos p l e R s m args below meth c Z own bytes ml ret nm T' h locs cells slots → Go p e below FF (T'.setTop (mkF m pc' Ls (v0.toList ++ St)))) : ∀ T' L v, Pos p l e R s m args below meth c Z own bytes ml ret nm T' T'.heap (locs ++ L) (cells + 0) (slots + 0) → OPure v0 h v T'.heap L → Go p e below FF (T'.setTop (mkF m pc' Ls (v.toList ++ St))) := by
  intro T' L v P' hQ
  obtain ⟨rfl, e, rfl⟩ := hQ
  rw [List.append_nil] at P'
  exact kk T' ⟨P'.1, P'.2.1, e⟩
theorem hacw {W n : Nat} (q : W + 18 ≤ n) : W + (nativeFrameWords "java/lang/System" "arraycopy" 5 + 11) ≤ n := by
  have e : nativeFrameWords "java/lang/System" "arraycopy" 5 = 7 := by decide
  rw [e]; omega
theorem G.acopy (P : Pos p l e R s m args below meth c Z own bytes ml ret nm T h locs cells slots) {i : Nat} (w1 : (Jvm.Cond.methodLink own i Jvm.Stand.acN).before a0 Z = true) (w2 : (Jvm.Cond.native Jvm.Stand.acN).before a0 Z = true) (w3 : (Jvm.Cond.static Jvm.Stand.acN).before a0 Z = true) (w4 : (Jvm.Cond.initialized "java/lang/System").before a0 Z = true)
    {a b : Addr} {k k' : ClassId} {ty ty' : FieldType} {z z' sp dp nn : Int32} {vs vd us : List Value} {dv dd : Value} (A : Arv Z h a k ty z vs dv) (B : Arv Z h b k' ty' z' vd dd) (hty : (ty = ty' ∧ refKind ty = false) ∨ (refKind ty = true ∧ refKind ty' = true ∧ StoL Z h b us))
    (h1 : ¬ sp < 0) (h2 : ¬ dp < 0) (h3 : ¬ nn < 0) (h4 : sp.toNatClampNeg + nn.toNatClampNeg ≤ z.toNatClampNeg) (h5 : dp.toNatClampNeg + nn.toNatClampNeg ≤ z'.toNatClampNeg)
    (hus : us = (List.range nn.toNatClampNeg).map fun i => vs.getD (sp.toNatClampNeg + i) dv) (hl : dp.toNatClampNeg + nn.toNatClampNeg ≤ vd.length) {n0 : Nat} (N : Fr n0 locs) (ge : n0 ≤ b) (hsz : Ls.size = ml)
    {W : Nat} (hW : (St.map fun v => v.category).sum ≤ W) (hro : 1 ≤ R.frames ∧ W + 18 ≤ R.locals) (hd : decode bytes pc = .ok (.invokestatic i, 3)) (hp : pc + 3 = pc')
    (kk : ∀ T' h' L, Pos p l e R s m args below meth c Z own bytes ml ret nm T' h' L cells slots → Fr n0 L → Keep h h' [b] → Arv Z h' b k' ty' z' (vd.take dp.toNatClampNeg ++ us ++ vd.drop (dp.toNatClampNeg + nn.toNatClampNeg)) dd → Go p e below FF (T'.setTop (mkF m pc' Ls St))) :
    Go p e below FF (T.setTop (mkF m pc Ls (.int nn :: .int dp :: .ref b :: .int sp :: .ref a :: St))) := by
  subst hp
  obtain ⟨T', h', L, X', e', N', K, V, st⟩ := cpA P.st P.x P.z P.ow w1 w2 w3 w4 P.eh A B hty h1 h2 h3 h4 h5 hus hl N ge (g := mkF m pc Ls (.int nn :: .int dp :: .ref b :: .int sp :: .ref a :: St)) rfl (by rw [P.mx]; exact hsz) rfl (hb P.bt hd) hro.1 (W := W) (by show 2 * 0 + _ ≤ _; omega) (hacw hro.2)
  exact Go.via st (kk T' h' L ⟨P.1, X', e'⟩ N' K V)
theorem G.newR (P : Pos p l e R s m args below meth c Z own bytes ml ret nm T h locs cells slots) {C : String} {i : Nat} (w1 : (Jvm.Cond.classLink own i C).before a0 Z = true) (w2 : (Jvm.Cond.arrayOver (.object C)).before a0 Z = true) {n : Int32} (hn : ¬ n < 0) {cap : Nat} (hcap : n.toNatClampNeg ≤ cap) (hbb : cap * 8 ≤ 536870912) (hro : cells + 1 ≤ R.cells ∧ slots + cap ≤ R.slots) (hd : decode bytes pc = .ok (.anewarray i, 3)) (hp : pc + 3 = pc')
    (kk : ∀ T' h' a k, a = h.size → Pos p l e R s m args below meth c Z own bytes ml ret nm T' h' locs (cells + 1) (slots + cap) → Ext h h' → Arv Z h' a k (.object C) n [] .null → Ovr Z k C → Go p e below FF (T'.setTop (mkF m pc' Ls (.ref a :: St)))) : Go p e below FF (T.setTop (mkF m pc Ls (.int n :: St))) := by
  subst hp
  obtain ⟨T', h', k, X', e', E, A, O, st⟩ := Jvm.RoadKit.newR P.st P.x P.z P.ow w1 w2 P.eh (g := mkF m pc Ls (.int n :: St)) rfl (hb P.bt hd) rfl hn hcap hbb hro.1 hro.2
  exact Go.via st (kk T' h' h.size k rfl ⟨P.1, X', e'⟩ E (Arv.new A hn) O)
theorem G.stR (P : Pos p l e R s m args below meth c Z own bytes ml ret nm T h locs cells slots) {a : Addr} {k : ClassId} {ty : FieldType} {z : Int32} {vs : List Value} {dv : Value} (V : Arv Z h a k ty z vs dv) (hty : ty.isReference = true) {j : Int32} {y : Addr} {C : String} (O : Ovr Z k C) (I : Ins Z h y C true) (hft : fits ty (.ref y) = true) (i : Nat) (hi : j.toNatClampNeg = i) (hin : ¬ j < 0 ∧ j < z) (hl : i < vs.length) (hd : decode bytes pc = .ok (.aastore, 1)) (hp : pc + 1 = pc')
    (kk : ∀ T' h', Pos p l e R s m args below meth c Z own bytes ml ret nm T' h' (locs ++ [⟨a, i⟩]) cells slots → Wr h h' a i (.ref y) → Arv Z h' a k ty z (vs.set i (.ref y)) dv → Go p e below FF (T'.setTop (mkF m pc' Ls St))) : Go p e below FF (T.setTop (mkF m pc Ls (.ref y :: .int j :: .ref a :: St))) := by
  subst hp hi
  obtain ⟨cl, A, q1, S, N, H, Gf⟩ := V
  obtain ⟨T', h', X', e', W, st⟩ := Jvm.RoadKit.stR P.st P.x P.z P.eh A (inb_of S hin) hty (Sto.ofV A q1 O I) (g := mkF m pc Ls (.ref y :: .int j :: .ref a :: St)) rfl rfl (hb P.bt hd)
  exact Go.via st (kk T' h' ⟨P.1, X', e'⟩ W (Arv.set A q1 S N H Gf hft W _ rfl hl))
theorem G.cast (P : Pos p l e R s m args below meth c Z own bytes ml ret nm T h locs cells slots) {K : String} {i : Nat} (w : (Jvm.Cond.classLink own i K).before a0 Z = true) {a : Addr} (I : Ins Z h a K true) (hd : decode bytes pc = .ok (.checkcast i, 3)) (hp : pc + 3 = pc')
    (kk : ∀ T', Pos p l e R s m args below meth c Z own bytes ml ret nm T' h locs cells slots → Go p e below FF (T'.setTop (mkF m pc' Ls (.ref a :: St)))) : Go p e below FF (T.setTop (mkF m pc Ls (.ref a :: St))) := by
  subst hp
  obtain ⟨T', X', e', st⟩ := castY P.st P.x P.z P.ow w P.eh I (g := mkF m pc Ls (.ref a :: St)) rfl rfl (hb P.bt hd)
  exact Go.via st (kk T' ⟨P.1, X', e'⟩)
theorem G.instY (P : Pos p l e R s m args below meth c Z own bytes ml ret nm T h locs cells slots) {K : String} {i : Nat} (w : (Jvm.Cond.classLink own i K).before a0 Z = true) {a : Addr} (I : Ins Z h a K true) (hd : decode bytes pc = .ok (.instanceof i, 3)) (hp : pc + 3 = pc')
    (kk : ∀ T', Pos p l e R s m args below meth c Z own bytes ml ret nm T' h locs cells slots → Go p e below FF (T'.setTop (mkF m pc' Ls (.int 1 :: St)))) : Go p e below FF (T.setTop (mkF m pc Ls (.ref a :: St))) := by
  subst hp
  obtain ⟨T', X', e', st⟩ := Jvm.RoadKit.instY P.st P.x P.z P.ow w P.eh I (g := mkF m pc Ls (.ref a :: St)) rfl rfl (hb P.bt hd)
  exact Go.via st (kk T' ⟨P.1, X', e'⟩)
theorem G.newPE (P : Pos p l e R s m args below meth c Z own bytes ml ret nm T h locs cells slots) {aty : ArrayType} (w : (Jvm.Cond.arrayClass (newarray.typeOf aty)).before a0 Z = true) {n : Int32} (hn : ¬ n < 0) {cap : Nat} (hcap : n.toNatClampNeg ≤ cap) (hbb : cap * 8 ≤ 536870912) (hro : cells + 1 ≤ R.cells ∧ slots + cap ≤ R.slots) {ad : String} (had : "[" ++ (newarray.typeOf aty).toString = ad) (hd : decode bytes pc = .ok (.newarray aty, 2)) (hp : pc + 2 = pc')
    (kk : ∀ T' h' a k, a = h.size → Pos p l e R s m args below meth c Z own bytes ml ret nm T' h' locs (cells + 1) (slots + cap) → Ext h h' → Arv Z h' a k (newarray.typeOf aty) n [] (defaultValue (newarray.typeOf aty)) → Exa Z h' a ad → Go p e below FF (T'.setTop (mkF m pc' Ls (.ref a :: St)))) : Go p e below FF (T.setTop (mkF m pc Ls (.int n :: St))) := by
  subst hp
  obtain ⟨T', h', k, X', e', E, A, B, st⟩ := Jvm.RoadKit.newPE P.st P.x P.z w P.eh (g := mkF m pc Ls (.int n :: St)) rfl (hb P.bt hd) rfl hn hcap hbb hro.1 hro.2 had
  exact Go.via st (kk T' h' h.size k rfl ⟨P.1, X', e'⟩ E (Arv.new A hn) B)
theorem G.clone (P : Pos p l e R s m args below meth c Z own bytes ml ret nm T h locs cells slots) {ad : String} {i : Nat} (w1 : (Jvm.Cond.methodLink own i ⟨ad, "clone", "()Ljava/lang/Object;"⟩).before a0 Z = true) (w2 : (Jvm.Cond.sameMethod ad "java/lang/Object" "clone" "()Ljava/lang/Object;").before a0 Z = true) (w3 : (Jvm.Cond.native ⟨"java/lang/Object", "clone", "()Ljava/lang/Object;"⟩).before a0 Z = true)
    (w4 : (Jvm.Cond.instanceMethod ⟨"java/lang/Object", "clone", "()Ljava/lang/Object;"⟩).before a0 Z = true) (w5 : (Jvm.Cond.selects ad ⟨ad, "clone", "()Ljava/lang/Object;"⟩ ⟨"java/lang/Object", "clone", "()Ljava/lang/Object;"⟩).before a0 Z = true) (w6 : (Jvm.Cond.castable ad "java/lang/Cloneable").before a0 Z = true)
    {a : Addr} {k : ClassId} {ty : FieldType} {z : Int32} {vs : List Value} {dv : Value} (V : Arv Z h a k ty z vs dv) (E : Exa Z h a ad) (hsz : Ls.size = ml) {W cap : Nat} (hW : (St.map fun v => v.category).sum ≤ W) (hcap : z.toNatClampNeg ≤ cap) (hro : 1 ≤ R.frames ∧ W + 14 ≤ R.locals ∧ cells + 1 ≤ R.cells ∧ slots + cap ≤ R.slots)
    (hd : decode bytes pc = .ok (.invokevirtual i, 3)) (hp : pc + 3 = pc')
    (kk : ∀ T' h' a', a' = h.size → Pos p l e R s m args below meth c Z own bytes ml ret nm T' h' locs (cells + 1) (slots + cap) → Ext h h' → Arv Z h' a' k ty z vs dv → Exa Z h' a' ad → Go p e below FF (T'.setTop (mkF m pc' Ls (.ref a' :: St)))) : Go p e below FF (T.setTop (mkF m pc Ls (.ref a :: St))) := by
  subst hp
  obtain ⟨T', h', X', e', ex, A, B, st⟩ := cloneH P.st P.x P.z P.ow w1 w2 w3 w4 w5 w6 P.eh V.arh E (g := mkF m pc Ls (.ref a :: St)) rfl (by rw [P.mx]; exact hsz) rfl (hb P.bt hd) hro.1 (W := W) (by show 2 * 0 + _ ≤ _; omega) hro.2.1 hcap hro.2.2.1 hro.2.2.2
  exact Go.via st (kk T' h' h.size rfl ⟨P.1, X', e'⟩ ex A B)
theorem G.tsw (P : Pos p l e R s m args below meth c Z own bytes ml ret nm T h locs cells slots) {dflt low high o : Int} {offs : Array Int} {len : Nat} {x : Int32} (hd : decode bytes pc = .ok (.tableswitch dflt low high offs, len)) (hin : ¬ (x.toInt < low ∨ x.toInt > high)) (hoff : offs[(x.toInt - low).toNat]? = some o) (ho : 0 ≤ (pc : Int) + o) (hp : ((pc : Int) + o).toNat = pc')
    (kk : Go p e below FF (T.setTop (mkF m pc' Ls St))) : Go p e below FF (T.setTop (mkF m pc Ls (.int x :: St))) :=
  Go.via (fun _ => XS.tswIn (g := mkF m pc Ls (.int x :: St)) P.here P.x rfl (pc0 := pc) rfl (hb P.bt hd) rfl hin hoff ho hp) kk
theorem G.callU (P : Pos p l e R s m args below meth c Z own bytes ml ret nm T h locs cells slots) {C owner : String} {x y : MethodName} {by' : ByteArray} {ml' : Nat} {ret' : Option FieldType} {i : Nat} {rm : Room} {as' : Array Value} {Qc : Option Value → Heap → List Loc → Prop} (hM : OMeets l Z y by' ml' ret' rm as' h Qc)
    (w1 : (Jvm.Cond.methodLink own i x).before a0 Z = true) (w2 : (Jvm.Cond.sameMethod x.cls owner x.name x.desc).before a0 Z = true) (w3 : (Jvm.Cond.declares ⟨owner, x.name, x.desc⟩).before a0 Z = true) (hy : owner ≠ "java/lang/invoke/MethodHandle" ∧ owner ≠ "java/lang/invoke/VarHandle") (w4 : (Jvm.Cond.selects C x y).before a0 Z = true) (w5 : (Jvm.Cond.instanceMethod y).before a0 Z = true) (w6 : (Jvm.Cond.initialized y.cls).before a0 Z = true) (w7 : (Jvm.Cond.code y by' ml' ret').before a0 Z = true)
    {b : Addr} (E : Exa Z h b C) {ps : List FieldType} {r : Option FieldType} (hds : parseMethodDescriptor x.desc = some ⟨ps, r⟩) {argsL rest : List Value} (hal : argsL.length = ps.length) (hst : argsL.reverse ++ .ref b :: rest = St) (has : (.ref b :: argsL).toArray = as') (hsz : Ls.size = ml)
    {W : Nat} (hW : (rest.map fun v => v.category).sum ≤ W) (hro : rm.frames + 1 ≤ R.frames ∧ W + (ml' + 11) + rm.locals ≤ R.locals ∧ cells + rm.cells ≤ R.cells ∧ slots + rm.slots ≤ R.slots)
    (hd : decode bytes pc = .ok (.invokevirtual i, 3)) (hp : pc + 3 = pc')
    (kk : ∀ T' L v, Pos p l e R s m args below meth c Z own bytes ml ret nm T' T'.heap (locs ++ L) (cells + rm.cells) (slots + rm.slots) → Qc v T'.heap L → Go p e below FF (T'.setTop (mkF m pc' Ls (v.toList ++ rest)))) : Go p e below FF (T.setTop (mkF m pc Ls St)) := by
  subst hp hst has
  obtain ⟨cB, kB, q1, q2, q3⟩ := isOf P.z P.eh E
  obtain ⟨v, _, ⟨T', L', k', n'⟩, -, X', ⟨Lc, hQ, l1, l2, l3⟩, st⟩ := P.st.virtualBackUp P.x (x := x) (y := y) P.ow (mvT P.z w1) (mvT P.z w2) (mvT P.z w3) hy (mvT P.z w4) (mvT P.z w5) (backOf (W := W) hM P.z w7 w6 hro.1 hro.2.1) q1 q3 (g := mkF m pc Ls (argsL.reverse ++ .ref b :: rest)) rfl (by rw [P.mx]; exact hsz) (Steps.refl _) (argsL := argsL) (rest := rest) (lenOf hds hal) rfl (by show 2 * 0 + _ ≤ _; omega) (hb P.bt hd) (fun _ _ => ⟨rfl, P.eh, hro.2.2.1, hro.2.2.2⟩)
  dsimp only [Pt.U, Pt.locs, Pt.cells, Pt.slots] at X' l1 l2 l3 st hQ
  subst l1 l2 l3
  exact Go.come st (kk T' Lc v ⟨P.1, X', rfl⟩ hQ)
end Own
end Jvm.OwnKit
namespace Jvm.OwnKit
open Jvm Jvm.ClassFile Sem Op Lib Jvm.Free Jvm.Stand Jvm.LawKit Jvm.RoadKit
section Own
variable {p : Program} {l : Launch} {e : Env} {R : Room} {s : State} {m : MethodId} {args : Array Value} {below : List Frame} {meth : Method} {c : Code} {Z : State} {own : String} {bytes : ByteArray} {ml : Nat} {ret : Option FieldType} {nm : String} {T : State} {h : Heap} {locs : List Loc} {cells slots : Nat} {F : Option Value → State → Prop} {a0 : Array Value} {pc pc' : Nat} {Ls : Array Slot} {St : List Value}
/-- an entry that stands resolved (the word fieldRef) is ready where the walk stands -/
theorem Pos.ready (P : Pos p l e R s m args below meth c Z own bytes ml ret nm T h locs cells slots) {i : Nat} {O n d : String} (w : (Jvm.Cond.fieldRef own i O n d).before a0 Z = true) {cf ii : Nat} {k : Class} {f : Field} (hf : Z.fieldFound? O n d = some (cf, k, ii, f)) : T.vm.fieldReady m.cls i cf f := by
  have hT : Z.Warmed39 T.vm := wtrans P.z P.st.warmed
  have w' := Cond.fieldRef_warmed39 hT w
  have ho : (Z.setVm T.vm).vm.findClass own = some m.cls := by
    show T.vm.findClass own = some m.cls
    rw [P.st.warmed.alike.findClass]; exact P.ow
  obtain ⟨c', k', i', f', q1, q2⟩ := Cond.fieldRef_spec ho w'
  obtain ⟨k2, q3, -⟩ := State.fieldFound?_setVm (s := Z) hT.alike hf
  cases q1.symm.trans q3
  exact q2
theorem G.getFR (P : Pos p l e R s m args below meth c Z own bytes ml ret nm T h locs cells slots) {O n d : String} {i : Nat} (w : (Jvm.Cond.fieldRef own i O n d).before a0 Z = true) {a : Addr} {v : Value} (Fd : Fld Z h a O n d v) (hd : decode bytes pc = .ok (.getfield i, 3)) (hp : pc + 3 = pc')
    (kk : Go p e below F (T.setTop (mkF m pc' Ls (v :: St)))) : Go p e below F (T.setTop (mkF m pc Ls (.ref a :: St))) := by
  subst hp
  obtain ⟨cell, cf, k, ii, f, h1, h2, h3, h4, -, -, h7⟩ := Fd
  have hr := P.ready w h2
  refine Go.via (S1 := T.setTop (mkF m (pc + 3) Ls (v :: St))) (fun target hrest => ?_) kk
  have hx := P.x
  have hdd := hb P.bt hd
  have hc : T.heap[a]? = some cell := by rw [P.eh]; exact h1
  show Steps p.tables e below (T.setTop { method := m, pc := pc, locals := Ls, stack := .ref a :: St, locked := none }) _
  jvm_step P.here [hx, hdd, getfield.wp_ready (e := e) (s := T) (f := mkF m pc Ls (.ref a :: St)) P.here.top hr h3 rfl hc h4 h7]
  exact hrest
theorem G.putFR (P : Pos p l e R s m args below meth c Z own bytes ml ret nm T h locs cells slots) {O n d C : String} {i kn : Nat} {ty : FieldType} (w : (Jvm.Cond.fieldRef own i O n d).before a0 Z = true) {a : Addr} {v old : Value} (Fd : Fld Z h a O n d old) (E : Exa Z h a C)
    (L : (Jvm.Cond.lays C O n d).before a0 Z = true) (wi : (Jvm.Cond.instantiable C kn).before a0 Z = true) (hty : parseFieldDescriptor d = some ty) (hn : narrow ty v = v) (hf : fits ty v = true) (hd : decode bytes pc = .ok (.putfield i, 3)) (hp : pc + 3 = pc')
    (kk : ∀ T' h', Pos p l e R s m args below meth c Z own bytes ml ret nm T' h' (locs ++ [⟨a, Jvm.RoadKit.slotOf Z O n d⟩]) cells slots → Wr h h' a (Jvm.RoadKit.slotOf Z O n d) v → Go p e below F (T'.setTop (mkF m pc' Ls St))) : Go p e below F (T.setTop (mkF m pc Ls (v :: .ref a :: St))) := by
  subst hp
  obtain ⟨cell, cf, k, ii, f, h1, h2, h3, h4, h5, -, h7⟩ := Fd
  obtain ⟨cell', kc, e1, e2, e3, -⟩ := E
  cases h1.symm.trans e1
  obtain ⟨c1, k1, cf1, kf1, i1, f1, a1, a2, a3, -, hfin, -, a6, -⟩ := Cond.lays_spec L
  cases h2.symm.trans a3
  cases e2.symm.trans a1
  obtain ⟨c2, k2, j1, j2, j3, -⟩ := Cond.instantiable_spec wi
  cases e2.symm.trans j1
  cases a2.symm.trans j2
  have ht := (State.fieldFound?_type h2 hty).2
  have hfit : Z.fitsSlot cell.cls cell.vm f.slot v = true := by
    have q : Z.slotType? cell.cls cell.vm f.slot = some ty := by
      simp only [State.slotType?, a2, Option.bind_eq_bind, Option.bind_some, j3]
      cases hq : cell.vm <;> first | (rw [hq] at h5; exact Bool.noConfusion h5) | (rw [a6, ht])
    simp [State.fitsSlot, q, hf]
  have hT : Z.Warmed39 T.vm := wtrans P.z P.st.warmed
  have hfitT : T.fitsSlot cell.cls cell.vm f.slot v = true := by rw [← State.fitsSlot_setVm hT.alike] at hfit; exact hfit
  have hlt := (Array.getElem?_eq_some_iff.mp h7).1
  have es : Jvm.RoadKit.slotOf Z O n d = f.slot := by simp [Jvm.RoadKit.slotOf, h2]
  have hr := P.ready w h2
  have hc : T.heap[a]? = some cell := by rw [P.eh]; exact h1
  obtain ⟨X', st⟩ := P.st.putfieldReady P.x hr h3 (Or.inl hfin) hc h4 hlt (by rw [ht]; exact hn) hfitT (g := mkF m pc Ls (v :: .ref a :: St)) rfl rfl (hb P.bt hd)
  rw [es] at kk
  exact Go.via st (kk _ _ ⟨P.1, X', rfl⟩ ⟨cell, h1, h5, hlt, by rw [← P.eh]; rfl⟩)
end Own
end Jvm.OwnKit
namespace Jvm.Pilot.@@N@@
open Jvm Jvm.ClassFile Sem Op Lib Jvm.Free Jvm.Stand Jvm.LawKit Jvm.RoadKit Jvm.OwnKit Bundle Jvm.Pilot.@@N@@.Jvm.D
abbrev y1 : MethodName := ⟨"com/example/overuse_to_delay/overusetodelay/gateway/BytePieces", "<init>", "()V"⟩
theorem d1_0 : decode prog_31_method_1_code 0 = .ok (.aload_n 0, 1) := by decide +kernel
theorem d1_1 : decode prog_31_method_1_code 1 = .ok (.invokespecial 1, 3) := by decide +kernel
theorem d1_4 : decode prog_31_method_1_code 4 = .ok (.aload_n 0, 1) := by decide +kernel
theorem d1_5 : decode prog_31_method_1_code 5 = .ok (.new 7, 3) := by decide +kernel
theorem d1_8 : decode prog_31_method_1_code 8 = .ok (.dup, 1) := by decide +kernel
theorem d1_9 : decode prog_31_method_1_code 9 = .ok (.invokespecial 9, 3) := by decide +kernel
theorem d1_12 : decode prog_31_method_1_code 12 = .ok (.putfield 10, 3) := by decide +kernel
theorem d1_15 : decode prog_31_method_1_code 15 = .ok (.aload_n 0, 1) := by decide +kernel
theorem d1_16 : decode prog_31_method_1_code 16 = .ok (.new 16, 3) := by decide +kernel
theorem d1_19 : decode prog_31_method_1_code 19 = .ok (.dup, 1) := by decide +kernel
theorem d1_20 : decode prog_31_method_1_code 20 = .ok (.aload_n 0, 1) := by decide +kernel
theorem d1_21 : decode prog_31_method_1_code 21 = .ok (.invokespecial 18, 3) := by decide +kernel
theorem d1_24 : decode prog_31_method_1_code 24 = .ok (.putfield 21, 3) := by decide +kernel
theorem d1_27 : decode prog_31_method_1_code 27 = .ok (.aload_n 0, 1) := by decide +kernel
theorem d1_28 : decode prog_31_method_1_code 28 = .ok (.new 16, 3) := by decide +kernel
theorem d1_31 : decode prog_31_method_1_code 31 = .ok (.dup, 1) := by decide +kernel
theorem d1_32 : decode prog_31_method_1_code 32 = .ok (.aload_n 0, 1) := by decide +kernel
theorem d1_33 : decode prog_31_method_1_code 33 = .ok (.invokespecial 18, 3) := by decide +kernel
theorem d1_36 : decode prog_31_method_1_code 36 = .ok (.putfield 25, 3) := by decide +kernel
theorem d1_39 : decode prog_31_method_1_code 39 = .ok (.return_, 1) := by decide +kernel
abbrev y2 : MethodName := ⟨"java/lang/Object", "<init>", "()V"⟩
abbrev y3 : MethodName := ⟨"java/util/ArrayList", "<init>", "()V"⟩
theorem d3_0 : decode jdk_38_method_2_code 0 = .ok (.aload_n 0, 1) := by decide +kernel
theorem d3_1 : decode jdk_38_method_2_code 1 = .ok (.invokespecial 1, 3) := by decide +kernel
theorem d3_4 : decode jdk_38_method_2_code 4 = .ok (.aload_n 0, 1) := by decide +kernel
theorem d3_5 : decode jdk_38_method_2_code 5 = .ok (.getstatic 39, 3) := by decide +kernel
theorem d3_8 : decode jdk_38_method_2_code 8 = .ok (.putfield 9, 3) := by decide +kernel
theorem d3_11 : decode jdk_38_method_2_code 11 = .ok (.return_, 1) := by decide +kernel
abbrev y4 : MethodName := ⟨"java/util/AbstractList", "<init>", "()V"⟩
theorem d4_0 : decode jdk_39_method_1_code 0 = .ok (.aload_n 0, 1) := by decide +kernel
theorem d4_1 : decode jdk_39_method_1_code 1 = .ok (.invokespecial 1, 3) := by decide +kernel
theorem d4_4 : decode jdk_39_method_1_code 4 = .ok (.aload_n 0, 1) := by decide +kernel
theorem d4_5 : decode jdk_39_method_1_code 5 = .ok (.iconst 0, 1) := by decide +kernel
theorem d4_6 : decode jdk_39_method_1_code 6 = .ok (.putfield 7, 3) := by decide +kernel
theorem d4_9 : decode jdk_39_method_1_code 9 = .ok (.return_, 1) := by decide +kernel
abbrev y5 : MethodName := ⟨"java/util/AbstractCollection", "<init>", "()V"⟩
theorem d5_0 : decode jdk_22_method_1_code 0 = .ok (.aload_n 0, 1) := by decide +kernel
theorem d5_1 : decode jdk_22_method_1_code 1 = .ok (.invokespecial 1, 3) := by decide +kernel
theorem d5_4 : decode jdk_22_method_1_code 4 = .ok (.return_, 1) := by decide +kernel
abbrev y6 : MethodName := ⟨"com/example/overuse_to_delay/overusetodelay/gateway/BytePieces$Place", "<init>", "(Lcom/example/overuse_to_delay/overusetodelay/gateway/BytePieces;)V"⟩
theorem d6_0 : decode prog_33_method_1_code 0 = .ok (.aload_n 0, 1) := by decide +kernel
theorem d6_1 : decode prog_33_method_1_code 1 = .ok (.aload_n 1, 1) := by decide +kernel
theorem d6_2 : decode prog_33_method_1_code 2 = .ok (.putfield 1, 3) := by decide +kernel
theorem d6_5 : decode prog_33_method_1_code 5 = .ok (.aload_n 0, 1) := by decide +kernel
theorem d6_6 : decode prog_33_method_1_code 6 = .ok (.invokespecial 7, 3) := by decide +kernel
theorem d6_9 : decode prog_33_method_1_code 9 = .ok (.return_, 1) := by decide +kernel
abbrev y7 : MethodName := ⟨"com/example/overuse_to_delay/overusetodelay/gateway/BytePieces", "growTo", "(I)V"⟩
theorem d7_0 : decode prog_31_method_7_code 0 = .ok (.aload_n 0, 1) := by decide +kernel
theorem d7_1 : decode prog_31_method_7_code 1 = .ok (.getfield 37, 3) := by decide +kernel
theorem d7_4 : decode prog_31_method_7_code 4 = .ok (.iload_n 1, 1) := by decide +kernel
theorem d7_5 : decode prog_31_method_7_code 5 = .ok (.if_icmp .ge 24, 3) := by decide +kernel
theorem d7_8 : decode prog_31_method_7_code 8 = .ok (.aload_n 0, 1) := by decide +kernel
theorem d7_9 : decode prog_31_method_7_code 9 = .ok (.sipush 16384, 3) := by decide +kernel
theorem d7_12 : decode prog_31_method_7_code 12 = .ok (.iload_n 1, 1) := by decide +kernel
theorem d7_13 : decode prog_31_method_7_code 13 = .ok (.aload_n 0, 1) := by decide +kernel
theorem d7_14 : decode prog_31_method_7_code 14 = .ok (.getfield 37, 3) := by decide +kernel
theorem d7_17 : decode prog_31_method_7_code 17 = .ok (.isub, 1) := by decide +kernel
theorem d7_18 : decode prog_31_method_7_code 18 = .ok (.invokestatic 44, 3) := by decide +kernel
theorem d7_21 : decode prog_31_method_7_code 21 = .ok (.newarray .byte, 2) := by decide +kernel
theorem d7_23 : decode prog_31_method_7_code 23 = .ok (.invokevirtual 50, 3) := by decide +kernel
theorem d7_26 : decode prog_31_method_7_code 26 = .ok (.goto (-26), 3) := by decide +kernel
theorem d7_29 : decode prog_31_method_7_code 29 = .ok (.return_, 1) := by decide +kernel
abbrev y8 : MethodName := ⟨"java/lang/Math", "min", "(II)I"⟩
theorem d8_0 : decode jdk_29_method_69_code 0 = .ok (.iload_n 0, 1) := by decide +kernel
theorem d8_1 : decode jdk_29_method_69_code 1 = .ok (.iload_n 1, 1) := by decide +kernel
theorem d8_2 : decode jdk_29_method_69_code 2 = .ok (.if_icmp .gt 7, 3) := by decide +kernel
theorem d8_5 : decode jdk_29_method_69_code 5 = .ok (.iload_n 0, 1) := by decide +kernel
theorem d8_6 : decode jdk_29_method_69_code 6 = .ok (.goto 4, 3) := by decide +kernel
theorem d8_9 : decode jdk_29_method_69_code 9 = .ok (.iload_n 1, 1) := by decide +kernel
theorem d8_10 : decode jdk_29_method_69_code 10 = .ok (.ireturn, 1) := by decide +kernel
abbrev y9 : MethodName := ⟨"com/example/overuse_to_delay/overusetodelay/gateway/BytePieces", "add", "([B)V"⟩
theorem d9_0 : decode prog_31_method_29_code 0 = .ok (.aload_n 0, 1) := by decide +kernel
theorem d9_1 : decode prog_31_method_29_code 1 = .ok (.getfield 10, 3) := by decide +kernel
theorem d9_4 : decode prog_31_method_29_code 4 = .ok (.aload_n 1, 1) := by decide +kernel
theorem d9_5 : decode prog_31_method_29_code 5 = .ok (.invokeinterface 155 2, 5) := by decide +kernel
theorem d9_10 : decode prog_31_method_29_code 10 = .ok (.pop, 1) := by decide +kernel
theorem d9_11 : decode prog_31_method_29_code 11 = .ok (.aload_n 0, 1) := by decide +kernel
theorem d9_12 : decode prog_31_method_29_code 12 = .ok (.dup, 1) := by decide +kernel
theorem d9_13 : decode prog_31_method_29_code 13 = .ok (.getfield 37, 3) := by decide +kernel
theorem d9_16 : decode prog_31_method_29_code 16 = .ok (.aload_n 1, 1) := by decide +kernel
theorem d9_17 : decode prog_31_method_29_code 17 = .ok (.arraylength, 1) := by decide +kernel
theorem d9_18 : decode prog_31_method_29_code 18 = .ok (.iadd, 1) := by decide +kernel
theorem d9_19 : decode prog_31_method_29_code 19 = .ok (.putfield 37, 3) := by decide +kernel
theorem d9_22 : decode prog_31_method_29_code 22 = .ok (.return_, 1) := by decide +kernel
abbrev y10 : MethodName := ⟨"java/util/ArrayList", "add", "(Ljava/lang/Object;)Z"⟩
theorem d10_0 : decode jdk_38_method_25_code 0 = .ok (.aload_n 0, 1) := by decide +kernel
theorem d10_1 : decode jdk_38_method_25_code 1 = .ok (.dup, 1) := by decide +kernel
theorem d10_2 : decode jdk_38_method_25_code 2 = .ok (.getfield 63, 3) := by decide +kernel
theorem d10_5 : decode jdk_38_method_25_code 5 = .ok (.iconst 1, 1) := by decide +kernel
theorem d10_6 : decode jdk_38_method_25_code 6 = .ok (.iadd, 1) := by decide +kernel
theorem d10_7 : decode jdk_38_method_25_code 7 = .ok (.putfield 63, 3) := by decide +kernel
theorem d10_10 : decode jdk_38_method_25_code 10 = .ok (.aload_n 0, 1) := by decide +kernel
theorem d10_11 : decode jdk_38_method_25_code 11 = .ok (.aload_n 1, 1) := by decide +kernel
theorem d10_12 : decode jdk_38_method_25_code 12 = .ok (.aload_n 0, 1) := by decide +kernel
theorem d10_13 : decode jdk_38_method_25_code 13 = .ok (.getfield 9, 3) := by decide +kernel
theorem d10_16 : decode jdk_38_method_25_code 16 = .ok (.aload_n 0, 1) := by decide +kernel
theorem d10_17 : decode jdk_38_method_25_code 17 = .ok (.getfield 48, 3) := by decide +kernel
theorem d10_20 : decode jdk_38_method_25_code 20 = .ok (.invokevirtual 131, 3) := by decide +kernel
theorem d10_23 : decode jdk_38_method_25_code 23 = .ok (.iconst 1, 1) := by decide +kernel
theorem d10_24 : decode jdk_38_method_25_code 24 = .ok (.ireturn, 1) := by decide +kernel
abbrev y11 : MethodName := ⟨"java/util/ArrayList", "add", "(Ljava/lang/Object;[Ljava/lang/Object;I)V"⟩
theorem d11_0 : decode jdk_38_method_24_code 0 = .ok (.iload_n 3, 1) := by decide +kernel
theorem d11_1 : decode jdk_38_method_24_code 1 = .ok (.aload_n 2, 1) := by decide +kernel
theorem d11_2 : decode jdk_38_method_24_code 2 = .ok (.arraylength, 1) := by decide +kernel
theorem d11_3 : decode jdk_38_method_24_code 3 = .ok (.if_icmp .ne 8, 3) := by decide +kernel
theorem d11_6 : decode jdk_38_method_24_code 6 = .ok (.aload_n 0, 1) := by decide +kernel
theorem d11_7 : decode jdk_38_method_24_code 7 = .ok (.invokevirtual 129, 3) := by decide +kernel
theorem d11_10 : decode jdk_38_method_24_code 10 = .ok (.astore_n 2, 1) := by decide +kernel
theorem d11_11 : decode jdk_38_method_24_code 11 = .ok (.aload_n 2, 1) := by decide +kernel
theorem d11_12 : decode jdk_38_method_24_code 12 = .ok (.iload_n 3, 1) := by decide +kernel
theorem d11_13 : decode jdk_38_method_24_code 13 = .ok (.aload_n 1, 1) := by decide +kernel
theorem d11_14 : decode jdk_38_method_24_code 14 = .ok (.aastore, 1) := by decide +kernel
theorem d11_15 : decode jdk_38_method_24_code 15 = .ok (.aload_n 0, 1) := by decide +kernel
theorem d11_16 : decode jdk_38_method_24_code 16 = .ok (.iload_n 3, 1) := by decide +kernel
theorem d11_17 : decode jdk_38_method_24_code 17 = .ok (.iconst 1, 1) := by decide +kernel
theorem d11_18 : decode jdk_38_method_24_code 18 = .ok (.iadd, 1) := by decide +kernel
theorem d11_19 : decode jdk_38_method_24_code 19 = .ok (.putfield 48, 3) := by decide +kernel
theorem d11_22 : decode jdk_38_method_24_code 22 = .ok (.return_, 1) := by decide +kernel
abbrev y12 : MethodName := ⟨"java/util/ArrayList", "grow", "()[Ljava/lang/Object;"⟩
theorem d12_0 : decode jdk_38_method_7_code 0 = .ok (.aload_n 0, 1) := by decide +kernel
theorem d12_1 : decode jdk_38_method_7_code 1 = .ok (.aload_n 0, 1) := by decide +kernel
theorem d12_2 : decode jdk_38_method_7_code 2 = .ok (.getfield 48, 3) := by decide +kernel
theorem d12_5 : decode jdk_38_method_7_code 5 = .ok (.iconst 1, 1) := by decide +kernel
theorem d12_6 : decode jdk_38_method_7_code 6 = .ok (.iadd, 1) := by decide +kernel
theorem d12_7 : decode jdk_38_method_7_code 7 = .ok (.invokevirtual 69, 3) := by decide +kernel
theorem d12_10 : decode jdk_38_method_7_code 10 = .ok (.areturn, 1) := by decide +kernel
abbrev y13 : MethodName := ⟨"java/util/ArrayList", "grow", "(I)[Ljava/lang/Object;"⟩
theorem d13_0 : decode jdk_38_method_6_code 0 = .ok (.aload_n 0, 1) := by decide +kernel
theorem d13_1 : decode jdk_38_method_6_code 1 = .ok (.getfield 9, 3) := by decide +kernel
theorem d13_4 : decode jdk_38_method_6_code 4 = .ok (.arraylength, 1) := by decide +kernel
theorem d13_5 : decode jdk_38_method_6_code 5 = .ok (.istore_n 2, 1) := by decide +kernel
theorem d13_6 : decode jdk_38_method_6_code 6 = .ok (.iload_n 2, 1) := by decide +kernel
theorem d13_7 : decode jdk_38_method_6_code 7 = .ok (.ifCond .gt 13, 3) := by decide +kernel
theorem d13_10 : decode jdk_38_method_6_code 10 = .ok (.aload_n 0, 1) := by decide +kernel
theorem d13_11 : decode jdk_38_method_6_code 11 = .ok (.getfield 9, 3) := by decide +kernel
theorem d13_14 : decode jdk_38_method_6_code 14 = .ok (.getstatic 39, 3) := by decide +kernel
theorem d13_17 : decode jdk_38_method_6_code 17 = .ok (.if_acmp .eq 28, 3) := by decide +kernel
theorem d13_20 : decode jdk_38_method_6_code 20 = .ok (.iload_n 2, 1) := by decide +kernel
theorem d13_21 : decode jdk_38_method_6_code 21 = .ok (.iload_n 1, 1) := by decide +kernel
theorem d13_22 : decode jdk_38_method_6_code 22 = .ok (.iload_n 2, 1) := by decide +kernel
theorem d13_23 : decode jdk_38_method_6_code 23 = .ok (.isub, 1) := by decide +kernel
theorem d13_24 : decode jdk_38_method_6_code 24 = .ok (.iload_n 2, 1) := by decide +kernel
theorem d13_25 : decode jdk_38_method_6_code 25 = .ok (.iconst 1, 1) := by decide +kernel
theorem d13_26 : decode jdk_38_method_6_code 26 = .ok (.ishr, 1) := by decide +kernel
theorem d13_27 : decode jdk_38_method_6_code 27 = .ok (.invokestatic 73, 3) := by decide +kernel
theorem d13_30 : decode jdk_38_method_6_code 30 = .ok (.istore_n 3, 1) := by decide +kernel
theorem d13_31 : decode jdk_38_method_6_code 31 = .ok (.aload_n 0, 1) := by decide +kernel
theorem d13_32 : decode jdk_38_method_6_code 32 = .ok (.aload_n 0, 1) := by decide +kernel
theorem d13_33 : decode jdk_38_method_6_code 33 = .ok (.getfield 9, 3) := by decide +kernel
theorem d13_36 : decode jdk_38_method_6_code 36 = .ok (.iload_n 3, 1) := by decide +kernel
theorem d13_37 : decode jdk_38_method_6_code 37 = .ok (.invokestatic 66, 3) := by decide +kernel
theorem d13_40 : decode jdk_38_method_6_code 40 = .ok (.dup_x1, 1) := by decide +kernel
theorem d13_41 : decode jdk_38_method_6_code 41 = .ok (.putfield 9, 3) := by decide +kernel
theorem d13_44 : decode jdk_38_method_6_code 44 = .ok (.areturn, 1) := by decide +kernel
theorem d13_45 : decode jdk_38_method_6_code 45 = .ok (.aload_n 0, 1) := by decide +kernel
theorem d13_46 : decode jdk_38_method_6_code 46 = .ok (.bipush 10, 2) := by decide +kernel
theorem d13_48 : decode jdk_38_method_6_code 48 = .ok (.iload_n 1, 1) := by decide +kernel
theorem d13_49 : decode jdk_38_method_6_code 49 = .ok (.invokestatic 79, 3) := by decide +kernel
theorem d13_52 : decode jdk_38_method_6_code 52 = .ok (.anewarray 7, 3) := by decide +kernel
theorem d13_55 : decode jdk_38_method_6_code 55 = .ok (.dup_x1, 1) := by decide +kernel
theorem d13_56 : decode jdk_38_method_6_code 56 = .ok (.putfield 9, 3) := by decide +kernel
theorem d13_59 : decode jdk_38_method_6_code 59 = .ok (.areturn, 1) := by decide +kernel
abbrev y14 : MethodName := ⟨"java/lang/Math", "max", "(II)I"⟩
theorem d14_0 : decode jdk_29_method_65_code 0 = .ok (.iload_n 0, 1) := by decide +kernel
theorem d14_1 : decode jdk_29_method_65_code 1 = .ok (.iload_n 1, 1) := by decide +kernel
theorem d14_2 : decode jdk_29_method_65_code 2 = .ok (.if_icmp .lt 7, 3) := by decide +kernel
theorem d14_5 : decode jdk_29_method_65_code 5 = .ok (.iload_n 0, 1) := by decide +kernel
theorem d14_6 : decode jdk_29_method_65_code 6 = .ok (.goto 4, 3) := by decide +kernel
theorem d14_9 : decode jdk_29_method_65_code 9 = .ok (.iload_n 1, 1) := by decide +kernel
theorem d14_10 : decode jdk_29_method_65_code 10 = .ok (.ireturn, 1) := by decide +kernel
abbrev y15 : MethodName := ⟨"com/example/overuse_to_delay/overusetodelay/gateway/BytePieces", "putInt", "(I)V"⟩
theorem d15_0 : decode prog_31_method_10_code 0 = .ok (.aload_n 0, 1) := by decide +kernel
theorem d15_1 : decode prog_31_method_10_code 1 = .ok (.getfield 21, 3) := by decide +kernel
theorem d15_4 : decode prog_31_method_10_code 4 = .ok (.iconst 4, 1) := by decide +kernel
theorem d15_5 : decode prog_31_method_10_code 5 = .ok (.invokevirtual 53, 3) := by decide +kernel
theorem d15_8 : decode prog_31_method_10_code 8 = .ok (.astore_n 2, 1) := by decide +kernel
theorem d15_9 : decode prog_31_method_10_code 9 = .ok (.aload_n 2, 1) := by decide +kernel
theorem d15_10 : decode prog_31_method_10_code 10 = .ok (.ifnonnull 12, 3) := by decide +kernel
theorem d15_13 : decode prog_31_method_10_code 13 = .ok (.aload_n 0, 1) := by decide +kernel
theorem d15_14 : decode prog_31_method_10_code 14 = .ok (.iload_n 1, 1) := by decide +kernel
theorem d15_15 : decode prog_31_method_10_code 15 = .ok (.iconst 4, 1) := by decide +kernel
theorem d15_16 : decode prog_31_method_10_code 16 = .ok (.invokevirtual 57, 3) := by decide +kernel
theorem d15_19 : decode prog_31_method_10_code 19 = .ok (.goto 54, 3) := by decide +kernel
theorem d15_22 : decode prog_31_method_10_code 22 = .ok (.aload_n 0, 1) := by decide +kernel
theorem d15_23 : decode prog_31_method_10_code 23 = .ok (.getfield 21, 3) := by decide +kernel
theorem d15_26 : decode prog_31_method_10_code 26 = .ok (.getfield 61, 3) := by decide +kernel
theorem d15_29 : decode prog_31_method_10_code 29 = .ok (.istore_n 3, 1) := by decide +kernel
theorem d15_30 : decode prog_31_method_10_code 30 = .ok (.aload_n 2, 1) := by decide +kernel
theorem d15_31 : decode prog_31_method_10_code 31 = .ok (.iload_n 3, 1) := by decide +kernel
theorem d15_32 : decode prog_31_method_10_code 32 = .ok (.iload_n 1, 1) := by decide +kernel
theorem d15_33 : decode prog_31_method_10_code 33 = .ok (.bipush 24, 2) := by decide +kernel
theorem d15_35 : decode prog_31_method_10_code 35 = .ok (.ishr, 1) := by decide +kernel
theorem d15_36 : decode prog_31_method_10_code 36 = .ok (.i2b, 1) := by decide +kernel
theorem d15_37 : decode prog_31_method_10_code 37 = .ok (.bastore, 1) := by decide +kernel
theorem d15_38 : decode prog_31_method_10_code 38 = .ok (.aload_n 2, 1) := by decide +kernel
theorem d15_39 : decode prog_31_method_10_code 39 = .ok (.iload_n 3, 1) := by decide +kernel
theorem d15_40 : decode prog_31_method_10_code 40 = .ok (.iconst 1, 1) := by decide +kernel
theorem d15_41 : decode prog_31_method_10_code 41 = .ok (.iadd, 1) := by decide +kernel
theorem d15_42 : decode prog_31_method_10_code 42 = .ok (.iload_n 1, 1) := by decide +kernel
theorem d15_43 : decode prog_31_method_10_code 43 = .ok (.bipush 16, 2) := by decide +kernel
theorem d15_45 : decode prog_31_method_10_code 45 = .ok (.ishr, 1) := by decide +kernel
theorem d15_46 : decode prog_31_method_10_code 46 = .ok (.i2b, 1) := by decide +kernel
theorem d15_47 : decode prog_31_method_10_code 47 = .ok (.bastore, 1) := by decide +kernel
theorem d15_48 : decode prog_31_method_10_code 48 = .ok (.aload_n 2, 1) := by decide +kernel
theorem d15_49 : decode prog_31_method_10_code 49 = .ok (.iload_n 3, 1) := by decide +kernel
theorem d15_50 : decode prog_31_method_10_code 50 = .ok (.iconst 2, 1) := by decide +kernel
theorem d15_51 : decode prog_31_method_10_code 51 = .ok (.iadd, 1) := by decide +kernel
theorem d15_52 : decode prog_31_method_10_code 52 = .ok (.iload_n 1, 1) := by decide +kernel
theorem d15_53 : decode prog_31_method_10_code 53 = .ok (.bipush 8, 2) := by decide +kernel
theorem d15_55 : decode prog_31_method_10_code 55 = .ok (.ishr, 1) := by decide +kernel
theorem d15_56 : decode prog_31_method_10_code 56 = .ok (.i2b, 1) := by decide +kernel
theorem d15_57 : decode prog_31_method_10_code 57 = .ok (.bastore, 1) := by decide +kernel
theorem d15_58 : decode prog_31_method_10_code 58 = .ok (.aload_n 2, 1) := by decide +kernel
theorem d15_59 : decode prog_31_method_10_code 59 = .ok (.iload_n 3, 1) := by decide +kernel
theorem d15_60 : decode prog_31_method_10_code 60 = .ok (.iconst 3, 1) := by decide +kernel
theorem d15_61 : decode prog_31_method_10_code 61 = .ok (.iadd, 1) := by decide +kernel
theorem d15_62 : decode prog_31_method_10_code 62 = .ok (.iload_n 1, 1) := by decide +kernel
theorem d15_63 : decode prog_31_method_10_code 63 = .ok (.i2b, 1) := by decide +kernel
theorem d15_64 : decode prog_31_method_10_code 64 = .ok (.bastore, 1) := by decide +kernel
theorem d15_65 : decode prog_31_method_10_code 65 = .ok (.aload_n 0, 1) := by decide +kernel
theorem d15_66 : decode prog_31_method_10_code 66 = .ok (.getfield 21, 3) := by decide +kernel
theorem d15_69 : decode prog_31_method_10_code 69 = .ok (.iconst 4, 1) := by decide +kernel
theorem d15_70 : decode prog_31_method_10_code 70 = .ok (.invokevirtual 64, 3) := by decide +kernel
theorem d15_73 : decode prog_31_method_10_code 73 = .ok (.return_, 1) := by decide +kernel
abbrev y16 : MethodName := ⟨"com/example/overuse_to_delay/overusetodelay/gateway/BytePieces$Place", "pieceHolding", "(I)[B"⟩
theorem d16_0 : decode prog_33_method_4_code 0 = .ok (.aload_n 0, 1) := by decide +kernel
theorem d16_1 : decode prog_33_method_4_code 1 = .ok (.getfield 32, 3) := by decide +kernel
theorem d16_4 : decode prog_33_method_4_code 4 = .ok (.ifnull 24, 3) := by decide +kernel
theorem d16_7 : decode prog_33_method_4_code 7 = .ok (.aload_n 0, 1) := by decide +kernel
theorem d16_8 : decode prog_33_method_4_code 8 = .ok (.getfield 32, 3) := by decide +kernel
theorem d16_11 : decode prog_33_method_4_code 11 = .ok (.arraylength, 1) := by decide +kernel
theorem d16_12 : decode prog_33_method_4_code 12 = .ok (.aload_n 0, 1) := by decide +kernel
theorem d16_13 : decode prog_33_method_4_code 13 = .ok (.getfield 30, 3) := by decide +kernel
theorem d16_16 : decode prog_33_method_4_code 16 = .ok (.isub, 1) := by decide +kernel
theorem d16_17 : decode prog_33_method_4_code 17 = .ok (.iload_n 1, 1) := by decide +kernel
theorem d16_18 : decode prog_33_method_4_code 18 = .ok (.if_icmp .lt 10, 3) := by decide +kernel
theorem d16_21 : decode prog_33_method_4_code 21 = .ok (.aload_n 0, 1) := by decide +kernel
theorem d16_22 : decode prog_33_method_4_code 22 = .ok (.getfield 32, 3) := by decide +kernel
theorem d16_25 : decode prog_33_method_4_code 25 = .ok (.goto 4, 3) := by decide +kernel
theorem d16_28 : decode prog_33_method_4_code 28 = .ok (.aconst_null, 1) := by decide +kernel
theorem d16_29 : decode prog_33_method_4_code 29 = .ok (.areturn, 1) := by decide +kernel
abbrev y17 : MethodName := ⟨"com/example/overuse_to_delay/overusetodelay/gateway/BytePieces", "putAcrossPieces", "(II)V"⟩
theorem d17_0 : decode prog_31_method_26_code 0 = .ok (.aload_n 0, 1) := by decide +kernel
theorem d17_1 : decode prog_31_method_26_code 1 = .ok (.getfield 37, 3) := by decide +kernel
theorem d17_4 : decode prog_31_method_26_code 4 = .ok (.aload_n 0, 1) := by decide +kernel
theorem d17_5 : decode prog_31_method_26_code 5 = .ok (.getfield 21, 3) := by decide +kernel
theorem d17_8 : decode prog_31_method_26_code 8 = .ok (.getfield 41, 3) := by decide +kernel
theorem d17_11 : decode prog_31_method_26_code 11 = .ok (.isub, 1) := by decide +kernel
theorem d17_12 : decode prog_31_method_26_code 12 = .ok (.iload_n 2, 1) := by decide +kernel
theorem d17_13 : decode prog_31_method_26_code 13 = .ok (.if_icmp .ge 10, 3) := by decide +kernel
theorem d17_16 : decode prog_31_method_26_code 16 = .ok (.aload_n 0, 1) := by decide +kernel
theorem d17_17 : decode prog_31_method_26_code 17 = .ok (.invokevirtual 168, 3) := by decide +kernel
theorem d17_20 : decode prog_31_method_26_code 20 = .ok (.goto (-20), 3) := by decide +kernel
theorem d17_23 : decode prog_31_method_26_code 23 = .ok (.aload_n 0, 1) := by decide +kernel
theorem d17_24 : decode prog_31_method_26_code 24 = .ok (.getfield 21, 3) := by decide +kernel
theorem d17_27 : decode prog_31_method_26_code 27 = .ok (.iload_n 1, 1) := by decide +kernel
theorem d17_28 : decode prog_31_method_26_code 28 = .ok (.iload_n 2, 1) := by decide +kernel
theorem d17_29 : decode prog_31_method_26_code 29 = .ok (.invokevirtual 79, 3) := by decide +kernel
theorem d17_32 : decode prog_31_method_26_code 32 = .ok (.return_, 1) := by decide +kernel
abbrev y18 : MethodName := ⟨"com/example/overuse_to_delay/overusetodelay/gateway/BytePieces$Place", "writeByteByByte", "(II)V"⟩
theorem d18_0 : decode prog_33_method_6_code 0 = .ok (.bipush 8, 2) := by decide +kernel
theorem d18_2 : decode prog_33_method_6_code 2 = .ok (.iload_n 2, 1) := by decide +kernel
theorem d18_3 : decode prog_33_method_6_code 3 = .ok (.iconst 1, 1) := by decide +kernel
theorem d18_4 : decode prog_33_method_6_code 4 = .ok (.isub, 1) := by decide +kernel
theorem d18_5 : decode prog_33_method_6_code 5 = .ok (.imul, 1) := by decide +kernel
theorem d18_6 : decode prog_33_method_6_code 6 = .ok (.istore_n 3, 1) := by decide +kernel
theorem d18_7 : decode prog_33_method_6_code 7 = .ok (.iload_n 3, 1) := by decide +kernel
theorem d18_8 : decode prog_33_method_6_code 8 = .ok (.ifCond .lt 31, 3) := by decide +kernel
theorem d18_11 : decode prog_33_method_6_code 11 = .ok (.aload_n 0, 1) := by decide +kernel
theorem d18_12 : decode prog_33_method_6_code 12 = .ok (.invokevirtual 51, 3) := by decide +kernel
theorem d18_15 : decode prog_33_method_6_code 15 = .ok (.astore 4, 2) := by decide +kernel
theorem d18_17 : decode prog_33_method_6_code 17 = .ok (.aload 4, 2) := by decide +kernel
theorem d18_19 : decode prog_33_method_6_code 19 = .ok (.aload_n 0, 1) := by decide +kernel
theorem d18_20 : decode prog_33_method_6_code 20 = .ok (.getfield 30, 3) := by decide +kernel
theorem d18_23 : decode prog_33_method_6_code 23 = .ok (.iload_n 1, 1) := by decide +kernel
theorem d18_24 : decode prog_33_method_6_code 24 = .ok (.iload_n 3, 1) := by decide +kernel
theorem d18_25 : decode prog_33_method_6_code 25 = .ok (.ishr, 1) := by decide +kernel
theorem d18_26 : decode prog_33_method_6_code 26 = .ok (.i2b, 1) := by decide +kernel
theorem d18_27 : decode prog_33_method_6_code 27 = .ok (.bastore, 1) := by decide +kernel
theorem d18_28 : decode prog_33_method_6_code 28 = .ok (.aload_n 0, 1) := by decide +kernel
theorem d18_29 : decode prog_33_method_6_code 29 = .ok (.iconst 1, 1) := by decide +kernel
theorem d18_30 : decode prog_33_method_6_code 30 = .ok (.invokevirtual 54, 3) := by decide +kernel
theorem d18_33 : decode prog_33_method_6_code 33 = .ok (.iinc 3 (-8), 3) := by decide +kernel
theorem d18_36 : decode prog_33_method_6_code 36 = .ok (.goto (-29), 3) := by decide +kernel
theorem d18_39 : decode prog_33_method_6_code 39 = .ok (.return_, 1) := by decide +kernel
abbrev y19 : MethodName := ⟨"com/example/overuse_to_delay/overusetodelay/gateway/BytePieces$Place", "piece", "()[B"⟩
theorem d19_0 : decode prog_33_method_3_code 0 = .ok (.aload_n 0, 1) := by decide +kernel
theorem d19_1 : decode prog_33_method_3_code 1 = .ok (.getfield 32, 3) := by decide +kernel
theorem d19_4 : decode prog_33_method_3_code 4 = .ok (.ifnonnull 26, 3) := by decide +kernel
theorem d19_7 : decode prog_33_method_3_code 7 = .ok (.aload_n 0, 1) := by decide +kernel
theorem d19_8 : decode prog_33_method_3_code 8 = .ok (.aload_n 0, 1) := by decide +kernel
theorem d19_9 : decode prog_33_method_3_code 9 = .ok (.getfield 1, 3) := by decide +kernel
theorem d19_12 : decode prog_33_method_3_code 12 = .ok (.getfield 36, 3) := by decide +kernel
theorem d19_15 : decode prog_33_method_3_code 15 = .ok (.aload_n 0, 1) := by decide +kernel
theorem d19_16 : decode prog_33_method_3_code 16 = .ok (.getfield 25, 3) := by decide +kernel
theorem d19_19 : decode prog_33_method_3_code 19 = .ok (.invokeinterface 42 2, 5) := by decide +kernel
theorem d19_24 : decode prog_33_method_3_code 24 = .ok (.checkcast 48, 3) := by decide +kernel
theorem d19_27 : decode prog_33_method_3_code 27 = .ok (.putfield 32, 3) := by decide +kernel
theorem d19_30 : decode prog_33_method_3_code 30 = .ok (.aload_n 0, 1) := by decide +kernel
theorem d19_31 : decode prog_33_method_3_code 31 = .ok (.getfield 30, 3) := by decide +kernel
theorem d19_34 : decode prog_33_method_3_code 34 = .ok (.aload_n 0, 1) := by decide +kernel
theorem d19_35 : decode prog_33_method_3_code 35 = .ok (.getfield 32, 3) := by decide +kernel
theorem d19_38 : decode prog_33_method_3_code 38 = .ok (.arraylength, 1) := by decide +kernel
theorem d19_39 : decode prog_33_method_3_code 39 = .ok (.if_icmp .ne 44, 3) := by decide +kernel
theorem d19_42 : decode prog_33_method_3_code 42 = .ok (.aload_n 0, 1) := by decide +kernel
theorem d19_43 : decode prog_33_method_3_code 43 = .ok (.dup, 1) := by decide +kernel
theorem d19_44 : decode prog_33_method_3_code 44 = .ok (.getfield 25, 3) := by decide +kernel
theorem d19_47 : decode prog_33_method_3_code 47 = .ok (.iconst 1, 1) := by decide +kernel
theorem d19_48 : decode prog_33_method_3_code 48 = .ok (.iadd, 1) := by decide +kernel
theorem d19_49 : decode prog_33_method_3_code 49 = .ok (.putfield 25, 3) := by decide +kernel
theorem d19_52 : decode prog_33_method_3_code 52 = .ok (.aload_n 0, 1) := by decide +kernel
theorem d19_53 : decode prog_33_method_3_code 53 = .ok (.iconst 0, 1) := by decide +kernel
theorem d19_54 : decode prog_33_method_3_code 54 = .ok (.putfield 30, 3) := by decide +kernel
theorem d19_57 : decode prog_33_method_3_code 57 = .ok (.aload_n 0, 1) := by decide +kernel
theorem d19_58 : decode prog_33_method_3_code 58 = .ok (.aload_n 0, 1) := by decide +kernel
theorem d19_59 : decode prog_33_method_3_code 59 = .ok (.getfield 1, 3) := by decide +kernel
theorem d19_62 : decode prog_33_method_3_code 62 = .ok (.getfield 36, 3) := by decide +kernel
theorem d19_65 : decode prog_33_method_3_code 65 = .ok (.aload_n 0, 1) := by decide +kernel
theorem d19_66 : decode prog_33_method_3_code 66 = .ok (.getfield 25, 3) := by decide +kernel
theorem d19_69 : decode prog_33_method_3_code 69 = .ok (.invokeinterface 42 2, 5) := by decide +kernel
theorem d19_74 : decode prog_33_method_3_code 74 = .ok (.checkcast 48, 3) := by decide +kernel
theorem d19_77 : decode prog_33_method_3_code 77 = .ok (.putfield 32, 3) := by decide +kernel
theorem d19_80 : decode prog_33_method_3_code 80 = .ok (.goto (-50), 3) := by decide +kernel
theorem d19_83 : decode prog_33_method_3_code 83 = .ok (.aload_n 0, 1) := by decide +kernel
theorem d19_84 : decode prog_33_method_3_code 84 = .ok (.getfield 32, 3) := by decide +kernel
theorem d19_87 : decode prog_33_method_3_code 87 = .ok (.areturn, 1) := by decide +kernel
abbrev y20 : MethodName := ⟨"java/util/ArrayList", "get", "(I)Ljava/lang/Object;"⟩
theorem d20_0 : decode jdk_38_method_20_code 0 = .ok (.iload_n 1, 1) := by decide +kernel
theorem d20_1 : decode jdk_38_method_20_code 1 = .ok (.aload_n 0, 1) := by decide +kernel
theorem d20_2 : decode jdk_38_method_20_code 2 = .ok (.getfield 48, 3) := by decide +kernel
theorem d20_5 : decode jdk_38_method_20_code 5 = .ok (.invokestatic 118, 3) := by decide +kernel
theorem d20_8 : decode jdk_38_method_20_code 8 = .ok (.pop, 1) := by decide +kernel
theorem d20_9 : decode jdk_38_method_20_code 9 = .ok (.aload_n 0, 1) := by decide +kernel
theorem d20_10 : decode jdk_38_method_20_code 10 = .ok (.iload_n 1, 1) := by decide +kernel
theorem d20_11 : decode jdk_38_method_20_code 11 = .ok (.invokevirtual 123, 3) := by decide +kernel
theorem d20_14 : decode jdk_38_method_20_code 14 = .ok (.areturn, 1) := by decide +kernel
abbrev y21 : MethodName := ⟨"java/util/Objects", "checkIndex", "(II)I"⟩
theorem d21_0 : decode jdk_31_method_17_code 0 = .ok (.iload_n 0, 1) := by decide +kernel
theorem d21_1 : decode jdk_31_method_17_code 1 = .ok (.iload_n 1, 1) := by decide +kernel
theorem d21_2 : decode jdk_31_method_17_code 2 = .ok (.aconst_null, 1) := by decide +kernel
theorem d21_3 : decode jdk_31_method_17_code 3 = .ok (.invokestatic 105, 3) := by decide +kernel
theorem d21_6 : decode jdk_31_method_17_code 6 = .ok (.ireturn, 1) := by decide +kernel
abbrev y22 : MethodName := ⟨"jdk/internal/util/Preconditions", "checkIndex", "(IILjava/util/function/BiFunction;)I"⟩
theorem d22_0 : decode jdk_41_method_11_code 0 = .ok (.iload_n 0, 1) := by decide +kernel
theorem d22_1 : decode jdk_41_method_11_code 1 = .ok (.ifCond .lt 8, 3) := by decide +kernel
theorem d22_4 : decode jdk_41_method_11_code 4 = .ok (.iload_n 0, 1) := by decide +kernel
theorem d22_5 : decode jdk_41_method_11_code 5 = .ok (.iload_n 1, 1) := by decide +kernel
theorem d22_6 : decode jdk_41_method_11_code 6 = .ok (.if_icmp .lt 10, 3) := by decide +kernel
theorem d22_9 : decode jdk_41_method_11_code 9 = .ok (.aload_n 2, 1) := by decide +kernel
theorem d22_10 : decode jdk_41_method_11_code 10 = .ok (.iload_n 0, 1) := by decide +kernel
theorem d22_11 : decode jdk_41_method_11_code 11 = .ok (.iload_n 1, 1) := by decide +kernel
theorem d22_12 : decode jdk_41_method_11_code 12 = .ok (.invokestatic 95, 3) := by decide +kernel
theorem d22_15 : decode jdk_41_method_11_code 15 = .ok (.athrow, 1) := by decide +kernel
theorem d22_16 : decode jdk_41_method_11_code 16 = .ok (.iload_n 0, 1) := by decide +kernel
theorem d22_17 : decode jdk_41_method_11_code 17 = .ok (.ireturn, 1) := by decide +kernel
abbrev y23 : MethodName := ⟨"java/util/ArrayList", "elementData", "(I)Ljava/lang/Object;"⟩
theorem d23_0 : decode jdk_38_method_18_code 0 = .ok (.aload_n 0, 1) := by decide +kernel
theorem d23_1 : decode jdk_38_method_18_code 1 = .ok (.getfield 9, 3) := by decide +kernel
theorem d23_4 : decode jdk_38_method_18_code 4 = .ok (.iload_n 1, 1) := by decide +kernel
theorem d23_5 : decode jdk_38_method_18_code 5 = .ok (.aaload, 1) := by decide +kernel
theorem d23_6 : decode jdk_38_method_18_code 6 = .ok (.areturn, 1) := by decide +kernel
abbrev y24 : MethodName := ⟨"com/example/overuse_to_delay/overusetodelay/gateway/BytePieces$Place", "pass", "(I)V"⟩
theorem d24_0 : decode prog_33_method_5_code 0 = .ok (.aload_n 0, 1) := by decide +kernel
theorem d24_1 : decode prog_33_method_5_code 1 = .ok (.dup, 1) := by decide +kernel
theorem d24_2 : decode prog_33_method_5_code 2 = .ok (.getfield 30, 3) := by decide +kernel
theorem d24_5 : decode prog_33_method_5_code 5 = .ok (.iload_n 1, 1) := by decide +kernel
theorem d24_6 : decode prog_33_method_5_code 6 = .ok (.iadd, 1) := by decide +kernel
theorem d24_7 : decode prog_33_method_5_code 7 = .ok (.putfield 30, 3) := by decide +kernel
theorem d24_10 : decode prog_33_method_5_code 10 = .ok (.aload_n 0, 1) := by decide +kernel
theorem d24_11 : decode prog_33_method_5_code 11 = .ok (.dup, 1) := by decide +kernel
theorem d24_12 : decode prog_33_method_5_code 12 = .ok (.getfield 19, 3) := by decide +kernel
theorem d24_15 : decode prog_33_method_5_code 15 = .ok (.iload_n 1, 1) := by decide +kernel
theorem d24_16 : decode prog_33_method_5_code 16 = .ok (.iadd, 1) := by decide +kernel
theorem d24_17 : decode prog_33_method_5_code 17 = .ok (.putfield 19, 3) := by decide +kernel
theorem d24_20 : decode prog_33_method_5_code 20 = .ok (.return_, 1) := by decide +kernel
abbrev y25 : MethodName := ⟨"com/example/overuse_to_delay/overusetodelay/gateway/BytePieces", "put", "([B)V"⟩
theorem d25_0 : decode prog_31_method_11_code 0 = .ok (.aload_n 0, 1) := by decide +kernel
theorem d25_1 : decode prog_31_method_11_code 1 = .ok (.getfield 21, 3) := by decide +kernel
theorem d25_4 : decode prog_31_method_11_code 4 = .ok (.aload_n 1, 1) := by decide +kernel
theorem d25_5 : decode prog_31_method_11_code 5 = .ok (.arraylength, 1) := by decide +kernel
theorem d25_6 : decode prog_31_method_11_code 6 = .ok (.invokevirtual 53, 3) := by decide +kernel
theorem d25_9 : decode prog_31_method_11_code 9 = .ok (.astore_n 2, 1) := by decide +kernel
theorem d25_10 : decode prog_31_method_11_code 10 = .ok (.aload_n 2, 1) := by decide +kernel
theorem d25_11 : decode prog_31_method_11_code 11 = .ok (.ifnonnull 11, 3) := by decide +kernel
theorem d25_14 : decode prog_31_method_11_code 14 = .ok (.aload_n 0, 1) := by decide +kernel
theorem d25_15 : decode prog_31_method_11_code 15 = .ok (.aload_n 1, 1) := by decide +kernel
theorem d25_16 : decode prog_31_method_11_code 16 = .ok (.invokevirtual 71, 3) := by decide +kernel
theorem d25_19 : decode prog_31_method_11_code 19 = .ok (.goto 27, 3) := by decide +kernel
theorem d25_22 : decode prog_31_method_11_code 22 = .ok (.aload_n 1, 1) := by decide +kernel
theorem d25_23 : decode prog_31_method_11_code 23 = .ok (.iconst 0, 1) := by decide +kernel
theorem d25_24 : decode prog_31_method_11_code 24 = .ok (.aload_n 2, 1) := by decide +kernel
theorem d25_25 : decode prog_31_method_11_code 25 = .ok (.aload_n 0, 1) := by decide +kernel
theorem d25_26 : decode prog_31_method_11_code 26 = .ok (.getfield 21, 3) := by decide +kernel
theorem d25_29 : decode prog_31_method_11_code 29 = .ok (.getfield 61, 3) := by decide +kernel
theorem d25_32 : decode prog_31_method_11_code 32 = .ok (.aload_n 1, 1) := by decide +kernel
theorem d25_33 : decode prog_31_method_11_code 33 = .ok (.arraylength, 1) := by decide +kernel
theorem d25_34 : decode prog_31_method_11_code 34 = .ok (.invokestatic 73, 3) := by decide +kernel
theorem d25_37 : decode prog_31_method_11_code 37 = .ok (.aload_n 0, 1) := by decide +kernel
theorem d25_38 : decode prog_31_method_11_code 38 = .ok (.getfield 21, 3) := by decide +kernel
theorem d25_41 : decode prog_31_method_11_code 41 = .ok (.aload_n 1, 1) := by decide +kernel
theorem d25_42 : decode prog_31_method_11_code 42 = .ok (.arraylength, 1) := by decide +kernel
theorem d25_43 : decode prog_31_method_11_code 43 = .ok (.invokevirtual 64, 3) := by decide +kernel
theorem d25_46 : decode prog_31_method_11_code 46 = .ok (.return_, 1) := by decide +kernel
abbrev y26 : MethodName := ⟨"com/example/overuse_to_delay/overusetodelay/gateway/BytePieces", "skip", "(I)V"⟩
theorem d26_0 : decode prog_31_method_17_code 0 = .ok (.aload_n 0, 1) := by decide +kernel
theorem d26_1 : decode prog_31_method_17_code 1 = .ok (.getfield 25, 3) := by decide +kernel
theorem d26_4 : decode prog_31_method_17_code 4 = .ok (.iload_n 1, 1) := by decide +kernel
theorem d26_5 : decode prog_31_method_17_code 5 = .ok (.invokevirtual 100, 3) := by decide +kernel
theorem d26_8 : decode prog_31_method_17_code 8 = .ok (.return_, 1) := by decide +kernel
abbrev y27 : MethodName := ⟨"com/example/overuse_to_delay/overusetodelay/gateway/BytePieces$Place", "move", "(I)V"⟩
theorem d27_0 : decode prog_33_method_8_code 0 = .ok (.aload_n 0, 1) := by decide +kernel
theorem d27_1 : decode prog_33_method_8_code 1 = .ok (.dup, 1) := by decide +kernel
theorem d27_2 : decode prog_33_method_8_code 2 = .ok (.getfield 19, 3) := by decide +kernel
theorem d27_5 : decode prog_33_method_8_code 5 = .ok (.iload_n 1, 1) := by decide +kernel
theorem d27_6 : decode prog_33_method_8_code 6 = .ok (.iadd, 1) := by decide +kernel
theorem d27_7 : decode prog_33_method_8_code 7 = .ok (.putfield 19, 3) := by decide +kernel
theorem d27_10 : decode prog_33_method_8_code 10 = .ok (.iload_n 1, 1) := by decide +kernel
theorem d27_11 : decode prog_33_method_8_code 11 = .ok (.istore_n 2, 1) := by decide +kernel
theorem d27_12 : decode prog_33_method_8_code 12 = .ok (.iload_n 2, 1) := by decide +kernel
theorem d27_13 : decode prog_33_method_8_code 13 = .ok (.ifCond .le 35, 3) := by decide +kernel
theorem d27_16 : decode prog_33_method_8_code 16 = .ok (.aload_n 0, 1) := by decide +kernel
theorem d27_17 : decode prog_33_method_8_code 17 = .ok (.invokevirtual 51, 3) := by decide +kernel
theorem d27_20 : decode prog_33_method_8_code 20 = .ok (.arraylength, 1) := by decide +kernel
theorem d27_21 : decode prog_33_method_8_code 21 = .ok (.aload_n 0, 1) := by decide +kernel
theorem d27_22 : decode prog_33_method_8_code 22 = .ok (.getfield 30, 3) := by decide +kernel
theorem d27_25 : decode prog_33_method_8_code 25 = .ok (.isub, 1) := by decide +kernel
theorem d27_26 : decode prog_33_method_8_code 26 = .ok (.iload_n 2, 1) := by decide +kernel
theorem d27_27 : decode prog_33_method_8_code 27 = .ok (.invokestatic 58, 3) := by decide +kernel
theorem d27_30 : decode prog_33_method_8_code 30 = .ok (.istore_n 3, 1) := by decide +kernel
theorem d27_31 : decode prog_33_method_8_code 31 = .ok (.aload_n 0, 1) := by decide +kernel
theorem d27_32 : decode prog_33_method_8_code 32 = .ok (.dup, 1) := by decide +kernel
theorem d27_33 : decode prog_33_method_8_code 33 = .ok (.getfield 30, 3) := by decide +kernel
theorem d27_36 : decode prog_33_method_8_code 36 = .ok (.iload_n 3, 1) := by decide +kernel
theorem d27_37 : decode prog_33_method_8_code 37 = .ok (.iadd, 1) := by decide +kernel
theorem d27_38 : decode prog_33_method_8_code 38 = .ok (.putfield 30, 3) := by decide +kernel
theorem d27_41 : decode prog_33_method_8_code 41 = .ok (.iload_n 2, 1) := by decide +kernel
theorem d27_42 : decode prog_33_method_8_code 42 = .ok (.iload_n 3, 1) := by decide +kernel
theorem d27_43 : decode prog_33_method_8_code 43 = .ok (.isub, 1) := by decide +kernel
theorem d27_44 : decode prog_33_method_8_code 44 = .ok (.istore_n 2, 1) := by decide +kernel
theorem d27_45 : decode prog_33_method_8_code 45 = .ok (.goto (-33), 3) := by decide +kernel
theorem d27_48 : decode prog_33_method_8_code 48 = .ok (.return_, 1) := by decide +kernel
abbrev y28 : MethodName := ⟨"com/example/overuse_to_delay/overusetodelay/gateway/BytePieces", "takeInt", "()I"⟩
theorem d28_0 : decode prog_31_method_14_code 0 = .ok (.aload_n 0, 1) := by decide +kernel
theorem d28_1 : decode prog_31_method_14_code 1 = .ok (.getfield 25, 3) := by decide +kernel
theorem d28_4 : decode prog_31_method_14_code 4 = .ok (.iconst 4, 1) := by decide +kernel
theorem d28_5 : decode prog_31_method_14_code 5 = .ok (.invokevirtual 53, 3) := by decide +kernel
theorem d28_8 : decode prog_31_method_14_code 8 = .ok (.astore_n 1, 1) := by decide +kernel
theorem d28_9 : decode prog_31_method_14_code 9 = .ok (.aload_n 1, 1) := by decide +kernel
theorem d28_10 : decode prog_31_method_14_code 10 = .ok (.ifnonnull 15, 3) := by decide +kernel
theorem d28_13 : decode prog_31_method_14_code 13 = .ok (.aload_n 0, 1) := by decide +kernel
theorem d28_14 : decode prog_31_method_14_code 14 = .ok (.getfield 25, 3) := by decide +kernel
theorem d28_17 : decode prog_31_method_14_code 17 = .ok (.iconst 4, 1) := by decide +kernel
theorem d28_18 : decode prog_31_method_14_code 18 = .ok (.invokevirtual 82, 3) := by decide +kernel
theorem d28_21 : decode prog_31_method_14_code 21 = .ok (.istore_n 2, 1) := by decide +kernel
theorem d28_22 : decode prog_31_method_14_code 22 = .ok (.goto 62, 3) := by decide +kernel
theorem d28_25 : decode prog_31_method_14_code 25 = .ok (.aload_n 0, 1) := by decide +kernel
theorem d28_26 : decode prog_31_method_14_code 26 = .ok (.getfield 25, 3) := by decide +kernel
theorem d28_29 : decode prog_31_method_14_code 29 = .ok (.getfield 61, 3) := by decide +kernel
theorem d28_32 : decode prog_31_method_14_code 32 = .ok (.istore_n 3, 1) := by decide +kernel
theorem d28_33 : decode prog_31_method_14_code 33 = .ok (.aload_n 1, 1) := by decide +kernel
theorem d28_34 : decode prog_31_method_14_code 34 = .ok (.iload_n 3, 1) := by decide +kernel
theorem d28_35 : decode prog_31_method_14_code 35 = .ok (.baload, 1) := by decide +kernel
theorem d28_36 : decode prog_31_method_14_code 36 = .ok (.bipush 24, 2) := by decide +kernel
theorem d28_38 : decode prog_31_method_14_code 38 = .ok (.ishl, 1) := by decide +kernel
theorem d28_39 : decode prog_31_method_14_code 39 = .ok (.aload_n 1, 1) := by decide +kernel
theorem d28_40 : decode prog_31_method_14_code 40 = .ok (.iload_n 3, 1) := by decide +kernel
theorem d28_41 : decode prog_31_method_14_code 41 = .ok (.iconst 1, 1) := by decide +kernel
theorem d28_42 : decode prog_31_method_14_code 42 = .ok (.iadd, 1) := by decide +kernel
theorem d28_43 : decode prog_31_method_14_code 43 = .ok (.baload, 1) := by decide +kernel
theorem d28_44 : decode prog_31_method_14_code 44 = .ok (.sipush 255, 3) := by decide +kernel
theorem d28_47 : decode prog_31_method_14_code 47 = .ok (.iand, 1) := by decide +kernel
theorem d28_48 : decode prog_31_method_14_code 48 = .ok (.bipush 16, 2) := by decide +kernel
theorem d28_50 : decode prog_31_method_14_code 50 = .ok (.ishl, 1) := by decide +kernel
theorem d28_51 : decode prog_31_method_14_code 51 = .ok (.ior, 1) := by decide +kernel
theorem d28_52 : decode prog_31_method_14_code 52 = .ok (.aload_n 1, 1) := by decide +kernel
theorem d28_53 : decode prog_31_method_14_code 53 = .ok (.iload_n 3, 1) := by decide +kernel
theorem d28_54 : decode prog_31_method_14_code 54 = .ok (.iconst 2, 1) := by decide +kernel
theorem d28_55 : decode prog_31_method_14_code 55 = .ok (.iadd, 1) := by decide +kernel
theorem d28_56 : decode prog_31_method_14_code 56 = .ok (.baload, 1) := by decide +kernel
theorem d28_57 : decode prog_31_method_14_code 57 = .ok (.sipush 255, 3) := by decide +kernel
theorem d28_60 : decode prog_31_method_14_code 60 = .ok (.iand, 1) := by decide +kernel
theorem d28_61 : decode prog_31_method_14_code 61 = .ok (.bipush 8, 2) := by decide +kernel
theorem d28_63 : decode prog_31_method_14_code 63 = .ok (.ishl, 1) := by decide +kernel
theorem d28_64 : decode prog_31_method_14_code 64 = .ok (.ior, 1) := by decide +kernel
theorem d28_65 : decode prog_31_method_14_code 65 = .ok (.aload_n 1, 1) := by decide +kernel
theorem d28_66 : decode prog_31_method_14_code 66 = .ok (.iload_n 3, 1) := by decide +kernel
theorem d28_67 : decode prog_31_method_14_code 67 = .ok (.iconst 3, 1) := by decide +kernel
theorem d28_68 : decode prog_31_method_14_code 68 = .ok (.iadd, 1) := by decide +kernel
theorem d28_69 : decode prog_31_method_14_code 69 = .ok (.baload, 1) := by decide +kernel
theorem d28_70 : decode prog_31_method_14_code 70 = .ok (.sipush 255, 3) := by decide +kernel
theorem d28_73 : decode prog_31_method_14_code 73 = .ok (.iand, 1) := by decide +kernel
theorem d28_74 : decode prog_31_method_14_code 74 = .ok (.ior, 1) := by decide +kernel
theorem d28_75 : decode prog_31_method_14_code 75 = .ok (.istore_n 2, 1) := by decide +kernel
theorem d28_76 : decode prog_31_method_14_code 76 = .ok (.aload_n 0, 1) := by decide +kernel
theorem d28_77 : decode prog_31_method_14_code 77 = .ok (.getfield 25, 3) := by decide +kernel
theorem d28_80 : decode prog_31_method_14_code 80 = .ok (.iconst 4, 1) := by decide +kernel
theorem d28_81 : decode prog_31_method_14_code 81 = .ok (.invokevirtual 64, 3) := by decide +kernel
theorem d28_84 : decode prog_31_method_14_code 84 = .ok (.iload_n 2, 1) := by decide +kernel
theorem d28_85 : decode prog_31_method_14_code 85 = .ok (.ireturn, 1) := by decide +kernel
abbrev y29 : MethodName := ⟨"com/example/overuse_to_delay/overusetodelay/gateway/BytePieces$Place", "readByteByByte", "(I)I"⟩
theorem d29_0 : decode prog_33_method_7_code 0 = .ok (.iconst 0, 1) := by decide +kernel
theorem d29_1 : decode prog_33_method_7_code 1 = .ok (.istore_n 2, 1) := by decide +kernel
theorem d29_2 : decode prog_33_method_7_code 2 = .ok (.iconst 0, 1) := by decide +kernel
theorem d29_3 : decode prog_33_method_7_code 3 = .ok (.istore_n 3, 1) := by decide +kernel
theorem d29_4 : decode prog_33_method_7_code 4 = .ok (.iload_n 3, 1) := by decide +kernel
theorem d29_5 : decode prog_33_method_7_code 5 = .ok (.iload_n 1, 1) := by decide +kernel
theorem d29_6 : decode prog_33_method_7_code 6 = .ok (.if_icmp .ge 37, 3) := by decide +kernel
theorem d29_9 : decode prog_33_method_7_code 9 = .ok (.aload_n 0, 1) := by decide +kernel
theorem d29_10 : decode prog_33_method_7_code 10 = .ok (.invokevirtual 51, 3) := by decide +kernel
theorem d29_13 : decode prog_33_method_7_code 13 = .ok (.astore 4, 2) := by decide +kernel
theorem d29_15 : decode prog_33_method_7_code 15 = .ok (.iload_n 2, 1) := by decide +kernel
theorem d29_16 : decode prog_33_method_7_code 16 = .ok (.bipush 8, 2) := by decide +kernel
theorem d29_18 : decode prog_33_method_7_code 18 = .ok (.ishl, 1) := by decide +kernel
theorem d29_19 : decode prog_33_method_7_code 19 = .ok (.aload 4, 2) := by decide +kernel
theorem d29_21 : decode prog_33_method_7_code 21 = .ok (.aload_n 0, 1) := by decide +kernel
theorem d29_22 : decode prog_33_method_7_code 22 = .ok (.getfield 30, 3) := by decide +kernel
theorem d29_25 : decode prog_33_method_7_code 25 = .ok (.baload, 1) := by decide +kernel
theorem d29_26 : decode prog_33_method_7_code 26 = .ok (.sipush 255, 3) := by decide +kernel
theorem d29_29 : decode prog_33_method_7_code 29 = .ok (.iand, 1) := by decide +kernel
theorem d29_30 : decode prog_33_method_7_code 30 = .ok (.ior, 1) := by decide +kernel
theorem d29_31 : decode prog_33_method_7_code 31 = .ok (.istore_n 2, 1) := by decide +kernel
theorem d29_32 : decode prog_33_method_7_code 32 = .ok (.aload_n 0, 1) := by decide +kernel
theorem d29_33 : decode prog_33_method_7_code 33 = .ok (.iconst 1, 1) := by decide +kernel
theorem d29_34 : decode prog_33_method_7_code 34 = .ok (.invokevirtual 54, 3) := by decide +kernel
theorem d29_37 : decode prog_33_method_7_code 37 = .ok (.iinc 3 1, 3) := by decide +kernel
theorem d29_40 : decode prog_33_method_7_code 40 = .ok (.goto (-36), 3) := by decide +kernel
theorem d29_43 : decode prog_33_method_7_code 43 = .ok (.iload_n 2, 1) := by decide +kernel
theorem d29_44 : decode prog_33_method_7_code 44 = .ok (.ireturn, 1) := by decide +kernel
abbrev y30 : MethodName := ⟨"com/example/overuse_to_delay/overusetodelay/gateway/BytePieces", "rewind", "()V"⟩
theorem d30_0 : decode prog_31_method_18_code 0 = .ok (.aload_n 0, 1) := by decide +kernel
theorem d30_1 : decode prog_31_method_18_code 1 = .ok (.getfield 25, 3) := by decide +kernel
theorem d30_4 : decode prog_31_method_18_code 4 = .ok (.iconst 0, 1) := by decide +kernel
theorem d30_5 : decode prog_31_method_18_code 5 = .ok (.putfield 41, 3) := by decide +kernel
theorem d30_8 : decode prog_31_method_18_code 8 = .ok (.aload_n 0, 1) := by decide +kernel
theorem d30_9 : decode prog_31_method_18_code 9 = .ok (.getfield 25, 3) := by decide +kernel
theorem d30_12 : decode prog_31_method_18_code 12 = .ok (.iconst 0, 1) := by decide +kernel
theorem d30_13 : decode prog_31_method_18_code 13 = .ok (.putfield 103, 3) := by decide +kernel
theorem d30_16 : decode prog_31_method_18_code 16 = .ok (.aload_n 0, 1) := by decide +kernel
theorem d30_17 : decode prog_31_method_18_code 17 = .ok (.getfield 25, 3) := by decide +kernel
theorem d30_20 : decode prog_31_method_18_code 20 = .ok (.iconst 0, 1) := by decide +kernel
theorem d30_21 : decode prog_31_method_18_code 21 = .ok (.putfield 61, 3) := by decide +kernel
theorem d30_24 : decode prog_31_method_18_code 24 = .ok (.aload_n 0, 1) := by decide +kernel
theorem d30_25 : decode prog_31_method_18_code 25 = .ok (.getfield 25, 3) := by decide +kernel
theorem d30_28 : decode prog_31_method_18_code 28 = .ok (.aconst_null, 1) := by decide +kernel
theorem d30_29 : decode prog_31_method_18_code 29 = .ok (.putfield 105, 3) := by decide +kernel
theorem d30_32 : decode prog_31_method_18_code 32 = .ok (.return_, 1) := by decide +kernel
abbrev y31 : MethodName := ⟨"com/example/overuse_to_delay/overusetodelay/gateway/BytePieces", "mark", "()Lcom/example/overuse_to_delay/overusetodelay/gateway/BytePieces$Mark;"⟩
theorem d31_0 : decode prog_31_method_19_code 0 = .ok (.new 109, 3) := by decide +kernel
theorem d31_3 : decode prog_31_method_19_code 3 = .ok (.dup, 1) := by decide +kernel
theorem d31_4 : decode prog_31_method_19_code 4 = .ok (.aload_n 0, 1) := by decide +kernel
theorem d31_5 : decode prog_31_method_19_code 5 = .ok (.getfield 25, 3) := by decide +kernel
theorem d31_8 : decode prog_31_method_19_code 8 = .ok (.getfield 41, 3) := by decide +kernel
theorem d31_11 : decode prog_31_method_19_code 11 = .ok (.aload_n 0, 1) := by decide +kernel
theorem d31_12 : decode prog_31_method_19_code 12 = .ok (.getfield 25, 3) := by decide +kernel
theorem d31_15 : decode prog_31_method_19_code 15 = .ok (.getfield 103, 3) := by decide +kernel
theorem d31_18 : decode prog_31_method_19_code 18 = .ok (.aload_n 0, 1) := by decide +kernel
theorem d31_19 : decode prog_31_method_19_code 19 = .ok (.getfield 25, 3) := by decide +kernel
theorem d31_22 : decode prog_31_method_19_code 22 = .ok (.getfield 61, 3) := by decide +kernel
theorem d31_25 : decode prog_31_method_19_code 25 = .ok (.invokespecial 111, 3) := by decide +kernel
theorem d31_28 : decode prog_31_method_19_code 28 = .ok (.areturn, 1) := by decide +kernel
abbrev y32 : MethodName := ⟨"com/example/overuse_to_delay/overusetodelay/gateway/BytePieces$Mark", "<init>", "(III)V"⟩
theorem d32_0 : decode prog_32_method_1_code 0 = .ok (.aload_n 0, 1) := by decide +kernel
theorem d32_1 : decode prog_32_method_1_code 1 = .ok (.invokespecial 1, 3) := by decide +kernel
theorem d32_4 : decode prog_32_method_1_code 4 = .ok (.aload_n 0, 1) := by decide +kernel
theorem d32_5 : decode prog_32_method_1_code 5 = .ok (.iload_n 1, 1) := by decide +kernel
theorem d32_6 : decode prog_32_method_1_code 6 = .ok (.putfield 7, 3) := by decide +kernel
theorem d32_9 : decode prog_32_method_1_code 9 = .ok (.aload_n 0, 1) := by decide +kernel
theorem d32_10 : decode prog_32_method_1_code 10 = .ok (.iload_n 2, 1) := by decide +kernel
theorem d32_11 : decode prog_32_method_1_code 11 = .ok (.putfield 13, 3) := by decide +kernel
theorem d32_14 : decode prog_32_method_1_code 14 = .ok (.aload_n 0, 1) := by decide +kernel
theorem d32_15 : decode prog_32_method_1_code 15 = .ok (.iload_n 3, 1) := by decide +kernel
theorem d32_16 : decode prog_32_method_1_code 16 = .ok (.putfield 16, 3) := by decide +kernel
theorem d32_19 : decode prog_32_method_1_code 19 = .ok (.return_, 1) := by decide +kernel
abbrev y33 : MethodName := ⟨"java/lang/Record", "<init>", "()V"⟩
theorem d33_0 : decode jdk_30_method_1_code 0 = .ok (.aload_n 0, 1) := by decide +kernel
theorem d33_1 : decode jdk_30_method_1_code 1 = .ok (.invokespecial 1, 3) := by decide +kernel
theorem d33_4 : decode jdk_30_method_1_code 4 = .ok (.return_, 1) := by decide +kernel
abbrev y34 : MethodName := ⟨"com/example/overuse_to_delay/overusetodelay/gateway/BytePieces$Mark", "at", "()I"⟩
theorem d34_0 : decode prog_32_method_5_code 0 = .ok (.aload_n 0, 1) := by decide +kernel
theorem d34_1 : decode prog_32_method_5_code 1 = .ok (.getfield 7, 3) := by decide +kernel
theorem d34_4 : decode prog_32_method_5_code 4 = .ok (.ireturn, 1) := by decide +kernel
abbrev y35 : MethodName := ⟨"com/example/overuse_to_delay/overusetodelay/gateway/BytePieces$Mark", "piece", "()I"⟩
theorem d35_0 : decode prog_32_method_6_code 0 = .ok (.aload_n 0, 1) := by decide +kernel
theorem d35_1 : decode prog_32_method_6_code 1 = .ok (.getfield 13, 3) := by decide +kernel
theorem d35_4 : decode prog_32_method_6_code 4 = .ok (.ireturn, 1) := by decide +kernel
abbrev y36 : MethodName := ⟨"com/example/overuse_to_delay/overusetodelay/gateway/BytePieces$Mark", "offset", "()I"⟩
theorem d36_0 : decode prog_32_method_7_code 0 = .ok (.aload_n 0, 1) := by decide +kernel
theorem d36_1 : decode prog_32_method_7_code 1 = .ok (.getfield 16, 3) := by decide +kernel
theorem d36_4 : decode prog_32_method_7_code 4 = .ok (.ireturn, 1) := by decide +kernel
abbrev y37 : MethodName := ⟨"com/example/overuse_to_delay/overusetodelay/gateway/BytePieces", "remaining", "()I"⟩
theorem d37_0 : decode prog_31_method_5_code 0 = .ok (.aload_n 0, 1) := by decide +kernel
theorem d37_1 : decode prog_31_method_5_code 1 = .ok (.getfield 21, 3) := by decide +kernel
theorem d37_4 : decode prog_31_method_5_code 4 = .ok (.getfield 41, 3) := by decide +kernel
theorem d37_7 : decode prog_31_method_5_code 7 = .ok (.aload_n 0, 1) := by decide +kernel
theorem d37_8 : decode prog_31_method_5_code 8 = .ok (.getfield 25, 3) := by decide +kernel
theorem d37_11 : decode prog_31_method_5_code 11 = .ok (.getfield 41, 3) := by decide +kernel
theorem d37_14 : decode prog_31_method_5_code 14 = .ok (.isub, 1) := by decide +kernel
theorem d37_15 : decode prog_31_method_5_code 15 = .ok (.ireturn, 1) := by decide +kernel
abbrev y38 : MethodName := ⟨"com/example/overuse_to_delay/overusetodelay/gateway/BytePieces", "size", "()I"⟩
theorem d38_0 : decode prog_31_method_4_code 0 = .ok (.aload_n 0, 1) := by decide +kernel
theorem d38_1 : decode prog_31_method_4_code 1 = .ok (.getfield 21, 3) := by decide +kernel
theorem d38_4 : decode prog_31_method_4_code 4 = .ok (.getfield 41, 3) := by decide +kernel
theorem d38_7 : decode prog_31_method_4_code 7 = .ok (.ireturn, 1) := by decide +kernel
theorem pf_0 : plainFor x = true := by first | exact plainFor_of_name (by first | (simp [plainName, overriddenIn, x]; done) | decide +kernel) | decide +kernel
theorem pd_0 : parseMethodDescriptor "(III)Z" = some ⟨[.int, .int, .int], some .boolean⟩ := by decide +kernel
theorem pf_1 : plainFor y1 = true := by first | exact plainFor_of_name (by first | (simp [plainName, overriddenIn, y1]; done) | decide +kernel) | decide +kernel
theorem pd_1 : parseMethodDescriptor "()V" = some ⟨[], none⟩ := by decide +kernel
theorem pf_3 : plainFor y3 = true := by first | exact plainFor_of_name (by first | (simp [plainName, overriddenIn, y3]; done) | decide +kernel) | decide +kernel
theorem pd_3 : parseMethodDescriptor "()V" = some ⟨[], none⟩ := by decide +kernel
theorem pf_4 : plainFor y4 = true := by first | exact plainFor_of_name (by first | (simp [plainName, overriddenIn, y4]; done) | decide +kernel) | decide +kernel
theorem pd_4 : parseMethodDescriptor "()V" = some ⟨[], none⟩ := by decide +kernel
theorem pf_5 : plainFor y5 = true := by first | exact plainFor_of_name (by first | (simp [plainName, overriddenIn, y5]; done) | decide +kernel) | decide +kernel
theorem pd_5 : parseMethodDescriptor "()V" = some ⟨[], none⟩ := by decide +kernel
theorem pf_6 : plainFor y6 = true := by first | exact plainFor_of_name (by first | (simp [plainName, overriddenIn, y6]; done) | decide +kernel) | decide +kernel
theorem pd_6 : parseMethodDescriptor "(Lcom/example/overuse_to_delay/overusetodelay/gateway/BytePieces;)V" = some ⟨[(.object "com/example/overuse_to_delay/overusetodelay/gateway/BytePieces")], none⟩ := by decide +kernel
theorem pf_7 : plainFor y7 = true := by first | exact plainFor_of_name (by first | (simp [plainName, overriddenIn, y7]; done) | decide +kernel) | decide +kernel
theorem pd_7 : parseMethodDescriptor "(I)V" = some ⟨[.int], none⟩ := by decide +kernel
theorem pf_8 : plainFor y8 = true := by first | exact plainFor_of_name (by first | (simp [plainName, overriddenIn, y8]; done) | decide +kernel) | decide +kernel
theorem pd_8 : parseMethodDescriptor "(II)I" = some ⟨[.int, .int], some .int⟩ := by decide +kernel
theorem pf_9 : plainFor y9 = true := by first | exact plainFor_of_name (by first | (simp [plainName, overriddenIn, y9]; done) | decide +kernel) | decide +kernel
theorem pd_9 : parseMethodDescriptor "([B)V" = some ⟨[(.array .byte)], none⟩ := by decide +kernel
theorem pf_10 : plainFor y10 = true := by first | exact plainFor_of_name (by first | (simp [plainName, overriddenIn, y10]; done) | decide +kernel) | decide +kernel
theorem pd_10 : parseMethodDescriptor "(Ljava/lang/Object;)Z" = some ⟨[(.object "java/lang/Object")], some .boolean⟩ := by decide +kernel
theorem pf_11 : plainFor y11 = true := by first | exact plainFor_of_name (by first | (simp [plainName, overriddenIn, y11]; done) | decide +kernel) | decide +kernel
theorem pd_11 : parseMethodDescriptor "(Ljava/lang/Object;[Ljava/lang/Object;I)V" = some ⟨[(.object "java/lang/Object"), (.array (.object "java/lang/Object")), .int], none⟩ := by decide +kernel
theorem pf_12 : plainFor y12 = true := by first | exact plainFor_of_name (by first | (simp [plainName, overriddenIn, y12]; done) | decide +kernel) | decide +kernel
theorem pd_12 : parseMethodDescriptor "()[Ljava/lang/Object;" = some ⟨[], some (.array (.object "java/lang/Object"))⟩ := by decide +kernel
theorem pf_13 : plainFor y13 = true := by first | exact plainFor_of_name (by first | (simp [plainName, overriddenIn, y13]; done) | decide +kernel) | decide +kernel
theorem pd_13 : parseMethodDescriptor "(I)[Ljava/lang/Object;" = some ⟨[.int], some (.array (.object "java/lang/Object"))⟩ := by decide +kernel
theorem pf_14 : plainFor y14 = true := by first | exact plainFor_of_name (by first | (simp [plainName, overriddenIn, y14]; done) | decide +kernel) | decide +kernel
theorem pd_14 : parseMethodDescriptor "(II)I" = some ⟨[.int, .int], some .int⟩ := by decide +kernel
theorem pf_15 : plainFor y15 = true := by first | exact plainFor_of_name (by first | (simp [plainName, overriddenIn, y15]; done) | decide +kernel) | decide +kernel
theorem pd_15 : parseMethodDescriptor "(I)V" = some ⟨[.int], none⟩ := by decide +kernel
theorem pf_16 : plainFor y16 = true := by first | exact plainFor_of_name (by first | (simp [plainName, overriddenIn, y16]; done) | decide +kernel) | decide +kernel
theorem pd_16 : parseMethodDescriptor "(I)[B" = some ⟨[.int], some (.array .byte)⟩ := by decide +kernel
theorem pf_17 : plainFor y17 = true := by first | exact plainFor_of_name (by first | (simp [plainName, overriddenIn, y17]; done) | decide +kernel) | decide +kernel
theorem pd_17 : parseMethodDescriptor "(II)V" = some ⟨[.int, .int], none⟩ := by decide +kernel
theorem pf_18 : plainFor y18 = true := by first | exact plainFor_of_name (by first | (simp [plainName, overriddenIn, y18]; done) | decide +kernel) | decide +kernel
theorem pd_18 : parseMethodDescriptor "(II)V" = some ⟨[.int, .int], none⟩ := by decide +kernel
theorem pf_19 : plainFor y19 = true := by first | exact plainFor_of_name (by first | (simp [plainName, overriddenIn, y19]; done) | decide +kernel) | decide +kernel
theorem pd_19 : parseMethodDescriptor "()[B" = some ⟨[], some (.array .byte)⟩ := by decide +kernel
theorem pf_20 : plainFor y20 = true := by first | exact plainFor_of_name (by first | (simp [plainName, overriddenIn, y20]; done) | decide +kernel) | decide +kernel
theorem pd_20 : parseMethodDescriptor "(I)Ljava/lang/Object;" = some ⟨[.int], some (.object "java/lang/Object")⟩ := by decide +kernel
theorem pf_21 : plainFor y21 = true := by first | exact plainFor_of_name (by first | (simp [plainName, overriddenIn, y21]; done) | decide +kernel) | decide +kernel
theorem pd_21 : parseMethodDescriptor "(II)I" = some ⟨[.int, .int], some .int⟩ := by decide +kernel
theorem pf_22 : plainFor y22 = true := by first | exact plainFor_of_name (by first | (simp [plainName, overriddenIn, y22]; done) | decide +kernel) | decide +kernel
theorem pd_22 : parseMethodDescriptor "(IILjava/util/function/BiFunction;)I" = some ⟨[.int, .int, (.object "java/util/function/BiFunction")], some .int⟩ := by decide +kernel
theorem pf_23 : plainFor y23 = true := by first | exact plainFor_of_name (by first | (simp [plainName, overriddenIn, y23]; done) | decide +kernel) | decide +kernel
theorem pd_23 : parseMethodDescriptor "(I)Ljava/lang/Object;" = some ⟨[.int], some (.object "java/lang/Object")⟩ := by decide +kernel
theorem pf_24 : plainFor y24 = true := by first | exact plainFor_of_name (by first | (simp [plainName, overriddenIn, y24]; done) | decide +kernel) | decide +kernel
theorem pd_24 : parseMethodDescriptor "(I)V" = some ⟨[.int], none⟩ := by decide +kernel
theorem pf_25 : plainFor y25 = true := by first | exact plainFor_of_name (by first | (simp [plainName, overriddenIn, y25]; done) | decide +kernel) | decide +kernel
theorem pd_25 : parseMethodDescriptor "([B)V" = some ⟨[(.array .byte)], none⟩ := by decide +kernel
theorem pf_26 : plainFor y26 = true := by first | exact plainFor_of_name (by first | (simp [plainName, overriddenIn, y26]; done) | decide +kernel) | decide +kernel
theorem pd_26 : parseMethodDescriptor "(I)V" = some ⟨[.int], none⟩ := by decide +kernel
theorem pf_27 : plainFor y27 = true := by first | exact plainFor_of_name (by first | (simp [plainName, overriddenIn, y27]; done) | decide +kernel) | decide +kernel
theorem pd_27 : parseMethodDescriptor "(I)V" = some ⟨[.int], none⟩ := by decide +kernel
theorem pf_28 : plainFor y28 = true := by first | exact plainFor_of_name (by first | (simp [plainName, overriddenIn, y28]; done) | decide +kernel) | decide +kernel
theorem pd_28 : parseMethodDescriptor "()I" = some ⟨[], some .int⟩ := by decide +kernel
theorem pf_29 : plainFor y29 = true := by first | exact plainFor_of_name (by first | (simp [plainName, overriddenIn, y29]; done) | decide +kernel) | decide +kernel
theorem pd_29 : parseMethodDescriptor "(I)I" = some ⟨[.int], some .int⟩ := by decide +kernel
theorem pf_30 : plainFor y30 = true := by first | exact plainFor_of_name (by first | (simp [plainName, overriddenIn, y30]; done) | decide +kernel) | decide +kernel
theorem pd_30 : parseMethodDescriptor "()V" = some ⟨[], none⟩ := by decide +kernel
theorem pf_31 : plainFor y31 = true := by first | exact plainFor_of_name (by first | (simp [plainName, overriddenIn, y31]; done) | decide +kernel) | decide +kernel
theorem pd_31 : parseMethodDescriptor "()Lcom/example/overuse_to_delay/overusetodelay/gateway/BytePieces$Mark;" = some ⟨[], some (.object "com/example/overuse_to_delay/overusetodelay/gateway/BytePieces$Mark")⟩ := by decide +kernel
theorem pf_32 : plainFor y32 = true := by first | exact plainFor_of_name (by first | (simp [plainName, overriddenIn, y32]; done) | decide +kernel) | decide +kernel
theorem pd_32 : parseMethodDescriptor "(III)V" = some ⟨[.int, .int, .int], none⟩ := by decide +kernel
theorem pf_33 : plainFor y33 = true := by first | exact plainFor_of_name (by first | (simp [plainName, overriddenIn, y33]; done) | decide +kernel) | decide +kernel
theorem pd_33 : parseMethodDescriptor "()V" = some ⟨[], none⟩ := by decide +kernel
theorem pf_34 : plainFor y34 = true := by first | exact plainFor_of_name (by first | (simp [plainName, overriddenIn, y34]; done) | decide +kernel) | decide +kernel
theorem pd_34 : parseMethodDescriptor "()I" = some ⟨[], some .int⟩ := by decide +kernel
theorem pf_35 : plainFor y35 = true := by first | exact plainFor_of_name (by first | (simp [plainName, overriddenIn, y35]; done) | decide +kernel) | decide +kernel
theorem pd_35 : parseMethodDescriptor "()I" = some ⟨[], some .int⟩ := by decide +kernel
theorem pf_36 : plainFor y36 = true := by first | exact plainFor_of_name (by first | (simp [plainName, overriddenIn, y36]; done) | decide +kernel) | decide +kernel
theorem pd_36 : parseMethodDescriptor "()I" = some ⟨[], some .int⟩ := by decide +kernel
theorem pf_37 : plainFor y37 = true := by first | exact plainFor_of_name (by first | (simp [plainName, overriddenIn, y37]; done) | decide +kernel) | decide +kernel
theorem pd_37 : parseMethodDescriptor "()I" = some ⟨[], some .int⟩ := by decide +kernel
theorem pf_38 : plainFor y38 = true := by first | exact plainFor_of_name (by first | (simp [plainName, overriddenIn, y38]; done) | decide +kernel) | decide +kernel
theorem pd_38 : parseMethodDescriptor "()I" = some ⟨[], some .int⟩ := by decide +kernel
theorem own_eqv {t : Term} {k : Int32} {args : Array Value} {s : State} (h : (Jvm.Cond.eq t (Term.int k)).value args s none s [] = some true) : t.eval args s none [] s = some (.int k) := by
  simp only [Jvm.Cond.value, Term.eval] at h
  cases ht : t.eval args s none [] s with
  | none => simp [ht] at h
  | some y => cases y <;> simp [ht] at h ⊢ <;> exact h
theorem own_len0 {t : Term} {a : Addr} {c : Cell} {ty : FieldType} {args : Array Value} {s : State} (ev : t.eval args s none [] s = some (.ref a)) (A : Arr s s.heap a c ty) (h : (Term.length t).eval args s none [] s = some (.int 0)) : c.slots.size = 0 := by
  have hc : s.arrayAt? a = some c := Arr.fin (Vm.Alike.refl _) A
  have h1 := SBG.length_lt ev hc h
  obtain ⟨a', c', e1, e2, e3⟩ := Term.length_spec h
  cases ev.symm.trans e1
  cases hc.symm.trans e2
  have e4 := Value.int.inj e3
  have e5 := len_toInt h1
  rw [← e4] at e5
  have e6 : (0 : Int32).toInt = 0 := rfl
  omega

def own_P (Z : State) (h : Heap) (pl bp : Addr) (xa xp xo : Int32) (xr : Value) : Prop := Exa Z h pl "com/example/overuse_to_delay/overusetodelay/gateway/BytePieces$Place" ∧ Fld Z h pl "com/example/overuse_to_delay/overusetodelay/gateway/BytePieces$Place" "this$0" "Lcom/example/overuse_to_delay/overusetodelay/gateway/BytePieces;" (.ref bp) ∧ Fld Z h pl "com/example/overuse_to_delay/overusetodelay/gateway/BytePieces$Place" "at" "I" (.int xa) ∧ Fld Z h pl "com/example/overuse_to_delay/overusetodelay/gateway/BytePieces$Place" "piece" "I" (.int xp) ∧ Fld Z h pl "com/example/overuse_to_delay/overusetodelay/gateway/BytePieces$Place" "offset" "I" (.int xo) ∧ Fld Z h pl "com/example/overuse_to_delay/overusetodelay/gateway/BytePieces$Place" "array" "[B" xr
def own_B (Z : State) (h : Heap) (bp li en fr : Addr) (cp : Int32) : Prop := Exa Z h bp "com/example/overuse_to_delay/overusetodelay/gateway/BytePieces" ∧ Fld Z h bp "com/example/overuse_to_delay/overusetodelay/gateway/BytePieces" "pieces" "Ljava/util/List;" (.ref li) ∧ Fld Z h bp "com/example/overuse_to_delay/overusetodelay/gateway/BytePieces" "end" "Lcom/example/overuse_to_delay/overusetodelay/gateway/BytePieces$Place;" (.ref en) ∧ Fld Z h bp "com/example/overuse_to_delay/overusetodelay/gateway/BytePieces" "front" "Lcom/example/overuse_to_delay/overusetodelay/gateway/BytePieces$Place;" (.ref fr) ∧ Fld Z h bp "com/example/overuse_to_delay/overusetodelay/gateway/BytePieces" "capacity" "I" (.int cp)
def own_L (Z : State) (h : Heap) (li ed : Addr) (mc sz : Int32) : Prop := Exa Z h li "java/util/ArrayList" ∧ Fld Z h li "java/util/AbstractList" "modCount" "I" (.int mc) ∧ Fld Z h li "java/util/ArrayList" "elementData" "[Ljava/lang/Object;" (.ref ed) ∧ Fld Z h li "java/util/ArrayList" "size" "I" (.int sz)
theorem own_sta {Z : State} {h h' : Heap} {C n d : String} {v : Value} {b : Addr} (Fs : Sta Z h C n d v) (K : Keep h h' [b]) (hb : ∀ c : Cell, h[b]? = some c → c.vm.isStatics = false) : Sta Z h' C n d v := by
  obtain ⟨cf, i, k, f, st, cell, h1, h2, h3, h4, h5, h6, h7⟩ := Fs
  refine ⟨cf, i, k, f, st, cell, h1, h2, h3, h4, K.2.1 st cell h5 (fun q => ?_), h6, h7⟩
  cases List.mem_singleton.mp q
  rw [hb cell h5] at h6
  cases h6
theorem own_plain {Z : State} {h : Heap} {a : Addr} {C : String} (E : Exa Z h a C) : ∀ c : Cell, h[a]? = some c → c.vm.isStatics = false := by
  obtain ⟨cl, k, h1, -, -, h4, -⟩ := E
  intro c q
  cases h1.symm.trans q
  exact h4
theorem own_P.keep {Z : State} {h h' : Heap} {pl bp : Addr} {xa xp xo : Int32} {xr : Value} {ws : List Addr} (X : own_P Z h pl bp xa xp xo xr) (K : Keep h h' ws) (q : pl ∉ ws) : own_P Z h' pl bp xa xp xo xr := by
  obtain ⟨a, b, c, d, e, f⟩ := X; exact ⟨a.keep K, b.keep K q, c.keep K q, d.keep K q, e.keep K q, f.keep K q⟩
theorem own_P.ext {Z : State} {h h' : Heap} {pl bp : Addr} {xa xp xo : Int32} {xr : Value} (X : own_P Z h pl bp xa xp xo xr) (E : Ext h h') : own_P Z h' pl bp xa xp xo xr := by
  obtain ⟨a, b, c, d, e, f⟩ := X; exact ⟨a.ext E, b.ext E, c.ext E, d.ext E, e.ext E, f.ext E⟩
theorem own_B.keep {Z : State} {h h' : Heap} {bp li en fr : Addr} {cp : Int32} {ws : List Addr} (X : own_B Z h bp li en fr cp) (K : Keep h h' ws) (q : bp ∉ ws) : own_B Z h' bp li en fr cp := by
  obtain ⟨a, b, c, d, e⟩ := X; exact ⟨a.keep K, b.keep K q, c.keep K q, d.keep K q, e.keep K q⟩
theorem own_B.ext {Z : State} {h h' : Heap} {bp li en fr : Addr} {cp : Int32} (X : own_B Z h bp li en fr cp) (E : Ext h h') : own_B Z h' bp li en fr cp := by
  obtain ⟨a, b, c, d, e⟩ := X; exact ⟨a.ext E, b.ext E, c.ext E, d.ext E, e.ext E⟩
theorem own_L.keep {Z : State} {h h' : Heap} {li ed : Addr} {mc sz : Int32} {ws : List Addr} (X : own_L Z h li ed mc sz) (K : Keep h h' ws) (q : li ∉ ws) : own_L Z h' li ed mc sz := by
  obtain ⟨a, b, c, d⟩ := X; exact ⟨a.keep K, b.keep K q, c.keep K q, d.keep K q⟩
theorem own_L.ext {Z : State} {h h' : Heap} {li ed : Addr} {mc sz : Int32} (X : own_L Z h li ed mc sz) (E : Ext h h') : own_L Z h' li ed mc sz := by
  obtain ⟨a, b, c, d⟩ := X; exact ⟨a.ext E, b.ext E, c.ext E, d.ext E⟩
theorem own_lt4 {a b c d : Value} (tl : List Value) {i : Nat} (q : i < 4) : i < (a :: b :: c :: d :: tl).length := by
  show i < tl.length + 1 + 1 + 1 + 1
  omega

def own_min (x y : Int32) : Int32 := if y < x then y else x
def own_max (x y : Int32) : Int32 := if x < y then y else x

theorem ef_rmMin (m : MethodId) (x0 x1 : Int32) : entryFrame m #[(.int x0), (.int x1)] 2 = mkF m 0 #[.val (.int x0), .val (.int x1)] [] := by first | (simp [entryFrame, mkF, argsToLocals, Value.category]; done) | rfl
set_option maxRecDepth 65536 in
set_option maxHeartbeats 40000000 in
theorem rmMin (l : Launch) (Z : State) (a0 : Array Value) (hw : ∀ d ∈ tables_1, d.before a0 Z = true) (x0 x1 : Int32) (h0 : Heap) :
    OMeets l Z y8 jdk_29_method_69_code 2 (some .int) ({ frames := 0, cells := 0, slots := 0, locals := 0 } : Room) #[(.int x0), (.int x1)] h0 (OPure (some (.int (own_min x0 x1))) h0) := by
  refine met (Q := OPure (some (.int (own_min x0 x1))) h0) pf_8 (fun m => ef_rmMin m x0 x1) fun p e s m below meth c T0 P0 => ?_
  refine G.iloadN P0 d8_0 rfl (pc' := 1) rfl ?_
  refine G.iloadN P0 d8_1 rfl (pc' := 2) rfl ?_
  refine G.icmp_gt P0 d8_2 (by decide) (pcY := 9) (by decide) (pcN := 5) rfl (fun c1 => ?_) (fun c1 => ?_)
  · --
    refine G.iloadN P0 d8_9 rfl (pc' := 10) rfl ?_
    have e_ : x1 = own_min x0 x1 := (if_pos c1).symm
    exact G.retI P0 d8_10 (by decide) (by decide) ⟨sI e_, rfl, rfl⟩
  · --
    refine G.iloadN P0 d8_5 rfl (pc' := 6) rfl ?_
    refine G.goto P0 d8_6 (by decide) (pc' := 10) (by decide) ?_
    have e_ : x0 = own_min x0 x1 := (if_neg c1).symm
    exact G.retI P0 d8_10 (by decide) (by decide) ⟨sI e_, rfl, rfl⟩

theorem ef_rmMax (m : MethodId) (x0 x1 : Int32) : entryFrame m #[(.int x0), (.int x1)] 2 = mkF m 0 #[.val (.int x0), .val (.int x1)] [] := by first | (simp [entryFrame, mkF, argsToLocals, Value.category]; done) | rfl
set_option maxRecDepth 65536 in
set_option maxHeartbeats 40000000 in
theorem rmMax (l : Launch) (Z : State) (a0 : Array Value) (hw : ∀ d ∈ tables_1, d.before a0 Z = true) (x0 x1 : Int32) (h0 : Heap) :
    OMeets l Z y14 jdk_29_method_65_code 2 (some .int) ({ frames := 0, cells := 0, slots := 0, locals := 0 } : Room) #[(.int x0), (.int x1)] h0 (OPure (some (.int (own_max x0 x1))) h0) := by
  refine met (Q := OPure (some (.int (own_max x0 x1))) h0) pf_14 (fun m => ef_rmMax m x0 x1) fun p e s m below meth c T0 P0 => ?_
  refine G.iloadN P0 d14_0 rfl (pc' := 1) rfl ?_
  refine G.iloadN P0 d14_1 rfl (pc' := 2) rfl ?_
  refine G.icmp_lt P0 d14_2 (by decide) (pcY := 9) (by decide) (pcN := 5) rfl (fun c1 => ?_) (fun c1 => ?_)
  · --
    refine G.iloadN P0 d14_9 rfl (pc' := 10) rfl ?_
    have e_ : x1 = own_max x0 x1 := (if_pos c1).symm
    exact G.retI P0 d14_10 (by decide) (by decide) ⟨sI e_, rfl, rfl⟩
  · --
    refine G.iloadN P0 d14_5 rfl (pc' := 6) rfl ?_
    refine G.goto P0 d14_6 (by decide) (pc' := 10) (by decide) ?_
    have e_ : x0 = own_max x0 x1 := (if_neg c1).symm
    exact G.retI P0 d14_10 (by decide) (by decide) ⟨sI e_, rfl, rfl⟩

theorem ef_rmAC (m : MethodId) (a : Addr) : entryFrame m #[(.ref a)] 1 = mkF m 0 #[.val (.ref a)] [] := by first | (simp [entryFrame, mkF, argsToLocals, Value.category]; done) | rfl
set_option maxRecDepth 65536 in
set_option maxHeartbeats 40000000 in
theorem rmAC (l : Launch) (Z : State) (a0 : Array Value) (hw : ∀ d ∈ tables_1, d.before a0 Z = true) (a : Addr) (h0 : Heap) :
    OMeets l Z y5 jdk_22_method_1_code 1 none ({ frames := 1, cells := 0, slots := 0, locals := 12 } : Room) #[(.ref a)] h0 (OPure none h0) := by
  refine met (Q := OPure none h0) pf_5 (fun m => ef_rmAC m a) fun p e s m below meth c T0 P0 => ?_
  refine G.aloadN P0 d5_0 rfl rfl (pc' := 1) rfl ?_
  obtain ⟨T1, X1, e1, s1⟩ := Jvm.RoadKit.initO P0.st P0.x P0.z P0.ow (wk hw 27 rfl) (wk hw 7 rfl) (wk hw 8 rfl) P0.eh (g := (mkF m 1 #[.val (.ref a)] [(.ref a)])) rfl (by rw [P0.mx]; rfl) rfl (hb P0.bt d5_1) (by decide) (W := 0) (by show 2 * 0 + _ ≤ _; exact Nat.le_of_eq rfl) (by decide)
  have P1 := Pos.re P0 X1 e1
  refine Go.via s1 ?_
  show Go p e below _ (T1.setTop (mkF m 4 #[.val (.ref a)] []))
  exact G.retV P1 d5_4 (by decide) (by decide) ⟨rfl, rfl, rfl⟩

theorem ef_rmRec (m : MethodId) (a : Addr) : entryFrame m #[(.ref a)] 1 = mkF m 0 #[.val (.ref a)] [] := by first | (simp [entryFrame, mkF, argsToLocals, Value.category]; done) | rfl
set_option maxRecDepth 65536 in
set_option maxHeartbeats 40000000 in
theorem rmRec (l : Launch) (Z : State) (a0 : Array Value) (hw : ∀ d ∈ tables_1, d.before a0 Z = true) (a : Addr) (h0 : Heap) :
    OMeets l Z y33 jdk_30_method_1_code 1 none ({ frames := 1, cells := 0, slots := 0, locals := 12 } : Room) #[(.ref a)] h0 (OPure none h0) := by
  refine met (Q := OPure none h0) pf_33 (fun m => ef_rmRec m a) fun p e s m below meth c T0 P0 => ?_
  refine G.aloadN P0 d33_0 rfl rfl (pc' := 1) rfl ?_
  obtain ⟨T1, X1, e1, s1⟩ := Jvm.RoadKit.initO P0.st P0.x P0.z P0.ow (wk hw 215 rfl) (wk hw 7 rfl) (wk hw 8 rfl) P0.eh (g := (mkF m 1 #[.val (.ref a)] [(.ref a)])) rfl (by rw [P0.mx]; rfl) rfl (hb P0.bt d33_1) (by decide) (W := 0) (by show 2 * 0 + _ ≤ _; exact Nat.le_of_eq rfl) (by decide)
  have P1 := Pos.re P0 X1 e1
  refine Go.via s1 ?_
  show Go p e below _ (T1.setTop (mkF m 4 #[.val (.ref a)] []))
  exact G.retV P1 d33_4 (by decide) (by decide) ⟨rfl, rfl, rfl⟩

theorem ef_rmABL (m : MethodId) (li : Addr) : entryFrame m #[(.ref li)] 1 = mkF m 0 #[.val (.ref li)] [] := by first | (simp [entryFrame, mkF, argsToLocals, Value.category]; done) | rfl
set_option maxRecDepth 65536 in
set_option maxHeartbeats 40000000 in
theorem rmABL (l : Launch) (Z : State) (a0 : Array Value) (hw : ∀ d ∈ tables_1, d.before a0 Z = true) (li : Addr) (h0 : Heap) (n0 : Nat) (gl : n0 ≤ li) (E0 : Exa Z h0 li "java/util/ArrayList") (Fm : Fld Z h0 li "java/util/AbstractList" "modCount" "I" (.int (0 : Int32))) (Fe : Fld Z h0 li "java/util/ArrayList" "elementData" "[Ljava/lang/Object;" .null) (Fs : Fld Z h0 li "java/util/ArrayList" "size" "I" (.int (0 : Int32))) :
    OMeets l Z y4 jdk_39_method_1_code 1 none ({ frames := 2, cells := 0, slots := 0, locals := 24 } : Room) #[(.ref li)] h0 (fun v h L => v = none ∧ Fr n0 L ∧ Keep h0 h [li] ∧ Exa Z h li "java/util/ArrayList" ∧ Fld Z h li "java/util/AbstractList" "modCount" "I" (.int (0 : Int32)) ∧ Fld Z h li "java/util/ArrayList" "elementData" "[Ljava/lang/Object;" .null ∧ Fld Z h li "java/util/ArrayList" "size" "I" (.int (0 : Int32))) := by
  refine met (Q := fun v h L => v = none ∧ Fr n0 L ∧ Keep h0 h [li] ∧ Exa Z h li "java/util/ArrayList" ∧ Fld Z h li "java/util/AbstractList" "modCount" "I" (.int (0 : Int32)) ∧ Fld Z h li "java/util/ArrayList" "elementData" "[Ljava/lang/Object;" .null ∧ Fld Z h li "java/util/ArrayList" "size" "I" (.int (0 : Int32))) pf_4 (fun m => ef_rmABL m li) fun p e s m below meth c T0 P0 => ?_
  have N0 := Fr.nil n0
  have K0 := Keep.refl h0 [li]
  refine G.aloadN P0 d4_0 rfl rfl (pc' := 1) rfl ?_
  refine G.callIP P0 (rmAC l Z a0 hw li h0) rfl (wk hw 21 rfl) (wk hw 22 rfl) (wk hw 25 rfl) (wk hw 26 rfl) (by decide) pd_5 (argsL := []) (rest := []) rfl rfl rfl rfl (W := 0) (Nat.le_of_eq rfl) (by decide) d4_1 (pc' := 4) rfl fun T1 P1 => ?_
  show Go p e below _ (T1.setTop (mkF m 4 #[.val (.ref li)] []))
  refine G.aloadN P1 d4_4 rfl rfl (pc' := 5) rfl ?_
  refine G.iconst P1 d4_5 (z := (0 : Int32)) rfl (pc' := 6) rfl ?_
  refine G.putF P1 (host := "") (Or.inl (wk hw 28 rfl)) Via.refl Fm E0 (Or.inl (wk hw 29 rfl)) (wk hw 10 rfl) (ty := .int) (by decide) rfl rfl d4_6 (pc' := 9) rfl fun T2 h2 P2 W2 => ?_
  have f2 := Fm.same W2
  have N3 := Fr.snoc P2.st N0 gl
  have K4 := K0.wr W2 (Or.inl (List.mem_of_getElem? (i := 0) rfl))
  have f5 := (E0.wr W2)
  have f6 := (Fe.other W2 (Or.inr (slot_ne (Or.inl (wk hw 32 rfl)) (Or.inl (wk hw 29 rfl)) (by decide) (t := (.array (.object "java/lang/Object"))) (t' := .int) (by decide) (by decide))))
  have f7 := (Fs.other W2 (Or.inr (slot_ne (Or.inl (wk hw 76 rfl)) (Or.inl (wk hw 29 rfl)) (by decide) (t := .int) (t' := .int) (by decide) (by decide))))
  exact G.retV P2 d4_9 (by decide) (by decide) ⟨rfl, N3, K4, f5, f2, f6, f7⟩

theorem ef_rmAL (m : MethodId) (li : Addr) : entryFrame m #[(.ref li)] 1 = mkF m 0 #[.val (.ref li)] [] := by first | (simp [entryFrame, mkF, argsToLocals, Value.category]; done) | rfl
set_option maxRecDepth 65536 in
set_option maxHeartbeats 40000000 in
theorem rmAL (l : Launch) (Z : State) (a0 : Array Value) (hw : ∀ d ∈ tables_1, d.before a0 Z = true) (li de : Addr) (h0 : Heap) (n0 : Nat) (gl : n0 ≤ li) (E0 : Exa Z h0 li "java/util/ArrayList") (Fm : Fld Z h0 li "java/util/AbstractList" "modCount" "I" (.int (0 : Int32))) (Fe : Fld Z h0 li "java/util/ArrayList" "elementData" "[Ljava/lang/Object;" .null) (Fs : Fld Z h0 li "java/util/ArrayList" "size" "I" (.int (0 : Int32))) (SD : Sta Z h0 "java/util/ArrayList" "DEFAULTCAPACITY_EMPTY_ELEMENTDATA" "[Ljava/lang/Object;" (.ref de)) :
    OMeets l Z y3 jdk_38_method_2_code 1 none ({ frames := 3, cells := 0, slots := 0, locals := 36 } : Room) #[(.ref li)] h0 (fun v h L => v = none ∧ Fr n0 L ∧ Keep h0 h [li] ∧ Exa Z h li "java/util/ArrayList" ∧ Fld Z h li "java/util/AbstractList" "modCount" "I" (.int (0 : Int32)) ∧ Fld Z h li "java/util/ArrayList" "elementData" "[Ljava/lang/Object;" (.ref de) ∧ Fld Z h li "java/util/ArrayList" "size" "I" (.int (0 : Int32))) := by
  refine met (Q := fun v h L => v = none ∧ Fr n0 L ∧ Keep h0 h [li] ∧ Exa Z h li "java/util/ArrayList" ∧ Fld Z h li "java/util/AbstractList" "modCount" "I" (.int (0 : Int32)) ∧ Fld Z h li "java/util/ArrayList" "elementData" "[Ljava/lang/Object;" (.ref de) ∧ Fld Z h li "java/util/ArrayList" "size" "I" (.int (0 : Int32))) pf_3 (fun m => ef_rmAL m li) fun p e s m below meth c T0 P0 => ?_
  have N0 := Fr.nil n0
  have K0 := Keep.refl h0 [li]
  refine G.aloadN P0 d3_0 rfl rfl (pc' := 1) rfl ?_
  refine G.callI P0 (rmABL l Z a0 hw li h0 n0 gl E0 Fm Fe Fs) rfl (wk hw 15 rfl) (wk hw 16 rfl) (wk hw 19 rfl) (wk hw 20 rfl) (by decide) pd_4 (argsL := []) (rest := []) rfl rfl rfl rfl (W := 0) (Nat.le_of_eq rfl) (by decide) d3_1 (pc' := 4) rfl fun T1 L1 v1 P1 Q1 => ?_
  obtain ⟨rfl, N1, K1, E1, Fm1, Fe1, Fs1⟩ := Q1
  have N2 := Fr.app N0 N1
  have K3 := K0.trans K1 (allS (Or.inl (List.mem_of_getElem? (i := 0) rfl)) all0)
  show Go p e below _ (T1.setTop (mkF m 4 #[.val (.ref li)] []))
  refine G.aloadN P1 d3_4 rfl rfl (pc' := 5) rfl ?_
  refine G.getS P1 (host := "") (Or.inl (wk hw 30 rfl)) Via.refl (own_sta SD K3 (own_plain E0)) d3_5 (pc' := 8) rfl fun T4 P4 => ?_
  refine G.putF P4 (host := "") (Or.inl (wk hw 31 rfl)) Via.refl Fe1 E1 (Or.inl (wk hw 32 rfl)) (wk hw 10 rfl) (ty := (.array (.object "java/lang/Object"))) (by decide) rfl rfl d3_8 (pc' := 11) rfl fun T5 h5 P5 W5 => ?_
  have f5 := Fe1.same W5
  have N6 := Fr.snoc P5.st N2 gl
  have K7 := K3.wr W5 (Or.inl (List.mem_of_getElem? (i := 0) rfl))
  have f8 := (E1.wr W5)
  have f9 := (Fm1.other W5 (Or.inr (slot_ne (Or.inl (wk hw 29 rfl)) (Or.inl (wk hw 32 rfl)) (by decide) (t := .int) (t' := (.array (.object "java/lang/Object"))) (by decide) (by decide))))
  have f10 := (Fs1.other W5 (Or.inr (slot_ne (Or.inl (wk hw 76 rfl)) (Or.inl (wk hw 32 rfl)) (by decide) (t := .int) (t' := (.array (.object "java/lang/Object"))) (by decide) (by decide))))
  exact G.retV P5 d3_11 (by decide) (by decide) ⟨rfl, N6, K7, f8, f9, f5, f10⟩

theorem ef_rmPl (m : MethodId) (a bp : Addr) : entryFrame m #[(.ref a), (.ref bp)] 2 = mkF m 0 #[.val (.ref a), .val (.ref bp)] [] := by first | (simp [entryFrame, mkF, argsToLocals, Value.category]; done) | rfl
set_option maxRecDepth 65536 in
set_option maxHeartbeats 40000000 in
theorem rmPl (l : Launch) (Z : State) (a0 : Array Value) (hw : ∀ d ∈ tables_1, d.before a0 Z = true) (a bp : Addr) (h0 : Heap) (n0 : Nat) (g0 : n0 ≤ a) (E0 : Exa Z h0 a "com/example/overuse_to_delay/overusetodelay/gateway/BytePieces$Place") (F0 : Fld Z h0 a "com/example/overuse_to_delay/overusetodelay/gateway/BytePieces$Place" "this$0" "Lcom/example/overuse_to_delay/overusetodelay/gateway/BytePieces;" .null) (F1 : Fld Z h0 a "com/example/overuse_to_delay/overusetodelay/gateway/BytePieces$Place" "at" "I" (.int (0 : Int32))) (F2 : Fld Z h0 a "com/example/overuse_to_delay/overusetodelay/gateway/BytePieces$Place" "piece" "I" (.int (0 : Int32))) (F3 : Fld Z h0 a "com/example/overuse_to_delay/overusetodelay/gateway/BytePieces$Place" "offset" "I" (.int (0 : Int32))) (F4 : Fld Z h0 a "com/example/overuse_to_delay/overusetodelay/gateway/BytePieces$Place" "array" "[B" .null) :
    OMeets l Z y6 prog_33_method_1_code 2 none ({ frames := 1, cells := 0, slots := 0, locals := 12 } : Room) #[(.ref a), (.ref bp)] h0 (fun v h L => v = none ∧ Fr n0 L ∧ Keep h0 h [a] ∧ own_P Z h a bp (0 : Int32) (0 : Int32) (0 : Int32) .null) := by
  refine met (Q := fun v h L => v = none ∧ Fr n0 L ∧ Keep h0 h [a] ∧ own_P Z h a bp (0 : Int32) (0 : Int32) (0 : Int32) .null) pf_6 (fun m => ef_rmPl m a bp) fun p e s m below meth c T0 P0 => ?_
  have N0 := Fr.nil n0
  have K0 := Keep.refl h0 [a]
  refine G.aloadN P0 d6_0 rfl rfl (pc' := 1) rfl ?_
  refine G.aloadN P0 d6_1 rfl rfl (pc' := 2) rfl ?_
  refine G.putF P0 (host := "") (Or.inl (wk hw 41 rfl)) Via.refl F0 E0 (Or.inr ⟨(wk hw 42 rfl), rfl, rfl⟩) (wk hw 36 rfl) (ty := (.object "com/example/overuse_to_delay/overusetodelay/gateway/BytePieces")) (by decide) rfl rfl d6_2 (pc' := 5) rfl fun T1 h1 P1 W1 => ?_
  have f1 := F0.same W1
  have N2 := Fr.snoc P1.st N0 g0
  have K3 := K0.wr W1 (Or.inl (List.mem_of_getElem? (i := 0) rfl))
  refine G.aloadN P1 d6_5 rfl rfl (pc' := 6) rfl ?_
  obtain ⟨T4, X4, e4, s4⟩ := Jvm.RoadKit.initO P1.st P1.x P1.z P1.ow (wk hw 43 rfl) (wk hw 7 rfl) (wk hw 8 rfl) P1.eh (g := (mkF m 6 #[.val (.ref a), .val (.ref bp)] [(.ref a)])) rfl (by rw [P1.mx]; rfl) rfl (hb P1.bt d6_6) (by decide) (W := 0) (by show 2 * 0 + _ ≤ _; exact Nat.le_of_eq rfl) (by decide)
  have P4 := Pos.re P1 X4 e4
  refine Go.via s4 ?_
  show Go p e below _ (T4.setTop (mkF m 9 #[.val (.ref a), .val (.ref bp)] []))
  have f5 := (E0.wr W1)
  have f6 := (F1.other W1 (Or.inr (slot_ne (Or.inl (wk hw 115 rfl)) (Or.inr (wk hw 42 rfl)) (by decide) (t := .int) (t' := (.object "com/example/overuse_to_delay/overusetodelay/gateway/BytePieces")) (by decide) (by decide))))
  have f7 := (F2.other W1 (Or.inr (slot_ne (Or.inl (wk hw 128 rfl)) (Or.inr (wk hw 42 rfl)) (by decide) (t := .int) (t' := (.object "com/example/overuse_to_delay/overusetodelay/gateway/BytePieces")) (by decide) (by decide))))
  have f8 := (F3.other W1 (Or.inr (slot_ne (Or.inl (wk hw 153 rfl)) (Or.inr (wk hw 42 rfl)) (by decide) (t := .int) (t' := (.object "com/example/overuse_to_delay/overusetodelay/gateway/BytePieces")) (by decide) (by decide))))
  have f9 := (F4.other W1 (Or.inr (slot_ne (Or.inl (wk hw 109 rfl)) (Or.inr (wk hw 42 rfl)) (by decide) (t := (.array .byte)) (t' := (.object "com/example/overuse_to_delay/overusetodelay/gateway/BytePieces")) (by decide) (by decide))))
  exact G.retV P4 d6_9 (by decide) (by decide) ⟨rfl, N2, K3, ⟨f5, f1, f6, f7, f8, f9⟩⟩

theorem ef_rmBP (m : MethodId) (a : Addr) : entryFrame m #[(.ref a)] 1 = mkF m 0 #[.val (.ref a)] [] := by first | (simp [entryFrame, mkF, argsToLocals, Value.category]; done) | rfl
set_option maxRecDepth 65536 in
set_option maxHeartbeats 40000000 in
theorem rmBP (l : Launch) (Z : State) (a0 : Array Value) (hw : ∀ d ∈ tables_1, d.before a0 Z = true) (a de : Addr) (h0 : Heap) (n0 : Nat) (Z0 : n0 ≤ Array.size h0) (g0 : n0 ≤ a) (E0 : Exa Z h0 a "com/example/overuse_to_delay/overusetodelay/gateway/BytePieces") (F_pieces : Fld Z h0 a "com/example/overuse_to_delay/overusetodelay/gateway/BytePieces" "pieces" "Ljava/util/List;" .null) (F_end : Fld Z h0 a "com/example/overuse_to_delay/overusetodelay/gateway/BytePieces" "end" "Lcom/example/overuse_to_delay/overusetodelay/gateway/BytePieces$Place;" .null) (F_front : Fld Z h0 a "com/example/overuse_to_delay/overusetodelay/gateway/BytePieces" "front" "Lcom/example/overuse_to_delay/overusetodelay/gateway/BytePieces$Place;" .null) (F_capacity : Fld Z h0 a "com/example/overuse_to_delay/overusetodelay/gateway/BytePieces" "capacity" "I" (.int (0 : Int32))) (SD : Sta Z h0 "java/util/ArrayList" "DEFAULTCAPACITY_EMPTY_ELEMENTDATA" "[Ljava/lang/Object;" (.ref de)) :
    OMeets l Z y1 prog_31_method_1_code 1 none ({ frames := 4, cells := 3, slots := 13, locals := 50 } : Room) #[(.ref a)] h0 (fun v h L => v = none ∧ Fr n0 L ∧ Keep h0 h [a] ∧ ∃ li en fr, (a ≠ li ∧ a ≠ en ∧ a ≠ fr ∧ li ≠ en ∧ li ≠ fr ∧ en ≠ fr) ∧ (n0 ≤ li ∧ n0 ≤ en ∧ n0 ≤ fr) ∧ (Array.size h0 ≤ li ∧ Array.size h0 ≤ en ∧ Array.size h0 ≤ fr) ∧ own_B Z h a li en fr (0 : Int32) ∧ own_L Z h li de (0 : Int32) (0 : Int32) ∧ own_P Z h en a (0 : Int32) (0 : Int32) (0 : Int32) .null ∧ own_P Z h fr a (0 : Int32) (0 : Int32) (0 : Int32) .null) := by
  refine met (Q := fun v h L => v = none ∧ Fr n0 L ∧ Keep h0 h [a] ∧ ∃ li en fr, (a ≠ li ∧ a ≠ en ∧ a ≠ fr ∧ li ≠ en ∧ li ≠ fr ∧ en ≠ fr) ∧ (n0 ≤ li ∧ n0 ≤ en ∧ n0 ≤ fr) ∧ (Array.size h0 ≤ li ∧ Array.size h0 ≤ en ∧ Array.size h0 ≤ fr) ∧ own_B Z h a li en fr (0 : Int32) ∧ own_L Z h li de (0 : Int32) (0 : Int32) ∧ own_P Z h en a (0 : Int32) (0 : Int32) (0 : Int32) .null ∧ own_P Z h fr a (0 : Int32) (0 : Int32) (0 : Int32) .null) pf_1 (fun m => ef_rmBP m a) fun p e s m below meth c T0 P0 => ?_
  have N0 := Fr.nil n0
  have K0 := Keep.refl h0 [a]
  refine G.aloadN P0 d1_0 rfl rfl (pc' := 1) rfl ?_
  obtain ⟨T1, X1, e1, s1⟩ := Jvm.RoadKit.initO P0.st P0.x P0.z P0.ow (wk hw 6 rfl) (wk hw 7 rfl) (wk hw 8 rfl) P0.eh (g := (mkF m 1 #[.val (.ref a)] [(.ref a)])) rfl (by rw [P0.mx]; rfl) rfl (hb P0.bt d1_1) (by decide) (W := 0) (by show 2 * 0 + _ ≤ _; exact Nat.le_of_eq rfl) (by decide)
  have P1 := Pos.re P0 X1 e1
  refine Go.via s1 ?_
  show Go p e below _ (T1.setTop (mkF m 4 #[.val (.ref a)] []))
  refine G.aloadN P1 d1_4 rfl rfl (pc' := 5) rfl ?_
  refine G.newO P1 (wk hw 9 rfl) (wk hw 10 rfl) (wk hw 11 rfl) d1_5 (by decide) (pc' := 8) rfl fun T2 h2 a2 g2 P2 E2 A2 D2 => ?_
  have n3 : a ≠ a2 := by rw [g2]; exact Nat.ne_of_lt E0.lt
  have g4 : n0 ≤ a2 := by rw [g2]; exact Z0
  have q2 := (Nat.le_trans K0.1 (Nat.le_of_eq g2.symm))
  have K5 := K0.ext E2
  have f6 : Fld Z h2 a2 "java/util/AbstractList" "modCount" "I" (.int (0 : Int32)) := D2 (Or.inl (wk hw 29 rfl)) (ty := .int) (by decide)
  have f7 : Fld Z h2 a2 "java/util/ArrayList" "elementData" "[Ljava/lang/Object;" .null := D2 (Or.inl (wk hw 32 rfl)) (ty := (.array (.object "java/lang/Object"))) (by decide)
  have f8 : Fld Z h2 a2 "java/util/ArrayList" "size" "I" (.int (0 : Int32)) := D2 (Or.inl (wk hw 76 rfl)) (ty := .int) (by decide)
  refine G.dup P2 d1_8 rfl (pc' := 9) rfl ?_
  have f9 := (SD.ext E2)
  refine G.callI P2 (rmAL l Z a0 hw a2 de h2 n0 g4 A2 f6 f7 f8 f9) rfl (wk hw 12 rfl) (wk hw 13 rfl) (wk hw 11 rfl) (wk hw 14 rfl) (by decide) pd_3 (argsL := []) (rest := [(.ref a2), (.ref a)]) rfl rfl rfl rfl (W := 2) (Nat.le_of_eq rfl) (by decide) d1_9 (pc' := 12) rfl fun T10 L10 v10 P10 Q10 => ?_
  obtain ⟨rfl, N10, K10, E10, Fm10, Fe10, Fs10⟩ := Q10
  have N11 := Fr.app N0 N10
  have K12 := K5.trans K10 (allS (Or.inr q2) all0)
  show Go p e below _ (T10.setTop (mkF m 12 #[.val (.ref a)] [(.ref a2), (.ref a)]))
  have f13 := ((F_pieces.ext E2).keep K10 (ninS n3 nin0))
  have f14 := ((E0.ext E2).keep K10)
  refine G.putF P10 (host := "") (Or.inl (wk hw 33 rfl)) Via.refl f13 f14 (Or.inr ⟨(wk hw 34 rfl), rfl, rfl⟩) (wk hw 1 rfl) (ty := (.object "java/util/List")) (by decide) rfl rfl d1_12 (pc' := 15) rfl fun T15 h15 P15 W15 => ?_
  have f15 := f13.same W15
  have N16 := Fr.snoc P15.st N11 g0
  have K17 := K12.wr W15 (Or.inl (List.mem_of_getElem? (i := 0) rfl))
  refine G.aloadN P15 d1_15 rfl rfl (pc' := 16) rfl ?_
  have f18 := (f14.wr W15)
  have f19 := (E10.wr W15)
  have z20 : n0 ≤ Array.size h15 := (Nat.le_trans (Nat.le_trans (Nat.le_trans Z0 E2.1) K10.1) (Nat.le_of_eq W15.size.symm))
  refine G.newO P15 (wk hw 35 rfl) (wk hw 36 rfl) (wk hw 37 rfl) d1_16 (by decide) (pc' := 19) rfl fun T21 h21 a21 g21 P21 E21 A21 D21 => ?_
  have n22 : a ≠ a21 := by rw [g21]; exact Nat.ne_of_lt f18.lt
  have n23 : a2 ≠ a21 := by rw [g21]; exact Nat.ne_of_lt f19.lt
  have g24 : n0 ≤ a21 := by rw [g21]; exact z20
  have q21 := (Nat.le_trans K17.1 (Nat.le_of_eq g21.symm))
  have K25 := K17.ext E21
  have f26 : Fld Z h21 a21 "com/example/overuse_to_delay/overusetodelay/gateway/BytePieces$Place" "this$0" "Lcom/example/overuse_to_delay/overusetodelay/gateway/BytePieces;" .null := D21 (Or.inr (wk hw 42 rfl)) (ty := (.object "com/example/overuse_to_delay/overusetodelay/gateway/BytePieces")) (by decide)
  have f27 : Fld Z h21 a21 "com/example/overuse_to_delay/overusetodelay/gateway/BytePieces$Place" "array" "[B" .null := D21 (Or.inl (wk hw 109 rfl)) (ty := (.array .byte)) (by decide)
  have f28 : Fld Z h21 a21 "com/example/overuse_to_delay/overusetodelay/gateway/BytePieces$Place" "at" "I" (.int (0 : Int32)) := D21 (Or.inl (wk hw 115 rfl)) (ty := .int) (by decide)
  have f29 : Fld Z h21 a21 "com/example/overuse_to_delay/overusetodelay/gateway/BytePieces$Place" "piece" "I" (.int (0 : Int32)) := D21 (Or.inl (wk hw 128 rfl)) (ty := .int) (by decide)
  have f30 : Fld Z h21 a21 "com/example/overuse_to_delay/overusetodelay/gateway/BytePieces$Place" "offset" "I" (.int (0 : Int32)) := D21 (Or.inl (wk hw 153 rfl)) (ty := .int) (by decide)
  refine G.dup P21 d1_19 rfl (pc' := 20) rfl ?_
  refine G.aloadN P21 d1_20 rfl rfl (pc' := 21) rfl ?_
  refine G.callI P21 (rmPl l Z a0 hw a21 a h21 n0 g24 A21 f26 f28 f29 f30 f27) rfl (wk hw 38 rfl) (wk hw 39 rfl) (wk hw 37 rfl) (wk hw 40 rfl) (by decide) pd_6 (argsL := [(.ref a)]) (rest := [(.ref a21), (.ref a)]) rfl rfl rfl rfl (W := 2) (Nat.le_of_eq rfl) (by decide) d1_21 (pc' := 24) rfl fun T31 L31 v31 P31 Q31 => ?_
  obtain ⟨rfl, N31, K31, HP31⟩ := Q31
  have N32 := Fr.app N16 N31
  have K33 := K25.trans K31 (allS (Or.inr q21) all0)
  show Go p e below _ (T31.setTop (mkF m 24 #[.val (.ref a)] [(.ref a21), (.ref a)]))
  obtain ⟨pE34, pT34, pA34, pC34, pO34, pR34⟩ := id HP31
  have f35 := (((((F_end.ext E2).keep K10 (ninS n3 nin0)).other W15 (Or.inr (slot_ne (Or.inr (wk hw 45 rfl)) (Or.inr (wk hw 34 rfl)) (by decide) (t := (.object "com/example/overuse_to_delay/overusetodelay/gateway/BytePieces$Place")) (t' := (.object "java/util/List")) (by decide) (by decide)))).ext E21).keep K31 (ninS n22 nin0))
  have f36 := ((f18.ext E21).keep K31)
  refine G.putF P31 (host := "") (Or.inl (wk hw 44 rfl)) Via.refl f35 f36 (Or.inr ⟨(wk hw 45 rfl), rfl, rfl⟩) (wk hw 1 rfl) (ty := (.object "com/example/overuse_to_delay/overusetodelay/gateway/BytePieces$Place")) (by decide) rfl rfl d1_24 (pc' := 27) rfl fun T37 h37 P37 W37 => ?_
  have f37 := f35.same W37
  have N38 := Fr.snoc P37.st N32 g0
  have K39 := K33.wr W37 (Or.inl (List.mem_of_getElem? (i := 0) rfl))
  refine G.aloadN P37 d1_27 rfl rfl (pc' := 28) rfl ?_
  have f40 := (f36.wr W37)
  have f41 := (((f19.ext E21).keep K31).wr W37)
  have f42 := (pE34.wr W37)
  have z43 : n0 ≤ Array.size h37 := (Nat.le_trans (Nat.le_trans (Nat.le_trans z20 E21.1) K31.1) (Nat.le_of_eq W37.size.symm))
  refine G.newO P37 (wk hw 35 rfl) (wk hw 36 rfl) (wk hw 37 rfl) d1_28 (by decide) (pc' := 31) rfl fun T44 h44 a44 g44 P44 E44 A44 D44 => ?_
  have n45 : a ≠ a44 := by rw [g44]; exact Nat.ne_of_lt f40.lt
  have n46 : a2 ≠ a44 := by rw [g44]; exact Nat.ne_of_lt f41.lt
  have n47 : a21 ≠ a44 := by rw [g44]; exact Nat.ne_of_lt f42.lt
  have g48 : n0 ≤ a44 := by rw [g44]; exact z43
  have q44 := (Nat.le_trans K39.1 (Nat.le_of_eq g44.symm))
  have K49 := K39.ext E44
  have f50 : Fld Z h44 a44 "com/example/overuse_to_delay/overusetodelay/gateway/BytePieces$Place" "this$0" "Lcom/example/overuse_to_delay/overusetodelay/gateway/BytePieces;" .null := D44 (Or.inr (wk hw 42 rfl)) (ty := (.object "com/example/overuse_to_delay/overusetodelay/gateway/BytePieces")) (by decide)
  have f51 : Fld Z h44 a44 "com/example/overuse_to_delay/overusetodelay/gateway/BytePieces$Place" "array" "[B" .null := D44 (Or.inl (wk hw 109 rfl)) (ty := (.array .byte)) (by decide)
  have f52 : Fld Z h44 a44 "com/example/overuse_to_delay/overusetodelay/gateway/BytePieces$Place" "at" "I" (.int (0 : Int32)) := D44 (Or.inl (wk hw 115 rfl)) (ty := .int) (by decide)
  have f53 : Fld Z h44 a44 "com/example/overuse_to_delay/overusetodelay/gateway/BytePieces$Place" "piece" "I" (.int (0 : Int32)) := D44 (Or.inl (wk hw 128 rfl)) (ty := .int) (by decide)
  have f54 : Fld Z h44 a44 "com/example/overuse_to_delay/overusetodelay/gateway/BytePieces$Place" "offset" "I" (.int (0 : Int32)) := D44 (Or.inl (wk hw 153 rfl)) (ty := .int) (by decide)
  refine G.dup P44 d1_31 rfl (pc' := 32) rfl ?_
  refine G.aloadN P44 d1_32 rfl rfl (pc' := 33) rfl ?_
  refine G.callI P44 (rmPl l Z a0 hw a44 a h44 n0 g48 A44 f50 f52 f53 f54 f51) rfl (wk hw 38 rfl) (wk hw 39 rfl) (wk hw 37 rfl) (wk hw 40 rfl) (by decide) pd_6 (argsL := [(.ref a)]) (rest := [(.ref a44), (.ref a)]) rfl rfl rfl rfl (W := 2) (Nat.le_of_eq rfl) (by decide) d1_33 (pc' := 36) rfl fun T55 L55 v55 P55 Q55 => ?_
  obtain ⟨rfl, N55, K55, HP55⟩ := Q55
  have N56 := Fr.app N38 N55
  have K57 := K49.trans K55 (allS (Or.inr q44) all0)
  show Go p e below _ (T55.setTop (mkF m 36 #[.val (.ref a)] [(.ref a44), (.ref a)]))
  obtain ⟨pE58, pT58, pA58, pC58, pO58, pR58⟩ := id HP55
  have f59 := ((((((((F_front.ext E2).keep K10 (ninS n3 nin0)).other W15 (Or.inr (slot_ne (Or.inr (wk hw 47 rfl)) (Or.inr (wk hw 34 rfl)) (by decide) (t := (.object "com/example/overuse_to_delay/overusetodelay/gateway/BytePieces$Place")) (t' := (.object "java/util/List")) (by decide) (by decide)))).ext E21).keep K31 (ninS n22 nin0)).other W37 (Or.inr (slot_ne (Or.inr (wk hw 47 rfl)) (Or.inr (wk hw 45 rfl)) (by decide) (t := (.object "com/example/overuse_to_delay/overusetodelay/gateway/BytePieces$Place")) (t' := (.object "com/example/overuse_to_delay/overusetodelay/gateway/BytePieces$Place")) (by decide) (by decide)))).ext E44).keep K55 (ninS n45 nin0))
  have f60 := ((f40.ext E44).keep K55)
  refine G.putF P55 (host := "") (Or.inl (wk hw 46 rfl)) Via.refl f59 f60 (Or.inr ⟨(wk hw 47 rfl), rfl, rfl⟩) (wk hw 1 rfl) (ty := (.object "com/example/overuse_to_delay/overusetodelay/gateway/BytePieces$Place")) (by decide) rfl rfl d1_36 (pc' := 39) rfl fun T61 h61 P61 W61 => ?_
  have f61 := f59.same W61
  have N62 := Fr.snoc P61.st N56 g0
  have K63 := K57.wr W61 (Or.inl (List.mem_of_getElem? (i := 0) rfl))
  have f64 := (f60.wr W61)
  have f65 := ((((((f15.ext E21).keep K31 (ninS n22 nin0)).other W37 (Or.inr (slot_ne (Or.inr (wk hw 34 rfl)) (Or.inr (wk hw 45 rfl)) (by decide) (t := (.object "java/util/List")) (t' := (.object "com/example/overuse_to_delay/overusetodelay/gateway/BytePieces$Place")) (by decide) (by decide)))).ext E44).keep K55 (ninS n45 nin0)).other W61 (Or.inr (slot_ne (Or.inr (wk hw 34 rfl)) (Or.inr (wk hw 47 rfl)) (by decide) (t := (.object "java/util/List")) (t' := (.object "com/example/overuse_to_delay/overusetodelay/gateway/BytePieces$Place")) (by decide) (by decide))))
  have f66 := (((f37.ext E44).keep K55 (ninS n45 nin0)).other W61 (Or.inr (slot_ne (Or.inr (wk hw 45 rfl)) (Or.inr (wk hw 47 rfl)) (by decide) (t := (.object "com/example/overuse_to_delay/overusetodelay/gateway/BytePieces$Place")) (t' := (.object "com/example/overuse_to_delay/overusetodelay/gateway/BytePieces$Place")) (by decide) (by decide))))
  have f67 := (((((((((F_capacity.ext E2).keep K10 (ninS n3 nin0)).other W15 (Or.inr (slot_ne (Or.inl (wk hw 54 rfl)) (Or.inr (wk hw 34 rfl)) (by decide) (t := .int) (t' := (.object "java/util/List")) (by decide) (by decide)))).ext E21).keep K31 (ninS n22 nin0)).other W37 (Or.inr (slot_ne (Or.inl (wk hw 54 rfl)) (Or.inr (wk hw 45 rfl)) (by decide) (t := .int) (t' := (.object "com/example/overuse_to_delay/overusetodelay/gateway/BytePieces$Place")) (by decide) (by decide)))).ext E44).keep K55 (ninS n45 nin0)).other W61 (Or.inr (slot_ne (Or.inl (wk hw 54 rfl)) (Or.inr (wk hw 47 rfl)) (by decide) (t := .int) (t' := (.object "com/example/overuse_to_delay/overusetodelay/gateway/BytePieces$Place")) (by decide) (by decide))))
  have f68 := (((f41.ext E44).keep K55).wr W61)
  have f69 := (((((((Fm10.other W15 (Or.inl (Ne.symm n3))).ext E21).keep K31 (ninS n23 nin0)).other W37 (Or.inl (Ne.symm n3))).ext E44).keep K55 (ninS n46 nin0)).other W61 (Or.inl (Ne.symm n3)))
  have f70 := (((((((Fe10.other W15 (Or.inl (Ne.symm n3))).ext E21).keep K31 (ninS n23 nin0)).other W37 (Or.inl (Ne.symm n3))).ext E44).keep K55 (ninS n46 nin0)).other W61 (Or.inl (Ne.symm n3)))
  have f71 := (((((((Fs10.other W15 (Or.inl (Ne.symm n3))).ext E21).keep K31 (ninS n23 nin0)).other W37 (Or.inl (Ne.symm n3))).ext E44).keep K55 (ninS n46 nin0)).other W61 (Or.inl (Ne.symm n3)))
  have f72 := (((f42.ext E44).keep K55).wr W61)
  have f73 := ((((pT34.other W37 (Or.inl (Ne.symm n22))).ext E44).keep K55 (ninS n47 nin0)).other W61 (Or.inl (Ne.symm n22)))
  have f74 := ((((pA34.other W37 (Or.inl (Ne.symm n22))).ext E44).keep K55 (ninS n47 nin0)).other W61 (Or.inl (Ne.symm n22)))
  have f75 := ((((pC34.other W37 (Or.inl (Ne.symm n22))).ext E44).keep K55 (ninS n47 nin0)).other W61 (Or.inl (Ne.symm n22)))
  have f76 := ((((pO34.other W37 (Or.inl (Ne.symm n22))).ext E44).keep K55 (ninS n47 nin0)).other W61 (Or.inl (Ne.symm n22)))
  have f77 := ((((pR34.other W37 (Or.inl (Ne.symm n22))).ext E44).keep K55 (ninS n47 nin0)).other W61 (Or.inl (Ne.symm n22)))
  have f78 := (pE58.wr W61)
  have f79 := (pT58.other W61 (Or.inl (Ne.symm n45)))
  have f80 := (pA58.other W61 (Or.inl (Ne.symm n45)))
  have f81 := (pC58.other W61 (Or.inl (Ne.symm n45)))
  have f82 := (pO58.other W61 (Or.inl (Ne.symm n45)))
  have f83 := (pR58.other W61 (Or.inl (Ne.symm n45)))
  exact G.retV P61 d1_39 (by decide) (by decide) ⟨rfl, N62, K63, a2, a21, a44, ⟨n3, n22, n45, n23, n46, n47⟩, ⟨g4, g24, g48⟩, ⟨q2, q21, q44⟩, ⟨f64, f65, f66, f61, f67⟩, ⟨f68, f69, f70, f71⟩, ⟨f72, f73, f74, f75, f76, f77⟩, ⟨f78, f79, f80, f81, f82, f83⟩⟩

theorem ef_rmGrow1 (m : MethodId) (li : Addr) : entryFrame m #[(.ref li), (.int (1 : Int32))] 4 = mkF m 0 #[.val (.ref li), .val (.int (1 : Int32)), .unset, .unset] [] := by first | (simp [entryFrame, mkF, argsToLocals, Value.category]; done) | rfl
set_option maxRecDepth 65536 in
set_option maxHeartbeats 40000000 in
theorem rmGrow1 (l : Launch) (Z : State) (a0 : Array Value) (hw : ∀ d ∈ tables_1, d.before a0 Z = true) (li de : Addr) (mc : Int32) (kd : ClassId) (vd : List Value) (h0 : Heap) (n0 : Nat) (Z0 : n0 ≤ Array.size h0) (gl : n0 ≤ li) (hld : li ≠ de) (HL : own_L Z h0 li de mc (0 : Int32)) (VD : Arv Z h0 de kd (.object "java/lang/Object") (0 : Int32) vd .null) (SD : Sta Z h0 "java/util/ArrayList" "DEFAULTCAPACITY_EMPTY_ELEMENTDATA" "[Ljava/lang/Object;" (.ref de)) :
    OMeets l Z y13 jdk_38_method_6_code 4 (some (.array (.object "java/lang/Object"))) ({ frames := 1, cells := 1, slots := 10, locals := 14 } : Room) #[(.ref li), (.int (1 : Int32))] h0 (fun v h L => ∃ ed ke, v = some (.ref ed) ∧ Fr n0 L ∧ Keep h0 h [li] ∧ own_L Z h li ed mc (0 : Int32) ∧ Ovr Z ke "java/lang/Object" ∧ li ≠ ed ∧ n0 ≤ ed ∧ Array.size h0 ≤ ed ∧ Arv Z h ed ke (.object "java/lang/Object") (10 : Int32) [.null, .null, .null, .null, .null, .null, .null, .null, .null, .null] .null) := by
  refine met (Q := fun v h L => ∃ ed ke, v = some (.ref ed) ∧ Fr n0 L ∧ Keep h0 h [li] ∧ own_L Z h li ed mc (0 : Int32) ∧ Ovr Z ke "java/lang/Object" ∧ li ≠ ed ∧ n0 ≤ ed ∧ Array.size h0 ≤ ed ∧ Arv Z h ed ke (.object "java/lang/Object") (10 : Int32) [.null, .null, .null, .null, .null, .null, .null, .null, .null, .null] .null) pf_13 (fun m => ef_rmGrow1 m li) fun p e s m below meth c T0 P0 => ?_
  have N0 := Fr.nil n0
  have K0 := Keep.refl h0 [li]
  obtain ⟨lE1, lM1, lD1, lS1⟩ := id HL
  refine G.aloadN P0 d13_0 rfl rfl (pc' := 1) rfl ?_
  refine G.getF P0 (host := "") (Or.inl (wk hw 31 rfl)) Via.refl lD1 d13_1 (pc' := 4) rfl fun T2 P2 => ?_
  refine G.alen P2 VD d13_4 (pc' := 5) rfl ?_
  refine G.istoreN P2 d13_5 (l' := #[.val (.ref li), .val (.int (1 : Int32)), .val (.int (0 : Int32)), .unset]) rfl (pc' := 6) rfl ?_
  refine G.iloadN P2 d13_6 rfl (pc' := 7) rfl ?_
  refine G.if_gt P2 d13_7 (by decide) (pcY := 20) (by decide) (pcN := 10) rfl (fun c3 => absurd c3 (by decide)) (fun c3 => ?_)
  refine G.aloadN P2 d13_10 rfl rfl (pc' := 11) rfl ?_
  refine G.getF P2 (host := "") (Or.inl (wk hw 31 rfl)) Via.refl lD1 d13_11 (pc' := 14) rfl fun T4 P4 => ?_
  refine G.getS P4 (host := "") (Or.inl (wk hw 30 rfl)) Via.refl SD d13_14 (pc' := 17) rfl fun T5 P5 => ?_
  refine G.acmp_eq P5 d13_17 (by decide) (pcY := 45) (by decide) (pcN := 20) rfl (fun cc => ?_) (fun cc => absurd rfl cc)
  refine G.aloadN P5 d13_45 rfl rfl (pc' := 46) rfl ?_
  refine G.bipush P5 d13_46 (z := (10 : Int32)) rfl (pc' := 48) rfl ?_
  refine G.iloadN P5 d13_48 rfl (pc' := 49) rfl ?_
  refine G.callSP P5 (rmMax l Z a0 hw (10 : Int32) (1 : Int32) h0) (wk hw 92 rfl) (wk hw 93 rfl) (wk hw 57 rfl) (wk hw 94 rfl) (by decide) pd_14 (argsL := [(.int (10 : Int32)), (.int (1 : Int32))]) (rest := [(.ref li)]) rfl rfl rfl rfl (W := 1) (Nat.le_of_eq rfl) (by decide) d13_49 (pc' := 52) rfl fun T6 P6 => ?_
  show Go p e below _ (T6.setTop (mkF m 52 #[.val (.ref li), .val (.int (1 : Int32)), .val (.int (0 : Int32)), .unset] [(.int (own_max (10 : Int32) (1 : Int32))), (.ref li)]))
  rw [show own_max (10 : Int32) (1 : Int32) = (10 : Int32) from by decide]
  refine G.newR P6 (wk hw 95 rfl) (wk hw 96 rfl) (by decide) (cap := 10) (by decide) (by decide) (by decide) d13_52 (pc' := 55) rfl fun T7 h7 a7 k7 g7 P7 E7 V7 O7 => ?_
  have n8 : de ≠ a7 := by rw [g7]; exact Nat.ne_of_lt VD.lt
  have n9 : li ≠ a7 := by rw [g7]; exact Nat.ne_of_lt lE1.lt
  have g10 : n0 ≤ a7 := by rw [g7]; exact Z0
  have q7 := (Nat.le_trans K0.1 (Nat.le_of_eq g7.symm))
  have K11 := K0.ext E7
  have V7p : Arv Z h7 a7 k7 (.object "java/lang/Object") (10 : Int32) [.null, .null, .null, .null, .null, .null, .null, .null, .null, .null] .null := V7.pad (pad_rep [] _ 10)
  refine G.dupX1 P7 d13_55 rfl rfl (pc' := 56) rfl ?_
  have f12 := (lD1.ext E7)
  have f13 := (lE1.ext E7)
  refine G.putF P7 (host := "") (Or.inl (wk hw 31 rfl)) Via.refl f12 f13 (Or.inl (wk hw 32 rfl)) (wk hw 10 rfl) (ty := (.array (.object "java/lang/Object"))) (by decide) rfl rfl d13_56 (pc' := 59) rfl fun T14 h14 P14 W14 => ?_
  have f14 := f12.same W14
  have N15 := Fr.snoc P14.st N0 gl
  have K16 := K11.wr W14 (Or.inl (List.mem_of_getElem? (i := 0) rfl))
  have f17 := (f13.wr W14)
  have f18 := ((lM1.ext E7).other W14 (Or.inr (slot_ne (Or.inl (wk hw 29 rfl)) (Or.inl (wk hw 32 rfl)) (by decide) (t := .int) (t' := (.array (.object "java/lang/Object"))) (by decide) (by decide))))
  have f19 := ((lS1.ext E7).other W14 (Or.inr (slot_ne (Or.inl (wk hw 76 rfl)) (Or.inl (wk hw 32 rfl)) (by decide) (t := .int) (t' := (.array (.object "java/lang/Object"))) (by decide) (by decide))))
  have f20 := (V7p.other W14 (Ne.symm n9))
  exact G.retA P14 rfl rfl rfl d13_59 (by decide) (by decide) ⟨_, _, rfl, N15, K16, ⟨f17, f18, f14, f19⟩, O7, n9, g10, q7, f20⟩

theorem ef_rmGrow0 (m : MethodId) (li : Addr) : entryFrame m #[(.ref li)] 1 = mkF m 0 #[.val (.ref li)] [] := by first | (simp [entryFrame, mkF, argsToLocals, Value.category]; done) | rfl
set_option maxRecDepth 65536 in
set_option maxHeartbeats 40000000 in
theorem rmGrow0 (l : Launch) (Z : State) (a0 : Array Value) (hw : ∀ d ∈ tables_1, d.before a0 Z = true) (li de : Addr) (mc : Int32) (kd : ClassId) (vd : List Value) (h0 : Heap) (n0 : Nat) (Z0 : n0 ≤ Array.size h0) (gl : n0 ≤ li) (hld : li ≠ de) (HL : own_L Z h0 li de mc (0 : Int32)) (VD : Arv Z h0 de kd (.object "java/lang/Object") (0 : Int32) vd .null) (SD : Sta Z h0 "java/util/ArrayList" "DEFAULTCAPACITY_EMPTY_ELEMENTDATA" "[Ljava/lang/Object;" (.ref de)) :
    OMeets l Z y12 jdk_38_method_7_code 1 (some (.array (.object "java/lang/Object"))) ({ frames := 2, cells := 1, slots := 10, locals := 29 } : Room) #[(.ref li)] h0 (fun v h L => ∃ ed ke, v = some (.ref ed) ∧ Fr n0 L ∧ Keep h0 h [li] ∧ own_L Z h li ed mc (0 : Int32) ∧ Ovr Z ke "java/lang/Object" ∧ li ≠ ed ∧ n0 ≤ ed ∧ Array.size h0 ≤ ed ∧ Arv Z h ed ke (.object "java/lang/Object") (10 : Int32) [.null, .null, .null, .null, .null, .null, .null, .null, .null, .null] .null) := by
  refine met (Q := fun v h L => ∃ ed ke, v = some (.ref ed) ∧ Fr n0 L ∧ Keep h0 h [li] ∧ own_L Z h li ed mc (0 : Int32) ∧ Ovr Z ke "java/lang/Object" ∧ li ≠ ed ∧ n0 ≤ ed ∧ Array.size h0 ≤ ed ∧ Arv Z h ed ke (.object "java/lang/Object") (10 : Int32) [.null, .null, .null, .null, .null, .null, .null, .null, .null, .null] .null) pf_12 (fun m => ef_rmGrow0 m li) fun p e s m below meth c T0 P0 => ?_
  have N0 := Fr.nil n0
  have K0 := Keep.refl h0 [li]
  obtain ⟨lE1, lM1, lD1, lS1⟩ := id HL
  refine G.aloadN P0 d12_0 rfl rfl (pc' := 1) rfl ?_
  refine G.aloadN P0 d12_1 rfl rfl (pc' := 2) rfl ?_
  refine G.getF P0 (host := "") (Or.inl (wk hw 75 rfl)) Via.refl lS1 d12_2 (pc' := 5) rfl fun T2 P2 => ?_
  refine G.iconst P2 d12_5 (z := (1 : Int32)) rfl (pc' := 6) rfl ?_
  refine G.iadd P2 d12_6 (z := (1 : Int32)) (by decide) (pc' := 7) rfl ?_
  refine G.callQ P2 (rmGrow1 l Z a0 hw li de mc kd vd h0 n0 Z0 gl hld HL VD SD) (wk hw 87 rfl) (wk hw 88 rfl) (wk hw 67 rfl) rfl (wk hw 89 rfl) (wk hw 11 rfl) (wk hw 91 rfl) (by decide) lE1 pd_13 (argsL := [(.int (1 : Int32))]) (rest := []) rfl rfl rfl rfl (W := 0) (Nat.le_of_eq rfl) (by decide) d12_7 (pc' := 10) rfl fun T3 L3 v3 P3 Q3 => ?_
  obtain ⟨ed, ke, rfl, N3, K3, HL2, O2, ne2, g2, q2, V2⟩ := Q3
  have N4 := Fr.app N0 N3
  have K5 := K0.trans K3 (allS (Or.inl (List.mem_of_getElem? (i := 0) rfl)) all0)
  show Go p e below _ (T3.setTop (mkF m 10 #[.val (.ref li)] [(.ref ed)]))
  exact G.retA P3 rfl rfl rfl d12_10 (by decide) (by decide) ⟨_, _, rfl, N4, K5, HL2, O2, ne2, g2, q2, V2⟩

theorem ef_rmAddH0 (m : MethodId) (li de b : Addr) : entryFrame m #[(.ref li), (.ref b), (.ref de), (.int (0 : Int32))] 4 = mkF m 0 #[.val (.ref li), .val (.ref b), .val (.ref de), .val (.int (0 : Int32))] [] := by first | (simp [entryFrame, mkF, argsToLocals, Value.category]; done) | rfl
set_option maxRecDepth 65536 in
set_option maxHeartbeats 40000000 in
theorem rmAddH0 (l : Launch) (Z : State) (a0 : Array Value) (hw : ∀ d ∈ tables_1, d.before a0 Z = true) (li de : Addr) (mc : Int32) (kd : ClassId) (vd : List Value) (b : Addr) (h0 : Heap) (n0 : Nat) (Z0 : n0 ≤ Array.size h0) (gl : n0 ≤ li) (hld : li ≠ de) (HL : own_L Z h0 li de mc (0 : Int32)) (VD : Arv Z h0 de kd (.object "java/lang/Object") (0 : Int32) vd .null) (SD : Sta Z h0 "java/util/ArrayList" "DEFAULTCAPACITY_EMPTY_ELEMENTDATA" "[Ljava/lang/Object;" (.ref de)) (Eb : Exa Z h0 b "[B") :
    OMeets l Z y11 jdk_38_method_24_code 4 none ({ frames := 3, cells := 1, slots := 10, locals := 41 } : Room) #[(.ref li), (.ref b), (.ref de), (.int (0 : Int32))] h0 (fun v h L => ∃ ed ke, v = none ∧ Fr n0 L ∧ Keep h0 h [li] ∧ own_L Z h li ed mc (1 : Int32) ∧ Ovr Z ke "java/lang/Object" ∧ li ≠ ed ∧ n0 ≤ ed ∧ Array.size h0 ≤ ed ∧ Arv Z h ed ke (.object "java/lang/Object") (10 : Int32) [.ref b, .null, .null, .null, .null, .null, .null, .null, .null, .null] .null) := by
  refine met (Q := fun v h L => ∃ ed ke, v = none ∧ Fr n0 L ∧ Keep h0 h [li] ∧ own_L Z h li ed mc (1 : Int32) ∧ Ovr Z ke "java/lang/Object" ∧ li ≠ ed ∧ n0 ≤ ed ∧ Array.size h0 ≤ ed ∧ Arv Z h ed ke (.object "java/lang/Object") (10 : Int32) [.ref b, .null, .null, .null, .null, .null, .null, .null, .null, .null] .null) pf_11 (fun m => ef_rmAddH0 m li de b) fun p e s m below meth c T0 P0 => ?_
  have N0 := Fr.nil n0
  have K0 := Keep.refl h0 [li]
  obtain ⟨lE1, lM1, lD1, lS1⟩ := id HL
  refine G.iloadN P0 d11_0 rfl (pc' := 1) rfl ?_
  refine G.aloadN P0 d11_1 rfl rfl (pc' := 2) rfl ?_
  refine G.alen P0 VD d11_2 (pc' := 3) rfl ?_
  refine G.icmp_ne P0 d11_3 (by decide) (pcY := 11) (by decide) (pcN := 6) rfl (fun c2 => absurd c2 (by decide)) (fun c2 => ?_)
  refine G.aloadN P0 d11_6 rfl rfl (pc' := 7) rfl ?_
  refine G.callQ P0 (rmGrow0 l Z a0 hw li de mc kd vd h0 n0 Z0 gl hld HL VD SD) (wk hw 82 rfl) (wk hw 83 rfl) (wk hw 67 rfl) rfl (wk hw 84 rfl) (wk hw 11 rfl) (wk hw 86 rfl) (by decide) lE1 pd_12 (argsL := []) (rest := []) rfl rfl rfl rfl (W := 0) (Nat.le_of_eq rfl) (by decide) d11_7 (pc' := 10) rfl fun T3 L3 v3 P3 Q3 => ?_
  obtain ⟨ed, ke, rfl, N3, K3, HL2, O2, ne2, g2, q2, V2⟩ := Q3
  have N4 := Fr.app N0 N3
  have K5 := K0.trans K3 (allS (Or.inl (List.mem_of_getElem? (i := 0) rfl)) all0)
  show Go p e below _ (T3.setTop (mkF m 10 #[.val (.ref li), .val (.ref b), .val (.ref de), .val (.int (0 : Int32))] [(.ref ed)]))
  obtain ⟨lE6, lM6, lD6, lS6⟩ := id HL2
  refine G.astoreN P3 d11_10 rfl (l' := #[.val (.ref li), .val (.ref b), .val (.ref ed), .val (.int (0 : Int32))]) rfl (pc' := 11) rfl ?_
  refine G.aloadN P3 d11_11 rfl rfl (pc' := 12) rfl ?_
  refine G.iloadN P3 d11_12 rfl (pc' := 13) rfl ?_
  refine G.aloadN P3 d11_13 rfl rfl (pc' := 14) rfl ?_
  have f7 := (Eb.keep K3)
  refine G.stR P3 V2 rfl O2 (Ins.of_exa f7 (wk hw 97 rfl)) rfl 0 rfl (by decide) (Nat.le_of_ble_eq_true rfl) d11_14 (pc' := 15) rfl fun T8 h8 P8 W8 V8 => ?_
  have V8p : Arv Z h8 ed ke (.object "java/lang/Object") (10 : Int32) [.ref b, .null, .null, .null, .null, .null, .null, .null, .null, .null] .null := V8
  have N9 := Fr.snoc P8.st N4 g2
  have K10 := K5.wr W8 (Or.inr q2)
  refine G.aloadN P8 d11_15 rfl rfl (pc' := 16) rfl ?_
  refine G.iloadN P8 d11_16 rfl (pc' := 17) rfl ?_
  refine G.iconst P8 d11_17 (z := (1 : Int32)) rfl (pc' := 18) rfl ?_
  refine G.iadd P8 d11_18 (z := (1 : Int32)) (by decide) (pc' := 19) rfl ?_
  have f11 := (lS6.other W8 (Or.inl ne2))
  have f12 := (lE6.wr W8)
  refine G.putF P8 (host := "") (Or.inl (wk hw 75 rfl)) Via.refl f11 f12 (Or.inl (wk hw 76 rfl)) (wk hw 10 rfl) (ty := .int) (by decide) rfl rfl d11_19 (pc' := 22) rfl fun T13 h13 P13 W13 => ?_
  have f13 := f11.same W13
  have N14 := Fr.snoc P13.st N9 gl
  have K15 := K10.wr W13 (Or.inl (List.mem_of_getElem? (i := 0) rfl))
  have f16 := (f12.wr W13)
  have f17 := ((lM6.other W8 (Or.inl ne2)).other W13 (Or.inr (slot_ne (Or.inl (wk hw 29 rfl)) (Or.inl (wk hw 76 rfl)) (by decide) (t := .int) (t' := .int) (by decide) (by decide))))
  have f18 := ((lD6.other W8 (Or.inl ne2)).other W13 (Or.inr (slot_ne (Or.inl (wk hw 32 rfl)) (Or.inl (wk hw 76 rfl)) (by decide) (t := (.array (.object "java/lang/Object"))) (t' := .int) (by decide) (by decide))))
  have f19 := (V8p.other W13 (Ne.symm ne2))
  exact G.retV P13 d11_22 (by decide) (by decide) ⟨_, _, rfl, N14, K15, ⟨f16, f17, f18, f13⟩, O2, ne2, g2, q2, f19⟩

theorem ef_rmAddH1 (m : MethodId) (li ed b : Addr) : entryFrame m #[(.ref li), (.ref b), (.ref ed), (.int (1 : Int32))] 4 = mkF m 0 #[.val (.ref li), .val (.ref b), .val (.ref ed), .val (.int (1 : Int32))] [] := by first | (simp [entryFrame, mkF, argsToLocals, Value.category]; done) | rfl
set_option maxRecDepth 65536 in
set_option maxHeartbeats 40000000 in
theorem rmAddH1 (l : Launch) (Z : State) (a0 : Array Value) (hw : ∀ d ∈ tables_1, d.before a0 Z = true) (li ed : Addr) (mc : Int32) (ke : ClassId) (b1 b : Addr) (h0 : Heap) (n0 : Nat) (gl : n0 ≤ li) (ge_ : n0 ≤ ed) (hle : li ≠ ed) (HL : own_L Z h0 li ed mc (1 : Int32)) (O2 : Ovr Z ke "java/lang/Object") (VE : Arv Z h0 ed ke (.object "java/lang/Object") (10 : Int32) [.ref b1, .null, .null, .null, .null, .null, .null, .null, .null, .null] .null) (Eb : Exa Z h0 b "[B") :
    OMeets l Z y11 jdk_38_method_24_code 4 none ({ frames := 0, cells := 0, slots := 0, locals := 0 } : Room) #[(.ref li), (.ref b), (.ref ed), (.int (1 : Int32))] h0 (fun v h L => v = none ∧ Fr n0 L ∧ Keep h0 h [li, ed] ∧ own_L Z h li ed mc (2 : Int32) ∧ Arv Z h ed ke (.object "java/lang/Object") (10 : Int32) [.ref b1, .ref b, .null, .null, .null, .null, .null, .null, .null, .null] .null) := by
  refine met (Q := fun v h L => v = none ∧ Fr n0 L ∧ Keep h0 h [li, ed] ∧ own_L Z h li ed mc (2 : Int32) ∧ Arv Z h ed ke (.object "java/lang/Object") (10 : Int32) [.ref b1, .ref b, .null, .null, .null, .null, .null, .null, .null, .null] .null) pf_11 (fun m => ef_rmAddH1 m li ed b) fun p e s m below meth c T0 P0 => ?_
  have N0 := Fr.nil n0
  have K0 := Keep.refl h0 [li, ed]
  obtain ⟨lE1, lM1, lD1, lS1⟩ := id HL
  refine G.iloadN P0 d11_0 rfl (pc' := 1) rfl ?_
  refine G.aloadN P0 d11_1 rfl rfl (pc' := 2) rfl ?_
  refine G.alen P0 VE d11_2 (pc' := 3) rfl ?_
  refine G.icmp_ne P0 d11_3 (by decide) (pcY := 11) (by decide) (pcN := 6) rfl (fun c2 => ?_) (fun c2 => absurd c2 (by decide))
  refine G.aloadN P0 d11_11 rfl rfl (pc' := 12) rfl ?_
  refine G.iloadN P0 d11_12 rfl (pc' := 13) rfl ?_
  refine G.aloadN P0 d11_13 rfl rfl (pc' := 14) rfl ?_
  refine G.stR P0 VE rfl O2 (Ins.of_exa Eb (wk hw 97 rfl)) rfl 1 rfl (by decide) (Nat.le_of_ble_eq_true rfl) d11_14 (pc' := 15) rfl fun T3 h3 P3 W3 V3 => ?_
  have V3p : Arv Z h3 ed ke (.object "java/lang/Object") (10 : Int32) [.ref b1, .ref b, .null, .null, .null, .null, .null, .null, .null, .null] .null := V3
  have N4 := Fr.snoc P3.st N0 ge_
  have K5 := K0.wr W3 (Or.inl (List.mem_of_getElem? (i := 1) rfl))
  refine G.aloadN P3 d11_15 rfl rfl (pc' := 16) rfl ?_
  refine G.iloadN P3 d11_16 rfl (pc' := 17) rfl ?_
  refine G.iconst P3 d11_17 (z := (1 : Int32)) rfl (pc' := 18) rfl ?_
  refine G.iadd P3 d11_18 (z := (2 : Int32)) (by decide) (pc' := 19) rfl ?_
  have f6 := (lS1.other W3 (Or.inl hle))
  have f7 := (lE1.wr W3)
  refine G.putF P3 (host := "") (Or.inl (wk hw 75 rfl)) Via.refl f6 f7 (Or.inl (wk hw 76 rfl)) (wk hw 10 rfl) (ty := .int) (by decide) rfl rfl d11_19 (pc' := 22) rfl fun T8 h8 P8 W8 => ?_
  have f8 := f6.same W8
  have N9 := Fr.snoc P8.st N4 gl
  have K10 := K5.wr W8 (Or.inl (List.mem_of_getElem? (i := 0) rfl))
  have f11 := (f7.wr W8)
  have f12 := ((lM1.other W3 (Or.inl hle)).other W8 (Or.inr (slot_ne (Or.inl (wk hw 29 rfl)) (Or.inl (wk hw 76 rfl)) (by decide) (t := .int) (t' := .int) (by decide) (by decide))))
  have f13 := ((lD1.other W3 (Or.inl hle)).other W8 (Or.inr (slot_ne (Or.inl (wk hw 32 rfl)) (Or.inl (wk hw 76 rfl)) (by decide) (t := (.array (.object "java/lang/Object"))) (t' := .int) (by decide) (by decide))))
  have f14 := (V3p.other W8 (Ne.symm hle))
  exact G.retV P8 d11_22 (by decide) (by decide) ⟨rfl, N9, K10, ⟨f11, f12, f13, f8⟩, f14⟩

theorem ef_rmAdd0 (m : MethodId) (li b : Addr) : entryFrame m #[(.ref li), (.ref b)] 2 = mkF m 0 #[.val (.ref li), .val (.ref b)] [] := by first | (simp [entryFrame, mkF, argsToLocals, Value.category]; done) | rfl
set_option maxRecDepth 65536 in
set_option maxHeartbeats 40000000 in
theorem rmAdd0 (l : Launch) (Z : State) (a0 : Array Value) (hw : ∀ d ∈ tables_1, d.before a0 Z = true) (li de : Addr) (mc : Int32) (kd : ClassId) (vd : List Value) (b : Addr) (h0 : Heap) (n0 : Nat) (Z0 : n0 ≤ Array.size h0) (gl : n0 ≤ li) (hld : li ≠ de) (HL : own_L Z h0 li de mc (0 : Int32)) (VD : Arv Z h0 de kd (.object "java/lang/Object") (0 : Int32) vd .null) (SD : Sta Z h0 "java/util/ArrayList" "DEFAULTCAPACITY_EMPTY_ELEMENTDATA" "[Ljava/lang/Object;" (.ref de)) (Eb : Exa Z h0 b "[B") :
    OMeets l Z y10 jdk_38_method_25_code 2 (some .boolean) ({ frames := 4, cells := 1, slots := 10, locals := 56 } : Room) #[(.ref li), (.ref b)] h0 (fun v h L => ∃ ed ke, v = some (.int (1 : Int32)) ∧ Fr n0 L ∧ Keep h0 h [li] ∧ own_L Z h li ed (mc + (1 : Int32)) (1 : Int32) ∧ Ovr Z ke "java/lang/Object" ∧ li ≠ ed ∧ n0 ≤ ed ∧ Array.size h0 ≤ ed ∧ Arv Z h ed ke (.object "java/lang/Object") (10 : Int32) [.ref b, .null, .null, .null, .null, .null, .null, .null, .null, .null] .null) := by
  refine met (Q := fun v h L => ∃ ed ke, v = some (.int (1 : Int32)) ∧ Fr n0 L ∧ Keep h0 h [li] ∧ own_L Z h li ed (mc + (1 : Int32)) (1 : Int32) ∧ Ovr Z ke "java/lang/Object" ∧ li ≠ ed ∧ n0 ≤ ed ∧ Array.size h0 ≤ ed ∧ Arv Z h ed ke (.object "java/lang/Object") (10 : Int32) [.ref b, .null, .null, .null, .null, .null, .null, .null, .null, .null] .null) pf_10 (fun m => ef_rmAdd0 m li b) fun p e s m below meth c T0 P0 => ?_
  have N0 := Fr.nil n0
  have K0 := Keep.refl h0 [li]
  obtain ⟨lE1, lM1, lD1, lS1⟩ := id HL
  refine G.aloadN P0 d10_0 rfl rfl (pc' := 1) rfl ?_
  refine G.dup P0 d10_1 rfl (pc' := 2) rfl ?_
  refine G.getF P0 (host := "") (Or.inl (wk hw 73 rfl)) (Via.of (wk hw 74 rfl)) lM1 d10_2 (pc' := 5) rfl fun T2 P2 => ?_
  refine G.iconst P2 d10_5 (z := (1 : Int32)) rfl (pc' := 6) rfl ?_
  refine G.iadd P2 d10_6 rfl (pc' := 7) rfl ?_
  refine G.putF P2 (host := "") (Or.inl (wk hw 73 rfl)) (Via.of (wk hw 74 rfl)) lM1 lE1 (Or.inl (wk hw 29 rfl)) (wk hw 10 rfl) (ty := .int) (by decide) rfl rfl d10_7 (pc' := 10) rfl fun T3 h3 P3 W3 => ?_
  have f3 := lM1.same W3
  have N4 := Fr.snoc P3.st N0 gl
  have K5 := K0.wr W3 (Or.inl (List.mem_of_getElem? (i := 0) rfl))
  refine G.aloadN P3 d10_10 rfl rfl (pc' := 11) rfl ?_
  refine G.aloadN P3 d10_11 rfl rfl (pc' := 12) rfl ?_
  refine G.aloadN P3 d10_12 rfl rfl (pc' := 13) rfl ?_
  have f6 := (lD1.other W3 (Or.inr (slot_ne (Or.inl (wk hw 32 rfl)) (Or.inl (wk hw 29 rfl)) (by decide) (t := (.array (.object "java/lang/Object"))) (t' := .int) (by decide) (by decide))))
  refine G.getF P3 (host := "") (Or.inl (wk hw 31 rfl)) Via.refl f6 d10_13 (pc' := 16) rfl fun T7 P7 => ?_
  refine G.aloadN P7 d10_16 rfl rfl (pc' := 17) rfl ?_
  have f8 := (lS1.other W3 (Or.inr (slot_ne (Or.inl (wk hw 76 rfl)) (Or.inl (wk hw 29 rfl)) (by decide) (t := .int) (t' := .int) (by decide) (by decide))))
  refine G.getF P7 (host := "") (Or.inl (wk hw 75 rfl)) Via.refl f8 d10_17 (pc' := 20) rfl fun T9 P9 => ?_
  have f10 := (SD.wr W3)
  have f11 := (VD.other W3 (Ne.symm hld))
  have f12 := (lE1.wr W3)
  have z13 : n0 ≤ Array.size h3 := (Nat.le_trans Z0 (Nat.le_of_eq W3.size.symm))
  have f14 := (Eb.wr W3)
  refine G.callQ P9 (rmAddH0 l Z a0 hw li de (mc + (1 : Int32)) kd vd b h3 n0 z13 gl hld ⟨f12, f3, f6, f8⟩ f11 f10 f14) (wk hw 77 rfl) (wk hw 78 rfl) (wk hw 67 rfl) rfl (wk hw 79 rfl) (wk hw 11 rfl) (wk hw 81 rfl) (by decide) f12 pd_11 (argsL := [(.ref b), (.ref de), (.int (0 : Int32))]) (rest := []) rfl rfl rfl rfl (W := 0) (Nat.le_of_eq rfl) (by decide) d10_20 (pc' := 23) rfl fun T15 L15 v15 P15 Q15 => ?_
  obtain ⟨ed, ke, rfl, N15, K15, HL2, O2, ne2, g2, q2, V2⟩ := Q15
  have N16 := Fr.app N4 N15
  have K17 := K5.trans K15 (allS (Or.inl (List.mem_of_getElem? (i := 0) rfl)) all0)
  show Go p e below _ (T15.setTop (mkF m 23 #[.val (.ref li), .val (.ref b)] []))
  refine G.iconst P15 d10_23 (z := (1 : Int32)) rfl (pc' := 24) rfl ?_
  exact G.retN P15 (t := .boolean) rfl (by simp) d10_24 (by decide) (by decide) ⟨_, _, rfl, N16, K17, HL2, O2, ne2, g2, (Nat.le_trans K0.1 (Nat.le_trans (Nat.le_of_eq W3.size.symm) q2)), V2⟩

theorem ef_rmAdd1 (m : MethodId) (li b : Addr) : entryFrame m #[(.ref li), (.ref b)] 2 = mkF m 0 #[.val (.ref li), .val (.ref b)] [] := by first | (simp [entryFrame, mkF, argsToLocals, Value.category]; done) | rfl
set_option maxRecDepth 65536 in
set_option maxHeartbeats 40000000 in
theorem rmAdd1 (l : Launch) (Z : State) (a0 : Array Value) (hw : ∀ d ∈ tables_1, d.before a0 Z = true) (li ed : Addr) (mc : Int32) (ke : ClassId) (b1 b : Addr) (h0 : Heap) (n0 : Nat) (gl : n0 ≤ li) (ge_ : n0 ≤ ed) (hle : li ≠ ed) (HL : own_L Z h0 li ed mc (1 : Int32)) (O2 : Ovr Z ke "java/lang/Object") (VE : Arv Z h0 ed ke (.object "java/lang/Object") (10 : Int32) [.ref b1, .null, .null, .null, .null, .null, .null, .null, .null, .null] .null) (Eb : Exa Z h0 b "[B") :
    OMeets l Z y10 jdk_38_method_25_code 2 (some .boolean) ({ frames := 1, cells := 0, slots := 0, locals := 15 } : Room) #[(.ref li), (.ref b)] h0 (fun v h L => v = some (.int (1 : Int32)) ∧ Fr n0 L ∧ Keep h0 h [li, ed] ∧ own_L Z h li ed (mc + (1 : Int32)) (2 : Int32) ∧ Arv Z h ed ke (.object "java/lang/Object") (10 : Int32) [.ref b1, .ref b, .null, .null, .null, .null, .null, .null, .null, .null] .null) := by
  refine met (Q := fun v h L => v = some (.int (1 : Int32)) ∧ Fr n0 L ∧ Keep h0 h [li, ed] ∧ own_L Z h li ed (mc + (1 : Int32)) (2 : Int32) ∧ Arv Z h ed ke (.object "java/lang/Object") (10 : Int32) [.ref b1, .ref b, .null, .null, .null, .null, .null, .null, .null, .null] .null) pf_10 (fun m => ef_rmAdd1 m li b) fun p e s m below meth c T0 P0 => ?_
  have N0 := Fr.nil n0
  have K0 := Keep.refl h0 [li, ed]
  obtain ⟨lE1, lM1, lD1, lS1⟩ := id HL
  refine G.aloadN P0 d10_0 rfl rfl (pc' := 1) rfl ?_
  refine G.dup P0 d10_1 rfl (pc' := 2) rfl ?_
  refine G.getF P0 (host := "") (Or.inl (wk hw 73 rfl)) (Via.of (wk hw 74 rfl)) lM1 d10_2 (pc' := 5) rfl fun T2 P2 => ?_
  refine G.iconst P2 d10_5 (z := (1 : Int32)) rfl (pc' := 6) rfl ?_
  refine G.iadd P2 d10_6 rfl (pc' := 7) rfl ?_
  refine G.putF P2 (host := "") (Or.inl (wk hw 73 rfl)) (Via.of (wk hw 74 rfl)) lM1 lE1 (Or.inl (wk hw 29 rfl)) (wk hw 10 rfl) (ty := .int) (by decide) rfl rfl d10_7 (pc' := 10) rfl fun T3 h3 P3 W3 => ?_
  have f3 := lM1.same W3
  have N4 := Fr.snoc P3.st N0 gl
  have K5 := K0.wr W3 (Or.inl (List.mem_of_getElem? (i := 0) rfl))
  refine G.aloadN P3 d10_10 rfl rfl (pc' := 11) rfl ?_
  refine G.aloadN P3 d10_11 rfl rfl (pc' := 12) rfl ?_
  refine G.aloadN P3 d10_12 rfl rfl (pc' := 13) rfl ?_
  have f6 := (lD1.other W3 (Or.inr (slot_ne (Or.inl (wk hw 32 rfl)) (Or.inl (wk hw 29 rfl)) (by decide) (t := (.array (.object "java/lang/Object"))) (t' := .int) (by decide) (by decide))))
  refine G.getF P3 (host := "") (Or.inl (wk hw 31 rfl)) Via.refl f6 d10_13 (pc' := 16) rfl fun T7 P7 => ?_
  refine G.aloadN P7 d10_16 rfl rfl (pc' := 17) rfl ?_
  have f8 := (lS1.other W3 (Or.inr (slot_ne (Or.inl (wk hw 76 rfl)) (Or.inl (wk hw 29 rfl)) (by decide) (t := .int) (t' := .int) (by decide) (by decide))))
  refine G.getF P7 (host := "") (Or.inl (wk hw 75 rfl)) Via.refl f8 d10_17 (pc' := 20) rfl fun T9 P9 => ?_
  have f10 := (lE1.wr W3)
  have f11 := (VE.other W3 (Ne.symm hle))
  have f12 := (Eb.wr W3)
  refine G.callQ P9 (rmAddH1 l Z a0 hw li ed (mc + (1 : Int32)) ke b1 b h3 n0 gl ge_ hle ⟨f10, f3, f6, f8⟩ O2 f11 f12) (wk hw 77 rfl) (wk hw 78 rfl) (wk hw 67 rfl) rfl (wk hw 79 rfl) (wk hw 11 rfl) (wk hw 81 rfl) (by decide) f10 pd_11 (argsL := [(.ref b), (.ref ed), (.int (1 : Int32))]) (rest := []) rfl rfl rfl rfl (W := 0) (Nat.le_of_eq rfl) (by decide) d10_20 (pc' := 23) rfl fun T13 L13 v13 P13 Q13 => ?_
  obtain ⟨rfl, N13, K13, HL2, V2⟩ := Q13
  have N14 := Fr.app N4 N13
  have K15 := K5.trans K13 (allS (Or.inl (List.mem_of_getElem? (i := 0) rfl)) (allS (Or.inl (List.mem_of_getElem? (i := 1) rfl)) all0))
  show Go p e below _ (T13.setTop (mkF m 23 #[.val (.ref li), .val (.ref b)] []))
  refine G.iconst P13 d10_23 (z := (1 : Int32)) rfl (pc' := 24) rfl ?_
  exact G.retN P13 (t := .boolean) rfl (by simp) d10_24 (by decide) (by decide) ⟨rfl, N14, K15, HL2, V2⟩

theorem ef_rmA0 (m : MethodId) (bp b : Addr) : entryFrame m #[(.ref bp), (.ref b)] 2 = mkF m 0 #[.val (.ref bp), .val (.ref b)] [] := by first | (simp [entryFrame, mkF, argsToLocals, Value.category]; done) | rfl
set_option maxRecDepth 65536 in
set_option maxHeartbeats 40000000 in
theorem rmA0 (l : Launch) (Z : State) (a0 : Array Value) (hw : ∀ d ∈ tables_1, d.before a0 Z = true) (bp li en fr de : Addr) (mc : Int32) (kd : ClassId) (vd : List Value) (b : Addr) (kb : ClassId) (vb : List Value) (h0 : Heap) (n0 : Nat) (Z0 : n0 ≤ Array.size h0) (gb : n0 ≤ bp) (gl : n0 ≤ li) (nbl : bp ≠ li) (hld : li ≠ de) (HB : own_B Z h0 bp li en fr (0 : Int32)) (HL : own_L Z h0 li de mc (0 : Int32)) (VD : Arv Z h0 de kd (.object "java/lang/Object") (0 : Int32) vd .null) (SD : Sta Z h0 "java/util/ArrayList" "DEFAULTCAPACITY_EMPTY_ELEMENTDATA" "[Ljava/lang/Object;" (.ref de)) (Eb : Exa Z h0 b "[B") (VB : Arv Z h0 b kb .byte (16384 : Int32) vb (.int (0 : Int32))) (nbli : b ≠ li) (nbbp : b ≠ bp) :
    OMeets l Z y9 prog_31_method_29_code 2 none ({ frames := 5, cells := 1, slots := 10, locals := 69 } : Room) #[(.ref bp), (.ref b)] h0 (fun v h L => v = none ∧ Fr n0 L ∧ Keep h0 h [bp, li] ∧ ∃ ed ke, own_B Z h bp li en fr (16384 : Int32) ∧ own_L Z h li ed (mc + (1 : Int32)) (1 : Int32) ∧ Ovr Z ke "java/lang/Object" ∧ li ≠ ed ∧ bp ≠ ed ∧ n0 ≤ ed ∧ Array.size h0 ≤ ed ∧ Arv Z h ed ke (.object "java/lang/Object") (10 : Int32) [.ref b, .null, .null, .null, .null, .null, .null, .null, .null, .null] .null) := by
  refine met (Q := fun v h L => v = none ∧ Fr n0 L ∧ Keep h0 h [bp, li] ∧ ∃ ed ke, own_B Z h bp li en fr (16384 : Int32) ∧ own_L Z h li ed (mc + (1 : Int32)) (1 : Int32) ∧ Ovr Z ke "java/lang/Object" ∧ li ≠ ed ∧ bp ≠ ed ∧ n0 ≤ ed ∧ Array.size h0 ≤ ed ∧ Arv Z h ed ke (.object "java/lang/Object") (10 : Int32) [.ref b, .null, .null, .null, .null, .null, .null, .null, .null, .null] .null) pf_9 (fun m => ef_rmA0 m bp b) fun p e s m below meth c T0 P0 => ?_
  have N0 := Fr.nil n0
  have K0 := Keep.refl h0 [bp, li]
  obtain ⟨bE1, bP1, bN1, bF1, bC1⟩ := id HB
  have LB := HB.1.lt
  refine G.aloadN P0 d9_0 rfl rfl (pc' := 1) rfl ?_
  refine G.getF P0 (host := "") (Or.inl (wk hw 33 rfl)) Via.refl bP1 d9_1 (pc' := 4) rfl fun T2 P2 => ?_
  refine G.aloadN P2 d9_4 rfl rfl (pc' := 5) rfl ?_
  refine G.callF P2 (rmAdd0 l Z a0 hw li de mc kd vd b h0 n0 Z0 gl hld HL VD SD Eb) (wk hw 64 rfl) (wk hw 65 rfl) (wk hw 66 rfl) (wk hw 67 rfl) (wk hw 68 rfl) (wk hw 69 rfl) (wk hw 70 rfl) (wk hw 71 rfl) (wk hw 11 rfl) (wk hw 72 rfl) (by decide) HL.1 pd_10 (argsL := [(.ref b)]) (rest := []) rfl rfl rfl rfl (W := 0) (Nat.le_of_eq rfl) (by decide) d9_5 (pc' := 10) rfl fun T3 L3 v3 P3 Q3 => ?_
  obtain ⟨ed, ke, rfl, N3, K3, HL2, O2, ne2, g2, q2, V2⟩ := Q3
  have N4 := Fr.app N0 N3
  have K5 := K0.trans K3 (allS (Or.inl (List.mem_of_getElem? (i := 1) rfl)) all0)
  show Go p e below _ (T3.setTop (mkF m 10 #[.val (.ref bp), .val (.ref b)] [(.int (1 : Int32))]))
  refine G.pop P3 d9_10 rfl (pc' := 11) rfl ?_
  refine G.aloadN P3 d9_11 rfl rfl (pc' := 12) rfl ?_
  refine G.dup P3 d9_12 rfl (pc' := 13) rfl ?_
  have f6 := (bC1.keep K3 (ninS nbl nin0))
  refine G.getF P3 (host := "") (Or.inl (wk hw 53 rfl)) Via.refl f6 d9_13 (pc' := 16) rfl fun T7 P7 => ?_
  refine G.aloadN P7 d9_16 rfl rfl (pc' := 17) rfl ?_
  have f8 := (VB.keep K3 (ninS nbli nin0))
  refine G.alen P7 f8 d9_17 (pc' := 18) rfl ?_
  refine G.iadd P7 d9_18 (z := (16384 : Int32)) (by decide) (pc' := 19) rfl ?_
  have f9 := (bE1.keep K3)
  refine G.putF P7 (host := "") (Or.inl (wk hw 53 rfl)) Via.refl f6 f9 (Or.inl (wk hw 54 rfl)) (wk hw 1 rfl) (ty := .int) (by decide) rfl rfl d9_19 (pc' := 22) rfl fun T10 h10 P10 W10 => ?_
  have f10 := f6.same W10
  have N11 := Fr.snoc P10.st N4 gb
  have K12 := K5.wr W10 (Or.inl (List.mem_of_getElem? (i := 0) rfl))
  have nbe : bp ≠ ed := Nat.ne_of_lt (Nat.lt_of_lt_of_le LB q2)
  have f13 := (f9.wr W10)
  have f14 := ((bP1.keep K3 (ninS nbl nin0)).other W10 (Or.inr (slot_ne (Or.inr (wk hw 34 rfl)) (Or.inl (wk hw 54 rfl)) (by decide) (t := (.object "java/util/List")) (t' := .int) (by decide) (by decide))))
  have f15 := ((bN1.keep K3 (ninS nbl nin0)).other W10 (Or.inr (slot_ne (Or.inr (wk hw 45 rfl)) (Or.inl (wk hw 54 rfl)) (by decide) (t := (.object "com/example/overuse_to_delay/overusetodelay/gateway/BytePieces$Place")) (t' := .int) (by decide) (by decide))))
  have f16 := ((bF1.keep K3 (ninS nbl nin0)).other W10 (Or.inr (slot_ne (Or.inr (wk hw 47 rfl)) (Or.inl (wk hw 54 rfl)) (by decide) (t := (.object "com/example/overuse_to_delay/overusetodelay/gateway/BytePieces$Place")) (t' := .int) (by decide) (by decide))))
  have f17 := (HL2.keep (Keep.of_wr W10) (ninS (Ne.symm nbl) nin0))
  have f18 := (V2.other W10 (Ne.symm nbe))
  exact G.retV P10 d9_22 (by decide) (by decide) ⟨rfl, N11, K12, ed, ke, ⟨f13, f14, f15, f16, f10⟩, f17, O2, ne2, nbe, g2, q2, f18⟩

theorem ef_rmA1 (m : MethodId) (bp b : Addr) : entryFrame m #[(.ref bp), (.ref b)] 2 = mkF m 0 #[.val (.ref bp), .val (.ref b)] [] := by first | (simp [entryFrame, mkF, argsToLocals, Value.category]; done) | rfl
set_option maxRecDepth 65536 in
set_option maxHeartbeats 40000000 in
theorem rmA1 (l : Launch) (Z : State) (a0 : Array Value) (hw : ∀ d ∈ tables_1, d.before a0 Z = true) (bp li en fr ed : Addr) (mc : Int32) (ke : ClassId) (b1 b : Addr) (kb : ClassId) (vb : List Value) (h0 : Heap) (n0 : Nat) (gb : n0 ≤ bp) (gl : n0 ≤ li) (ge_ : n0 ≤ ed) (nbl : bp ≠ li) (nbe : bp ≠ ed) (hle : li ≠ ed) (HB : own_B Z h0 bp li en fr (16384 : Int32)) (HL : own_L Z h0 li ed mc (1 : Int32)) (O2 : Ovr Z ke "java/lang/Object") (VE : Arv Z h0 ed ke (.object "java/lang/Object") (10 : Int32) [.ref b1, .null, .null, .null, .null, .null, .null, .null, .null, .null] .null) (Eb : Exa Z h0 b "[B") (VB : Arv Z h0 b kb .byte (8 : Int32) vb (.int (0 : Int32))) (nbli : b ≠ li) (nbbp : b ≠ bp) (nbed : b ≠ ed) :
    OMeets l Z y9 prog_31_method_29_code 2 none ({ frames := 2, cells := 0, slots := 0, locals := 28 } : Room) #[(.ref bp), (.ref b)] h0 (fun v h L => v = none ∧ Fr n0 L ∧ Keep h0 h [bp, li, ed] ∧ own_B Z h bp li en fr (16392 : Int32) ∧ own_L Z h li ed (mc + (1 : Int32)) (2 : Int32) ∧ Arv Z h ed ke (.object "java/lang/Object") (10 : Int32) [.ref b1, .ref b, .null, .null, .null, .null, .null, .null, .null, .null] .null) := by
  refine met (Q := fun v h L => v = none ∧ Fr n0 L ∧ Keep h0 h [bp, li, ed] ∧ own_B Z h bp li en fr (16392 : Int32) ∧ own_L Z h li ed (mc + (1 : Int32)) (2 : Int32) ∧ Arv Z h ed ke (.object "java/lang/Object") (10 : Int32) [.ref b1, .ref b, .null, .null, .null, .null, .null, .null, .null, .null] .null) pf_9 (fun m => ef_rmA1 m bp b) fun p e s m below meth c T0 P0 => ?_
  have N0 := Fr.nil n0
  have K0 := Keep.refl h0 [bp, li, ed]
  obtain ⟨bE1, bP1, bN1, bF1, bC1⟩ := id HB
  refine G.aloadN P0 d9_0 rfl rfl (pc' := 1) rfl ?_
  refine G.getF P0 (host := "") (Or.inl (wk hw 33 rfl)) Via.refl bP1 d9_1 (pc' := 4) rfl fun T2 P2 => ?_
  refine G.aloadN P2 d9_4 rfl rfl (pc' := 5) rfl ?_
  refine G.callF P2 (rmAdd1 l Z a0 hw li ed mc ke b1 b h0 n0 gl ge_ hle HL O2 VE Eb) (wk hw 64 rfl) (wk hw 65 rfl) (wk hw 66 rfl) (wk hw 67 rfl) (wk hw 68 rfl) (wk hw 69 rfl) (wk hw 70 rfl) (wk hw 71 rfl) (wk hw 11 rfl) (wk hw 72 rfl) (by decide) HL.1 pd_10 (argsL := [(.ref b)]) (rest := []) rfl rfl rfl rfl (W := 0) (Nat.le_of_eq rfl) (by decide) d9_5 (pc' := 10) rfl fun T3 L3 v3 P3 Q3 => ?_
  obtain ⟨rfl, N3, K3, HL2, V2⟩ := Q3
  have N4 := Fr.app N0 N3
  have K5 := K0.trans K3 (allS (Or.inl (List.mem_of_getElem? (i := 1) rfl)) (allS (Or.inl (List.mem_of_getElem? (i := 2) rfl)) all0))
  show Go p e below _ (T3.setTop (mkF m 10 #[.val (.ref bp), .val (.ref b)] [(.int (1 : Int32))]))
  refine G.pop P3 d9_10 rfl (pc' := 11) rfl ?_
  refine G.aloadN P3 d9_11 rfl rfl (pc' := 12) rfl ?_
  refine G.dup P3 d9_12 rfl (pc' := 13) rfl ?_
  have f6 := (bC1.keep K3 (ninS nbl (ninS nbe nin0)))
  refine G.getF P3 (host := "") (Or.inl (wk hw 53 rfl)) Via.refl f6 d9_13 (pc' := 16) rfl fun T7 P7 => ?_
  refine G.aloadN P7 d9_16 rfl rfl (pc' := 17) rfl ?_
  have f8 := (VB.keep K3 (ninS nbli (ninS nbed nin0)))
  refine G.alen P7 f8 d9_17 (pc' := 18) rfl ?_
  refine G.iadd P7 d9_18 (z := (16392 : Int32)) (by decide) (pc' := 19) rfl ?_
  have f9 := (bE1.keep K3)
  refine G.putF P7 (host := "") (Or.inl (wk hw 53 rfl)) Via.refl f6 f9 (Or.inl (wk hw 54 rfl)) (wk hw 1 rfl) (ty := .int) (by decide) rfl rfl d9_19 (pc' := 22) rfl fun T10 h10 P10 W10 => ?_
  have f10 := f6.same W10
  have N11 := Fr.snoc P10.st N4 gb
  have K12 := K5.wr W10 (Or.inl (List.mem_of_getElem? (i := 0) rfl))
  have f13 := (f9.wr W10)
  have f14 := ((bP1.keep K3 (ninS nbl (ninS nbe nin0))).other W10 (Or.inr (slot_ne (Or.inr (wk hw 34 rfl)) (Or.inl (wk hw 54 rfl)) (by decide) (t := (.object "java/util/List")) (t' := .int) (by decide) (by decide))))
  have f15 := ((bN1.keep K3 (ninS nbl (ninS nbe nin0))).other W10 (Or.inr (slot_ne (Or.inr (wk hw 45 rfl)) (Or.inl (wk hw 54 rfl)) (by decide) (t := (.object "com/example/overuse_to_delay/overusetodelay/gateway/BytePieces$Place")) (t' := .int) (by decide) (by decide))))
  have f16 := ((bF1.keep K3 (ninS nbl (ninS nbe nin0))).other W10 (Or.inr (slot_ne (Or.inr (wk hw 47 rfl)) (Or.inl (wk hw 54 rfl)) (by decide) (t := (.object "com/example/overuse_to_delay/overusetodelay/gateway/BytePieces$Place")) (t' := .int) (by decide) (by decide))))
  have f17 := (HL2.keep (Keep.of_wr W10) (ninS (Ne.symm nbl) nin0))
  have f18 := (V2.other W10 (Ne.symm nbe))
  exact G.retV P10 d9_22 (by decide) (by decide) ⟨rfl, N11, K12, ⟨f13, f14, f15, f16, f10⟩, f17, f18⟩

def own_W (Z : State) (h : Heap) (bp li en fr ed : Addr) (ke : ClassId) (mc : Int32) (b1 b2 : Addr) : Prop := own_B Z h bp li en fr (16392 : Int32) ∧ own_L Z h li ed mc (2 : Int32) ∧ Arv Z h ed ke (.object "java/lang/Object") (10 : Int32) [.ref b1, .ref b2, .null, .null, .null, .null, .null, .null, .null, .null] .null ∧ Exa Z h b1 "[B" ∧ Exa Z h b2 "[B"
def own_N (bp li ed x : Addr) : Prop := bp ≠ x ∧ li ≠ x ∧ ed ≠ x
theorem own_W.keep {Z : State} {h h' : Heap} {bp li en fr ed : Addr} {ke : ClassId} {mc : Int32} {b1 b2 : Addr} {ws : List Addr} (X : own_W Z h bp li en fr ed ke mc b1 b2) (K : Keep h h' ws) (q1 : bp ∉ ws) (q2 : li ∉ ws) (q3 : ed ∉ ws) : own_W Z h' bp li en fr ed ke mc b1 b2 := by
  obtain ⟨a, b, c, d, e⟩ := X; exact ⟨a.keep K q1, b.keep K q2, c.keep K q3, d.keep K, e.keep K⟩
theorem own_W.ext {Z : State} {h h' : Heap} {bp li en fr ed : Addr} {ke : ClassId} {mc : Int32} {b1 b2 : Addr} (X : own_W Z h bp li en fr ed ke mc b1 b2) (E : Ext h h') : own_W Z h' bp li en fr ed ke mc b1 b2 := by
  obtain ⟨a, b, c, d, e⟩ := X; exact ⟨a.ext E, b.ext E, c.ext E, d.ext E, e.ext E⟩
theorem own_rep : List.replicate 16384 (Value.int (0 : Int32)) = ((.int (0 : Int32)) :: (.int (0 : Int32)) :: (.int (0 : Int32)) :: (.int (0 : Int32)) :: List.replicate 16380 (.int (0 : Int32))) := rfl

theorem ef_rmGT (m : MethodId) (bp : Addr) : entryFrame m #[(.ref bp), (.int (16392 : Int32))] 2 = mkF m 0 #[.val (.ref bp), .val (.int (16392 : Int32))] [] := by first | (simp [entryFrame, mkF, argsToLocals, Value.category]; done) | rfl
set_option maxRecDepth 65536 in
set_option maxHeartbeats 40000000 in
theorem rmGT (l : Launch) (Z : State) (a0 : Array Value) (hw : ∀ d ∈ tables_1, d.before a0 Z = true) (bp li en fr de : Addr) (mc : Int32) (kd : ClassId) (vd : List Value) (h0 : Heap) (n0 : Nat) (Z0 : n0 ≤ Array.size h0) (gb : n0 ≤ bp) (gl : n0 ≤ li) (nbl : bp ≠ li) (hld : li ≠ de) (HB : own_B Z h0 bp li en fr (0 : Int32)) (HL : own_L Z h0 li de mc (0 : Int32)) (VD : Arv Z h0 de kd (.object "java/lang/Object") (0 : Int32) vd .null) (SD : Sta Z h0 "java/util/ArrayList" "DEFAULTCAPACITY_EMPTY_ELEMENTDATA" "[Ljava/lang/Object;" (.ref de)) :
    OMeets l Z y7 prog_31_method_7_code 2 none ({ frames := 6, cells := 3, slots := 16402, locals := 82 } : Room) #[(.ref bp), (.int (16392 : Int32))] h0 (fun v h L => v = none ∧ Fr n0 L ∧ Keep h0 h [bp, li] ∧ ∃ ed ke b1 b2 k1 k2, own_W Z h bp li en fr ed ke (mc + (1 : Int32) + (1 : Int32)) b1 b2 ∧ Arv Z h b1 k1 .byte (16384 : Int32) ((.int (0 : Int32)) :: (.int (0 : Int32)) :: (.int (0 : Int32)) :: (.int (0 : Int32)) :: List.replicate 16380 (.int (0 : Int32))) (.int (0 : Int32)) ∧ Arv Z h b2 k2 .byte (8 : Int32) ((.int (0 : Int32)) :: (.int (0 : Int32)) :: (.int (0 : Int32)) :: (.int (0 : Int32)) :: [(.int (0 : Int32)), (.int (0 : Int32)), (.int (0 : Int32)), (.int (0 : Int32))]) (.int (0 : Int32)) ∧ (n0 ≤ ed ∧ n0 ≤ b1 ∧ n0 ≤ b2) ∧ (Array.size h0 ≤ ed ∧ Array.size h0 ≤ b1 ∧ Array.size h0 ≤ b2) ∧ ed ≠ b1 ∧ ed ≠ b2 ∧ b1 ≠ b2) := by
  refine met (Q := fun v h L => v = none ∧ Fr n0 L ∧ Keep h0 h [bp, li] ∧ ∃ ed ke b1 b2 k1 k2, own_W Z h bp li en fr ed ke (mc + (1 : Int32) + (1 : Int32)) b1 b2 ∧ Arv Z h b1 k1 .byte (16384 : Int32) ((.int (0 : Int32)) :: (.int (0 : Int32)) :: (.int (0 : Int32)) :: (.int (0 : Int32)) :: List.replicate 16380 (.int (0 : Int32))) (.int (0 : Int32)) ∧ Arv Z h b2 k2 .byte (8 : Int32) ((.int (0 : Int32)) :: (.int (0 : Int32)) :: (.int (0 : Int32)) :: (.int (0 : Int32)) :: [(.int (0 : Int32)), (.int (0 : Int32)), (.int (0 : Int32)), (.int (0 : Int32))]) (.int (0 : Int32)) ∧ (n0 ≤ ed ∧ n0 ≤ b1 ∧ n0 ≤ b2) ∧ (Array.size h0 ≤ ed ∧ Array.size h0 ≤ b1 ∧ Array.size h0 ≤ b2) ∧ ed ≠ b1 ∧ ed ≠ b2 ∧ b1 ≠ b2) pf_7 (fun m => ef_rmGT m bp) fun p e s m below meth c T0 P0 => ?_
  have N0 := Fr.nil n0
  have K0 := Keep.refl h0 [bp, li]
  obtain ⟨bE1, bP1, bN1, bF1, bC1⟩ := id HB
  have LL := HL.1.lt
  refine G.aloadN P0 d7_0 rfl rfl (pc' := 1) rfl ?_
  refine G.getF P0 (host := "") (Or.inl (wk hw 53 rfl)) Via.refl bC1 d7_1 (pc' := 4) rfl fun T2 P2 => ?_
  refine G.iloadN P2 d7_4 rfl (pc' := 5) rfl ?_
  refine G.icmp_ge P2 d7_5 (by decide) (pcY := 29) (by decide) (pcN := 8) rfl (fun c3 => absurd c3 (by decide)) (fun c3 => ?_)
  refine G.aloadN P2 d7_8 rfl rfl (pc' := 9) rfl ?_
  refine G.sipush P2 d7_9 (z := (16384 : Int32)) rfl (pc' := 12) rfl ?_
  refine G.iloadN P2 d7_12 rfl (pc' := 13) rfl ?_
  refine G.aloadN P2 d7_13 rfl rfl (pc' := 14) rfl ?_
  refine G.getF P2 (host := "") (Or.inl (wk hw 53 rfl)) Via.refl bC1 d7_14 (pc' := 17) rfl fun T4 P4 => ?_
  refine G.isub P4 d7_17 (z := (16392 : Int32)) (by decide) (pc' := 18) rfl ?_
  refine G.callSP P4 (rmMin l Z a0 hw (16384 : Int32) (16392 : Int32) h0) (wk hw 55 rfl) (wk hw 56 rfl) (wk hw 57 rfl) (wk hw 58 rfl) (by decide) pd_8 (argsL := [(.int (16384 : Int32)), (.int (16392 : Int32))]) (rest := [(.ref bp)]) rfl rfl rfl rfl (W := 1) (Nat.le_of_eq rfl) (by decide) d7_18 (pc' := 21) rfl fun T5 P5 => ?_
  show Go p e below _ (T5.setTop (mkF m 21 #[.val (.ref bp), .val (.int (16392 : Int32))] [(.int (own_min (16384 : Int32) (16392 : Int32))), (.ref bp)]))
  rw [show own_min (16384 : Int32) (16392 : Int32) = (16384 : Int32) from by decide]
  refine G.newPE P5 (wk hw 59 rfl) (by decide) (cap := 16384) (by decide) (by decide) (by decide) (ad := "[B") (by decide) d7_21 (pc' := 23) rfl fun T6 h6 a6 k6 g6 P6 E6 V6 X6 => ?_
  have n7 : bp ≠ a6 := by rw [g6]; exact Nat.ne_of_lt bE1.lt
  have n8 : de ≠ a6 := by rw [g6]; exact Nat.ne_of_lt VD.lt
  have n9 : li ≠ a6 := by rw [g6]; exact Nat.ne_of_lt HL.1.lt
  have g10 : n0 ≤ a6 := by rw [g6]; exact Z0
  have q6 := (Nat.le_trans K0.1 (Nat.le_of_eq g6.symm))
  have K11 := K0.ext E6
  have f12 := (SD.ext E6)
  have f13 := (VD.ext E6)
  have f14 := (bE1.ext E6)
  have f15 := (bP1.ext E6)
  have f16 := (bN1.ext E6)
  have f17 := (bF1.ext E6)
  have f18 := (bC1.ext E6)
  have f19 := (HL.ext E6)
  have z20 : n0 ≤ Array.size h6 := (Nat.le_trans Z0 E6.1)
  refine G.callQ P6 (rmA0 l Z a0 hw bp li en fr de mc kd vd a6 k6 [] h6 n0 z20 gb gl nbl hld ⟨f14, f15, f16, f17, f18⟩ f19 f13 f12 X6 V6 (Ne.symm n9) (Ne.symm n7)) (wk hw 60 rfl) (wk hw 61 rfl) (wk hw 51 rfl) rfl (wk hw 62 rfl) (wk hw 2 rfl) (wk hw 63 rfl) (by decide) f14 pd_9 (argsL := [(.ref a6)]) (rest := []) rfl rfl rfl rfl (W := 0) (Nat.le_of_eq rfl) (by decide) d7_23 (pc' := 26) rfl fun T21 L21 v21 P21 Q21 => ?_
  obtain ⟨rfl, N21, K21, ed, ke, HB2, HL2, O2, ne2, nbe, g2, q2, V2⟩ := Q21
  have N22 := Fr.app N0 N21
  have K23 := K11.trans K21 (allS (Or.inl (List.mem_of_getElem? (i := 0) rfl)) (allS (Or.inl (List.mem_of_getElem? (i := 1) rfl)) all0))
  show Go p e below _ (T21.setTop (mkF m 26 #[.val (.ref bp), .val (.int (16392 : Int32))] []))
  have nb1e : a6 ≠ ed := Nat.ne_of_lt (Nat.lt_of_lt_of_le V6.lt q2)
  have qed : Array.size h0 ≤ ed := Nat.le_trans E6.1 q2
  obtain ⟨bE24, bP24, bN24, bF24, bC24⟩ := id HB2
  refine G.goto P21 d7_26 (by decide) (pc' := 0) (by decide) ?_
  refine G.aloadN P21 d7_0 rfl rfl (pc' := 1) rfl ?_
  refine G.getF P21 (host := "") (Or.inl (wk hw 53 rfl)) Via.refl bC24 d7_1 (pc' := 4) rfl fun T25 P25 => ?_
  refine G.iloadN P25 d7_4 rfl (pc' := 5) rfl ?_
  refine G.icmp_ge P25 d7_5 (by decide) (pcY := 29) (by decide) (pcN := 8) rfl (fun c26 => absurd c26 (by decide)) (fun c26 => ?_)
  refine G.aloadN P25 d7_8 rfl rfl (pc' := 9) rfl ?_
  refine G.sipush P25 d7_9 (z := (16384 : Int32)) rfl (pc' := 12) rfl ?_
  refine G.iloadN P25 d7_12 rfl (pc' := 13) rfl ?_
  refine G.aloadN P25 d7_13 rfl rfl (pc' := 14) rfl ?_
  refine G.getF P25 (host := "") (Or.inl (wk hw 53 rfl)) Via.refl bC24 d7_14 (pc' := 17) rfl fun T27 P27 => ?_
  refine G.isub P27 d7_17 (z := (8 : Int32)) (by decide) (pc' := 18) rfl ?_
  refine G.callSP P27 (rmMin l Z a0 hw (16384 : Int32) (8 : Int32) T21.heap) (wk hw 55 rfl) (wk hw 56 rfl) (wk hw 57 rfl) (wk hw 58 rfl) (by decide) pd_8 (argsL := [(.int (16384 : Int32)), (.int (8 : Int32))]) (rest := [(.ref bp)]) rfl rfl rfl rfl (W := 1) (Nat.le_of_eq rfl) (by decide) d7_18 (pc' := 21) rfl fun T28 P28 => ?_
  show Go p e below _ (T28.setTop (mkF m 21 #[.val (.ref bp), .val (.int (16392 : Int32))] [(.int (own_min (16384 : Int32) (8 : Int32))), (.ref bp)]))
  rw [show own_min (16384 : Int32) (8 : Int32) = (8 : Int32) from by decide]
  have f29 := (X6.keep K21)
  have f30 := ((HL.1.ext E6).keep K21)
  have z31 : n0 ≤ Array.size T21.heap := (Nat.le_trans z20 K21.1)
  refine G.newPE P28 (wk hw 59 rfl) (by decide) (cap := 8) (by decide) (by decide) (by decide) (ad := "[B") (by decide) d7_21 (pc' := 23) rfl fun T32 h32 a32 k32 g32 P32 E32 V32 X32 => ?_
  have n33 : a6 ≠ a32 := by rw [g32]; exact Nat.ne_of_lt f29.lt
  have n34 : bp ≠ a32 := by rw [g32]; exact Nat.ne_of_lt bE24.lt
  have n35 : ed ≠ a32 := by rw [g32]; exact Nat.ne_of_lt V2.lt
  have n36 : li ≠ a32 := by rw [g32]; exact Nat.ne_of_lt f30.lt
  have g37 : n0 ≤ a32 := by rw [g32]; exact z31
  have q32 := (Nat.le_trans K23.1 (Nat.le_of_eq g32.symm))
  have K38 := K23.ext E32
  have V32p : Arv Z h32 a32 k32 .byte (8 : Int32) [(.int (0 : Int32)), (.int (0 : Int32)), (.int (0 : Int32)), (.int (0 : Int32)), (.int (0 : Int32)), (.int (0 : Int32)), (.int (0 : Int32)), (.int (0 : Int32))] (.int (0 : Int32)) := V32.pad (pad_rep [] _ 8)
  have f39 := (bE24.ext E32)
  have f40 := (bP24.ext E32)
  have f41 := (bN24.ext E32)
  have f42 := (bF24.ext E32)
  have f43 := (bC24.ext E32)
  have f44 := (HL2.ext E32)
  have f45 := (V2.ext E32)
  refine G.callQ P32 (rmA1 l Z a0 hw bp li en fr ed (mc + (1 : Int32)) ke a6 a32 k32 _ h32 n0 gb gl g2 nbl nbe ne2 ⟨f39, f40, f41, f42, f43⟩ f44 O2 f45 X32 V32p (Ne.symm n36) (Ne.symm n34) (Ne.symm n35)) (wk hw 60 rfl) (wk hw 61 rfl) (wk hw 51 rfl) rfl (wk hw 62 rfl) (wk hw 2 rfl) (wk hw 63 rfl) (by decide) f39 pd_9 (argsL := [(.ref a32)]) (rest := []) rfl rfl rfl rfl (W := 0) (Nat.le_of_eq rfl) (by decide) d7_23 (pc' := 26) rfl fun T46 L46 v46 P46 Q46 => ?_
  obtain ⟨rfl, N46, K46, HB3, HL3, V3⟩ := Q46
  have N47 := Fr.app N22 N46
  have K48 := K38.trans K46 (allS (Or.inl (List.mem_of_getElem? (i := 0) rfl)) (allS (Or.inl (List.mem_of_getElem? (i := 1) rfl)) (allS (Or.inr qed) all0)))
  show Go p e below _ (T46.setTop (mkF m 26 #[.val (.ref bp), .val (.int (16392 : Int32))] []))
  obtain ⟨bE49, bP49, bN49, bF49, bC49⟩ := id HB3
  refine G.goto P46 d7_26 (by decide) (pc' := 0) (by decide) ?_
  refine G.aloadN P46 d7_0 rfl rfl (pc' := 1) rfl ?_
  refine G.getF P46 (host := "") (Or.inl (wk hw 53 rfl)) Via.refl bC49 d7_1 (pc' := 4) rfl fun T50 P50 => ?_
  refine G.iloadN P50 d7_4 rfl (pc' := 5) rfl ?_
  refine G.icmp_ge P50 d7_5 (by decide) (pcY := 29) (by decide) (pcN := 8) rfl (fun c51 => ?_) (fun c51 => absurd c51 (by decide))
  have f52 := (((V6.keep K21 (ninS (Ne.symm n7) (ninS (Ne.symm n9) nin0))).ext E32).keep K46 (ninS (Ne.symm n7) (ninS (Ne.symm n9) (ninS nb1e nin0))))
  have f53 := (V32p.keep K46 (ninS (Ne.symm n34) (ninS (Ne.symm n36) (ninS (Ne.symm n35) nin0))))
  have f54 := ((f29.ext E32).keep K46)
  have f55 := (X32.keep K46)
  have v1p : Arv Z T46.heap a6 k6 .byte (16384 : Int32) (List.replicate 16384 (.int (0 : Int32))) (.int (0 : Int32)) := f52.pad (pad_rep [] _ 16384)
  rw [own_rep] at v1p
  exact G.retV P50 d7_29 (by decide) (by decide) ⟨rfl, N47, K48, ed, ke, a6, a32, k6, k32, ⟨⟨bE49, bP49, bN49, bF49, bC49⟩, HL3, V3, f54, f55⟩, v1p, f53, ⟨g2, g10, g37⟩, ⟨qed, q6, q32⟩, (Ne.symm nb1e), n35, n33⟩

theorem ef_rmPC0 (m : MethodId)  : entryFrame m #[(.int (0 : Int32)), (.int (2 : Int32)), .null] 3 = mkF m 0 #[.val (.int (0 : Int32)), .val (.int (2 : Int32)), .val .null] [] := by first | (simp [entryFrame, mkF, argsToLocals, Value.category]; done) | rfl
set_option maxRecDepth 65536 in
set_option maxHeartbeats 40000000 in
theorem rmPC0 (l : Launch) (Z : State) (a0 : Array Value) (hw : ∀ d ∈ tables_1, d.before a0 Z = true)  (h0 : Heap) :
    OMeets l Z y22 jdk_41_method_11_code 3 (some .int) ({ frames := 0, cells := 0, slots := 0, locals := 0 } : Room) #[(.int (0 : Int32)), (.int (2 : Int32)), .null] h0 (OPure (some (.int (0 : Int32))) h0) := by
  refine met (Q := OPure (some (.int (0 : Int32))) h0) pf_22 (fun m => ef_rmPC0 m ) fun p e s m below meth c T0 P0 => ?_
  refine G.iloadN P0 d22_0 rfl (pc' := 1) rfl ?_
  refine G.if_lt P0 d22_1 (by decide) (pcY := 9) (by decide) (pcN := 4) rfl (fun c1 => absurd c1 (by decide)) (fun c1 => ?_)
  refine G.iloadN P0 d22_4 rfl (pc' := 5) rfl ?_
  refine G.iloadN P0 d22_5 rfl (pc' := 6) rfl ?_
  refine G.icmp_lt P0 d22_6 (by decide) (pcY := 16) (by decide) (pcN := 9) rfl (fun c2 => ?_) (fun c2 => absurd c2 (by decide))
  refine G.iloadN P0 d22_16 rfl (pc' := 17) rfl ?_
  exact G.retI P0 d22_17 (by decide) (by decide) ⟨rfl, rfl, rfl⟩

theorem ef_rmOC0 (m : MethodId)  : entryFrame m #[(.int (0 : Int32)), (.int (2 : Int32))] 2 = mkF m 0 #[.val (.int (0 : Int32)), .val (.int (2 : Int32))] [] := by first | (simp [entryFrame, mkF, argsToLocals, Value.category]; done) | rfl
set_option maxRecDepth 65536 in
set_option maxHeartbeats 40000000 in
theorem rmOC0 (l : Launch) (Z : State) (a0 : Array Value) (hw : ∀ d ∈ tables_1, d.before a0 Z = true)  (h0 : Heap) :
    OMeets l Z y21 jdk_31_method_17_code 2 (some .int) ({ frames := 1, cells := 0, slots := 0, locals := 14 } : Room) #[(.int (0 : Int32)), (.int (2 : Int32))] h0 (OPure (some (.int (0 : Int32))) h0) := by
  refine met (Q := OPure (some (.int (0 : Int32))) h0) pf_21 (fun m => ef_rmOC0 m ) fun p e s m below meth c T0 P0 => ?_
  refine G.iloadN P0 d21_0 rfl (pc' := 1) rfl ?_
  refine G.iloadN P0 d21_1 rfl (pc' := 2) rfl ?_
  refine G.aconstNull P0 d21_2 (pc' := 3) rfl ?_
  refine G.callSP P0 (rmPC0 l Z a0 hw h0) (wk hw 141 rfl) (wk hw 142 rfl) (wk hw 143 rfl) (wk hw 144 rfl) (by decide) pd_22 (argsL := [(.int (0 : Int32)), (.int (2 : Int32)), .null]) (rest := []) rfl rfl rfl rfl (W := 0) (Nat.le_of_eq rfl) (by decide) d21_3 (pc' := 6) rfl fun T1 P1 => ?_
  show Go p e below _ (T1.setTop (mkF m 6 #[.val (.int (0 : Int32)), .val (.int (2 : Int32))] [(.int (0 : Int32))]))
  exact G.retI P1 d21_6 (by decide) (by decide) ⟨rfl, rfl, rfl⟩

theorem ef_rmED0 (m : MethodId) (li : Addr) : entryFrame m #[(.ref li), (.int (0 : Int32))] 2 = mkF m 0 #[.val (.ref li), .val (.int (0 : Int32))] [] := by first | (simp [entryFrame, mkF, argsToLocals, Value.category]; done) | rfl
set_option maxRecDepth 65536 in
set_option maxHeartbeats 40000000 in
theorem rmED0 (l : Launch) (Z : State) (a0 : Array Value) (hw : ∀ d ∈ tables_1, d.before a0 Z = true) (li ed : Addr) (ke : ClassId) (mc : Int32) (b1 b2 : Addr) (h0 : Heap) (HL : own_L Z h0 li ed mc (2 : Int32)) (VE : Arv Z h0 ed ke (.object "java/lang/Object") (10 : Int32) [.ref b1, .ref b2, .null, .null, .null, .null, .null, .null, .null, .null] .null) :
    OMeets l Z y23 jdk_38_method_18_code 2 (some (.object "java/lang/Object")) ({ frames := 0, cells := 0, slots := 0, locals := 0 } : Room) #[(.ref li), (.int (0 : Int32))] h0 (OPure (some (.ref b1)) h0) := by
  refine met (Q := OPure (some (.ref b1)) h0) pf_23 (fun m => ef_rmED0 m li) fun p e s m below meth c T0 P0 => ?_
  obtain ⟨lE1, lM1, lD1, lS1⟩ := id HL
  refine G.aloadN P0 d23_0 rfl rfl (pc' := 1) rfl ?_
  refine G.getF P0 (host := "") (Or.inl (wk hw 31 rfl)) Via.refl lD1 d23_1 (pc' := 4) rfl fun T2 P2 => ?_
  refine G.iloadN P2 d23_4 rfl (pc' := 5) rfl ?_
  refine G.aaload P2 VE rfl (j := (0 : Int32)) (v := (.ref b1)) (by decide) rfl d23_5 (pc' := 6) rfl ?_
  exact G.retA P2 rfl rfl rfl d23_6 (by decide) (by decide) ⟨rfl, rfl, rfl⟩

theorem ef_rmGet0 (m : MethodId) (li : Addr) : entryFrame m #[(.ref li), (.int (0 : Int32))] 2 = mkF m 0 #[.val (.ref li), .val (.int (0 : Int32))] [] := by first | (simp [entryFrame, mkF, argsToLocals, Value.category]; done) | rfl
set_option maxRecDepth 65536 in
set_option maxHeartbeats 40000000 in
theorem rmGet0 (l : Launch) (Z : State) (a0 : Array Value) (hw : ∀ d ∈ tables_1, d.before a0 Z = true) (li ed : Addr) (ke : ClassId) (mc : Int32) (b1 b2 : Addr) (h0 : Heap) (HL : own_L Z h0 li ed mc (2 : Int32)) (VE : Arv Z h0 ed ke (.object "java/lang/Object") (10 : Int32) [.ref b1, .ref b2, .null, .null, .null, .null, .null, .null, .null, .null] .null) :
    OMeets l Z y20 jdk_38_method_20_code 2 (some (.object "java/lang/Object")) ({ frames := 2, cells := 0, slots := 0, locals := 27 } : Room) #[(.ref li), (.int (0 : Int32))] h0 (OPure (some (.ref b1)) h0) := by
  refine met (Q := OPure (some (.ref b1)) h0) pf_20 (fun m => ef_rmGet0 m li) fun p e s m below meth c T0 P0 => ?_
  obtain ⟨lE1, lM1, lD1, lS1⟩ := id HL
  refine G.iloadN P0 d20_0 rfl (pc' := 1) rfl ?_
  refine G.aloadN P0 d20_1 rfl rfl (pc' := 2) rfl ?_
  refine G.getF P0 (host := "") (Or.inl (wk hw 75 rfl)) Via.refl lS1 d20_2 (pc' := 5) rfl fun T2 P2 => ?_
  refine G.callSP P2 (rmOC0 l Z a0 hw h0) (wk hw 137 rfl) (wk hw 138 rfl) (wk hw 139 rfl) (wk hw 140 rfl) (by decide) pd_21 (argsL := [(.int (0 : Int32)), (.int (2 : Int32))]) (rest := []) rfl rfl rfl rfl (W := 0) (Nat.le_of_eq rfl) (by decide) d20_5 (pc' := 8) rfl fun T3 P3 => ?_
  show Go p e below _ (T3.setTop (mkF m 8 #[.val (.ref li), .val (.int (0 : Int32))] [(.int (0 : Int32))]))
  refine G.pop P3 d20_8 rfl (pc' := 9) rfl ?_
  refine G.aloadN P3 d20_9 rfl rfl (pc' := 10) rfl ?_
  refine G.iloadN P3 d20_10 rfl (pc' := 11) rfl ?_
  refine G.callVP P3 (rmED0 l Z a0 hw li ed ke mc b1 b2 h0 ⟨lE1, lM1, lD1, lS1⟩ VE) (wk hw 145 rfl) (wk hw 146 rfl) (wk hw 148 rfl) rfl (wk hw 147 rfl) (wk hw 11 rfl) (wk hw 149 rfl) (by decide) lE1 pd_23 (argsL := [(.int (0 : Int32))]) (rest := []) rfl rfl rfl rfl (W := 0) (Nat.le_of_eq rfl) (by decide) d20_11 (pc' := 14) rfl fun T4 P4 => ?_
  show Go p e below _ (T4.setTop (mkF m 14 #[.val (.ref li), .val (.int (0 : Int32))] [(.ref b1)]))
  exact G.retA P4 rfl rfl rfl d20_14 (by decide) (by decide) ⟨rfl, rfl, rfl⟩

theorem ef_rmPC1 (m : MethodId)  : entryFrame m #[(.int (1 : Int32)), (.int (2 : Int32)), .null] 3 = mkF m 0 #[.val (.int (1 : Int32)), .val (.int (2 : Int32)), .val .null] [] := by first | (simp [entryFrame, mkF, argsToLocals, Value.category]; done) | rfl
set_option maxRecDepth 65536 in
set_option maxHeartbeats 40000000 in
theorem rmPC1 (l : Launch) (Z : State) (a0 : Array Value) (hw : ∀ d ∈ tables_1, d.before a0 Z = true)  (h0 : Heap) :
    OMeets l Z y22 jdk_41_method_11_code 3 (some .int) ({ frames := 0, cells := 0, slots := 0, locals := 0 } : Room) #[(.int (1 : Int32)), (.int (2 : Int32)), .null] h0 (OPure (some (.int (1 : Int32))) h0) := by
  refine met (Q := OPure (some (.int (1 : Int32))) h0) pf_22 (fun m => ef_rmPC1 m ) fun p e s m below meth c T0 P0 => ?_
  refine G.iloadN P0 d22_0 rfl (pc' := 1) rfl ?_
  refine G.if_lt P0 d22_1 (by decide) (pcY := 9) (by decide) (pcN := 4) rfl (fun c1 => absurd c1 (by decide)) (fun c1 => ?_)
  refine G.iloadN P0 d22_4 rfl (pc' := 5) rfl ?_
  refine G.iloadN P0 d22_5 rfl (pc' := 6) rfl ?_
  refine G.icmp_lt P0 d22_6 (by decide) (pcY := 16) (by decide) (pcN := 9) rfl (fun c2 => ?_) (fun c2 => absurd c2 (by decide))
  refine G.iloadN P0 d22_16 rfl (pc' := 17) rfl ?_
  exact G.retI P0 d22_17 (by decide) (by decide) ⟨rfl, rfl, rfl⟩

theorem ef_rmOC1 (m : MethodId)  : entryFrame m #[(.int (1 : Int32)), (.int (2 : Int32))] 2 = mkF m 0 #[.val (.int (1 : Int32)), .val (.int (2 : Int32))] [] := by first | (simp [entryFrame, mkF, argsToLocals, Value.category]; done) | rfl
set_option maxRecDepth 65536 in
set_option maxHeartbeats 40000000 in
theorem rmOC1 (l : Launch) (Z : State) (a0 : Array Value) (hw : ∀ d ∈ tables_1, d.before a0 Z = true)  (h0 : Heap) :
    OMeets l Z y21 jdk_31_method_17_code 2 (some .int) ({ frames := 1, cells := 0, slots := 0, locals := 14 } : Room) #[(.int (1 : Int32)), (.int (2 : Int32))] h0 (OPure (some (.int (1 : Int32))) h0) := by
  refine met (Q := OPure (some (.int (1 : Int32))) h0) pf_21 (fun m => ef_rmOC1 m ) fun p e s m below meth c T0 P0 => ?_
  refine G.iloadN P0 d21_0 rfl (pc' := 1) rfl ?_
  refine G.iloadN P0 d21_1 rfl (pc' := 2) rfl ?_
  refine G.aconstNull P0 d21_2 (pc' := 3) rfl ?_
  refine G.callSP P0 (rmPC1 l Z a0 hw h0) (wk hw 141 rfl) (wk hw 142 rfl) (wk hw 143 rfl) (wk hw 144 rfl) (by decide) pd_22 (argsL := [(.int (1 : Int32)), (.int (2 : Int32)), .null]) (rest := []) rfl rfl rfl rfl (W := 0) (Nat.le_of_eq rfl) (by decide) d21_3 (pc' := 6) rfl fun T1 P1 => ?_
  show Go p e below _ (T1.setTop (mkF m 6 #[.val (.int (1 : Int32)), .val (.int (2 : Int32))] [(.int (1 : Int32))]))
  exact G.retI P1 d21_6 (by decide) (by decide) ⟨rfl, rfl, rfl⟩

theorem ef_rmED1 (m : MethodId) (li : Addr) : entryFrame m #[(.ref li), (.int (1 : Int32))] 2 = mkF m 0 #[.val (.ref li), .val (.int (1 : Int32))] [] := by first | (simp [entryFrame, mkF, argsToLocals, Value.category]; done) | rfl
set_option maxRecDepth 65536 in
set_option maxHeartbeats 40000000 in
theorem rmED1 (l : Launch) (Z : State) (a0 : Array Value) (hw : ∀ d ∈ tables_1, d.before a0 Z = true) (li ed : Addr) (ke : ClassId) (mc : Int32) (b1 b2 : Addr) (h0 : Heap) (HL : own_L Z h0 li ed mc (2 : Int32)) (VE : Arv Z h0 ed ke (.object "java/lang/Object") (10 : Int32) [.ref b1, .ref b2, .null, .null, .null, .null, .null, .null, .null, .null] .null) :
    OMeets l Z y23 jdk_38_method_18_code 2 (some (.object "java/lang/Object")) ({ frames := 0, cells := 0, slots := 0, locals := 0 } : Room) #[(.ref li), (.int (1 : Int32))] h0 (OPure (some (.ref b2)) h0) := by
  refine met (Q := OPure (some (.ref b2)) h0) pf_23 (fun m => ef_rmED1 m li) fun p e s m below meth c T0 P0 => ?_
  obtain ⟨lE1, lM1, lD1, lS1⟩ := id HL
  refine G.aloadN P0 d23_0 rfl rfl (pc' := 1) rfl ?_
  refine G.getF P0 (host := "") (Or.inl (wk hw 31 rfl)) Via.refl lD1 d23_1 (pc' := 4) rfl fun T2 P2 => ?_
  refine G.iloadN P2 d23_4 rfl (pc' := 5) rfl ?_
  refine G.aaload P2 VE rfl (j := (1 : Int32)) (v := (.ref b2)) (by decide) rfl d23_5 (pc' := 6) rfl ?_
  exact G.retA P2 rfl rfl rfl d23_6 (by decide) (by decide) ⟨rfl, rfl, rfl⟩

theorem ef_rmGet1 (m : MethodId) (li : Addr) : entryFrame m #[(.ref li), (.int (1 : Int32))] 2 = mkF m 0 #[.val (.ref li), .val (.int (1 : Int32))] [] := by first | (simp [entryFrame, mkF, argsToLocals, Value.category]; done) | rfl
set_option maxRecDepth 65536 in
set_option maxHeartbeats 40000000 in
theorem rmGet1 (l : Launch) (Z : State) (a0 : Array Value) (hw : ∀ d ∈ tables_1, d.before a0 Z = true) (li ed : Addr) (ke : ClassId) (mc : Int32) (b1 b2 : Addr) (h0 : Heap) (HL : own_L Z h0 li ed mc (2 : Int32)) (VE : Arv Z h0 ed ke (.object "java/lang/Object") (10 : Int32) [.ref b1, .ref b2, .null, .null, .null, .null, .null, .null, .null, .null] .null) :
    OMeets l Z y20 jdk_38_method_20_code 2 (some (.object "java/lang/Object")) ({ frames := 2, cells := 0, slots := 0, locals := 27 } : Room) #[(.ref li), (.int (1 : Int32))] h0 (OPure (some (.ref b2)) h0) := by
  refine met (Q := OPure (some (.ref b2)) h0) pf_20 (fun m => ef_rmGet1 m li) fun p e s m below meth c T0 P0 => ?_
  obtain ⟨lE1, lM1, lD1, lS1⟩ := id HL
  refine G.iloadN P0 d20_0 rfl (pc' := 1) rfl ?_
  refine G.aloadN P0 d20_1 rfl rfl (pc' := 2) rfl ?_
  refine G.getF P0 (host := "") (Or.inl (wk hw 75 rfl)) Via.refl lS1 d20_2 (pc' := 5) rfl fun T2 P2 => ?_
  refine G.callSP P2 (rmOC1 l Z a0 hw h0) (wk hw 137 rfl) (wk hw 138 rfl) (wk hw 139 rfl) (wk hw 140 rfl) (by decide) pd_21 (argsL := [(.int (1 : Int32)), (.int (2 : Int32))]) (rest := []) rfl rfl rfl rfl (W := 0) (Nat.le_of_eq rfl) (by decide) d20_5 (pc' := 8) rfl fun T3 P3 => ?_
  show Go p e below _ (T3.setTop (mkF m 8 #[.val (.ref li), .val (.int (1 : Int32))] [(.int (1 : Int32))]))
  refine G.pop P3 d20_8 rfl (pc' := 9) rfl ?_
  refine G.aloadN P3 d20_9 rfl rfl (pc' := 10) rfl ?_
  refine G.iloadN P3 d20_10 rfl (pc' := 11) rfl ?_
  refine G.callVP P3 (rmED1 l Z a0 hw li ed ke mc b1 b2 h0 ⟨lE1, lM1, lD1, lS1⟩ VE) (wk hw 145 rfl) (wk hw 146 rfl) (wk hw 148 rfl) rfl (wk hw 147 rfl) (wk hw 11 rfl) (wk hw 149 rfl) (by decide) lE1 pd_23 (argsL := [(.int (1 : Int32))]) (rest := []) rfl rfl rfl rfl (W := 0) (Nat.le_of_eq rfl) (by decide) d20_11 (pc' := 14) rfl fun T4 P4 => ?_
  show Go p e below _ (T4.setTop (mkF m 14 #[.val (.ref li), .val (.int (1 : Int32))] [(.ref b2)]))
  exact G.retA P4 rfl rfl rfl d20_14 (by decide) (by decide) ⟨rfl, rfl, rfl⟩

theorem ef_rmPcN (m : MethodId) (pl : Addr) : entryFrame m #[(.ref pl)] 1 = mkF m 0 #[.val (.ref pl)] [] := by first | (simp [entryFrame, mkF, argsToLocals, Value.category]; done) | rfl
set_option maxRecDepth 65536 in
set_option maxHeartbeats 40000000 in
theorem rmPcN (l : Launch) (Z : State) (a0 : Array Value) (hw : ∀ d ∈ tables_1, d.before a0 Z = true) (bp li en fr ed : Addr) (ke : ClassId) (mc : Int32) (b1 b2 : Addr) (pl : Addr) (xa : Int32) (k1 : ClassId) (vs1 : List Value) (h0 : Heap) (n0 : Nat) (HW : own_W Z h0 bp li en fr ed ke mc b1 b2) (NP : own_N bp li ed pl) (gp : n0 ≤ pl) (HP : own_P Z h0 pl bp xa (0 : Int32) (0 : Int32) .null) (V1 : Arv Z h0 b1 k1 .byte (16384 : Int32) vs1 (.int (0 : Int32))) (n1 : b1 ≠ pl) :
    OMeets l Z y19 prog_33_method_3_code 1 (some (.array .byte)) ({ frames := 3, cells := 0, slots := 0, locals := 41 } : Room) #[(.ref pl)] h0 (fun v h L => v = some (.ref b1) ∧ Fr n0 L ∧ Keep h0 h [pl] ∧ own_P Z h pl bp xa (0 : Int32) (0 : Int32) (.ref b1)) := by
  refine met (Q := fun v h L => v = some (.ref b1) ∧ Fr n0 L ∧ Keep h0 h [pl] ∧ own_P Z h pl bp xa (0 : Int32) (0 : Int32) (.ref b1)) pf_19 (fun m => ef_rmPcN m pl) fun p e s m below meth c T0 P0 => ?_
  have N0 := Fr.nil n0
  have K0 := Keep.refl h0 [pl]
  obtain ⟨HB, HL, VE, X1, X2⟩ := HW
  obtain ⟨np1, np2, np3⟩ := NP
  obtain ⟨bE1, bP1, bN1, bF1, bC1⟩ := id HB
  obtain ⟨pE2, pT2, pA2, pC2, pO2, pR2⟩ := id HP
  refine G.aloadN P0 d19_0 rfl rfl (pc' := 1) rfl ?_
  refine G.getF P0 (host := "") (Or.inl (wk hw 108 rfl)) Via.refl pR2 d19_1 (pc' := 4) rfl fun T3 P3 => ?_
  refine G.ifnonnullN P3 d19_4 (pc' := 7) rfl ?_
  refine G.aloadN P3 d19_7 rfl rfl (pc' := 8) rfl ?_
  refine G.aloadN P3 d19_8 rfl rfl (pc' := 9) rfl ?_
  refine G.getF P3 (host := "") (Or.inl (wk hw 41 rfl)) Via.refl pT2 d19_9 (pc' := 12) rfl fun T4 P4 => ?_
  refine G.getF P4 (Or.inr (wk hw 126 rfl)) Via.refl bP1 d19_12 (pc' := 15) rfl fun T5 P5 => ?_
  refine G.aloadN P5 d19_15 rfl rfl (pc' := 16) rfl ?_
  refine G.getF P5 (host := "") (Or.inl (wk hw 127 rfl)) Via.refl pC2 d19_16 (pc' := 19) rfl fun T6 P6 => ?_
  refine G.callF P6 (rmGet0 l Z a0 hw li ed ke mc b1 b2 h0 HL VE) (wk hw 129 rfl) (wk hw 130 rfl) (wk hw 131 rfl) (wk hw 132 rfl) (wk hw 133 rfl) (wk hw 134 rfl) (wk hw 135 rfl) (wk hw 71 rfl) (wk hw 11 rfl) (wk hw 136 rfl) (by decide) HL.1 pd_20 (argsL := [(.int (0 : Int32))]) (rest := [(.ref pl)]) rfl rfl rfl rfl (W := 1) (Nat.le_of_eq rfl) (by decide) d19_19 (pc' := 24) rfl (pureK fun T7 P7 => ?_)
  show Go p e below _ (T7.setTop (mkF m 24 #[.val (.ref pl)] [(.ref b1), (.ref pl)]))
  refine G.cast P7 (wk hw 150 rfl) (Ins.self X1) d19_24 (pc' := 27) rfl fun T8 P8 => ?_
  refine G.putF P8 (host := "") (Or.inl (wk hw 108 rfl)) Via.refl pR2 pE2 (Or.inl (wk hw 109 rfl)) (wk hw 36 rfl) (ty := (.array .byte)) (by decide) rfl rfl d19_27 (pc' := 30) rfl fun T9 h9 P9 W9 => ?_
  have f9 := pR2.same W9
  have N10 := Fr.snoc P9.st N0 gp
  have K11 := K0.wr W9 (Or.inl (List.mem_of_getElem? (i := 0) rfl))
  refine G.aloadN P9 d19_30 rfl rfl (pc' := 31) rfl ?_
  have f12 := (pO2.other W9 (Or.inr (slot_ne (Or.inl (wk hw 153 rfl)) (Or.inl (wk hw 109 rfl)) (by decide) (t := .int) (t' := (.array .byte)) (by decide) (by decide))))
  refine G.getF P9 (host := "") (Or.inl (wk hw 152 rfl)) Via.refl f12 d19_31 (pc' := 34) rfl fun T13 P13 => ?_
  refine G.aloadN P13 d19_34 rfl rfl (pc' := 35) rfl ?_
  refine G.getF P13 (host := "") (Or.inl (wk hw 108 rfl)) Via.refl f9 d19_35 (pc' := 38) rfl fun T14 P14 => ?_
  have f15 := (V1.other W9 n1)
  refine G.alen P14 f15 d19_38 (pc' := 39) rfl ?_
  refine G.icmp_ne P14 d19_39 (by decide) (pcY := 83) (by decide) (pcN := 42) rfl (fun c16 => ?_) (fun c16 => absurd c16 (by decide))
  refine G.aloadN P14 d19_83 rfl rfl (pc' := 84) rfl ?_
  refine G.getF P14 (host := "") (Or.inl (wk hw 108 rfl)) Via.refl f9 d19_84 (pc' := 87) rfl fun T17 P17 => ?_
  have f18 := (pE2.wr W9)
  have f19 := (pT2.other W9 (Or.inr (slot_ne (Or.inr (wk hw 42 rfl)) (Or.inl (wk hw 109 rfl)) (by decide) (t := (.object "com/example/overuse_to_delay/overusetodelay/gateway/BytePieces")) (t' := (.array .byte)) (by decide) (by decide))))
  have f20 := (pA2.other W9 (Or.inr (slot_ne (Or.inl (wk hw 115 rfl)) (Or.inl (wk hw 109 rfl)) (by decide) (t := .int) (t' := (.array .byte)) (by decide) (by decide))))
  have f21 := (pC2.other W9 (Or.inr (slot_ne (Or.inl (wk hw 128 rfl)) (Or.inl (wk hw 109 rfl)) (by decide) (t := .int) (t' := (.array .byte)) (by decide) (by decide))))
  exact G.retA P17 rfl rfl rfl d19_87 (by decide) (by decide) ⟨rfl, N10, K11, ⟨f18, f19, f20, f21, f12, f9⟩⟩

theorem ef_rmPcP (m : MethodId) (pl : Addr) : entryFrame m #[(.ref pl)] 1 = mkF m 0 #[.val (.ref pl)] [] := by first | (simp [entryFrame, mkF, argsToLocals, Value.category]; done) | rfl
set_option maxRecDepth 65536 in
set_option maxHeartbeats 40000000 in
theorem rmPcP (l : Launch) (Z : State) (a0 : Array Value) (hw : ∀ d ∈ tables_1, d.before a0 Z = true) (pl bp b : Addr) (xa xp xo n : Int32) (k1 : ClassId) (vs1 : List Value) (h0 : Heap) (HP : own_P Z h0 pl bp xa xp xo (.ref b)) (V1 : Arv Z h0 b k1 .byte n vs1 (.int (0 : Int32))) (hne : ¬ xo = n) :
    OMeets l Z y19 prog_33_method_3_code 1 (some (.array .byte)) ({ frames := 0, cells := 0, slots := 0, locals := 0 } : Room) #[(.ref pl)] h0 (OPure (some (.ref b)) h0) := by
  refine met (Q := OPure (some (.ref b)) h0) pf_19 (fun m => ef_rmPcP m pl) fun p e s m below meth c T0 P0 => ?_
  obtain ⟨pE1, pT1, pA1, pC1, pO1, pR1⟩ := id HP
  refine G.aloadN P0 d19_0 rfl rfl (pc' := 1) rfl ?_
  refine G.getF P0 (host := "") (Or.inl (wk hw 108 rfl)) Via.refl pR1 d19_1 (pc' := 4) rfl fun T2 P2 => ?_
  refine G.ifnonnullY P2 d19_4 (by decide) (pc' := 30) (by decide) ?_
  refine G.aloadN P2 d19_30 rfl rfl (pc' := 31) rfl ?_
  refine G.getF P2 (host := "") (Or.inl (wk hw 152 rfl)) Via.refl pO1 d19_31 (pc' := 34) rfl fun T3 P3 => ?_
  refine G.aloadN P3 d19_34 rfl rfl (pc' := 35) rfl ?_
  refine G.getF P3 (host := "") (Or.inl (wk hw 108 rfl)) Via.refl pR1 d19_35 (pc' := 38) rfl fun T4 P4 => ?_
  refine G.alen P4 V1 d19_38 (pc' := 39) rfl ?_
  refine G.icmp_ne P4 d19_39 (by decide) (pcY := 83) (by decide) (pcN := 42) rfl (fun cc => ?_) (fun cc => absurd cc hne)
  refine G.aloadN P4 d19_83 rfl rfl (pc' := 84) rfl ?_
  refine G.getF P4 (host := "") (Or.inl (wk hw 108 rfl)) Via.refl pR1 d19_84 (pc' := 87) rfl fun T5 P5 => ?_
  exact G.retA P5 rfl rfl rfl d19_87 (by decide) (by decide) ⟨rfl, rfl, rfl⟩

theorem ef_rmPcX (m : MethodId) (pl : Addr) : entryFrame m #[(.ref pl)] 1 = mkF m 0 #[.val (.ref pl)] [] := by first | (simp [entryFrame, mkF, argsToLocals, Value.category]; done) | rfl
set_option maxRecDepth 65536 in
set_option maxHeartbeats 40000000 in
theorem rmPcX (l : Launch) (Z : State) (a0 : Array Value) (hw : ∀ d ∈ tables_1, d.before a0 Z = true) (bp li en fr ed : Addr) (ke : ClassId) (mc : Int32) (b1 b2 : Addr) (pl : Addr) (xa : Int32) (k1 : ClassId) (vs1 : List Value) (k2 : ClassId) (vs2 : List Value) (h0 : Heap) (n0 : Nat) (HW : own_W Z h0 bp li en fr ed ke mc b1 b2) (NP : own_N bp li ed pl) (gp : n0 ≤ pl) (HP : own_P Z h0 pl bp xa (0 : Int32) (16384 : Int32) (.ref b1)) (V1 : Arv Z h0 b1 k1 .byte (16384 : Int32) vs1 (.int (0 : Int32))) (n1 : b1 ≠ pl) (V2 : Arv Z h0 b2 k2 .byte (8 : Int32) vs2 (.int (0 : Int32))) (n2 : b2 ≠ pl) :
    OMeets l Z y19 prog_33_method_3_code 1 (some (.array .byte)) ({ frames := 3, cells := 0, slots := 0, locals := 41 } : Room) #[(.ref pl)] h0 (fun v h L => v = some (.ref b2) ∧ Fr n0 L ∧ Keep h0 h [pl] ∧ own_P Z h pl bp xa (1 : Int32) (0 : Int32) (.ref b2)) := by
  refine met (Q := fun v h L => v = some (.ref b2) ∧ Fr n0 L ∧ Keep h0 h [pl] ∧ own_P Z h pl bp xa (1 : Int32) (0 : Int32) (.ref b2)) pf_19 (fun m => ef_rmPcX m pl) fun p e s m below meth c T0 P0 => ?_
  have N0 := Fr.nil n0
  have K0 := Keep.refl h0 [pl]
  obtain ⟨HB, HL, VE, X1, X2⟩ := HW
  obtain ⟨np1, np2, np3⟩ := NP
  obtain ⟨bE1, bP1, bN1, bF1, bC1⟩ := id HB
  obtain ⟨pE2, pT2, pA2, pC2, pO2, pR2⟩ := id HP
  refine G.aloadN P0 d19_0 rfl rfl (pc' := 1) rfl ?_
  refine G.getF P0 (host := "") (Or.inl (wk hw 108 rfl)) Via.refl pR2 d19_1 (pc' := 4) rfl fun T3 P3 => ?_
  refine G.ifnonnullY P3 d19_4 (by decide) (pc' := 30) (by decide) ?_
  refine G.aloadN P3 d19_30 rfl rfl (pc' := 31) rfl ?_
  refine G.getF P3 (host := "") (Or.inl (wk hw 152 rfl)) Via.refl pO2 d19_31 (pc' := 34) rfl fun T4 P4 => ?_
  refine G.aloadN P4 d19_34 rfl rfl (pc' := 35) rfl ?_
  refine G.getF P4 (host := "") (Or.inl (wk hw 108 rfl)) Via.refl pR2 d19_35 (pc' := 38) rfl fun T5 P5 => ?_
  refine G.alen P5 V1 d19_38 (pc' := 39) rfl ?_
  refine G.icmp_ne P5 d19_39 (by decide) (pcY := 83) (by decide) (pcN := 42) rfl (fun c6 => absurd c6 (by decide)) (fun c6 => ?_)
  refine G.aloadN P5 d19_42 rfl rfl (pc' := 43) rfl ?_
  refine G.dup P5 d19_43 rfl (pc' := 44) rfl ?_
  refine G.getF P5 (host := "") (Or.inl (wk hw 127 rfl)) Via.refl pC2 d19_44 (pc' := 47) rfl fun T7 P7 => ?_
  refine G.iconst P7 d19_47 (z := (1 : Int32)) rfl (pc' := 48) rfl ?_
  refine G.iadd P7 d19_48 (z := (1 : Int32)) (by decide) (pc' := 49) rfl ?_
  refine G.putF P7 (host := "") (Or.inl (wk hw 127 rfl)) Via.refl pC2 pE2 (Or.inl (wk hw 128 rfl)) (wk hw 36 rfl) (ty := .int) (by decide) rfl rfl d19_49 (pc' := 52) rfl fun T8 h8 P8 W8 => ?_
  have f8 := pC2.same W8
  have N9 := Fr.snoc P8.st N0 gp
  have K10 := K0.wr W8 (Or.inl (List.mem_of_getElem? (i := 0) rfl))
  refine G.aloadN P8 d19_52 rfl rfl (pc' := 53) rfl ?_
  refine G.iconst P8 d19_53 (z := (0 : Int32)) rfl (pc' := 54) rfl ?_
  have f11 := (pO2.other W8 (Or.inr (slot_ne (Or.inl (wk hw 153 rfl)) (Or.inl (wk hw 128 rfl)) (by decide) (t := .int) (t' := .int) (by decide) (by decide))))
  have f12 := (pE2.wr W8)
  refine G.putF P8 (host := "") (Or.inl (wk hw 152 rfl)) Via.refl f11 f12 (Or.inl (wk hw 153 rfl)) (wk hw 36 rfl) (ty := .int) (by decide) rfl rfl d19_54 (pc' := 57) rfl fun T13 h13 P13 W13 => ?_
  have f13 := f11.same W13
  have N14 := Fr.snoc P13.st N9 gp
  have K15 := K10.wr W13 (Or.inl (List.mem_of_getElem? (i := 0) rfl))
  refine G.aloadN P13 d19_57 rfl rfl (pc' := 58) rfl ?_
  refine G.aloadN P13 d19_58 rfl rfl (pc' := 59) rfl ?_
  have f16 := ((pT2.other W8 (Or.inr (slot_ne (Or.inr (wk hw 42 rfl)) (Or.inl (wk hw 128 rfl)) (by decide) (t := (.object "com/example/overuse_to_delay/overusetodelay/gateway/BytePieces")) (t' := .int) (by decide) (by decide)))).other W13 (Or.inr (slot_ne (Or.inr (wk hw 42 rfl)) (Or.inl (wk hw 153 rfl)) (by decide) (t := (.object "com/example/overuse_to_delay/overusetodelay/gateway/BytePieces")) (t' := .int) (by decide) (by decide))))
  refine G.getF P13 (host := "") (Or.inl (wk hw 41 rfl)) Via.refl f16 d19_59 (pc' := 62) rfl fun T17 P17 => ?_
  have f18 := ((bP1.other W8 (Or.inl np1)).other W13 (Or.inl np1))
  refine G.getF P17 (Or.inr (wk hw 126 rfl)) Via.refl f18 d19_62 (pc' := 65) rfl fun T19 P19 => ?_
  refine G.aloadN P19 d19_65 rfl rfl (pc' := 66) rfl ?_
  have f20 := (f8.other W13 (Or.inr (slot_ne (Or.inl (wk hw 128 rfl)) (Or.inl (wk hw 153 rfl)) (by decide) (t := .int) (t' := .int) (by decide) (by decide))))
  refine G.getF P19 (host := "") (Or.inl (wk hw 127 rfl)) Via.refl f20 d19_66 (pc' := 69) rfl fun T21 P21 => ?_
  have f22 := ((HL.keep (Keep.of_wr W8) (ninS np2 nin0)).keep (Keep.of_wr W13) (ninS np2 nin0))
  have f23 := ((VE.other W8 np3).other W13 np3)
  have f24 := ((HL.1.wr W8).wr W13)
  refine G.callF P21 (rmGet1 l Z a0 hw li ed ke mc b1 b2 h13 f22 f23) (wk hw 129 rfl) (wk hw 130 rfl) (wk hw 131 rfl) (wk hw 132 rfl) (wk hw 133 rfl) (wk hw 134 rfl) (wk hw 135 rfl) (wk hw 71 rfl) (wk hw 11 rfl) (wk hw 136 rfl) (by decide) f24 pd_20 (argsL := [(.int (1 : Int32))]) (rest := [(.ref pl)]) rfl rfl rfl rfl (W := 1) (Nat.le_of_eq rfl) (by decide) d19_69 (pc' := 74) rfl (pureK fun T25 P25 => ?_)
  show Go p e below _ (T25.setTop (mkF m 74 #[.val (.ref pl)] [(.ref b2), (.ref pl)]))
  have f26 := ((X2.wr W8).wr W13)
  refine G.cast P25 (wk hw 150 rfl) (Ins.self f26) d19_74 (pc' := 77) rfl fun T27 P27 => ?_
  have f28 := ((pR2.other W8 (Or.inr (slot_ne (Or.inl (wk hw 109 rfl)) (Or.inl (wk hw 128 rfl)) (by decide) (t := (.array .byte)) (t' := .int) (by decide) (by decide)))).other W13 (Or.inr (slot_ne (Or.inl (wk hw 109 rfl)) (Or.inl (wk hw 153 rfl)) (by decide) (t := (.array .byte)) (t' := .int) (by decide) (by decide))))
  have f29 := (f12.wr W13)
  refine G.putF P27 (host := "") (Or.inl (wk hw 108 rfl)) Via.refl f28 f29 (Or.inl (wk hw 109 rfl)) (wk hw 36 rfl) (ty := (.array .byte)) (by decide) rfl rfl d19_77 (pc' := 80) rfl fun T30 h30 P30 W30 => ?_
  have f30 := f28.same W30
  have N31 := Fr.snoc P30.st N14 gp
  have K32 := K15.wr W30 (Or.inl (List.mem_of_getElem? (i := 0) rfl))
  refine G.goto P30 d19_80 (by decide) (pc' := 30) (by decide) ?_
  refine G.aloadN P30 d19_30 rfl rfl (pc' := 31) rfl ?_
  have f33 := (f13.other W30 (Or.inr (slot_ne (Or.inl (wk hw 153 rfl)) (Or.inl (wk hw 109 rfl)) (by decide) (t := .int) (t' := (.array .byte)) (by decide) (by decide))))
  refine G.getF P30 (host := "") (Or.inl (wk hw 152 rfl)) Via.refl f33 d19_31 (pc' := 34) rfl fun T34 P34 => ?_
  refine G.aloadN P34 d19_34 rfl rfl (pc' := 35) rfl ?_
  refine G.getF P34 (host := "") (Or.inl (wk hw 108 rfl)) Via.refl f30 d19_35 (pc' := 38) rfl fun T35 P35 => ?_
  have f36 := (((V2.other W8 n2).other W13 n2).other W30 n2)
  refine G.alen P35 f36 d19_38 (pc' := 39) rfl ?_
  refine G.icmp_ne P35 d19_39 (by decide) (pcY := 83) (by decide) (pcN := 42) rfl (fun c37 => ?_) (fun c37 => absurd c37 (by decide))
  refine G.aloadN P35 d19_83 rfl rfl (pc' := 84) rfl ?_
  refine G.getF P35 (host := "") (Or.inl (wk hw 108 rfl)) Via.refl f30 d19_84 (pc' := 87) rfl fun T38 P38 => ?_
  have f39 := (f29.wr W30)
  have f40 := (f16.other W30 (Or.inr (slot_ne (Or.inr (wk hw 42 rfl)) (Or.inl (wk hw 109 rfl)) (by decide) (t := (.object "com/example/overuse_to_delay/overusetodelay/gateway/BytePieces")) (t' := (.array .byte)) (by decide) (by decide))))
  have f41 := (((pA2.other W8 (Or.inr (slot_ne (Or.inl (wk hw 115 rfl)) (Or.inl (wk hw 128 rfl)) (by decide) (t := .int) (t' := .int) (by decide) (by decide)))).other W13 (Or.inr (slot_ne (Or.inl (wk hw 115 rfl)) (Or.inl (wk hw 153 rfl)) (by decide) (t := .int) (t' := .int) (by decide) (by decide)))).other W30 (Or.inr (slot_ne (Or.inl (wk hw 115 rfl)) (Or.inl (wk hw 109 rfl)) (by decide) (t := .int) (t' := (.array .byte)) (by decide) (by decide))))
  have f42 := (f20.other W30 (Or.inr (slot_ne (Or.inl (wk hw 128 rfl)) (Or.inl (wk hw 109 rfl)) (by decide) (t := .int) (t' := (.array .byte)) (by decide) (by decide))))
  exact G.retA P38 rfl rfl rfl d19_87 (by decide) (by decide) ⟨rfl, N31, K32, ⟨f39, f40, f41, f42, f33, f30⟩⟩

theorem ef_rmPHn (m : MethodId) (pl : Addr) (nn : Int32) : entryFrame m #[(.ref pl), (.int nn)] 2 = mkF m 0 #[.val (.ref pl), .val (.int nn)] [] := by first | (simp [entryFrame, mkF, argsToLocals, Value.category]; done) | rfl
set_option maxRecDepth 65536 in
set_option maxHeartbeats 40000000 in
theorem rmPHn (l : Launch) (Z : State) (a0 : Array Value) (hw : ∀ d ∈ tables_1, d.before a0 Z = true) (pl bp : Addr) (xa xp xo nn : Int32) (h0 : Heap) (HP : own_P Z h0 pl bp xa xp xo .null) :
    OMeets l Z y16 prog_33_method_4_code 2 (some (.array .byte)) ({ frames := 0, cells := 0, slots := 0, locals := 0 } : Room) #[(.ref pl), (.int nn)] h0 (OPure (some .null) h0) := by
  refine met (Q := OPure (some .null) h0) pf_16 (fun m => ef_rmPHn m pl nn) fun p e s m below meth c T0 P0 => ?_
  obtain ⟨pE1, pT1, pA1, pC1, pO1, pR1⟩ := id HP
  refine G.aloadN P0 d16_0 rfl rfl (pc' := 1) rfl ?_
  refine G.getF P0 (host := "") (Or.inl (wk hw 108 rfl)) Via.refl pR1 d16_1 (pc' := 4) rfl fun T2 P2 => ?_
  refine G.ifnullY P2 d16_4 (by decide) (pc' := 28) (by decide) ?_
  refine G.aconstNull P2 d16_28 (pc' := 29) rfl ?_
  exact G.retA P2 rfl rfl rfl d16_29 (by decide) (by decide) ⟨rfl, rfl, rfl⟩

theorem ef_rmPHy (m : MethodId) (pl : Addr) (nn : Int32) : entryFrame m #[(.ref pl), (.int nn)] 2 = mkF m 0 #[.val (.ref pl), .val (.int nn)] [] := by first | (simp [entryFrame, mkF, argsToLocals, Value.category]; done) | rfl
set_option maxRecDepth 65536 in
set_option maxHeartbeats 40000000 in
theorem rmPHy (l : Launch) (Z : State) (a0 : Array Value) (hw : ∀ d ∈ tables_1, d.before a0 Z = true) (pl bp b : Addr) (xa xp xo n nn : Int32) (k1 : ClassId) (vs1 : List Value) (h0 : Heap) (HP : own_P Z h0 pl bp xa xp xo (.ref b)) (V1 : Arv Z h0 b k1 .byte n vs1 (.int (0 : Int32))) (hq : ¬ n - xo < nn) :
    OMeets l Z y16 prog_33_method_4_code 2 (some (.array .byte)) ({ frames := 0, cells := 0, slots := 0, locals := 0 } : Room) #[(.ref pl), (.int nn)] h0 (OPure (some (.ref b)) h0) := by
  refine met (Q := OPure (some (.ref b)) h0) pf_16 (fun m => ef_rmPHy m pl nn) fun p e s m below meth c T0 P0 => ?_
  obtain ⟨pE1, pT1, pA1, pC1, pO1, pR1⟩ := id HP
  refine G.aloadN P0 d16_0 rfl rfl (pc' := 1) rfl ?_
  refine G.getF P0 (host := "") (Or.inl (wk hw 108 rfl)) Via.refl pR1 d16_1 (pc' := 4) rfl fun T2 P2 => ?_
  refine G.ifnullN P2 d16_4 (pc' := 7) rfl ?_
  refine G.aloadN P2 d16_7 rfl rfl (pc' := 8) rfl ?_
  refine G.getF P2 (host := "") (Or.inl (wk hw 108 rfl)) Via.refl pR1 d16_8 (pc' := 11) rfl fun T3 P3 => ?_
  refine G.alen P3 V1 d16_11 (pc' := 12) rfl ?_
  refine G.aloadN P3 d16_12 rfl rfl (pc' := 13) rfl ?_
  refine G.getF P3 (host := "") (Or.inl (wk hw 152 rfl)) Via.refl pO1 d16_13 (pc' := 16) rfl fun T4 P4 => ?_
  refine G.isub P4 d16_16 rfl (pc' := 17) rfl ?_
  refine G.iloadN P4 d16_17 rfl (pc' := 18) rfl ?_
  refine G.icmp_lt P4 d16_18 (by decide) (pcY := 28) (by decide) (pcN := 21) rfl (fun cc => absurd cc hq) (fun cc => ?_)
  refine G.aloadN P4 d16_21 rfl rfl (pc' := 22) rfl ?_
  refine G.getF P4 (host := "") (Or.inl (wk hw 108 rfl)) Via.refl pR1 d16_22 (pc' := 25) rfl fun T5 P5 => ?_
  refine G.goto P5 d16_25 (by decide) (pc' := 29) (by decide) ?_
  exact G.retA P5 rfl rfl rfl d16_29 (by decide) (by decide) ⟨rfl, rfl, rfl⟩

theorem ef_rmPHx (m : MethodId) (pl : Addr) (nn : Int32) : entryFrame m #[(.ref pl), (.int nn)] 2 = mkF m 0 #[.val (.ref pl), .val (.int nn)] [] := by first | (simp [entryFrame, mkF, argsToLocals, Value.category]; done) | rfl
set_option maxRecDepth 65536 in
set_option maxHeartbeats 40000000 in
theorem rmPHx (l : Launch) (Z : State) (a0 : Array Value) (hw : ∀ d ∈ tables_1, d.before a0 Z = true) (pl bp b : Addr) (xa xp xo n nn : Int32) (k1 : ClassId) (vs1 : List Value) (h0 : Heap) (HP : own_P Z h0 pl bp xa xp xo (.ref b)) (V1 : Arv Z h0 b k1 .byte n vs1 (.int (0 : Int32))) (hq : n - xo < nn) :
    OMeets l Z y16 prog_33_method_4_code 2 (some (.array .byte)) ({ frames := 0, cells := 0, slots := 0, locals := 0 } : Room) #[(.ref pl), (.int nn)] h0 (OPure (some .null) h0) := by
  refine met (Q := OPure (some .null) h0) pf_16 (fun m => ef_rmPHx m pl nn) fun p e s m below meth c T0 P0 => ?_
  obtain ⟨pE1, pT1, pA1, pC1, pO1, pR1⟩ := id HP
  refine G.aloadN P0 d16_0 rfl rfl (pc' := 1) rfl ?_
  refine G.getF P0 (host := "") (Or.inl (wk hw 108 rfl)) Via.refl pR1 d16_1 (pc' := 4) rfl fun T2 P2 => ?_
  refine G.ifnullN P2 d16_4 (pc' := 7) rfl ?_
  refine G.aloadN P2 d16_7 rfl rfl (pc' := 8) rfl ?_
  refine G.getF P2 (host := "") (Or.inl (wk hw 108 rfl)) Via.refl pR1 d16_8 (pc' := 11) rfl fun T3 P3 => ?_
  refine G.alen P3 V1 d16_11 (pc' := 12) rfl ?_
  refine G.aloadN P3 d16_12 rfl rfl (pc' := 13) rfl ?_
  refine G.getF P3 (host := "") (Or.inl (wk hw 152 rfl)) Via.refl pO1 d16_13 (pc' := 16) rfl fun T4 P4 => ?_
  refine G.isub P4 d16_16 rfl (pc' := 17) rfl ?_
  refine G.iloadN P4 d16_17 rfl (pc' := 18) rfl ?_
  refine G.icmp_lt P4 d16_18 (by decide) (pcY := 28) (by decide) (pcN := 21) rfl (fun cc => ?_) (fun cc => absurd hq cc)
  refine G.aconstNull P4 d16_28 (pc' := 29) rfl ?_
  exact G.retA P4 rfl rfl rfl d16_29 (by decide) (by decide) ⟨rfl, rfl, rfl⟩

theorem ef_rmPass (m : MethodId) (pl : Addr) (nn : Int32) : entryFrame m #[(.ref pl), (.int nn)] 2 = mkF m 0 #[.val (.ref pl), .val (.int nn)] [] := by first | (simp [entryFrame, mkF, argsToLocals, Value.category]; done) | rfl
set_option maxRecDepth 65536 in
set_option maxHeartbeats 40000000 in
theorem rmPass (l : Launch) (Z : State) (a0 : Array Value) (hw : ∀ d ∈ tables_1, d.before a0 Z = true) (pl bp : Addr) (xa xp xo nn : Int32) (xr : Value) (ya yo : Int32) (h0 : Heap) (n0 : Nat) (gp : n0 ≤ pl) (HP : own_P Z h0 pl bp xa xp xo xr) (ha : xa + nn = ya) (ho : xo + nn = yo) :
    OMeets l Z y24 prog_33_method_5_code 2 none ({ frames := 0, cells := 0, slots := 0, locals := 0 } : Room) #[(.ref pl), (.int nn)] h0 (fun v h L => v = none ∧ Fr n0 L ∧ Keep h0 h [pl] ∧ own_P Z h pl bp ya xp yo xr) := by
  refine met (Q := fun v h L => v = none ∧ Fr n0 L ∧ Keep h0 h [pl] ∧ own_P Z h pl bp ya xp yo xr) pf_24 (fun m => ef_rmPass m pl nn) fun p e s m below meth c T0 P0 => ?_
  have N0 := Fr.nil n0
  have K0 := Keep.refl h0 [pl]
  obtain ⟨pE1, pT1, pA1, pC1, pO1, pR1⟩ := id HP
  refine G.aloadN P0 d24_0 rfl rfl (pc' := 1) rfl ?_
  refine G.dup P0 d24_1 rfl (pc' := 2) rfl ?_
  refine G.getF P0 (host := "") (Or.inl (wk hw 152 rfl)) Via.refl pO1 d24_2 (pc' := 5) rfl fun T2 P2 => ?_
  refine G.iloadN P2 d24_5 rfl (pc' := 6) rfl ?_
  refine G.iadd P2 d24_6 rfl (pc' := 7) rfl ?_
  refine G.putF P2 (host := "") (Or.inl (wk hw 152 rfl)) Via.refl pO1 pE1 (Or.inl (wk hw 153 rfl)) (wk hw 36 rfl) (ty := .int) (by decide) rfl rfl d24_7 (pc' := 10) rfl fun T3 h3 P3 W3 => ?_
  have f3 := pO1.same W3
  have N4 := Fr.snoc P3.st N0 gp
  have K5 := K0.wr W3 (Or.inl (List.mem_of_getElem? (i := 0) rfl))
  refine G.aloadN P3 d24_10 rfl rfl (pc' := 11) rfl ?_
  refine G.dup P3 d24_11 rfl (pc' := 12) rfl ?_
  have f6 := (pA1.other W3 (Or.inr (slot_ne (Or.inl (wk hw 115 rfl)) (Or.inl (wk hw 153 rfl)) (by decide) (t := .int) (t' := .int) (by decide) (by decide))))
  refine G.getF P3 (host := "") (Or.inl (wk hw 159 rfl)) Via.refl f6 d24_12 (pc' := 15) rfl fun T7 P7 => ?_
  refine G.iloadN P7 d24_15 rfl (pc' := 16) rfl ?_
  refine G.iadd P7 d24_16 rfl (pc' := 17) rfl ?_
  have f8 := (pE1.wr W3)
  refine G.putF P7 (host := "") (Or.inl (wk hw 159 rfl)) Via.refl f6 f8 (Or.inl (wk hw 115 rfl)) (wk hw 36 rfl) (ty := .int) (by decide) rfl rfl d24_17 (pc' := 20) rfl fun T9 h9 P9 W9 => ?_
  have f9 := f6.same W9
  have N10 := Fr.snoc P9.st N4 gp
  have K11 := K5.wr W9 (Or.inl (List.mem_of_getElem? (i := 0) rfl))
  have f12 := (f8.wr W9)
  have f13 := ((pT1.other W3 (Or.inr (slot_ne (Or.inr (wk hw 42 rfl)) (Or.inl (wk hw 153 rfl)) (by decide) (t := (.object "com/example/overuse_to_delay/overusetodelay/gateway/BytePieces")) (t' := .int) (by decide) (by decide)))).other W9 (Or.inr (slot_ne (Or.inr (wk hw 42 rfl)) (Or.inl (wk hw 115 rfl)) (by decide) (t := (.object "com/example/overuse_to_delay/overusetodelay/gateway/BytePieces")) (t' := .int) (by decide) (by decide))))
  have f14 := ((pC1.other W3 (Or.inr (slot_ne (Or.inl (wk hw 128 rfl)) (Or.inl (wk hw 153 rfl)) (by decide) (t := .int) (t' := .int) (by decide) (by decide)))).other W9 (Or.inr (slot_ne (Or.inl (wk hw 128 rfl)) (Or.inl (wk hw 115 rfl)) (by decide) (t := .int) (t' := .int) (by decide) (by decide))))
  have f15 := (f3.other W9 (Or.inr (slot_ne (Or.inl (wk hw 153 rfl)) (Or.inl (wk hw 115 rfl)) (by decide) (t := .int) (t' := .int) (by decide) (by decide))))
  have f16 := ((pR1.other W3 (Or.inr (slot_ne (Or.inl (wk hw 109 rfl)) (Or.inl (wk hw 153 rfl)) (by decide) (t := (.array .byte)) (t' := .int) (by decide) (by decide)))).other W9 (Or.inr (slot_ne (Or.inl (wk hw 109 rfl)) (Or.inl (wk hw 115 rfl)) (by decide) (t := (.array .byte)) (t' := .int) (by decide) (by decide))))
  have q_ : own_P Z h9 pl bp (xa + nn) xp (xo + nn) xr := ⟨f12, f13, f9, f14, f15, f16⟩
  rw [ha, ho] at q_
  exact G.retV P9 d24_20 (by decide) (by decide) ⟨rfl, N10, K11, q_⟩

theorem ef_rmWBN (m : MethodId) (pl : Addr) (v0 : Int32) : entryFrame m #[(.ref pl), (.int v0), (.int (4 : Int32))] 5 = mkF m 0 #[.val (.ref pl), .val (.int v0), .val (.int (4 : Int32)), .unset, .unset] [] := by first | (simp [entryFrame, mkF, argsToLocals, Value.category]; done) | rfl
set_option maxRecDepth 65536 in
set_option maxHeartbeats 40000000 in
theorem rmWBN (l : Launch) (Z : State) (a0 : Array Value) (hw : ∀ d ∈ tables_1, d.before a0 Z = true) (bp li en fr ed : Addr) (ke : ClassId) (mc : Int32) (b1 b2 : Addr) (pl : Addr) (k1 : ClassId) (y0 y1 y2 y3 : Int32) (tl : List Value) (v0 : Int32) (h0 : Heap) (n0 : Nat) (HW : own_W Z h0 bp li en fr ed ke mc b1 b2) (NP : own_N bp li ed pl) (gp : n0 ≤ pl) (NB : own_N bp li ed b1) (gp2 : n0 ≤ b1) (HP : own_P Z h0 pl bp (0 : Int32) (0 : Int32) (0 : Int32) .null) (n1 : b1 ≠ pl) (n2 : b2 ≠ pl) (n12 : b1 ≠ b2) (V1 : Arv Z h0 b1 k1 .byte (16384 : Int32) ((.int y0) :: (.int y1) :: (.int y2) :: (.int y3) :: tl) (.int (0 : Int32))) :
    OMeets l Z y18 prog_33_method_6_code 5 none ({ frames := 4, cells := 0, slots := 0, locals := 53 } : Room) #[(.ref pl), (.int v0), (.int (4 : Int32))] h0 (fun v h L => v = none ∧ Fr n0 L ∧ Keep h0 h [pl, b1] ∧ own_P Z h pl bp (4 : Int32) (0 : Int32) (4 : Int32) (.ref b1) ∧ Arv Z h b1 k1 .byte (16384 : Int32) ((.int (nar .byte (v0 >>> ((24 : Int32) &&& 31)).toInt8.toInt32)) :: (.int (nar .byte (v0 >>> ((16 : Int32) &&& 31)).toInt8.toInt32)) :: (.int (nar .byte (v0 >>> ((8 : Int32) &&& 31)).toInt8.toInt32)) :: (.int (nar .byte (v0 >>> ((0 : Int32) &&& 31)).toInt8.toInt32)) :: tl) (.int (0 : Int32))) := by
  refine met (Q := fun v h L => v = none ∧ Fr n0 L ∧ Keep h0 h [pl, b1] ∧ own_P Z h pl bp (4 : Int32) (0 : Int32) (4 : Int32) (.ref b1) ∧ Arv Z h b1 k1 .byte (16384 : Int32) ((.int (nar .byte (v0 >>> ((24 : Int32) &&& 31)).toInt8.toInt32)) :: (.int (nar .byte (v0 >>> ((16 : Int32) &&& 31)).toInt8.toInt32)) :: (.int (nar .byte (v0 >>> ((8 : Int32) &&& 31)).toInt8.toInt32)) :: (.int (nar .byte (v0 >>> ((0 : Int32) &&& 31)).toInt8.toInt32)) :: tl) (.int (0 : Int32))) pf_18 (fun m => ef_rmWBN m pl v0) fun p e s m below meth c T0 P0 => ?_
  have N0 := Fr.nil n0
  have K0 := Keep.refl h0 [pl, b1]
  have HWl := HW.2.1.1
  obtain ⟨np1, np2, np3⟩ := NP
  obtain ⟨nq1, nq2, nq3⟩ := NB
  obtain ⟨pE1, pT1, pA1, pC1, pO1, pR1⟩ := id HP
  refine G.bipush P0 d18_0 (z := (8 : Int32)) rfl (pc' := 2) rfl ?_
  refine G.iloadN P0 d18_2 rfl (pc' := 3) rfl ?_
  refine G.iconst P0 d18_3 (z := (1 : Int32)) rfl (pc' := 4) rfl ?_
  refine G.isub P0 d18_4 (z := (3 : Int32)) (by decide) (pc' := 5) rfl ?_
  refine G.imul P0 d18_5 (z := (24 : Int32)) (by decide) (pc' := 6) rfl ?_
  refine G.istoreN P0 d18_6 (l' := #[.val (.ref pl), .val (.int v0), .val (.int (4 : Int32)), .val (.int (24 : Int32)), .unset]) rfl (pc' := 7) rfl ?_
  refine G.iloadN P0 d18_7 rfl (pc' := 8) rfl ?_
  refine G.if_lt P0 d18_8 (by decide) (pcY := 39) (by decide) (pcN := 11) rfl (fun c2 => absurd c2 (by decide)) (fun c2 => ?_)
  refine G.aloadN P0 d18_11 rfl rfl (pc' := 12) rfl ?_
  refine G.callV P0 (rmPcN l Z a0 hw bp li en fr ed ke mc b1 b2 pl (0 : Int32) k1 _ h0 n0 HW (⟨np1, np2, np3⟩) gp ⟨pE1, pT1, pA1, pC1, pO1, pR1⟩ V1 n1) (wk hw 121 rfl) (wk hw 122 rfl) (wk hw 124 rfl) rfl (wk hw 123 rfl) (wk hw 37 rfl) (wk hw 125 rfl) (by decide) pE1 pd_19 (argsL := []) (rest := []) rfl rfl rfl rfl (W := 0) (Nat.le_of_eq rfl) (by decide) d18_12 (pc' := 15) rfl fun T3 L3 v3 P3 Q3 => ?_
  obtain ⟨rfl, N3, K3, HP3⟩ := Q3
  have N4 := Fr.app N0 N3
  have K5 := K0.trans K3 (allS (Or.inl (List.mem_of_getElem? (i := 0) rfl)) all0)
  show Go p e below _ (T3.setTop (mkF m 15 #[.val (.ref pl), .val (.int v0), .val (.int (4 : Int32)), .val (.int (24 : Int32)), .unset] [(.ref b1)]))
  obtain ⟨pE6, pT6, pA6, pC6, pO6, pR6⟩ := id HP3
  refine G.astore P3 d18_15 rfl (l' := #[.val (.ref pl), .val (.int v0), .val (.int (4 : Int32)), .val (.int (24 : Int32)), .val (.ref b1)]) rfl (pc' := 17) rfl ?_
  refine G.aload P3 d18_17 rfl rfl (pc' := 19) rfl ?_
  refine G.aloadN P3 d18_19 rfl rfl (pc' := 20) rfl ?_
  refine G.getF P3 (host := "") (Or.inl (wk hw 152 rfl)) Via.refl pO6 d18_20 (pc' := 23) rfl fun T7 P7 => ?_
  refine G.iloadN P7 d18_23 rfl (pc' := 24) rfl ?_
  refine G.iloadN P7 d18_24 rfl (pc' := 25) rfl ?_
  refine G.ishr P7 d18_25 rfl (pc' := 26) rfl ?_
  refine G.i2b P7 d18_26 rfl (pc' := 27) rfl ?_
  have f8 := (V1.keep K3 (ninS n1 nin0))
  refine G.stB P7 f8 (0) rfl (by decide) (own_lt4 _ (by decide)) d18_27 (pc' := 28) rfl fun T9 h9 P9 W9 V9 => ?_
  have V9p : Arv Z h9 b1 k1 .byte (16384 : Int32) ((.int (nar .byte ((v0 >>> ((24 : Int32) &&& 31)).toInt8.toInt32))) :: (.int y1) :: (.int y2) :: (.int y3) :: tl) (.int (0 : Int32)) := V9
  have N10 := Fr.snoc P9.st N4 gp2
  have K11 := K5.wr W9 (Or.inl (List.mem_of_getElem? (i := 1) rfl))
  refine G.aloadN P9 d18_28 rfl rfl (pc' := 29) rfl ?_
  refine G.iconst P9 d18_29 (z := (1 : Int32)) rfl (pc' := 30) rfl ?_
  have f12 := (pE6.wr W9)
  have f13 := (pT6.other W9 (Or.inl (Ne.symm n1)))
  have f14 := (pA6.other W9 (Or.inl (Ne.symm n1)))
  have f15 := (pC6.other W9 (Or.inl (Ne.symm n1)))
  have f16 := (pO6.other W9 (Or.inl (Ne.symm n1)))
  have f17 := (pR6.other W9 (Or.inl (Ne.symm n1)))
  refine G.callV P9 (rmPass l Z a0 hw pl bp (0 : Int32) (0 : Int32) (0 : Int32) (1 : Int32) (.ref b1) (1 : Int32) (1 : Int32) h9 n0 gp ⟨f12, f13, f14, f15, f16, f17⟩ (by decide) (by decide)) (wk hw 154 rfl) (wk hw 155 rfl) (wk hw 157 rfl) rfl (wk hw 156 rfl) (wk hw 37 rfl) (wk hw 158 rfl) (by decide) f12 pd_24 (argsL := [(.int (1 : Int32))]) (rest := []) rfl rfl rfl rfl (W := 0) (Nat.le_of_eq rfl) (by decide) d18_30 (pc' := 33) rfl fun T18 L18 v18 P18 Q18 => ?_
  obtain ⟨rfl, N18, K18, HP18⟩ := Q18
  have N19 := Fr.app N10 N18
  have K20 := K11.trans K18 (allS (Or.inl (List.mem_of_getElem? (i := 0) rfl)) all0)
  show Go p e below _ (T18.setTop (mkF m 33 #[.val (.ref pl), .val (.int v0), .val (.int (4 : Int32)), .val (.int (24 : Int32)), .val (.ref b1)] []))
  obtain ⟨pE21, pT21, pA21, pC21, pO21, pR21⟩ := id HP18
  refine G.iinc P18 d18_33 rfl (z := (16 : Int32)) (by decide) (l' := #[.val (.ref pl), .val (.int v0), .val (.int (4 : Int32)), .val (.int (16 : Int32)), .val (.ref b1)]) rfl (pc' := 36) rfl ?_
  refine G.goto P18 d18_36 (by decide) (pc' := 7) (by decide) ?_
  refine G.iloadN P18 d18_7 rfl (pc' := 8) rfl ?_
  refine G.if_lt P18 d18_8 (by decide) (pcY := 39) (by decide) (pcN := 11) rfl (fun c22 => absurd c22 (by decide)) (fun c22 => ?_)
  refine G.aloadN P18 d18_11 rfl rfl (pc' := 12) rfl ?_
  have f23 := (V9p.keep K18 (ninS n1 nin0))
  refine G.callVP P18 (rmPcP l Z a0 hw pl bp b1 (1 : Int32) (0 : Int32) (1 : Int32) (16384 : Int32) k1 _ T18.heap ⟨pE21, pT21, pA21, pC21, pO21, pR21⟩ f23 (by decide)) (wk hw 121 rfl) (wk hw 122 rfl) (wk hw 124 rfl) rfl (wk hw 123 rfl) (wk hw 37 rfl) (wk hw 125 rfl) (by decide) pE21 pd_19 (argsL := []) (rest := []) rfl rfl rfl rfl (W := 0) (Nat.le_of_eq rfl) (by decide) d18_12 (pc' := 15) rfl fun T24 P24 => ?_
  show Go p e below _ (T24.setTop (mkF m 15 #[.val (.ref pl), .val (.int v0), .val (.int (4 : Int32)), .val (.int (16 : Int32)), .val (.ref b1)] [(.ref b1)]))
  refine G.astore P24 d18_15 rfl (l' := #[.val (.ref pl), .val (.int v0), .val (.int (4 : Int32)), .val (.int (16 : Int32)), .val (.ref b1)]) rfl (pc' := 17) rfl ?_
  refine G.aload P24 d18_17 rfl rfl (pc' := 19) rfl ?_
  refine G.aloadN P24 d18_19 rfl rfl (pc' := 20) rfl ?_
  refine G.getF P24 (host := "") (Or.inl (wk hw 152 rfl)) Via.refl pO21 d18_20 (pc' := 23) rfl fun T25 P25 => ?_
  refine G.iloadN P25 d18_23 rfl (pc' := 24) rfl ?_
  refine G.iloadN P25 d18_24 rfl (pc' := 25) rfl ?_
  refine G.ishr P25 d18_25 rfl (pc' := 26) rfl ?_
  refine G.i2b P25 d18_26 rfl (pc' := 27) rfl ?_
  refine G.stB P25 f23 (1) rfl (by decide) (own_lt4 _ (by decide)) d18_27 (pc' := 28) rfl fun T26 h26 P26 W26 V26 => ?_
  have V26p : Arv Z h26 b1 k1 .byte (16384 : Int32) ((.int (nar .byte ((v0 >>> ((24 : Int32) &&& 31)).toInt8.toInt32))) :: (.int (nar .byte ((v0 >>> ((16 : Int32) &&& 31)).toInt8.toInt32))) :: (.int y2) :: (.int y3) :: tl) (.int (0 : Int32)) := V26
  have N27 := Fr.snoc P26.st N19 gp2
  have K28 := K20.wr W26 (Or.inl (List.mem_of_getElem? (i := 1) rfl))
  refine G.aloadN P26 d18_28 rfl rfl (pc' := 29) rfl ?_
  refine G.iconst P26 d18_29 (z := (1 : Int32)) rfl (pc' := 30) rfl ?_
  have f29 := (pE21.wr W26)
  have f30 := (pT21.other W26 (Or.inl (Ne.symm n1)))
  have f31 := (pA21.other W26 (Or.inl (Ne.symm n1)))
  have f32 := (pC21.other W26 (Or.inl (Ne.symm n1)))
  have f33 := (pO21.other W26 (Or.inl (Ne.symm n1)))
  have f34 := (pR21.other W26 (Or.inl (Ne.symm n1)))
  refine G.callV P26 (rmPass l Z a0 hw pl bp (1 : Int32) (0 : Int32) (1 : Int32) (1 : Int32) (.ref b1) (2 : Int32) (2 : Int32) h26 n0 gp ⟨f29, f30, f31, f32, f33, f34⟩ (by decide) (by decide)) (wk hw 154 rfl) (wk hw 155 rfl) (wk hw 157 rfl) rfl (wk hw 156 rfl) (wk hw 37 rfl) (wk hw 158 rfl) (by decide) f29 pd_24 (argsL := [(.int (1 : Int32))]) (rest := []) rfl rfl rfl rfl (W := 0) (Nat.le_of_eq rfl) (by decide) d18_30 (pc' := 33) rfl fun T35 L35 v35 P35 Q35 => ?_
  obtain ⟨rfl, N35, K35, HP35⟩ := Q35
  have N36 := Fr.app N27 N35
  have K37 := K28.trans K35 (allS (Or.inl (List.mem_of_getElem? (i := 0) rfl)) all0)
  show Go p e below _ (T35.setTop (mkF m 33 #[.val (.ref pl), .val (.int v0), .val (.int (4 : Int32)), .val (.int (16 : Int32)), .val (.ref b1)] []))
  obtain ⟨pE38, pT38, pA38, pC38, pO38, pR38⟩ := id HP35
  refine G.iinc P35 d18_33 rfl (z := (8 : Int32)) (by decide) (l' := #[.val (.ref pl), .val (.int v0), .val (.int (4 : Int32)), .val (.int (8 : Int32)), .val (.ref b1)]) rfl (pc' := 36) rfl ?_
  refine G.goto P35 d18_36 (by decide) (pc' := 7) (by decide) ?_
  refine G.iloadN P35 d18_7 rfl (pc' := 8) rfl ?_
  refine G.if_lt P35 d18_8 (by decide) (pcY := 39) (by decide) (pcN := 11) rfl (fun c39 => absurd c39 (by decide)) (fun c39 => ?_)
  refine G.aloadN P35 d18_11 rfl rfl (pc' := 12) rfl ?_
  have f40 := (V26p.keep K35 (ninS n1 nin0))
  refine G.callVP P35 (rmPcP l Z a0 hw pl bp b1 (2 : Int32) (0 : Int32) (2 : Int32) (16384 : Int32) k1 _ T35.heap ⟨pE38, pT38, pA38, pC38, pO38, pR38⟩ f40 (by decide)) (wk hw 121 rfl) (wk hw 122 rfl) (wk hw 124 rfl) rfl (wk hw 123 rfl) (wk hw 37 rfl) (wk hw 125 rfl) (by decide) pE38 pd_19 (argsL := []) (rest := []) rfl rfl rfl rfl (W := 0) (Nat.le_of_eq rfl) (by decide) d18_12 (pc' := 15) rfl fun T41 P41 => ?_
  show Go p e below _ (T41.setTop (mkF m 15 #[.val (.ref pl), .val (.int v0), .val (.int (4 : Int32)), .val (.int (8 : Int32)), .val (.ref b1)] [(.ref b1)]))
  refine G.astore P41 d18_15 rfl (l' := #[.val (.ref pl), .val (.int v0), .val (.int (4 : Int32)), .val (.int (8 : Int32)), .val (.ref b1)]) rfl (pc' := 17) rfl ?_
  refine G.aload P41 d18_17 rfl rfl (pc' := 19) rfl ?_
  refine G.aloadN P41 d18_19 rfl rfl (pc' := 20) rfl ?_
  refine G.getF P41 (host := "") (Or.inl (wk hw 152 rfl)) Via.refl pO38 d18_20 (pc' := 23) rfl fun T42 P42 => ?_
  refine G.iloadN P42 d18_23 rfl (pc' := 24) rfl ?_
  refine G.iloadN P42 d18_24 rfl (pc' := 25) rfl ?_
  refine G.ishr P42 d18_25 rfl (pc' := 26) rfl ?_
  refine G.i2b P42 d18_26 rfl (pc' := 27) rfl ?_
  refine G.stB P42 f40 (2) rfl (by decide) (own_lt4 _ (by decide)) d18_27 (pc' := 28) rfl fun T43 h43 P43 W43 V43 => ?_
  have V43p : Arv Z h43 b1 k1 .byte (16384 : Int32) ((.int (nar .byte ((v0 >>> ((24 : Int32) &&& 31)).toInt8.toInt32))) :: (.int (nar .byte ((v0 >>> ((16 : Int32) &&& 31)).toInt8.toInt32))) :: (.int (nar .byte ((v0 >>> ((8 : Int32) &&& 31)).toInt8.toInt32))) :: (.int y3) :: tl) (.int (0 : Int32)) := V43
  have N44 := Fr.snoc P43.st N36 gp2
  have K45 := K37.wr W43 (Or.inl (List.mem_of_getElem? (i := 1) rfl))
  refine G.aloadN P43 d18_28 rfl rfl (pc' := 29) rfl ?_
  refine G.iconst P43 d18_29 (z := (1 : Int32)) rfl (pc' := 30) rfl ?_
  have f46 := (pE38.wr W43)
  have f47 := (pT38.other W43 (Or.inl (Ne.symm n1)))
  have f48 := (pA38.other W43 (Or.inl (Ne.symm n1)))
  have f49 := (pC38.other W43 (Or.inl (Ne.symm n1)))
  have f50 := (pO38.other W43 (Or.inl (Ne.symm n1)))
  have f51 := (pR38.other W43 (Or.inl (Ne.symm n1)))
  refine G.callV P43 (rmPass l Z a0 hw pl bp (2 : Int32) (0 : Int32) (2 : Int32) (1 : Int32) (.ref b1) (3 : Int32) (3 : Int32) h43 n0 gp ⟨f46, f47, f48, f49, f50, f51⟩ (by decide) (by decide)) (wk hw 154 rfl) (wk hw 155 rfl) (wk hw 157 rfl) rfl (wk hw 156 rfl) (wk hw 37 rfl) (wk hw 158 rfl) (by decide) f46 pd_24 (argsL := [(.int (1 : Int32))]) (rest := []) rfl rfl rfl rfl (W := 0) (Nat.le_of_eq rfl) (by decide) d18_30 (pc' := 33) rfl fun T52 L52 v52 P52 Q52 => ?_
  obtain ⟨rfl, N52, K52, HP52⟩ := Q52
  have N53 := Fr.app N44 N52
  have K54 := K45.trans K52 (allS (Or.inl (List.mem_of_getElem? (i := 0) rfl)) all0)
  show Go p e below _ (T52.setTop (mkF m 33 #[.val (.ref pl), .val (.int v0), .val (.int (4 : Int32)), .val (.int (8 : Int32)), .val (.ref b1)] []))
  obtain ⟨pE55, pT55, pA55, pC55, pO55, pR55⟩ := id HP52
  refine G.iinc P52 d18_33 rfl (z := (0 : Int32)) (by decide) (l' := #[.val (.ref pl), .val (.int v0), .val (.int (4 : Int32)), .val (.int (0 : Int32)), .val (.ref b1)]) rfl (pc' := 36) rfl ?_
  refine G.goto P52 d18_36 (by decide) (pc' := 7) (by decide) ?_
  refine G.iloadN P52 d18_7 rfl (pc' := 8) rfl ?_
  refine G.if_lt P52 d18_8 (by decide) (pcY := 39) (by decide) (pcN := 11) rfl (fun c56 => absurd c56 (by decide)) (fun c56 => ?_)
  refine G.aloadN P52 d18_11 rfl rfl (pc' := 12) rfl ?_
  have f57 := (V43p.keep K52 (ninS n1 nin0))
  refine G.callVP P52 (rmPcP l Z a0 hw pl bp b1 (3 : Int32) (0 : Int32) (3 : Int32) (16384 : Int32) k1 _ T52.heap ⟨pE55, pT55, pA55, pC55, pO55, pR55⟩ f57 (by decide)) (wk hw 121 rfl) (wk hw 122 rfl) (wk hw 124 rfl) rfl (wk hw 123 rfl) (wk hw 37 rfl) (wk hw 125 rfl) (by decide) pE55 pd_19 (argsL := []) (rest := []) rfl rfl rfl rfl (W := 0) (Nat.le_of_eq rfl) (by decide) d18_12 (pc' := 15) rfl fun T58 P58 => ?_
  show Go p e below _ (T58.setTop (mkF m 15 #[.val (.ref pl), .val (.int v0), .val (.int (4 : Int32)), .val (.int (0 : Int32)), .val (.ref b1)] [(.ref b1)]))
  refine G.astore P58 d18_15 rfl (l' := #[.val (.ref pl), .val (.int v0), .val (.int (4 : Int32)), .val (.int (0 : Int32)), .val (.ref b1)]) rfl (pc' := 17) rfl ?_
  refine G.aload P58 d18_17 rfl rfl (pc' := 19) rfl ?_
  refine G.aloadN P58 d18_19 rfl rfl (pc' := 20) rfl ?_
  refine G.getF P58 (host := "") (Or.inl (wk hw 152 rfl)) Via.refl pO55 d18_20 (pc' := 23) rfl fun T59 P59 => ?_
  refine G.iloadN P59 d18_23 rfl (pc' := 24) rfl ?_
  refine G.iloadN P59 d18_24 rfl (pc' := 25) rfl ?_
  refine G.ishr P59 d18_25 rfl (pc' := 26) rfl ?_
  refine G.i2b P59 d18_26 rfl (pc' := 27) rfl ?_
  refine G.stB P59 f57 (3) rfl (by decide) (own_lt4 _ (by decide)) d18_27 (pc' := 28) rfl fun T60 h60 P60 W60 V60 => ?_
  have V60p : Arv Z h60 b1 k1 .byte (16384 : Int32) ((.int (nar .byte ((v0 >>> ((24 : Int32) &&& 31)).toInt8.toInt32))) :: (.int (nar .byte ((v0 >>> ((16 : Int32) &&& 31)).toInt8.toInt32))) :: (.int (nar .byte ((v0 >>> ((8 : Int32) &&& 31)).toInt8.toInt32))) :: (.int (nar .byte ((v0 >>> ((0 : Int32) &&& 31)).toInt8.toInt32))) :: tl) (.int (0 : Int32)) := V60
  have N61 := Fr.snoc P60.st N53 gp2
  have K62 := K54.wr W60 (Or.inl (List.mem_of_getElem? (i := 1) rfl))
  refine G.aloadN P60 d18_28 rfl rfl (pc' := 29) rfl ?_
  refine G.iconst P60 d18_29 (z := (1 : Int32)) rfl (pc' := 30) rfl ?_
  have f63 := (pE55.wr W60)
  have f64 := (pT55.other W60 (Or.inl (Ne.symm n1)))
  have f65 := (pA55.other W60 (Or.inl (Ne.symm n1)))
  have f66 := (pC55.other W60 (Or.inl (Ne.symm n1)))
  have f67 := (pO55.other W60 (Or.inl (Ne.symm n1)))
  have f68 := (pR55.other W60 (Or.inl (Ne.symm n1)))
  refine G.callV P60 (rmPass l Z a0 hw pl bp (3 : Int32) (0 : Int32) (3 : Int32) (1 : Int32) (.ref b1) (4 : Int32) (4 : Int32) h60 n0 gp ⟨f63, f64, f65, f66, f67, f68⟩ (by decide) (by decide)) (wk hw 154 rfl) (wk hw 155 rfl) (wk hw 157 rfl) rfl (wk hw 156 rfl) (wk hw 37 rfl) (wk hw 158 rfl) (by decide) f63 pd_24 (argsL := [(.int (1 : Int32))]) (rest := []) rfl rfl rfl rfl (W := 0) (Nat.le_of_eq rfl) (by decide) d18_30 (pc' := 33) rfl fun T69 L69 v69 P69 Q69 => ?_
  obtain ⟨rfl, N69, K69, HP69⟩ := Q69
  have N70 := Fr.app N61 N69
  have K71 := K62.trans K69 (allS (Or.inl (List.mem_of_getElem? (i := 0) rfl)) all0)
  show Go p e below _ (T69.setTop (mkF m 33 #[.val (.ref pl), .val (.int v0), .val (.int (4 : Int32)), .val (.int (0 : Int32)), .val (.ref b1)] []))
  obtain ⟨pE72, pT72, pA72, pC72, pO72, pR72⟩ := id HP69
  refine G.iinc P69 d18_33 rfl (z := (-8 : Int32)) (by decide) (l' := #[.val (.ref pl), .val (.int v0), .val (.int (4 : Int32)), .val (.int (-8 : Int32)), .val (.ref b1)]) rfl (pc' := 36) rfl ?_
  refine G.goto P69 d18_36 (by decide) (pc' := 7) (by decide) ?_
  refine G.iloadN P69 d18_7 rfl (pc' := 8) rfl ?_
  refine G.if_lt P69 d18_8 (by decide) (pcY := 39) (by decide) (pcN := 11) rfl (fun c73 => ?_) (fun c73 => absurd c73 (by decide))
  have f74 := (V60p.keep K69 (ninS n1 nin0))
  exact G.retV P69 d18_39 (by decide) (by decide) ⟨rfl, N70, K71, ⟨pE72, pT72, pA72, pC72, pO72, pR72⟩, f74⟩

theorem ef_rmWBX (m : MethodId) (pl : Addr) (v0 : Int32) : entryFrame m #[(.ref pl), (.int v0), (.int (4 : Int32))] 5 = mkF m 0 #[.val (.ref pl), .val (.int v0), .val (.int (4 : Int32)), .unset, .unset] [] := by first | (simp [entryFrame, mkF, argsToLocals, Value.category]; done) | rfl
set_option maxRecDepth 65536 in
set_option maxHeartbeats 40000000 in
theorem rmWBX (l : Launch) (Z : State) (a0 : Array Value) (hw : ∀ d ∈ tables_1, d.before a0 Z = true) (bp li en fr ed : Addr) (ke : ClassId) (mc : Int32) (b1 b2 : Addr) (pl : Addr) (k1 : ClassId) (y0 y1 y2 y3 : Int32) (tl : List Value) (kx : ClassId) (vx : List Value) (v0 : Int32) (h0 : Heap) (n0 : Nat) (HW : own_W Z h0 bp li en fr ed ke mc b1 b2) (NP : own_N bp li ed pl) (gp : n0 ≤ pl) (NB : own_N bp li ed b2) (gp2 : n0 ≤ b2) (HP : own_P Z h0 pl bp (16384 : Int32) (0 : Int32) (16384 : Int32) (.ref b1)) (n1 : b1 ≠ pl) (n2 : b2 ≠ pl) (n12 : b1 ≠ b2) (V1 : Arv Z h0 b1 kx .byte (16384 : Int32) vx (.int (0 : Int32))) (V2 : Arv Z h0 b2 k1 .byte (8 : Int32) ((.int y0) :: (.int y1) :: (.int y2) :: (.int y3) :: tl) (.int (0 : Int32))) :
    OMeets l Z y18 prog_33_method_6_code 5 none ({ frames := 4, cells := 0, slots := 0, locals := 53 } : Room) #[(.ref pl), (.int v0), (.int (4 : Int32))] h0 (fun v h L => v = none ∧ Fr n0 L ∧ Keep h0 h [pl, b2] ∧ own_P Z h pl bp (16388 : Int32) (1 : Int32) (4 : Int32) (.ref b2) ∧ Arv Z h b2 k1 .byte (8 : Int32) ((.int (nar .byte (v0 >>> ((24 : Int32) &&& 31)).toInt8.toInt32)) :: (.int (nar .byte (v0 >>> ((16 : Int32) &&& 31)).toInt8.toInt32)) :: (.int (nar .byte (v0 >>> ((8 : Int32) &&& 31)).toInt8.toInt32)) :: (.int (nar .byte (v0 >>> ((0 : Int32) &&& 31)).toInt8.toInt32)) :: tl) (.int (0 : Int32))) := by
  refine met (Q := fun v h L => v = none ∧ Fr n0 L ∧ Keep h0 h [pl, b2] ∧ own_P Z h pl bp (16388 : Int32) (1 : Int32) (4 : Int32) (.ref b2) ∧ Arv Z h b2 k1 .byte (8 : Int32) ((.int (nar .byte (v0 >>> ((24 : Int32) &&& 31)).toInt8.toInt32)) :: (.int (nar .byte (v0 >>> ((16 : Int32) &&& 31)).toInt8.toInt32)) :: (.int (nar .byte (v0 >>> ((8 : Int32) &&& 31)).toInt8.toInt32)) :: (.int (nar .byte (v0 >>> ((0 : Int32) &&& 31)).toInt8.toInt32)) :: tl) (.int (0 : Int32))) pf_18 (fun m => ef_rmWBX m pl v0) fun p e s m below meth c T0 P0 => ?_
  have N0 := Fr.nil n0
  have K0 := Keep.refl h0 [pl, b2]
  have HWl := HW.2.1.1
  obtain ⟨np1, np2, np3⟩ := NP
  obtain ⟨nq1, nq2, nq3⟩ := NB
  obtain ⟨pE1, pT1, pA1, pC1, pO1, pR1⟩ := id HP
  refine G.bipush P0 d18_0 (z := (8 : Int32)) rfl (pc' := 2) rfl ?_
  refine G.iloadN P0 d18_2 rfl (pc' := 3) rfl ?_
  refine G.iconst P0 d18_3 (z := (1 : Int32)) rfl (pc' := 4) rfl ?_
  refine G.isub P0 d18_4 (z := (3 : Int32)) (by decide) (pc' := 5) rfl ?_
  refine G.imul P0 d18_5 (z := (24 : Int32)) (by decide) (pc' := 6) rfl ?_
  refine G.istoreN P0 d18_6 (l' := #[.val (.ref pl), .val (.int v0), .val (.int (4 : Int32)), .val (.int (24 : Int32)), .unset]) rfl (pc' := 7) rfl ?_
  refine G.iloadN P0 d18_7 rfl (pc' := 8) rfl ?_
  refine G.if_lt P0 d18_8 (by decide) (pcY := 39) (by decide) (pcN := 11) rfl (fun c2 => absurd c2 (by decide)) (fun c2 => ?_)
  refine G.aloadN P0 d18_11 rfl rfl (pc' := 12) rfl ?_
  refine G.callV P0 (rmPcX l Z a0 hw bp li en fr ed ke mc b1 b2 pl (16384 : Int32) kx _ k1 _ h0 n0 HW (⟨np1, np2, np3⟩) gp ⟨pE1, pT1, pA1, pC1, pO1, pR1⟩ V1 n1 V2 n2) (wk hw 121 rfl) (wk hw 122 rfl) (wk hw 124 rfl) rfl (wk hw 123 rfl) (wk hw 37 rfl) (wk hw 125 rfl) (by decide) pE1 pd_19 (argsL := []) (rest := []) rfl rfl rfl rfl (W := 0) (Nat.le_of_eq rfl) (by decide) d18_12 (pc' := 15) rfl fun T3 L3 v3 P3 Q3 => ?_
  obtain ⟨rfl, N3, K3, HP3⟩ := Q3
  have N4 := Fr.app N0 N3
  have K5 := K0.trans K3 (allS (Or.inl (List.mem_of_getElem? (i := 0) rfl)) all0)
  show Go p e below _ (T3.setTop (mkF m 15 #[.val (.ref pl), .val (.int v0), .val (.int (4 : Int32)), .val (.int (24 : Int32)), .unset] [(.ref b2)]))
  obtain ⟨pE6, pT6, pA6, pC6, pO6, pR6⟩ := id HP3
  refine G.astore P3 d18_15 rfl (l' := #[.val (.ref pl), .val (.int v0), .val (.int (4 : Int32)), .val (.int (24 : Int32)), .val (.ref b2)]) rfl (pc' := 17) rfl ?_
  refine G.aload P3 d18_17 rfl rfl (pc' := 19) rfl ?_
  refine G.aloadN P3 d18_19 rfl rfl (pc' := 20) rfl ?_
  refine G.getF P3 (host := "") (Or.inl (wk hw 152 rfl)) Via.refl pO6 d18_20 (pc' := 23) rfl fun T7 P7 => ?_
  refine G.iloadN P7 d18_23 rfl (pc' := 24) rfl ?_
  refine G.iloadN P7 d18_24 rfl (pc' := 25) rfl ?_
  refine G.ishr P7 d18_25 rfl (pc' := 26) rfl ?_
  refine G.i2b P7 d18_26 rfl (pc' := 27) rfl ?_
  have f8 := (V2.keep K3 (ninS n2 nin0))
  refine G.stB P7 f8 (0) rfl (by decide) (own_lt4 _ (by decide)) d18_27 (pc' := 28) rfl fun T9 h9 P9 W9 V9 => ?_
  have V9p : Arv Z h9 b2 k1 .byte (8 : Int32) ((.int (nar .byte ((v0 >>> ((24 : Int32) &&& 31)).toInt8.toInt32))) :: (.int y1) :: (.int y2) :: (.int y3) :: tl) (.int (0 : Int32)) := V9
  have N10 := Fr.snoc P9.st N4 gp2
  have K11 := K5.wr W9 (Or.inl (List.mem_of_getElem? (i := 1) rfl))
  refine G.aloadN P9 d18_28 rfl rfl (pc' := 29) rfl ?_
  refine G.iconst P9 d18_29 (z := (1 : Int32)) rfl (pc' := 30) rfl ?_
  have f12 := (pE6.wr W9)
  have f13 := (pT6.other W9 (Or.inl (Ne.symm n2)))
  have f14 := (pA6.other W9 (Or.inl (Ne.symm n2)))
  have f15 := (pC6.other W9 (Or.inl (Ne.symm n2)))
  have f16 := (pO6.other W9 (Or.inl (Ne.symm n2)))
  have f17 := (pR6.other W9 (Or.inl (Ne.symm n2)))
  refine G.callV P9 (rmPass l Z a0 hw pl bp (16384 : Int32) (1 : Int32) (0 : Int32) (1 : Int32) (.ref b2) (16385 : Int32) (1 : Int32) h9 n0 gp ⟨f12, f13, f14, f15, f16, f17⟩ (by decide) (by decide)) (wk hw 154 rfl) (wk hw 155 rfl) (wk hw 157 rfl) rfl (wk hw 156 rfl) (wk hw 37 rfl) (wk hw 158 rfl) (by decide) f12 pd_24 (argsL := [(.int (1 : Int32))]) (rest := []) rfl rfl rfl rfl (W := 0) (Nat.le_of_eq rfl) (by decide) d18_30 (pc' := 33) rfl fun T18 L18 v18 P18 Q18 => ?_
  obtain ⟨rfl, N18, K18, HP18⟩ := Q18
  have N19 := Fr.app N10 N18
  have K20 := K11.trans K18 (allS (Or.inl (List.mem_of_getElem? (i := 0) rfl)) all0)
  show Go p e below _ (T18.setTop (mkF m 33 #[.val (.ref pl), .val (.int v0), .val (.int (4 : Int32)), .val (.int (24 : Int32)), .val (.ref b2)] []))
  obtain ⟨pE21, pT21, pA21, pC21, pO21, pR21⟩ := id HP18
  refine G.iinc P18 d18_33 rfl (z := (16 : Int32)) (by decide) (l' := #[.val (.ref pl), .val (.int v0), .val (.int (4 : Int32)), .val (.int (16 : Int32)), .val (.ref b2)]) rfl (pc' := 36) rfl ?_
  refine G.goto P18 d18_36 (by decide) (pc' := 7) (by decide) ?_
  refine G.iloadN P18 d18_7 rfl (pc' := 8) rfl ?_
  refine G.if_lt P18 d18_8 (by decide) (pcY := 39) (by decide) (pcN := 11) rfl (fun c22 => absurd c22 (by decide)) (fun c22 => ?_)
  refine G.aloadN P18 d18_11 rfl rfl (pc' := 12) rfl ?_
  have f23 := (V9p.keep K18 (ninS n2 nin0))
  refine G.callVP P18 (rmPcP l Z a0 hw pl bp b2 (16385 : Int32) (1 : Int32) (1 : Int32) (8 : Int32) k1 _ T18.heap ⟨pE21, pT21, pA21, pC21, pO21, pR21⟩ f23 (by decide)) (wk hw 121 rfl) (wk hw 122 rfl) (wk hw 124 rfl) rfl (wk hw 123 rfl) (wk hw 37 rfl) (wk hw 125 rfl) (by decide) pE21 pd_19 (argsL := []) (rest := []) rfl rfl rfl rfl (W := 0) (Nat.le_of_eq rfl) (by decide) d18_12 (pc' := 15) rfl fun T24 P24 => ?_
  show Go p e below _ (T24.setTop (mkF m 15 #[.val (.ref pl), .val (.int v0), .val (.int (4 : Int32)), .val (.int (16 : Int32)), .val (.ref b2)] [(.ref b2)]))
  refine G.astore P24 d18_15 rfl (l' := #[.val (.ref pl), .val (.int v0), .val (.int (4 : Int32)), .val (.int (16 : Int32)), .val (.ref b2)]) rfl (pc' := 17) rfl ?_
  refine G.aload P24 d18_17 rfl rfl (pc' := 19) rfl ?_
  refine G.aloadN P24 d18_19 rfl rfl (pc' := 20) rfl ?_
  refine G.getF P24 (host := "") (Or.inl (wk hw 152 rfl)) Via.refl pO21 d18_20 (pc' := 23) rfl fun T25 P25 => ?_
  refine G.iloadN P25 d18_23 rfl (pc' := 24) rfl ?_
  refine G.iloadN P25 d18_24 rfl (pc' := 25) rfl ?_
  refine G.ishr P25 d18_25 rfl (pc' := 26) rfl ?_
  refine G.i2b P25 d18_26 rfl (pc' := 27) rfl ?_
  refine G.stB P25 f23 (1) rfl (by decide) (own_lt4 _ (by decide)) d18_27 (pc' := 28) rfl fun T26 h26 P26 W26 V26 => ?_
  have V26p : Arv Z h26 b2 k1 .byte (8 : Int32) ((.int (nar .byte ((v0 >>> ((24 : Int32) &&& 31)).toInt8.toInt32))) :: (.int (nar .byte ((v0 >>> ((16 : Int32) &&& 31)).toInt8.toInt32))) :: (.int y2) :: (.int y3) :: tl) (.int (0 : Int32)) := V26
  have N27 := Fr.snoc P26.st N19 gp2
  have K28 := K20.wr W26 (Or.inl (List.mem_of_getElem? (i := 1) rfl))
  refine G.aloadN P26 d18_28 rfl rfl (pc' := 29) rfl ?_
  refine G.iconst P26 d18_29 (z := (1 : Int32)) rfl (pc' := 30) rfl ?_
  have f29 := (pE21.wr W26)
  have f30 := (pT21.other W26 (Or.inl (Ne.symm n2)))
  have f31 := (pA21.other W26 (Or.inl (Ne.symm n2)))
  have f32 := (pC21.other W26 (Or.inl (Ne.symm n2)))
  have f33 := (pO21.other W26 (Or.inl (Ne.symm n2)))
  have f34 := (pR21.other W26 (Or.inl (Ne.symm n2)))
  refine G.callV P26 (rmPass l Z a0 hw pl bp (16385 : Int32) (1 : Int32) (1 : Int32) (1 : Int32) (.ref b2) (16386 : Int32) (2 : Int32) h26 n0 gp ⟨f29, f30, f31, f32, f33, f34⟩ (by decide) (by decide)) (wk hw 154 rfl) (wk hw 155 rfl) (wk hw 157 rfl) rfl (wk hw 156 rfl) (wk hw 37 rfl) (wk hw 158 rfl) (by decide) f29 pd_24 (argsL := [(.int (1 : Int32))]) (rest := []) rfl rfl rfl rfl (W := 0) (Nat.le_of_eq rfl) (by decide) d18_30 (pc' := 33) rfl fun T35 L35 v35 P35 Q35 => ?_
  obtain ⟨rfl, N35, K35, HP35⟩ := Q35
  have N36 := Fr.app N27 N35
  have K37 := K28.trans K35 (allS (Or.inl (List.mem_of_getElem? (i := 0) rfl)) all0)
  show Go p e below _ (T35.setTop (mkF m 33 #[.val (.ref pl), .val (.int v0), .val (.int (4 : Int32)), .val (.int (16 : Int32)), .val (.ref b2)] []))
  obtain ⟨pE38, pT38, pA38, pC38, pO38, pR38⟩ := id HP35
  refine G.iinc P35 d18_33 rfl (z := (8 : Int32)) (by decide) (l' := #[.val (.ref pl), .val (.int v0), .val (.int (4 : Int32)), .val (.int (8 : Int32)), .val (.ref b2)]) rfl (pc' := 36) rfl ?_
  refine G.goto P35 d18_36 (by decide) (pc' := 7) (by decide) ?_
  refine G.iloadN P35 d18_7 rfl (pc' := 8) rfl ?_
  refine G.if_lt P35 d18_8 (by decide) (pcY := 39) (by decide) (pcN := 11) rfl (fun c39 => absurd c39 (by decide)) (fun c39 => ?_)
  refine G.aloadN P35 d18_11 rfl rfl (pc' := 12) rfl ?_
  have f40 := (V26p.keep K35 (ninS n2 nin0))
  refine G.callVP P35 (rmPcP l Z a0 hw pl bp b2 (16386 : Int32) (1 : Int32) (2 : Int32) (8 : Int32) k1 _ T35.heap ⟨pE38, pT38, pA38, pC38, pO38, pR38⟩ f40 (by decide)) (wk hw 121 rfl) (wk hw 122 rfl) (wk hw 124 rfl) rfl (wk hw 123 rfl) (wk hw 37 rfl) (wk hw 125 rfl) (by decide) pE38 pd_19 (argsL := []) (rest := []) rfl rfl rfl rfl (W := 0) (Nat.le_of_eq rfl) (by decide) d18_12 (pc' := 15) rfl fun T41 P41 => ?_
  show Go p e below _ (T41.setTop (mkF m 15 #[.val (.ref pl), .val (.int v0), .val (.int (4 : Int32)), .val (.int (8 : Int32)), .val (.ref b2)] [(.ref b2)]))
  refine G.astore P41 d18_15 rfl (l' := #[.val (.ref pl), .val (.int v0), .val (.int (4 : Int32)), .val (.int (8 : Int32)), .val (.ref b2)]) rfl (pc' := 17) rfl ?_
  refine G.aload P41 d18_17 rfl rfl (pc' := 19) rfl ?_
  refine G.aloadN P41 d18_19 rfl rfl (pc' := 20) rfl ?_
  refine G.getF P41 (host := "") (Or.inl (wk hw 152 rfl)) Via.refl pO38 d18_20 (pc' := 23) rfl fun T42 P42 => ?_
  refine G.iloadN P42 d18_23 rfl (pc' := 24) rfl ?_
  refine G.iloadN P42 d18_24 rfl (pc' := 25) rfl ?_
  refine G.ishr P42 d18_25 rfl (pc' := 26) rfl ?_
  refine G.i2b P42 d18_26 rfl (pc' := 27) rfl ?_
  refine G.stB P42 f40 (2) rfl (by decide) (own_lt4 _ (by decide)) d18_27 (pc' := 28) rfl fun T43 h43 P43 W43 V43 => ?_
  have V43p : Arv Z h43 b2 k1 .byte (8 : Int32) ((.int (nar .byte ((v0 >>> ((24 : Int32) &&& 31)).toInt8.toInt32))) :: (.int (nar .byte ((v0 >>> ((16 : Int32) &&& 31)).toInt8.toInt32))) :: (.int (nar .byte ((v0 >>> ((8 : Int32) &&& 31)).toInt8.toInt32))) :: (.int y3) :: tl) (.int (0 : Int32)) := V43
  have N44 := Fr.snoc P43.st N36 gp2
  have K45 := K37.wr W43 (Or.inl (List.mem_of_getElem? (i := 1) rfl))
  refine G.aloadN P43 d18_28 rfl rfl (pc' := 29) rfl ?_
  refine G.iconst P43 d18_29 (z := (1 : Int32)) rfl (pc' := 30) rfl ?_
  have f46 := (pE38.wr W43)
  have f47 := (pT38.other W43 (Or.inl (Ne.symm n2)))
  have f48 := (pA38.other W43 (Or.inl (Ne.symm n2)))
  have f49 := (pC38.other W43 (Or.inl (Ne.symm n2)))
  have f50 := (pO38.other W43 (Or.inl (Ne.symm n2)))
  have f51 := (pR38.other W43 (Or.inl (Ne.symm n2)))
  refine G.callV P43 (rmPass l Z a0 hw pl bp (16386 : Int32) (1 : Int32) (2 : Int32) (1 : Int32) (.ref b2) (16387 : Int32) (3 : Int32) h43 n0 gp ⟨f46, f47, f48, f49, f50, f51⟩ (by decide) (by decide)) (wk hw 154 rfl) (wk hw 155 rfl) (wk hw 157 rfl) rfl (wk hw 156 rfl) (wk hw 37 rfl) (wk hw 158 rfl) (by decide) f46 pd_24 (argsL := [(.int (1 : Int32))]) (rest := []) rfl rfl rfl rfl (W := 0) (Nat.le_of_eq rfl) (by decide) d18_30 (pc' := 33) rfl fun T52 L52 v52 P52 Q52 => ?_
  obtain ⟨rfl, N52, K52, HP52⟩ := Q52
  have N53 := Fr.app N44 N52
  have K54 := K45.trans K52 (allS (Or.inl (List.mem_of_getElem? (i := 0) rfl)) all0)
  show Go p e below _ (T52.setTop (mkF m 33 #[.val (.ref pl), .val (.int v0), .val (.int (4 : Int32)), .val (.int (8 : Int32)), .val (.ref b2)] []))
  obtain ⟨pE55, pT55, pA55, pC55, pO55, pR55⟩ := id HP52
  refine G.iinc P52 d18_33 rfl (z := (0 : Int32)) (by decide) (l' := #[.val (.ref pl), .val (.int v0), .val (.int (4 : Int32)), .val (.int (0 : Int32)), .val (.ref b2)]) rfl (pc' := 36) rfl ?_
  refine G.goto P52 d18_36 (by decide) (pc' := 7) (by decide) ?_
  refine G.iloadN P52 d18_7 rfl (pc' := 8) rfl ?_
  refine G.if_lt P52 d18_8 (by decide) (pcY := 39) (by decide) (pcN := 11) rfl (fun c56 => absurd c56 (by decide)) (fun c56 => ?_)
  refine G.aloadN P52 d18_11 rfl rfl (pc' := 12) rfl ?_
  have f57 := (V43p.keep K52 (ninS n2 nin0))
  refine G.callVP P52 (rmPcP l Z a0 hw pl bp b2 (16387 : Int32) (1 : Int32) (3 : Int32) (8 : Int32) k1 _ T52.heap ⟨pE55, pT55, pA55, pC55, pO55, pR55⟩ f57 (by decide)) (wk hw 121 rfl) (wk hw 122 rfl) (wk hw 124 rfl) rfl (wk hw 123 rfl) (wk hw 37 rfl) (wk hw 125 rfl) (by decide) pE55 pd_19 (argsL := []) (rest := []) rfl rfl rfl rfl (W := 0) (Nat.le_of_eq rfl) (by decide) d18_12 (pc' := 15) rfl fun T58 P58 => ?_
  show Go p e below _ (T58.setTop (mkF m 15 #[.val (.ref pl), .val (.int v0), .val (.int (4 : Int32)), .val (.int (0 : Int32)), .val (.ref b2)] [(.ref b2)]))
  refine G.astore P58 d18_15 rfl (l' := #[.val (.ref pl), .val (.int v0), .val (.int (4 : Int32)), .val (.int (0 : Int32)), .val (.ref b2)]) rfl (pc' := 17) rfl ?_
  refine G.aload P58 d18_17 rfl rfl (pc' := 19) rfl ?_
  refine G.aloadN P58 d18_19 rfl rfl (pc' := 20) rfl ?_
  refine G.getF P58 (host := "") (Or.inl (wk hw 152 rfl)) Via.refl pO55 d18_20 (pc' := 23) rfl fun T59 P59 => ?_
  refine G.iloadN P59 d18_23 rfl (pc' := 24) rfl ?_
  refine G.iloadN P59 d18_24 rfl (pc' := 25) rfl ?_
  refine G.ishr P59 d18_25 rfl (pc' := 26) rfl ?_
  refine G.i2b P59 d18_26 rfl (pc' := 27) rfl ?_
  refine G.stB P59 f57 (3) rfl (by decide) (own_lt4 _ (by decide)) d18_27 (pc' := 28) rfl fun T60 h60 P60 W60 V60 => ?_
  have V60p : Arv Z h60 b2 k1 .byte (8 : Int32) ((.int (nar .byte ((v0 >>> ((24 : Int32) &&& 31)).toInt8.toInt32))) :: (.int (nar .byte ((v0 >>> ((16 : Int32) &&& 31)).toInt8.toInt32))) :: (.int (nar .byte ((v0 >>> ((8 : Int32) &&& 31)).toInt8.toInt32))) :: (.int (nar .byte ((v0 >>> ((0 : Int32) &&& 31)).toInt8.toInt32))) :: tl) (.int (0 : Int32)) := V60
  have N61 := Fr.snoc P60.st N53 gp2
  have K62 := K54.wr W60 (Or.inl (List.mem_of_getElem? (i := 1) rfl))
  refine G.aloadN P60 d18_28 rfl rfl (pc' := 29) rfl ?_
  refine G.iconst P60 d18_29 (z := (1 : Int32)) rfl (pc' := 30) rfl ?_
  have f63 := (pE55.wr W60)
  have f64 := (pT55.other W60 (Or.inl (Ne.symm n2)))
  have f65 := (pA55.other W60 (Or.inl (Ne.symm n2)))
  have f66 := (pC55.other W60 (Or.inl (Ne.symm n2)))
  have f67 := (pO55.other W60 (Or.inl (Ne.symm n2)))
  have f68 := (pR55.other W60 (Or.inl (Ne.symm n2)))
  refine G.callV P60 (rmPass l Z a0 hw pl bp (16387 : Int32) (1 : Int32) (3 : Int32) (1 : Int32) (.ref b2) (16388 : Int32) (4 : Int32) h60 n0 gp ⟨f63, f64, f65, f66, f67, f68⟩ (by decide) (by decide)) (wk hw 154 rfl) (wk hw 155 rfl) (wk hw 157 rfl) rfl (wk hw 156 rfl) (wk hw 37 rfl) (wk hw 158 rfl) (by decide) f63 pd_24 (argsL := [(.int (1 : Int32))]) (rest := []) rfl rfl rfl rfl (W := 0) (Nat.le_of_eq rfl) (by decide) d18_30 (pc' := 33) rfl fun T69 L69 v69 P69 Q69 => ?_
  obtain ⟨rfl, N69, K69, HP69⟩ := Q69
  have N70 := Fr.app N61 N69
  have K71 := K62.trans K69 (allS (Or.inl (List.mem_of_getElem? (i := 0) rfl)) all0)
  show Go p e below _ (T69.setTop (mkF m 33 #[.val (.ref pl), .val (.int v0), .val (.int (4 : Int32)), .val (.int (0 : Int32)), .val (.ref b2)] []))
  obtain ⟨pE72, pT72, pA72, pC72, pO72, pR72⟩ := id HP69
  refine G.iinc P69 d18_33 rfl (z := (-8 : Int32)) (by decide) (l' := #[.val (.ref pl), .val (.int v0), .val (.int (4 : Int32)), .val (.int (-8 : Int32)), .val (.ref b2)]) rfl (pc' := 36) rfl ?_
  refine G.goto P69 d18_36 (by decide) (pc' := 7) (by decide) ?_
  refine G.iloadN P69 d18_7 rfl (pc' := 8) rfl ?_
  refine G.if_lt P69 d18_8 (by decide) (pcY := 39) (by decide) (pcN := 11) rfl (fun c73 => ?_) (fun c73 => absurd c73 (by decide))
  have f74 := (V60p.keep K69 (ninS n2 nin0))
  exact G.retV P69 d18_39 (by decide) (by decide) ⟨rfl, N70, K71, ⟨pE72, pT72, pA72, pC72, pO72, pR72⟩, f74⟩

def own_rd (y0 y1 y2 y3 : Int32) : Int32 := (((((((((0 : Int32) <<< ((8 : Int32) &&& 31)) ||| (y0 &&& (255 : Int32))) <<< ((8 : Int32) &&& 31)) ||| (y1 &&& (255 : Int32))) <<< ((8 : Int32) &&& 31)) ||| (y2 &&& (255 : Int32))) <<< ((8 : Int32) &&& 31)) ||| (y3 &&& (255 : Int32)))

theorem ef_rmRBN (m : MethodId) (pl : Addr) : entryFrame m #[(.ref pl), (.int (4 : Int32))] 5 = mkF m 0 #[.val (.ref pl), .val (.int (4 : Int32)), .unset, .unset, .unset] [] := by first | (simp [entryFrame, mkF, argsToLocals, Value.category]; done) | rfl
set_option maxRecDepth 65536 in
set_option maxHeartbeats 40000000 in
theorem rmRBN (l : Launch) (Z : State) (a0 : Array Value) (hw : ∀ d ∈ tables_1, d.before a0 Z = true) (bp li en fr ed : Addr) (ke : ClassId) (mc : Int32) (b1 b2 : Addr) (pl : Addr) (k1 : ClassId) (y0 y1 y2 y3 : Int32) (tl : List Value) (h0 : Heap) (n0 : Nat) (HW : own_W Z h0 bp li en fr ed ke mc b1 b2) (NP : own_N bp li ed pl) (gp : n0 ≤ pl) (NB : own_N bp li ed b1) (gp2 : n0 ≤ b1) (HP : own_P Z h0 pl bp (0 : Int32) (0 : Int32) (0 : Int32) .null) (n1 : b1 ≠ pl) (n2 : b2 ≠ pl) (n12 : b1 ≠ b2) (V1 : Arv Z h0 b1 k1 .byte (16384 : Int32) ((.int y0) :: (.int y1) :: (.int y2) :: (.int y3) :: tl) (.int (0 : Int32))) :
    OMeets l Z y29 prog_33_method_7_code 5 (some .int) ({ frames := 4, cells := 0, slots := 0, locals := 53 } : Room) #[(.ref pl), (.int (4 : Int32))] h0 (fun v h L => v = some (.int (own_rd y0 y1 y2 y3)) ∧ Fr n0 L ∧ Keep h0 h [pl] ∧ own_P Z h pl bp (4 : Int32) (0 : Int32) (4 : Int32) (.ref b1)) := by
  refine met (Q := fun v h L => v = some (.int (own_rd y0 y1 y2 y3)) ∧ Fr n0 L ∧ Keep h0 h [pl] ∧ own_P Z h pl bp (4 : Int32) (0 : Int32) (4 : Int32) (.ref b1)) pf_29 (fun m => ef_rmRBN m pl) fun p e s m below meth c T0 P0 => ?_
  have N0 := Fr.nil n0
  have K0 := Keep.refl h0 [pl]
  have HWl := HW.2.1.1
  obtain ⟨np1, np2, np3⟩ := NP
  obtain ⟨nq1, nq2, nq3⟩ := NB
  obtain ⟨pE1, pT1, pA1, pC1, pO1, pR1⟩ := id HP
  refine G.iconst P0 d29_0 (z := (0 : Int32)) rfl (pc' := 1) rfl ?_
  refine G.istoreN P0 d29_1 (l' := #[.val (.ref pl), .val (.int (4 : Int32)), .val (.int (0 : Int32)), .unset, .unset]) rfl (pc' := 2) rfl ?_
  refine G.iconst P0 d29_2 (z := (0 : Int32)) rfl (pc' := 3) rfl ?_
  refine G.istoreN P0 d29_3 (l' := #[.val (.ref pl), .val (.int (4 : Int32)), .val (.int (0 : Int32)), .val (.int (0 : Int32)), .unset]) rfl (pc' := 4) rfl ?_
  refine G.iloadN P0 d29_4 rfl (pc' := 5) rfl ?_
  refine G.iloadN P0 d29_5 rfl (pc' := 6) rfl ?_
  refine G.icmp_ge P0 d29_6 (by decide) (pcY := 43) (by decide) (pcN := 9) rfl (fun c2 => absurd c2 (by decide)) (fun c2 => ?_)
  refine G.aloadN P0 d29_9 rfl rfl (pc' := 10) rfl ?_
  refine G.callV P0 (rmPcN l Z a0 hw bp li en fr ed ke mc b1 b2 pl (0 : Int32) k1 _ h0 n0 HW (⟨np1, np2, np3⟩) gp ⟨pE1, pT1, pA1, pC1, pO1, pR1⟩ V1 n1) (wk hw 121 rfl) (wk hw 122 rfl) (wk hw 124 rfl) rfl (wk hw 123 rfl) (wk hw 37 rfl) (wk hw 125 rfl) (by decide) pE1 pd_19 (argsL := []) (rest := []) rfl rfl rfl rfl (W := 0) (Nat.le_of_eq rfl) (by decide) d29_10 (pc' := 13) rfl fun T3 L3 v3 P3 Q3 => ?_
  obtain ⟨rfl, N3, K3, HP3⟩ := Q3
  have N4 := Fr.app N0 N3
  have K5 := K0.trans K3 (allS (Or.inl (List.mem_of_getElem? (i := 0) rfl)) all0)
  show Go p e below _ (T3.setTop (mkF m 13 #[.val (.ref pl), .val (.int (4 : Int32)), .val (.int (0 : Int32)), .val (.int (0 : Int32)), .unset] [(.ref b1)]))
  obtain ⟨pE6, pT6, pA6, pC6, pO6, pR6⟩ := id HP3
  refine G.astore P3 d29_13 rfl (l' := #[.val (.ref pl), .val (.int (4 : Int32)), .val (.int (0 : Int32)), .val (.int (0 : Int32)), .val (.ref b1)]) rfl (pc' := 15) rfl ?_
  refine G.iloadN P3 d29_15 rfl (pc' := 16) rfl ?_
  refine G.bipush P3 d29_16 (z := (8 : Int32)) rfl (pc' := 18) rfl ?_
  refine G.ishl P3 d29_18 rfl (pc' := 19) rfl ?_
  refine G.aload P3 d29_19 rfl rfl (pc' := 21) rfl ?_
  refine G.aloadN P3 d29_21 rfl rfl (pc' := 22) rfl ?_
  refine G.getF P3 (host := "") (Or.inl (wk hw 152 rfl)) Via.refl pO6 d29_22 (pc' := 25) rfl fun T7 P7 => ?_
  have f8 := (V1.keep K3 (ninS n1 nin0))
  refine G.baloadB P7 f8 (j := (0 : Int32)) (v := (.int y0)) (by decide) rfl d29_25 (pc' := 26) rfl ?_
  refine G.sipush P7 d29_26 (z := (255 : Int32)) rfl (pc' := 29) rfl ?_
  refine G.iand P7 d29_29 rfl (pc' := 30) rfl ?_
  refine G.ior P7 d29_30 rfl (pc' := 31) rfl ?_
  refine G.istoreN P7 d29_31 (l' := #[.val (.ref pl), .val (.int (4 : Int32)), .val (.int (((0 : Int32) <<< ((8 : Int32) &&& 31)) ||| (y0 &&& (255 : Int32)))), .val (.int (0 : Int32)), .val (.ref b1)]) rfl (pc' := 32) rfl ?_
  refine G.aloadN P7 d29_32 rfl rfl (pc' := 33) rfl ?_
  refine G.iconst P7 d29_33 (z := (1 : Int32)) rfl (pc' := 34) rfl ?_
  refine G.callV P7 (rmPass l Z a0 hw pl bp (0 : Int32) (0 : Int32) (0 : Int32) (1 : Int32) (.ref b1) (1 : Int32) (1 : Int32) T3.heap n0 gp ⟨pE6, pT6, pA6, pC6, pO6, pR6⟩ (by decide) (by decide)) (wk hw 154 rfl) (wk hw 155 rfl) (wk hw 157 rfl) rfl (wk hw 156 rfl) (wk hw 37 rfl) (wk hw 158 rfl) (by decide) pE6 pd_24 (argsL := [(.int (1 : Int32))]) (rest := []) rfl rfl rfl rfl (W := 0) (Nat.le_of_eq rfl) (by decide) d29_34 (pc' := 37) rfl fun T9 L9 v9 P9 Q9 => ?_
  obtain ⟨rfl, N9, K9, HP9⟩ := Q9
  have N10 := Fr.app N4 N9
  have K11 := K5.trans K9 (allS (Or.inl (List.mem_of_getElem? (i := 0) rfl)) all0)
  show Go p e below _ (T9.setTop (mkF m 37 #[.val (.ref pl), .val (.int (4 : Int32)), .val (.int (((0 : Int32) <<< ((8 : Int32) &&& 31)) ||| (y0 &&& (255 : Int32)))), .val (.int (0 : Int32)), .val (.ref b1)] []))
  obtain ⟨pE12, pT12, pA12, pC12, pO12, pR12⟩ := id HP9
  refine G.iinc P9 d29_37 rfl (z := (1 : Int32)) (by decide) (l' := #[.val (.ref pl), .val (.int (4 : Int32)), .val (.int (((0 : Int32) <<< ((8 : Int32) &&& 31)) ||| (y0 &&& (255 : Int32)))), .val (.int (1 : Int32)), .val (.ref b1)]) rfl (pc' := 40) rfl ?_
  refine G.goto P9 d29_40 (by decide) (pc' := 4) (by decide) ?_
  refine G.iloadN P9 d29_4 rfl (pc' := 5) rfl ?_
  refine G.iloadN P9 d29_5 rfl (pc' := 6) rfl ?_
  refine G.icmp_ge P9 d29_6 (by decide) (pcY := 43) (by decide) (pcN := 9) rfl (fun c13 => absurd c13 (by decide)) (fun c13 => ?_)
  refine G.aloadN P9 d29_9 rfl rfl (pc' := 10) rfl ?_
  have f14 := (f8.keep K9 (ninS n1 nin0))
  refine G.callVP P9 (rmPcP l Z a0 hw pl bp b1 (1 : Int32) (0 : Int32) (1 : Int32) (16384 : Int32) k1 _ T9.heap ⟨pE12, pT12, pA12, pC12, pO12, pR12⟩ f14 (by decide)) (wk hw 121 rfl) (wk hw 122 rfl) (wk hw 124 rfl) rfl (wk hw 123 rfl) (wk hw 37 rfl) (wk hw 125 rfl) (by decide) pE12 pd_19 (argsL := []) (rest := []) rfl rfl rfl rfl (W := 0) (Nat.le_of_eq rfl) (by decide) d29_10 (pc' := 13) rfl fun T15 P15 => ?_
  show Go p e below _ (T15.setTop (mkF m 13 #[.val (.ref pl), .val (.int (4 : Int32)), .val (.int (((0 : Int32) <<< ((8 : Int32) &&& 31)) ||| (y0 &&& (255 : Int32)))), .val (.int (1 : Int32)), .val (.ref b1)] [(.ref b1)]))
  refine G.astore P15 d29_13 rfl (l' := #[.val (.ref pl), .val (.int (4 : Int32)), .val (.int (((0 : Int32) <<< ((8 : Int32) &&& 31)) ||| (y0 &&& (255 : Int32)))), .val (.int (1 : Int32)), .val (.ref b1)]) rfl (pc' := 15) rfl ?_
  refine G.iloadN P15 d29_15 rfl (pc' := 16) rfl ?_
  refine G.bipush P15 d29_16 (z := (8 : Int32)) rfl (pc' := 18) rfl ?_
  refine G.ishl P15 d29_18 rfl (pc' := 19) rfl ?_
  refine G.aload P15 d29_19 rfl rfl (pc' := 21) rfl ?_
  refine G.aloadN P15 d29_21 rfl rfl (pc' := 22) rfl ?_
  refine G.getF P15 (host := "") (Or.inl (wk hw 152 rfl)) Via.refl pO12 d29_22 (pc' := 25) rfl fun T16 P16 => ?_
  refine G.baloadB P16 f14 (j := (1 : Int32)) (v := (.int y1)) (by decide) rfl d29_25 (pc' := 26) rfl ?_
  refine G.sipush P16 d29_26 (z := (255 : Int32)) rfl (pc' := 29) rfl ?_
  refine G.iand P16 d29_29 rfl (pc' := 30) rfl ?_
  refine G.ior P16 d29_30 rfl (pc' := 31) rfl ?_
  refine G.istoreN P16 d29_31 (l' := #[.val (.ref pl), .val (.int (4 : Int32)), .val (.int (((((0 : Int32) <<< ((8 : Int32) &&& 31)) ||| (y0 &&& (255 : Int32))) <<< ((8 : Int32) &&& 31)) ||| (y1 &&& (255 : Int32)))), .val (.int (1 : Int32)), .val (.ref b1)]) rfl (pc' := 32) rfl ?_
  refine G.aloadN P16 d29_32 rfl rfl (pc' := 33) rfl ?_
  refine G.iconst P16 d29_33 (z := (1 : Int32)) rfl (pc' := 34) rfl ?_
  refine G.callV P16 (rmPass l Z a0 hw pl bp (1 : Int32) (0 : Int32) (1 : Int32) (1 : Int32) (.ref b1) (2 : Int32) (2 : Int32) T9.heap n0 gp ⟨pE12, pT12, pA12, pC12, pO12, pR12⟩ (by decide) (by decide)) (wk hw 154 rfl) (wk hw 155 rfl) (wk hw 157 rfl) rfl (wk hw 156 rfl) (wk hw 37 rfl) (wk hw 158 rfl) (by decide) pE12 pd_24 (argsL := [(.int (1 : Int32))]) (rest := []) rfl rfl rfl rfl (W := 0) (Nat.le_of_eq rfl) (by decide) d29_34 (pc' := 37) rfl fun T17 L17 v17 P17 Q17 => ?_
  obtain ⟨rfl, N17, K17, HP17⟩ := Q17
  have N18 := Fr.app N10 N17
  have K19 := K11.trans K17 (allS (Or.inl (List.mem_of_getElem? (i := 0) rfl)) all0)
  show Go p e below _ (T17.setTop (mkF m 37 #[.val (.ref pl), .val (.int (4 : Int32)), .val (.int (((((0 : Int32) <<< ((8 : Int32) &&& 31)) ||| (y0 &&& (255 : Int32))) <<< ((8 : Int32) &&& 31)) ||| (y1 &&& (255 : Int32)))), .val (.int (1 : Int32)), .val (.ref b1)] []))
  obtain ⟨pE20, pT20, pA20, pC20, pO20, pR20⟩ := id HP17
  refine G.iinc P17 d29_37 rfl (z := (2 : Int32)) (by decide) (l' := #[.val (.ref pl), .val (.int (4 : Int32)), .val (.int (((((0 : Int32) <<< ((8 : Int32) &&& 31)) ||| (y0 &&& (255 : Int32))) <<< ((8 : Int32) &&& 31)) ||| (y1 &&& (255 : Int32)))), .val (.int (2 : Int32)), .val (.ref b1)]) rfl (pc' := 40) rfl ?_
  refine G.goto P17 d29_40 (by decide) (pc' := 4) (by decide) ?_
  refine G.iloadN P17 d29_4 rfl (pc' := 5) rfl ?_
  refine G.iloadN P17 d29_5 rfl (pc' := 6) rfl ?_
  refine G.icmp_ge P17 d29_6 (by decide) (pcY := 43) (by decide) (pcN := 9) rfl (fun c21 => absurd c21 (by decide)) (fun c21 => ?_)
  refine G.aloadN P17 d29_9 rfl rfl (pc' := 10) rfl ?_
  have f22 := (f14.keep K17 (ninS n1 nin0))
  refine G.callVP P17 (rmPcP l Z a0 hw pl bp b1 (2 : Int32) (0 : Int32) (2 : Int32) (16384 : Int32) k1 _ T17.heap ⟨pE20, pT20, pA20, pC20, pO20, pR20⟩ f22 (by decide)) (wk hw 121 rfl) (wk hw 122 rfl) (wk hw 124 rfl) rfl (wk hw 123 rfl) (wk hw 37 rfl) (wk hw 125 rfl) (by decide) pE20 pd_19 (argsL := []) (rest := []) rfl rfl rfl rfl (W := 0) (Nat.le_of_eq rfl) (by decide) d29_10 (pc' := 13) rfl fun T23 P23 => ?_
  show Go p e below _ (T23.setTop (mkF m 13 #[.val (.ref pl), .val (.int (4 : Int32)), .val (.int (((((0 : Int32) <<< ((8 : Int32) &&& 31)) ||| (y0 &&& (255 : Int32))) <<< ((8 : Int32) &&& 31)) ||| (y1 &&& (255 : Int32)))), .val (.int (2 : Int32)), .val (.ref b1)] [(.ref b1)]))
  refine G.astore P23 d29_13 rfl (l' := #[.val (.ref pl), .val (.int (4 : Int32)), .val (.int (((((0 : Int32) <<< ((8 : Int32) &&& 31)) ||| (y0 &&& (255 : Int32))) <<< ((8 : Int32) &&& 31)) ||| (y1 &&& (255 : Int32)))), .val (.int (2 : Int32)), .val (.ref b1)]) rfl (pc' := 15) rfl ?_
  refine G.iloadN P23 d29_15 rfl (pc' := 16) rfl ?_
  refine G.bipush P23 d29_16 (z := (8 : Int32)) rfl (pc' := 18) rfl ?_
  refine G.ishl P23 d29_18 rfl (pc' := 19) rfl ?_
  refine G.aload P23 d29_19 rfl rfl (pc' := 21) rfl ?_
  refine G.aloadN P23 d29_21 rfl rfl (pc' := 22) rfl ?_
  refine G.getF P23 (host := "") (Or.inl (wk hw 152 rfl)) Via.refl pO20 d29_22 (pc' := 25) rfl fun T24 P24 => ?_
  refine G.baloadB P24 f22 (j := (2 : Int32)) (v := (.int y2)) (by decide) rfl d29_25 (pc' := 26) rfl ?_
  refine G.sipush P24 d29_26 (z := (255 : Int32)) rfl (pc' := 29) rfl ?_
  refine G.iand P24 d29_29 rfl (pc' := 30) rfl ?_
  refine G.ior P24 d29_30 rfl (pc' := 31) rfl ?_
  refine G.istoreN P24 d29_31 (l' := #[.val (.ref pl), .val (.int (4 : Int32)), .val (.int (((((((0 : Int32) <<< ((8 : Int32) &&& 31)) ||| (y0 &&& (255 : Int32))) <<< ((8 : Int32) &&& 31)) ||| (y1 &&& (255 : Int32))) <<< ((8 : Int32) &&& 31)) ||| (y2 &&& (255 : Int32)))), .val (.int (2 : Int32)), .val (.ref b1)]) rfl (pc' := 32) rfl ?_
  refine G.aloadN P24 d29_32 rfl rfl (pc' := 33) rfl ?_
  refine G.iconst P24 d29_33 (z := (1 : Int32)) rfl (pc' := 34) rfl ?_
  refine G.callV P24 (rmPass l Z a0 hw pl bp (2 : Int32) (0 : Int32) (2 : Int32) (1 : Int32) (.ref b1) (3 : Int32) (3 : Int32) T17.heap n0 gp ⟨pE20, pT20, pA20, pC20, pO20, pR20⟩ (by decide) (by decide)) (wk hw 154 rfl) (wk hw 155 rfl) (wk hw 157 rfl) rfl (wk hw 156 rfl) (wk hw 37 rfl) (wk hw 158 rfl) (by decide) pE20 pd_24 (argsL := [(.int (1 : Int32))]) (rest := []) rfl rfl rfl rfl (W := 0) (Nat.le_of_eq rfl) (by decide) d29_34 (pc' := 37) rfl fun T25 L25 v25 P25 Q25 => ?_
  obtain ⟨rfl, N25, K25, HP25⟩ := Q25
  have N26 := Fr.app N18 N25
  have K27 := K19.trans K25 (allS (Or.inl (List.mem_of_getElem? (i := 0) rfl)) all0)
  show Go p e below _ (T25.setTop (mkF m 37 #[.val (.ref pl), .val (.int (4 : Int32)), .val (.int (((((((0 : Int32) <<< ((8 : Int32) &&& 31)) ||| (y0 &&& (255 : Int32))) <<< ((8 : Int32) &&& 31)) ||| (y1 &&& (255 : Int32))) <<< ((8 : Int32) &&& 31)) ||| (y2 &&& (255 : Int32)))), .val (.int (2 : Int32)), .val (.ref b1)] []))
  obtain ⟨pE28, pT28, pA28, pC28, pO28, pR28⟩ := id HP25
  refine G.iinc P25 d29_37 rfl (z := (3 : Int32)) (by decide) (l' := #[.val (.ref pl), .val (.int (4 : Int32)), .val (.int (((((((0 : Int32) <<< ((8 : Int32) &&& 31)) ||| (y0 &&& (255 : Int32))) <<< ((8 : Int32) &&& 31)) ||| (y1 &&& (255 : Int32))) <<< ((8 : Int32) &&& 31)) ||| (y2 &&& (255 : Int32)))), .val (.int (3 : Int32)), .val (.ref b1)]) rfl (pc' := 40) rfl ?_
  refine G.goto P25 d29_40 (by decide) (pc' := 4) (by decide) ?_
  refine G.iloadN P25 d29_4 rfl (pc' := 5) rfl ?_
  refine G.iloadN P25 d29_5 rfl (pc' := 6) rfl ?_
  refine G.icmp_ge P25 d29_6 (by decide) (pcY := 43) (by decide) (pcN := 9) rfl (fun c29 => absurd c29 (by decide)) (fun c29 => ?_)
  refine G.aloadN P25 d29_9 rfl rfl (pc' := 10) rfl ?_
  have f30 := (f22.keep K25 (ninS n1 nin0))
  refine G.callVP P25 (rmPcP l Z a0 hw pl bp b1 (3 : Int32) (0 : Int32) (3 : Int32) (16384 : Int32) k1 _ T25.heap ⟨pE28, pT28, pA28, pC28, pO28, pR28⟩ f30 (by decide)) (wk hw 121 rfl) (wk hw 122 rfl) (wk hw 124 rfl) rfl (wk hw 123 rfl) (wk hw 37 rfl) (wk hw 125 rfl) (by decide) pE28 pd_19 (argsL := []) (rest := []) rfl rfl rfl rfl (W := 0) (Nat.le_of_eq rfl) (by decide) d29_10 (pc' := 13) rfl fun T31 P31 => ?_
  show Go p e below _ (T31.setTop (mkF m 13 #[.val (.ref pl), .val (.int (4 : Int32)), .val (.int (((((((0 : Int32) <<< ((8 : Int32) &&& 31)) ||| (y0 &&& (255 : Int32))) <<< ((8 : Int32) &&& 31)) ||| (y1 &&& (255 : Int32))) <<< ((8 : Int32) &&& 31)) ||| (y2 &&& (255 : Int32)))), .val (.int (3 : Int32)), .val (.ref b1)] [(.ref b1)]))
  refine G.astore P31 d29_13 rfl (l' := #[.val (.ref pl), .val (.int (4 : Int32)), .val (.int (((((((0 : Int32) <<< ((8 : Int32) &&& 31)) ||| (y0 &&& (255 : Int32))) <<< ((8 : Int32) &&& 31)) ||| (y1 &&& (255 : Int32))) <<< ((8 : Int32) &&& 31)) ||| (y2 &&& (255 : Int32)))), .val (.int (3 : Int32)), .val (.ref b1)]) rfl (pc' := 15) rfl ?_
  refine G.iloadN P31 d29_15 rfl (pc' := 16) rfl ?_
  refine G.bipush P31 d29_16 (z := (8 : Int32)) rfl (pc' := 18) rfl ?_
  refine G.ishl P31 d29_18 rfl (pc' := 19) rfl ?_
  refine G.aload P31 d29_19 rfl rfl (pc' := 21) rfl ?_
  refine G.aloadN P31 d29_21 rfl rfl (pc' := 22) rfl ?_
  refine G.getF P31 (host := "") (Or.inl (wk hw 152 rfl)) Via.refl pO28 d29_22 (pc' := 25) rfl fun T32 P32 => ?_
  refine G.baloadB P32 f30 (j := (3 : Int32)) (v := (.int y3)) (by decide) rfl d29_25 (pc' := 26) rfl ?_
  refine G.sipush P32 d29_26 (z := (255 : Int32)) rfl (pc' := 29) rfl ?_
  refine G.iand P32 d29_29 rfl (pc' := 30) rfl ?_
  refine G.ior P32 d29_30 rfl (pc' := 31) rfl ?_
  refine G.istoreN P32 d29_31 (l' := #[.val (.ref pl), .val (.int (4 : Int32)), .val (.int (((((((((0 : Int32) <<< ((8 : Int32) &&& 31)) ||| (y0 &&& (255 : Int32))) <<< ((8 : Int32) &&& 31)) ||| (y1 &&& (255 : Int32))) <<< ((8 : Int32) &&& 31)) ||| (y2 &&& (255 : Int32))) <<< ((8 : Int32) &&& 31)) ||| (y3 &&& (255 : Int32)))), .val (.int (3 : Int32)), .val (.ref b1)]) rfl (pc' := 32) rfl ?_
  refine G.aloadN P32 d29_32 rfl rfl (pc' := 33) rfl ?_
  refine G.iconst P32 d29_33 (z := (1 : Int32)) rfl (pc' := 34) rfl ?_
  refine G.callV P32 (rmPass l Z a0 hw pl bp (3 : Int32) (0 : Int32) (3 : Int32) (1 : Int32) (.ref b1) (4 : Int32) (4 : Int32) T25.heap n0 gp ⟨pE28, pT28, pA28, pC28, pO28, pR28⟩ (by decide) (by decide)) (wk hw 154 rfl) (wk hw 155 rfl) (wk hw 157 rfl) rfl (wk hw 156 rfl) (wk hw 37 rfl) (wk hw 158 rfl) (by decide) pE28 pd_24 (argsL := [(.int (1 : Int32))]) (rest := []) rfl rfl rfl rfl (W := 0) (Nat.le_of_eq rfl) (by decide) d29_34 (pc' := 37) rfl fun T33 L33 v33 P33 Q33 => ?_
  obtain ⟨rfl, N33, K33, HP33⟩ := Q33
  have N34 := Fr.app N26 N33
  have K35 := K27.trans K33 (allS (Or.inl (List.mem_of_getElem? (i := 0) rfl)) all0)
  show Go p e below _ (T33.setTop (mkF m 37 #[.val (.ref pl), .val (.int (4 : Int32)), .val (.int (((((((((0 : Int32) <<< ((8 : Int32) &&& 31)) ||| (y0 &&& (255 : Int32))) <<< ((8 : Int32) &&& 31)) ||| (y1 &&& (255 : Int32))) <<< ((8 : Int32) &&& 31)) ||| (y2 &&& (255 : Int32))) <<< ((8 : Int32) &&& 31)) ||| (y3 &&& (255 : Int32)))), .val (.int (3 : Int32)), .val (.ref b1)] []))
  obtain ⟨pE36, pT36, pA36, pC36, pO36, pR36⟩ := id HP33
  refine G.iinc P33 d29_37 rfl (z := (4 : Int32)) (by decide) (l' := #[.val (.ref pl), .val (.int (4 : Int32)), .val (.int (((((((((0 : Int32) <<< ((8 : Int32) &&& 31)) ||| (y0 &&& (255 : Int32))) <<< ((8 : Int32) &&& 31)) ||| (y1 &&& (255 : Int32))) <<< ((8 : Int32) &&& 31)) ||| (y2 &&& (255 : Int32))) <<< ((8 : Int32) &&& 31)) ||| (y3 &&& (255 : Int32)))), .val (.int (4 : Int32)), .val (.ref b1)]) rfl (pc' := 40) rfl ?_
  refine G.goto P33 d29_40 (by decide) (pc' := 4) (by decide) ?_
  refine G.iloadN P33 d29_4 rfl (pc' := 5) rfl ?_
  refine G.iloadN P33 d29_5 rfl (pc' := 6) rfl ?_
  refine G.icmp_ge P33 d29_6 (by decide) (pcY := 43) (by decide) (pcN := 9) rfl (fun c37 => ?_) (fun c37 => absurd c37 (by decide))
  refine G.iloadN P33 d29_43 rfl (pc' := 44) rfl ?_
  exact G.retI P33 d29_44 (by decide) (by decide) ⟨rfl, N34, K35, ⟨pE36, pT36, pA36, pC36, pO36, pR36⟩⟩

theorem ef_rmRBX (m : MethodId) (pl : Addr) : entryFrame m #[(.ref pl), (.int (4 : Int32))] 5 = mkF m 0 #[.val (.ref pl), .val (.int (4 : Int32)), .unset, .unset, .unset] [] := by first | (simp [entryFrame, mkF, argsToLocals, Value.category]; done) | rfl
set_option maxRecDepth 65536 in
set_option maxHeartbeats 40000000 in
theorem rmRBX (l : Launch) (Z : State) (a0 : Array Value) (hw : ∀ d ∈ tables_1, d.before a0 Z = true) (bp li en fr ed : Addr) (ke : ClassId) (mc : Int32) (b1 b2 : Addr) (pl : Addr) (k1 : ClassId) (y0 y1 y2 y3 : Int32) (tl : List Value) (kx : ClassId) (vx : List Value) (h0 : Heap) (n0 : Nat) (HW : own_W Z h0 bp li en fr ed ke mc b1 b2) (NP : own_N bp li ed pl) (gp : n0 ≤ pl) (NB : own_N bp li ed b2) (gp2 : n0 ≤ b2) (HP : own_P Z h0 pl bp (16384 : Int32) (0 : Int32) (16384 : Int32) (.ref b1)) (n1 : b1 ≠ pl) (n2 : b2 ≠ pl) (n12 : b1 ≠ b2) (V1 : Arv Z h0 b1 kx .byte (16384 : Int32) vx (.int (0 : Int32))) (V2 : Arv Z h0 b2 k1 .byte (8 : Int32) ((.int y0) :: (.int y1) :: (.int y2) :: (.int y3) :: tl) (.int (0 : Int32))) :
    OMeets l Z y29 prog_33_method_7_code 5 (some .int) ({ frames := 4, cells := 0, slots := 0, locals := 53 } : Room) #[(.ref pl), (.int (4 : Int32))] h0 (fun v h L => v = some (.int (own_rd y0 y1 y2 y3)) ∧ Fr n0 L ∧ Keep h0 h [pl] ∧ own_P Z h pl bp (16388 : Int32) (1 : Int32) (4 : Int32) (.ref b2)) := by
  refine met (Q := fun v h L => v = some (.int (own_rd y0 y1 y2 y3)) ∧ Fr n0 L ∧ Keep h0 h [pl] ∧ own_P Z h pl bp (16388 : Int32) (1 : Int32) (4 : Int32) (.ref b2)) pf_29 (fun m => ef_rmRBX m pl) fun p e s m below meth c T0 P0 => ?_
  have N0 := Fr.nil n0
  have K0 := Keep.refl h0 [pl]
  have HWl := HW.2.1.1
  obtain ⟨np1, np2, np3⟩ := NP
  obtain ⟨nq1, nq2, nq3⟩ := NB
  obtain ⟨pE1, pT1, pA1, pC1, pO1, pR1⟩ := id HP
  refine G.iconst P0 d29_0 (z := (0 : Int32)) rfl (pc' := 1) rfl ?_
  refine G.istoreN P0 d29_1 (l' := #[.val (.ref pl), .val (.int (4 : Int32)), .val (.int (0 : Int32)), .unset, .unset]) rfl (pc' := 2) rfl ?_
  refine G.iconst P0 d29_2 (z := (0 : Int32)) rfl (pc' := 3) rfl ?_
  refine G.istoreN P0 d29_3 (l' := #[.val (.ref pl), .val (.int (4 : Int32)), .val (.int (0 : Int32)), .val (.int (0 : Int32)), .unset]) rfl (pc' := 4) rfl ?_
  refine G.iloadN P0 d29_4 rfl (pc' := 5) rfl ?_
  refine G.iloadN P0 d29_5 rfl (pc' := 6) rfl ?_
  refine G.icmp_ge P0 d29_6 (by decide) (pcY := 43) (by decide) (pcN := 9) rfl (fun c2 => absurd c2 (by decide)) (fun c2 => ?_)
  refine G.aloadN P0 d29_9 rfl rfl (pc' := 10) rfl ?_
  refine G.callV P0 (rmPcX l Z a0 hw bp li en fr ed ke mc b1 b2 pl (16384 : Int32) kx _ k1 _ h0 n0 HW (⟨np1, np2, np3⟩) gp ⟨pE1, pT1, pA1, pC1, pO1, pR1⟩ V1 n1 V2 n2) (wk hw 121 rfl) (wk hw 122 rfl) (wk hw 124 rfl) rfl (wk hw 123 rfl) (wk hw 37 rfl) (wk hw 125 rfl) (by decide) pE1 pd_19 (argsL := []) (rest := []) rfl rfl rfl rfl (W := 0) (Nat.le_of_eq rfl) (by decide) d29_10 (pc' := 13) rfl fun T3 L3 v3 P3 Q3 => ?_
  obtain ⟨rfl, N3, K3, HP3⟩ := Q3
  have N4 := Fr.app N0 N3
  have K5 := K0.trans K3 (allS (Or.inl (List.mem_of_getElem? (i := 0) rfl)) all0)
  show Go p e below _ (T3.setTop (mkF m 13 #[.val (.ref pl), .val (.int (4 : Int32)), .val (.int (0 : Int32)), .val (.int (0 : Int32)), .unset] [(.ref b2)]))
  obtain ⟨pE6, pT6, pA6, pC6, pO6, pR6⟩ := id HP3
  refine G.astore P3 d29_13 rfl (l' := #[.val (.ref pl), .val (.int (4 : Int32)), .val (.int (0 : Int32)), .val (.int (0 : Int32)), .val (.ref b2)]) rfl (pc' := 15) rfl ?_
  refine G.iloadN P3 d29_15 rfl (pc' := 16) rfl ?_
  refine G.bipush P3 d29_16 (z := (8 : Int32)) rfl (pc' := 18) rfl ?_
  refine G.ishl P3 d29_18 rfl (pc' := 19) rfl ?_
  refine G.aload P3 d29_19 rfl rfl (pc' := 21) rfl ?_
  refine G.aloadN P3 d29_21 rfl rfl (pc' := 22) rfl ?_
  refine G.getF P3 (host := "") (Or.inl (wk hw 152 rfl)) Via.refl pO6 d29_22 (pc' := 25) rfl fun T7 P7 => ?_
  have f8 := (V2.keep K3 (ninS n2 nin0))
  refine G.baloadB P7 f8 (j := (0 : Int32)) (v := (.int y0)) (by decide) rfl d29_25 (pc' := 26) rfl ?_
  refine G.sipush P7 d29_26 (z := (255 : Int32)) rfl (pc' := 29) rfl ?_
  refine G.iand P7 d29_29 rfl (pc' := 30) rfl ?_
  refine G.ior P7 d29_30 rfl (pc' := 31) rfl ?_
  refine G.istoreN P7 d29_31 (l' := #[.val (.ref pl), .val (.int (4 : Int32)), .val (.int (((0 : Int32) <<< ((8 : Int32) &&& 31)) ||| (y0 &&& (255 : Int32)))), .val (.int (0 : Int32)), .val (.ref b2)]) rfl (pc' := 32) rfl ?_
  refine G.aloadN P7 d29_32 rfl rfl (pc' := 33) rfl ?_
  refine G.iconst P7 d29_33 (z := (1 : Int32)) rfl (pc' := 34) rfl ?_
  refine G.callV P7 (rmPass l Z a0 hw pl bp (16384 : Int32) (1 : Int32) (0 : Int32) (1 : Int32) (.ref b2) (16385 : Int32) (1 : Int32) T3.heap n0 gp ⟨pE6, pT6, pA6, pC6, pO6, pR6⟩ (by decide) (by decide)) (wk hw 154 rfl) (wk hw 155 rfl) (wk hw 157 rfl) rfl (wk hw 156 rfl) (wk hw 37 rfl) (wk hw 158 rfl) (by decide) pE6 pd_24 (argsL := [(.int (1 : Int32))]) (rest := []) rfl rfl rfl rfl (W := 0) (Nat.le_of_eq rfl) (by decide) d29_34 (pc' := 37) rfl fun T9 L9 v9 P9 Q9 => ?_
  obtain ⟨rfl, N9, K9, HP9⟩ := Q9
  have N10 := Fr.app N4 N9
  have K11 := K5.trans K9 (allS (Or.inl (List.mem_of_getElem? (i := 0) rfl)) all0)
  show Go p e below _ (T9.setTop (mkF m 37 #[.val (.ref pl), .val (.int (4 : Int32)), .val (.int (((0 : Int32) <<< ((8 : Int32) &&& 31)) ||| (y0 &&& (255 : Int32)))), .val (.int (0 : Int32)), .val (.ref b2)] []))
  obtain ⟨pE12, pT12, pA12, pC12, pO12, pR12⟩ := id HP9
  refine G.iinc P9 d29_37 rfl (z := (1 : Int32)) (by decide) (l' := #[.val (.ref pl), .val (.int (4 : Int32)), .val (.int (((0 : Int32) <<< ((8 : Int32) &&& 31)) ||| (y0 &&& (255 : Int32)))), .val (.int (1 : Int32)), .val (.ref b2)]) rfl (pc' := 40) rfl ?_
  refine G.goto P9 d29_40 (by decide) (pc' := 4) (by decide) ?_
  refine G.iloadN P9 d29_4 rfl (pc' := 5) rfl ?_
  refine G.iloadN P9 d29_5 rfl (pc' := 6) rfl ?_
  refine G.icmp_ge P9 d29_6 (by decide) (pcY := 43) (by decide) (pcN := 9) rfl (fun c13 => absurd c13 (by decide)) (fun c13 => ?_)
  refine G.aloadN P9 d29_9 rfl rfl (pc' := 10) rfl ?_
  have f14 := (f8.keep K9 (ninS n2 nin0))
  refine G.callVP P9 (rmPcP l Z a0 hw pl bp b2 (16385 : Int32) (1 : Int32) (1 : Int32) (8 : Int32) k1 _ T9.heap ⟨pE12, pT12, pA12, pC12, pO12, pR12⟩ f14 (by decide)) (wk hw 121 rfl) (wk hw 122 rfl) (wk hw 124 rfl) rfl (wk hw 123 rfl) (wk hw 37 rfl) (wk hw 125 rfl) (by decide) pE12 pd_19 (argsL := []) (rest := []) rfl rfl rfl rfl (W := 0) (Nat.le_of_eq rfl) (by decide) d29_10 (pc' := 13) rfl fun T15 P15 => ?_
  show Go p e below _ (T15.setTop (mkF m 13 #[.val (.ref pl), .val (.int (4 : Int32)), .val (.int (((0 : Int32) <<< ((8 : Int32) &&& 31)) ||| (y0 &&& (255 : Int32)))), .val (.int (1 : Int32)), .val (.ref b2)] [(.ref b2)]))
  refine G.astore P15 d29_13 rfl (l' := #[.val (.ref pl), .val (.int (4 : Int32)), .val (.int (((0 : Int32) <<< ((8 : Int32) &&& 31)) ||| (y0 &&& (255 : Int32)))), .val (.int (1 : Int32)), .val (.ref b2)]) rfl (pc' := 15) rfl ?_
  refine G.iloadN P15 d29_15 rfl (pc' := 16) rfl ?_
  refine G.bipush P15 d29_16 (z := (8 : Int32)) rfl (pc' := 18) rfl ?_
  refine G.ishl P15 d29_18 rfl (pc' := 19) rfl ?_
  refine G.aload P15 d29_19 rfl rfl (pc' := 21) rfl ?_
  refine G.aloadN P15 d29_21 rfl rfl (pc' := 22) rfl ?_
  refine G.getF P15 (host := "") (Or.inl (wk hw 152 rfl)) Via.refl pO12 d29_22 (pc' := 25) rfl fun T16 P16 => ?_
  refine G.baloadB P16 f14 (j := (1 : Int32)) (v := (.int y1)) (by decide) rfl d29_25 (pc' := 26) rfl ?_
  refine G.sipush P16 d29_26 (z := (255 : Int32)) rfl (pc' := 29) rfl ?_
  refine G.iand P16 d29_29 rfl (pc' := 30) rfl ?_
  refine G.ior P16 d29_30 rfl (pc' := 31) rfl ?_
  refine G.istoreN P16 d29_31 (l' := #[.val (.ref pl), .val (.int (4 : Int32)), .val (.int (((((0 : Int32) <<< ((8 : Int32) &&& 31)) ||| (y0 &&& (255 : Int32))) <<< ((8 : Int32) &&& 31)) ||| (y1 &&& (255 : Int32)))), .val (.int (1 : Int32)), .val (.ref b2)]) rfl (pc' := 32) rfl ?_
  refine G.aloadN P16 d29_32 rfl rfl (pc' := 33) rfl ?_
  refine G.iconst P16 d29_33 (z := (1 : Int32)) rfl (pc' := 34) rfl ?_
  refine G.callV P16 (rmPass l Z a0 hw pl bp (16385 : Int32) (1 : Int32) (1 : Int32) (1 : Int32) (.ref b2) (16386 : Int32) (2 : Int32) T9.heap n0 gp ⟨pE12, pT12, pA12, pC12, pO12, pR12⟩ (by decide) (by decide)) (wk hw 154 rfl) (wk hw 155 rfl) (wk hw 157 rfl) rfl (wk hw 156 rfl) (wk hw 37 rfl) (wk hw 158 rfl) (by decide) pE12 pd_24 (argsL := [(.int (1 : Int32))]) (rest := []) rfl rfl rfl rfl (W := 0) (Nat.le_of_eq rfl) (by decide) d29_34 (pc' := 37) rfl fun T17 L17 v17 P17 Q17 => ?_
  obtain ⟨rfl, N17, K17, HP17⟩ := Q17
  have N18 := Fr.app N10 N17
  have K19 := K11.trans K17 (allS (Or.inl (List.mem_of_getElem? (i := 0) rfl)) all0)
  show Go p e below _ (T17.setTop (mkF m 37 #[.val (.ref pl), .val (.int (4 : Int32)), .val (.int (((((0 : Int32) <<< ((8 : Int32) &&& 31)) ||| (y0 &&& (255 : Int32))) <<< ((8 : Int32) &&& 31)) ||| (y1 &&& (255 : Int32)))), .val (.int (1 : Int32)), .val (.ref b2)] []))
  obtain ⟨pE20, pT20, pA20, pC20, pO20, pR20⟩ := id HP17
  refine G.iinc P17 d29_37 rfl (z := (2 : Int32)) (by decide) (l' := #[.val (.ref pl), .val (.int (4 : Int32)), .val (.int (((((0 : Int32) <<< ((8 : Int32) &&& 31)) ||| (y0 &&& (255 : Int32))) <<< ((8 : Int32) &&& 31)) ||| (y1 &&& (255 : Int32)))), .val (.int (2 : Int32)), .val (.ref b2)]) rfl (pc' := 40) rfl ?_
  refine G.goto P17 d29_40 (by decide) (pc' := 4) (by decide) ?_
  refine G.iloadN P17 d29_4 rfl (pc' := 5) rfl ?_
  refine G.iloadN P17 d29_5 rfl (pc' := 6) rfl ?_
  refine G.icmp_ge P17 d29_6 (by decide) (pcY := 43) (by decide) (pcN := 9) rfl (fun c21 => absurd c21 (by decide)) (fun c21 => ?_)
  refine G.aloadN P17 d29_9 rfl rfl (pc' := 10) rfl ?_
  have f22 := (f14.keep K17 (ninS n2 nin0))
  refine G.callVP P17 (rmPcP l Z a0 hw pl bp b2 (16386 : Int32) (1 : Int32) (2 : Int32) (8 : Int32) k1 _ T17.heap ⟨pE20, pT20, pA20, pC20, pO20, pR20⟩ f22 (by decide)) (wk hw 121 rfl) (wk hw 122 rfl) (wk hw 124 rfl) rfl (wk hw 123 rfl) (wk hw 37 rfl) (wk hw 125 rfl) (by decide) pE20 pd_19 (argsL := []) (rest := []) rfl rfl rfl rfl (W := 0) (Nat.le_of_eq rfl) (by decide) d29_10 (pc' := 13) rfl fun T23 P23 => ?_
  show Go p e below _ (T23.setTop (mkF m 13 #[.val (.ref pl), .val (.int (4 : Int32)), .val (.int (((((0 : Int32) <<< ((8 : Int32) &&& 31)) ||| (y0 &&& (255 : Int32))) <<< ((8 : Int32) &&& 31)) ||| (y1 &&& (255 : Int32)))), .val (.int (2 : Int32)), .val (.ref b2)] [(.ref b2)]))
  refine G.astore P23 d29_13 rfl (l' := #[.val (.ref pl), .val (.int (4 : Int32)), .val (.int (((((0 : Int32) <<< ((8 : Int32) &&& 31)) ||| (y0 &&& (255 : Int32))) <<< ((8 : Int32) &&& 31)) ||| (y1 &&& (255 : Int32)))), .val (.int (2 : Int32)), .val (.ref b2)]) rfl (pc' := 15) rfl ?_
  refine G.iloadN P23 d29_15 rfl (pc' := 16) rfl ?_
  refine G.bipush P23 d29_16 (z := (8 : Int32)) rfl (pc' := 18) rfl ?_
  refine G.ishl P23 d29_18 rfl (pc' := 19) rfl ?_
  refine G.aload P23 d29_19 rfl rfl (pc' := 21) rfl ?_
  refine G.aloadN P23 d29_21 rfl rfl (pc' := 22) rfl ?_
  refine G.getF P23 (host := "") (Or.inl (wk hw 152 rfl)) Via.refl pO20 d29_22 (pc' := 25) rfl fun T24 P24 => ?_
  refine G.baloadB P24 f22 (j := (2 : Int32)) (v := (.int y2)) (by decide) rfl d29_25 (pc' := 26) rfl ?_
  refine G.sipush P24 d29_26 (z := (255 : Int32)) rfl (pc' := 29) rfl ?_
  refine G.iand P24 d29_29 rfl (pc' := 30) rfl ?_
  refine G.ior P24 d29_30 rfl (pc' := 31) rfl ?_
  refine G.istoreN P24 d29_31 (l' := #[.val (.ref pl), .val (.int (4 : Int32)), .val (.int (((((((0 : Int32) <<< ((8 : Int32) &&& 31)) ||| (y0 &&& (255 : Int32))) <<< ((8 : Int32) &&& 31)) ||| (y1 &&& (255 : Int32))) <<< ((8 : Int32) &&& 31)) ||| (y2 &&& (255 : Int32)))), .val (.int (2 : Int32)), .val (.ref b2)]) rfl (pc' := 32) rfl ?_
  refine G.aloadN P24 d29_32 rfl rfl (pc' := 33) rfl ?_
  refine G.iconst P24 d29_33 (z := (1 : Int32)) rfl (pc' := 34) rfl ?_
  refine G.callV P24 (rmPass l Z a0 hw pl bp (16386 : Int32) (1 : Int32) (2 : Int32) (1 : Int32) (.ref b2) (16387 : Int32) (3 : Int32) T17.heap n0 gp ⟨pE20, pT20, pA20, pC20, pO20, pR20⟩ (by decide) (by decide)) (wk hw 154 rfl) (wk hw 155 rfl) (wk hw 157 rfl) rfl (wk hw 156 rfl) (wk hw 37 rfl) (wk hw 158 rfl) (by decide) pE20 pd_24 (argsL := [(.int (1 : Int32))]) (rest := []) rfl rfl rfl rfl (W := 0) (Nat.le_of_eq rfl) (by decide) d29_34 (pc' := 37) rfl fun T25 L25 v25 P25 Q25 => ?_
  obtain ⟨rfl, N25, K25, HP25⟩ := Q25
  have N26 := Fr.app N18 N25
  have K27 := K19.trans K25 (allS (Or.inl (List.mem_of_getElem? (i := 0) rfl)) all0)
  show Go p e below _ (T25.setTop (mkF m 37 #[.val (.ref pl), .val (.int (4 : Int32)), .val (.int (((((((0 : Int32) <<< ((8 : Int32) &&& 31)) ||| (y0 &&& (255 : Int32))) <<< ((8 : Int32) &&& 31)) ||| (y1 &&& (255 : Int32))) <<< ((8 : Int32) &&& 31)) ||| (y2 &&& (255 : Int32)))), .val (.int (2 : Int32)), .val (.ref b2)] []))
  obtain ⟨pE28, pT28, pA28, pC28, pO28, pR28⟩ := id HP25
  refine G.iinc P25 d29_37 rfl (z := (3 : Int32)) (by decide) (l' := #[.val (.ref pl), .val (.int (4 : Int32)), .val (.int (((((((0 : Int32) <<< ((8 : Int32) &&& 31)) ||| (y0 &&& (255 : Int32))) <<< ((8 : Int32) &&& 31)) ||| (y1 &&& (255 : Int32))) <<< ((8 : Int32) &&& 31)) ||| (y2 &&& (255 : Int32)))), .val (.int (3 : Int32)), .val (.ref b2)]) rfl (pc' := 40) rfl ?_
  refine G.goto P25 d29_40 (by decide) (pc' := 4) (by decide) ?_
  refine G.iloadN P25 d29_4 rfl (pc' := 5) rfl ?_
  refine G.iloadN P25 d29_5 rfl (pc' := 6) rfl ?_
  refine G.icmp_ge P25 d29_6 (by decide) (pcY := 43) (by decide) (pcN := 9) rfl (fun c29 => absurd c29 (by decide)) (fun c29 => ?_)
  refine G.aloadN P25 d29_9 rfl rfl (pc' := 10) rfl ?_
  have f30 := (f22.keep K25 (ninS n2 nin0))
  refine G.callVP P25 (rmPcP l Z a0 hw pl bp b2 (16387 : Int32) (1 : Int32) (3 : Int32) (8 : Int32) k1 _ T25.heap ⟨pE28, pT28, pA28, pC28, pO28, pR28⟩ f30 (by decide)) (wk hw 121 rfl) (wk hw 122 rfl) (wk hw 124 rfl) rfl (wk hw 123 rfl) (wk hw 37 rfl) (wk hw 125 rfl) (by decide) pE28 pd_19 (argsL := []) (rest := []) rfl rfl rfl rfl (W := 0) (Nat.le_of_eq rfl) (by decide) d29_10 (pc' := 13) rfl fun T31 P31 => ?_
  show Go p e below _ (T31.setTop (mkF m 13 #[.val (.ref pl), .val (.int (4 : Int32)), .val (.int (((((((0 : Int32) <<< ((8 : Int32) &&& 31)) ||| (y0 &&& (255 : Int32))) <<< ((8 : Int32) &&& 31)) ||| (y1 &&& (255 : Int32))) <<< ((8 : Int32) &&& 31)) ||| (y2 &&& (255 : Int32)))), .val (.int (3 : Int32)), .val (.ref b2)] [(.ref b2)]))
  refine G.astore P31 d29_13 rfl (l' := #[.val (.ref pl), .val (.int (4 : Int32)), .val (.int (((((((0 : Int32) <<< ((8 : Int32) &&& 31)) ||| (y0 &&& (255 : Int32))) <<< ((8 : Int32) &&& 31)) ||| (y1 &&& (255 : Int32))) <<< ((8 : Int32) &&& 31)) ||| (y2 &&& (255 : Int32)))), .val (.int (3 : Int32)), .val (.ref b2)]) rfl (pc' := 15) rfl ?_
  refine G.iloadN P31 d29_15 rfl (pc' := 16) rfl ?_
  refine G.bipush P31 d29_16 (z := (8 : Int32)) rfl (pc' := 18) rfl ?_
  refine G.ishl P31 d29_18 rfl (pc' := 19) rfl ?_
  refine G.aload P31 d29_19 rfl rfl (pc' := 21) rfl ?_
  refine G.aloadN P31 d29_21 rfl rfl (pc' := 22) rfl ?_
  refine G.getF P31 (host := "") (Or.inl (wk hw 152 rfl)) Via.refl pO28 d29_22 (pc' := 25) rfl fun T32 P32 => ?_
  refine G.baloadB P32 f30 (j := (3 : Int32)) (v := (.int y3)) (by decide) rfl d29_25 (pc' := 26) rfl ?_
  refine G.sipush P32 d29_26 (z := (255 : Int32)) rfl (pc' := 29) rfl ?_
  refine G.iand P32 d29_29 rfl (pc' := 30) rfl ?_
  refine G.ior P32 d29_30 rfl (pc' := 31) rfl ?_
  refine G.istoreN P32 d29_31 (l' := #[.val (.ref pl), .val (.int (4 : Int32)), .val (.int (((((((((0 : Int32) <<< ((8 : Int32) &&& 31)) ||| (y0 &&& (255 : Int32))) <<< ((8 : Int32) &&& 31)) ||| (y1 &&& (255 : Int32))) <<< ((8 : Int32) &&& 31)) ||| (y2 &&& (255 : Int32))) <<< ((8 : Int32) &&& 31)) ||| (y3 &&& (255 : Int32)))), .val (.int (3 : Int32)), .val (.ref b2)]) rfl (pc' := 32) rfl ?_
  refine G.aloadN P32 d29_32 rfl rfl (pc' := 33) rfl ?_
  refine G.iconst P32 d29_33 (z := (1 : Int32)) rfl (pc' := 34) rfl ?_
  refine G.callV P32 (rmPass l Z a0 hw pl bp (16387 : Int32) (1 : Int32) (3 : Int32) (1 : Int32) (.ref b2) (16388 : Int32) (4 : Int32) T25.heap n0 gp ⟨pE28, pT28, pA28, pC28, pO28, pR28⟩ (by decide) (by decide)) (wk hw 154 rfl) (wk hw 155 rfl) (wk hw 157 rfl) rfl (wk hw 156 rfl) (wk hw 37 rfl) (wk hw 158 rfl) (by decide) pE28 pd_24 (argsL := [(.int (1 : Int32))]) (rest := []) rfl rfl rfl rfl (W := 0) (Nat.le_of_eq rfl) (by decide) d29_34 (pc' := 37) rfl fun T33 L33 v33 P33 Q33 => ?_
  obtain ⟨rfl, N33, K33, HP33⟩ := Q33
  have N34 := Fr.app N26 N33
  have K35 := K27.trans K33 (allS (Or.inl (List.mem_of_getElem? (i := 0) rfl)) all0)
  show Go p e below _ (T33.setTop (mkF m 37 #[.val (.ref pl), .val (.int (4 : Int32)), .val (.int (((((((((0 : Int32) <<< ((8 : Int32) &&& 31)) ||| (y0 &&& (255 : Int32))) <<< ((8 : Int32) &&& 31)) ||| (y1 &&& (255 : Int32))) <<< ((8 : Int32) &&& 31)) ||| (y2 &&& (255 : Int32))) <<< ((8 : Int32) &&& 31)) ||| (y3 &&& (255 : Int32)))), .val (.int (3 : Int32)), .val (.ref b2)] []))
  obtain ⟨pE36, pT36, pA36, pC36, pO36, pR36⟩ := id HP33
  refine G.iinc P33 d29_37 rfl (z := (4 : Int32)) (by decide) (l' := #[.val (.ref pl), .val (.int (4 : Int32)), .val (.int (((((((((0 : Int32) <<< ((8 : Int32) &&& 31)) ||| (y0 &&& (255 : Int32))) <<< ((8 : Int32) &&& 31)) ||| (y1 &&& (255 : Int32))) <<< ((8 : Int32) &&& 31)) ||| (y2 &&& (255 : Int32))) <<< ((8 : Int32) &&& 31)) ||| (y3 &&& (255 : Int32)))), .val (.int (4 : Int32)), .val (.ref b2)]) rfl (pc' := 40) rfl ?_
  refine G.goto P33 d29_40 (by decide) (pc' := 4) (by decide) ?_
  refine G.iloadN P33 d29_4 rfl (pc' := 5) rfl ?_
  refine G.iloadN P33 d29_5 rfl (pc' := 6) rfl ?_
  refine G.icmp_ge P33 d29_6 (by decide) (pcY := 43) (by decide) (pcN := 9) rfl (fun c37 => ?_) (fun c37 => absurd c37 (by decide))
  refine G.iloadN P33 d29_43 rfl (pc' := 44) rfl ?_
  exact G.retI P33 d29_44 (by decide) (by decide) ⟨rfl, N34, K35, ⟨pE36, pT36, pA36, pC36, pO36, pR36⟩⟩

theorem ef_rmPAN (m : MethodId) (bp : Addr) (v0 : Int32) : entryFrame m #[(.ref bp), (.int v0), (.int (4 : Int32))] 3 = mkF m 0 #[.val (.ref bp), .val (.int v0), .val (.int (4 : Int32))] [] := by first | (simp [entryFrame, mkF, argsToLocals, Value.category]; done) | rfl
set_option maxRecDepth 65536 in
set_option maxHeartbeats 40000000 in
theorem rmPAN (l : Launch) (Z : State) (a0 : Array Value) (hw : ∀ d ∈ tables_1, d.before a0 Z = true) (bp li en fr ed : Addr) (ke : ClassId) (mc : Int32) (b1 b2 : Addr) (k1 : ClassId) (y0 y1 y2 y3 : Int32) (tl : List Value) (v0 : Int32) (h0 : Heap) (n0 : Nat) (HW : own_W Z h0 bp li en fr ed ke mc b1 b2) (NP : own_N bp li ed en) (gp : n0 ≤ en) (NB : own_N bp li ed b1) (gp2 : n0 ≤ b1) (HP : own_P Z h0 en bp (0 : Int32) (0 : Int32) (0 : Int32) .null) (n1 : b1 ≠ en) (n2 : b2 ≠ en) (n12 : b1 ≠ b2) (V1 : Arv Z h0 b1 k1 .byte (16384 : Int32) ((.int y0) :: (.int y1) :: (.int y2) :: (.int y3) :: tl) (.int (0 : Int32))) :
    OMeets l Z y17 prog_31_method_26_code 3 none ({ frames := 5, cells := 0, slots := 0, locals := 69 } : Room) #[(.ref bp), (.int v0), (.int (4 : Int32))] h0 (fun v h L => v = none ∧ Fr n0 L ∧ Keep h0 h [en, b1] ∧ own_P Z h en bp (4 : Int32) (0 : Int32) (4 : Int32) (.ref b1) ∧ Arv Z h b1 k1 .byte (16384 : Int32) ((.int (nar .byte (v0 >>> ((24 : Int32) &&& 31)).toInt8.toInt32)) :: (.int (nar .byte (v0 >>> ((16 : Int32) &&& 31)).toInt8.toInt32)) :: (.int (nar .byte (v0 >>> ((8 : Int32) &&& 31)).toInt8.toInt32)) :: (.int (nar .byte (v0 >>> ((0 : Int32) &&& 31)).toInt8.toInt32)) :: tl) (.int (0 : Int32))) := by
  refine met (Q := fun v h L => v = none ∧ Fr n0 L ∧ Keep h0 h [en, b1] ∧ own_P Z h en bp (4 : Int32) (0 : Int32) (4 : Int32) (.ref b1) ∧ Arv Z h b1 k1 .byte (16384 : Int32) ((.int (nar .byte (v0 >>> ((24 : Int32) &&& 31)).toInt8.toInt32)) :: (.int (nar .byte (v0 >>> ((16 : Int32) &&& 31)).toInt8.toInt32)) :: (.int (nar .byte (v0 >>> ((8 : Int32) &&& 31)).toInt8.toInt32)) :: (.int (nar .byte (v0 >>> ((0 : Int32) &&& 31)).toInt8.toInt32)) :: tl) (.int (0 : Int32))) pf_17 (fun m => ef_rmPAN m bp v0) fun p e s m below meth c T0 P0 => ?_
  have N0 := Fr.nil n0
  have K0 := Keep.refl h0 [en, b1]
  have HWb := HW.1
  obtain ⟨bE1, bP1, bN1, bF1, bC1⟩ := id HWb
  obtain ⟨np1, np2, np3⟩ := NP
  obtain ⟨nq1, nq2, nq3⟩ := NB
  obtain ⟨pE2, pT2, pA2, pC2, pO2, pR2⟩ := id HP
  refine G.aloadN P0 d17_0 rfl rfl (pc' := 1) rfl ?_
  refine G.getF P0 (host := "") (Or.inl (wk hw 53 rfl)) Via.refl bC1 d17_1 (pc' := 4) rfl fun T3 P3 => ?_
  refine G.aloadN P3 d17_4 rfl rfl (pc' := 5) rfl ?_
  refine G.getF P3 (host := "") (Or.inl (wk hw 44 rfl)) Via.refl bN1 d17_5 (pc' := 8) rfl fun T4 P4 => ?_
  refine G.getFR P4 (wk hw 114 rfl) pA2 d17_8 (pc' := 11) rfl ?_
  refine G.isub P4 d17_11 (z := (16392 : Int32)) (by decide) (pc' := 12) rfl ?_
  refine G.iloadN P4 d17_12 rfl (pc' := 13) rfl ?_
  refine G.icmp_ge P4 d17_13 (by decide) (pcY := 23) (by decide) (pcN := 16) rfl (fun c5 => ?_) (fun c5 => absurd c5 (by decide))
  refine G.aloadN P4 d17_23 rfl rfl (pc' := 24) rfl ?_
  refine G.getF P4 (host := "") (Or.inl (wk hw 44 rfl)) Via.refl bN1 d17_24 (pc' := 27) rfl fun T6 P6 => ?_
  refine G.iloadN P6 d17_27 rfl (pc' := 28) rfl ?_
  refine G.iloadN P6 d17_28 rfl (pc' := 29) rfl ?_
  refine G.callV P6 (rmWBN l Z a0 hw bp li en fr ed ke mc b1 b2 en k1 y0 y1 y2 y3 (tl) v0 h0 n0 HW ⟨np1, np2, np3⟩ gp ⟨nq1, nq2, nq3⟩ gp2 ⟨pE2, pT2, pA2, pC2, pO2, pR2⟩ n1 n2 n12 V1) (wk hw 116 rfl) (wk hw 117 rfl) (wk hw 119 rfl) rfl (wk hw 118 rfl) (wk hw 37 rfl) (wk hw 120 rfl) (by decide) pE2 pd_18 (argsL := [(.int v0), (.int (4 : Int32))]) (rest := []) rfl rfl rfl rfl (W := 0) (Nat.le_of_eq rfl) (by decide) d17_29 (pc' := 32) rfl fun T7 L7 v7 P7 Q7 => ?_
  obtain ⟨rfl, N7, K7, HP7, VB7⟩ := Q7
  have N8 := Fr.app N0 N7
  have K9 := K0.trans K7 (allS (Or.inl (List.mem_of_getElem? (i := 0) rfl)) (allS (Or.inl (List.mem_of_getElem? (i := 1) rfl)) all0))
  show Go p e below _ (T7.setTop (mkF m 32 #[.val (.ref bp), .val (.int v0), .val (.int (4 : Int32))] []))
  exact G.retV P7 d17_32 (by decide) (by decide) ⟨rfl, N8, K9, HP7, VB7⟩

theorem ef_rmPIN (m : MethodId) (bp : Addr) (v0 : Int32) : entryFrame m #[(.ref bp), (.int v0)] 4 = mkF m 0 #[.val (.ref bp), .val (.int v0), .unset, .unset] [] := by first | (simp [entryFrame, mkF, argsToLocals, Value.category]; done) | rfl
set_option maxRecDepth 65536 in
set_option maxHeartbeats 40000000 in
theorem rmPIN (l : Launch) (Z : State) (a0 : Array Value) (hw : ∀ d ∈ tables_1, d.before a0 Z = true) (bp li en fr ed : Addr) (ke : ClassId) (mc : Int32) (b1 b2 : Addr) (k1 : ClassId) (y0 y1 y2 y3 : Int32) (tl : List Value) (v0 : Int32) (h0 : Heap) (n0 : Nat) (HW : own_W Z h0 bp li en fr ed ke mc b1 b2) (NP : own_N bp li ed en) (gp : n0 ≤ en) (NB : own_N bp li ed b1) (gp2 : n0 ≤ b1) (HP : own_P Z h0 en bp (0 : Int32) (0 : Int32) (0 : Int32) .null) (n1 : b1 ≠ en) (n2 : b2 ≠ en) (n12 : b1 ≠ b2) (V1 : Arv Z h0 b1 k1 .byte (16384 : Int32) ((.int y0) :: (.int y1) :: (.int y2) :: (.int y3) :: tl) (.int (0 : Int32))) :
    OMeets l Z y15 prog_31_method_10_code 4 none ({ frames := 6, cells := 0, slots := 0, locals := 83 } : Room) #[(.ref bp), (.int v0)] h0 (fun v h L => v = none ∧ Fr n0 L ∧ Keep h0 h [en, b1] ∧ own_P Z h en bp (4 : Int32) (0 : Int32) (4 : Int32) (.ref b1) ∧ Arv Z h b1 k1 .byte (16384 : Int32) ((.int (nar .byte (v0 >>> ((24 : Int32) &&& 31)).toInt8.toInt32)) :: (.int (nar .byte (v0 >>> ((16 : Int32) &&& 31)).toInt8.toInt32)) :: (.int (nar .byte (v0 >>> ((8 : Int32) &&& 31)).toInt8.toInt32)) :: (.int (nar .byte (v0 >>> ((0 : Int32) &&& 31)).toInt8.toInt32)) :: tl) (.int (0 : Int32))) := by
  refine met (Q := fun v h L => v = none ∧ Fr n0 L ∧ Keep h0 h [en, b1] ∧ own_P Z h en bp (4 : Int32) (0 : Int32) (4 : Int32) (.ref b1) ∧ Arv Z h b1 k1 .byte (16384 : Int32) ((.int (nar .byte (v0 >>> ((24 : Int32) &&& 31)).toInt8.toInt32)) :: (.int (nar .byte (v0 >>> ((16 : Int32) &&& 31)).toInt8.toInt32)) :: (.int (nar .byte (v0 >>> ((8 : Int32) &&& 31)).toInt8.toInt32)) :: (.int (nar .byte (v0 >>> ((0 : Int32) &&& 31)).toInt8.toInt32)) :: tl) (.int (0 : Int32))) pf_15 (fun m => ef_rmPIN m bp v0) fun p e s m below meth c T0 P0 => ?_
  have N0 := Fr.nil n0
  have K0 := Keep.refl h0 [en, b1]
  have HWb := HW.1
  obtain ⟨bE1, bP1, bN1, bF1, bC1⟩ := id HWb
  obtain ⟨np1, np2, np3⟩ := NP
  obtain ⟨nq1, nq2, nq3⟩ := NB
  obtain ⟨pE2, pT2, pA2, pC2, pO2, pR2⟩ := id HP
  refine G.aloadN P0 d15_0 rfl rfl (pc' := 1) rfl ?_
  refine G.getF P0 (host := "") (Or.inl (wk hw 44 rfl)) Via.refl bN1 d15_1 (pc' := 4) rfl fun T3 P3 => ?_
  refine G.iconst P3 d15_4 (z := (4 : Int32)) rfl (pc' := 5) rfl ?_
  refine G.callVP P3 (rmPHn l Z a0 hw en bp (0 : Int32) (0 : Int32) (0 : Int32) (4 : Int32) h0 ⟨pE2, pT2, pA2, pC2, pO2, pR2⟩) (wk hw 103 rfl) (wk hw 104 rfl) (wk hw 106 rfl) rfl (wk hw 105 rfl) (wk hw 37 rfl) (wk hw 107 rfl) (by decide) pE2 pd_16 (argsL := [(.int (4 : Int32))]) (rest := []) rfl rfl rfl rfl (W := 0) (Nat.le_of_eq rfl) (by decide) d15_5 (pc' := 8) rfl fun T4 P4 => ?_
  show Go p e below _ (T4.setTop (mkF m 8 #[.val (.ref bp), .val (.int v0), .unset, .unset] [.null]))
  refine G.astoreN P4 d15_8 rfl (l' := #[.val (.ref bp), .val (.int v0), .val .null, .unset]) rfl (pc' := 9) rfl ?_
  refine G.aloadN P4 d15_9 rfl rfl (pc' := 10) rfl ?_
  refine G.ifnonnullN P4 d15_10 (pc' := 13) rfl ?_
  refine G.aloadN P4 d15_13 rfl rfl (pc' := 14) rfl ?_
  refine G.iloadN P4 d15_14 rfl (pc' := 15) rfl ?_
  refine G.iconst P4 d15_15 (z := (4 : Int32)) rfl (pc' := 16) rfl ?_
  refine G.callQ P4 (rmPAN l Z a0 hw bp li en fr ed ke mc b1 b2 k1 y0 y1 y2 y3 (tl) v0 h0 n0 HW ⟨np1, np2, np3⟩ gp ⟨nq1, nq2, nq3⟩ gp2 ⟨pE2, pT2, pA2, pC2, pO2, pR2⟩ n1 n2 n12 V1) (wk hw 110 rfl) (wk hw 111 rfl) (wk hw 51 rfl) rfl (wk hw 112 rfl) (wk hw 2 rfl) (wk hw 113 rfl) (by decide) bE1 pd_17 (argsL := [(.int v0), (.int (4 : Int32))]) (rest := []) rfl rfl rfl rfl (W := 0) (Nat.le_of_eq rfl) (by decide) d15_16 (pc' := 19) rfl fun T5 L5 v5 P5 Q5 => ?_
  obtain ⟨rfl, N5, K5, HP5, VB5⟩ := Q5
  have N6 := Fr.app N0 N5
  have K7 := K0.trans K5 (allS (Or.inl (List.mem_of_getElem? (i := 0) rfl)) (allS (Or.inl (List.mem_of_getElem? (i := 1) rfl)) all0))
  show Go p e below _ (T5.setTop (mkF m 19 #[.val (.ref bp), .val (.int v0), .val .null, .unset] []))
  refine G.goto P5 d15_19 (by decide) (pc' := 73) (by decide) ?_
  exact G.retV P5 d15_73 (by decide) (by decide) ⟨rfl, N6, K7, HP5, VB5⟩

theorem ef_rmTIN (m : MethodId) (bp : Addr) : entryFrame m #[(.ref bp)] 4 = mkF m 0 #[.val (.ref bp), .unset, .unset, .unset] [] := by first | (simp [entryFrame, mkF, argsToLocals, Value.category]; done) | rfl
set_option maxRecDepth 65536 in
set_option maxHeartbeats 40000000 in
theorem rmTIN (l : Launch) (Z : State) (a0 : Array Value) (hw : ∀ d ∈ tables_1, d.before a0 Z = true) (bp li en fr ed : Addr) (ke : ClassId) (mc : Int32) (b1 b2 : Addr) (k1 : ClassId) (y0 y1 y2 y3 : Int32) (tl : List Value) (h0 : Heap) (n0 : Nat) (HW : own_W Z h0 bp li en fr ed ke mc b1 b2) (NP : own_N bp li ed fr) (gp : n0 ≤ fr) (NB : own_N bp li ed b1) (gp2 : n0 ≤ b1) (HP : own_P Z h0 fr bp (0 : Int32) (0 : Int32) (0 : Int32) .null) (n1 : b1 ≠ fr) (n2 : b2 ≠ fr) (n12 : b1 ≠ b2) (V1 : Arv Z h0 b1 k1 .byte (16384 : Int32) ((.int y0) :: (.int y1) :: (.int y2) :: (.int y3) :: tl) (.int (0 : Int32))) :
    OMeets l Z y28 prog_31_method_14_code 4 (some .int) ({ frames := 5, cells := 0, slots := 0, locals := 69 } : Room) #[(.ref bp)] h0 (fun v h L => v = some (.int (own_rd y0 y1 y2 y3)) ∧ Fr n0 L ∧ Keep h0 h [fr] ∧ own_P Z h fr bp (4 : Int32) (0 : Int32) (4 : Int32) (.ref b1)) := by
  refine met (Q := fun v h L => v = some (.int (own_rd y0 y1 y2 y3)) ∧ Fr n0 L ∧ Keep h0 h [fr] ∧ own_P Z h fr bp (4 : Int32) (0 : Int32) (4 : Int32) (.ref b1)) pf_28 (fun m => ef_rmTIN m bp) fun p e s m below meth c T0 P0 => ?_
  have N0 := Fr.nil n0
  have K0 := Keep.refl h0 [fr]
  have HWb := HW.1
  obtain ⟨bE1, bP1, bN1, bF1, bC1⟩ := id HWb
  obtain ⟨np1, np2, np3⟩ := NP
  obtain ⟨nq1, nq2, nq3⟩ := NB
  obtain ⟨pE2, pT2, pA2, pC2, pO2, pR2⟩ := id HP
  refine G.aloadN P0 d28_0 rfl rfl (pc' := 1) rfl ?_
  refine G.getF P0 (host := "") (Or.inl (wk hw 46 rfl)) Via.refl bF1 d28_1 (pc' := 4) rfl fun T3 P3 => ?_
  refine G.iconst P3 d28_4 (z := (4 : Int32)) rfl (pc' := 5) rfl ?_
  refine G.callVP P3 (rmPHn l Z a0 hw fr bp (0 : Int32) (0 : Int32) (0 : Int32) (4 : Int32) h0 ⟨pE2, pT2, pA2, pC2, pO2, pR2⟩) (wk hw 103 rfl) (wk hw 104 rfl) (wk hw 106 rfl) rfl (wk hw 105 rfl) (wk hw 37 rfl) (wk hw 107 rfl) (by decide) pE2 pd_16 (argsL := [(.int (4 : Int32))]) (rest := []) rfl rfl rfl rfl (W := 0) (Nat.le_of_eq rfl) (by decide) d28_5 (pc' := 8) rfl fun T4 P4 => ?_
  show Go p e below _ (T4.setTop (mkF m 8 #[.val (.ref bp), .unset, .unset, .unset] [.null]))
  refine G.astoreN P4 d28_8 rfl (l' := #[.val (.ref bp), .val .null, .unset, .unset]) rfl (pc' := 9) rfl ?_
  refine G.aloadN P4 d28_9 rfl rfl (pc' := 10) rfl ?_
  refine G.ifnonnullN P4 d28_10 (pc' := 13) rfl ?_
  refine G.aloadN P4 d28_13 rfl rfl (pc' := 14) rfl ?_
  refine G.getF P4 (host := "") (Or.inl (wk hw 46 rfl)) Via.refl bF1 d28_14 (pc' := 17) rfl fun T5 P5 => ?_
  refine G.iconst P5 d28_17 (z := (4 : Int32)) rfl (pc' := 18) rfl ?_
  refine G.callV P5 (rmRBN l Z a0 hw bp li en fr ed ke mc b1 b2 fr k1 y0 y1 y2 y3 (tl) h0 n0 HW ⟨np1, np2, np3⟩ gp ⟨nq1, nq2, nq3⟩ gp2 ⟨pE2, pT2, pA2, pC2, pO2, pR2⟩ n1 n2 n12 V1) (wk hw 187 rfl) (wk hw 188 rfl) (wk hw 190 rfl) rfl (wk hw 189 rfl) (wk hw 37 rfl) (wk hw 191 rfl) (by decide) pE2 pd_29 (argsL := [(.int (4 : Int32))]) (rest := []) rfl rfl rfl rfl (W := 0) (Nat.le_of_eq rfl) (by decide) d28_18 (pc' := 21) rfl fun T6 L6 v6 P6 Q6 => ?_
  obtain ⟨rfl, N6, K6, HP6⟩ := Q6
  have N7 := Fr.app N0 N6
  have K8 := K0.trans K6 (allS (Or.inl (List.mem_of_getElem? (i := 0) rfl)) all0)
  show Go p e below _ (T6.setTop (mkF m 21 #[.val (.ref bp), .val .null, .unset, .unset] [(.int (own_rd y0 y1 y2 y3))]))
  refine G.istoreN P6 d28_21 (l' := #[.val (.ref bp), .val .null, .val (.int (own_rd y0 y1 y2 y3)), .unset]) rfl (pc' := 22) rfl ?_
  refine G.goto P6 d28_22 (by decide) (pc' := 84) (by decide) ?_
  refine G.iloadN P6 d28_84 rfl (pc' := 85) rfl ?_
  exact G.retI P6 d28_85 (by decide) (by decide) ⟨rfl, N7, K8, HP6⟩

theorem ef_rmPAX (m : MethodId) (bp : Addr) (v0 : Int32) : entryFrame m #[(.ref bp), (.int v0), (.int (4 : Int32))] 3 = mkF m 0 #[.val (.ref bp), .val (.int v0), .val (.int (4 : Int32))] [] := by first | (simp [entryFrame, mkF, argsToLocals, Value.category]; done) | rfl
set_option maxRecDepth 65536 in
set_option maxHeartbeats 40000000 in
theorem rmPAX (l : Launch) (Z : State) (a0 : Array Value) (hw : ∀ d ∈ tables_1, d.before a0 Z = true) (bp li en fr ed : Addr) (ke : ClassId) (mc : Int32) (b1 b2 : Addr) (k1 : ClassId) (y0 y1 y2 y3 : Int32) (tl : List Value) (kx : ClassId) (vx : List Value) (v0 : Int32) (h0 : Heap) (n0 : Nat) (HW : own_W Z h0 bp li en fr ed ke mc b1 b2) (NP : own_N bp li ed en) (gp : n0 ≤ en) (NB : own_N bp li ed b2) (gp2 : n0 ≤ b2) (HP : own_P Z h0 en bp (16384 : Int32) (0 : Int32) (16384 : Int32) (.ref b1)) (n1 : b1 ≠ en) (n2 : b2 ≠ en) (n12 : b1 ≠ b2) (V1 : Arv Z h0 b1 kx .byte (16384 : Int32) vx (.int (0 : Int32))) (V2 : Arv Z h0 b2 k1 .byte (8 : Int32) ((.int y0) :: (.int y1) :: (.int y2) :: (.int y3) :: tl) (.int (0 : Int32))) :
    OMeets l Z y17 prog_31_method_26_code 3 none ({ frames := 5, cells := 0, slots := 0, locals := 69 } : Room) #[(.ref bp), (.int v0), (.int (4 : Int32))] h0 (fun v h L => v = none ∧ Fr n0 L ∧ Keep h0 h [en, b2] ∧ own_P Z h en bp (16388 : Int32) (1 : Int32) (4 : Int32) (.ref b2) ∧ Arv Z h b2 k1 .byte (8 : Int32) ((.int (nar .byte (v0 >>> ((24 : Int32) &&& 31)).toInt8.toInt32)) :: (.int (nar .byte (v0 >>> ((16 : Int32) &&& 31)).toInt8.toInt32)) :: (.int (nar .byte (v0 >>> ((8 : Int32) &&& 31)).toInt8.toInt32)) :: (.int (nar .byte (v0 >>> ((0 : Int32) &&& 31)).toInt8.toInt32)) :: tl) (.int (0 : Int32))) := by
  refine met (Q := fun v h L => v = none ∧ Fr n0 L ∧ Keep h0 h [en, b2] ∧ own_P Z h en bp (16388 : Int32) (1 : Int32) (4 : Int32) (.ref b2) ∧ Arv Z h b2 k1 .byte (8 : Int32) ((.int (nar .byte (v0 >>> ((24 : Int32) &&& 31)).toInt8.toInt32)) :: (.int (nar .byte (v0 >>> ((16 : Int32) &&& 31)).toInt8.toInt32)) :: (.int (nar .byte (v0 >>> ((8 : Int32) &&& 31)).toInt8.toInt32)) :: (.int (nar .byte (v0 >>> ((0 : Int32) &&& 31)).toInt8.toInt32)) :: tl) (.int (0 : Int32))) pf_17 (fun m => ef_rmPAX m bp v0) fun p e s m below meth c T0 P0 => ?_
  have N0 := Fr.nil n0
  have K0 := Keep.refl h0 [en, b2]
  have HWb := HW.1
  obtain ⟨bE1, bP1, bN1, bF1, bC1⟩ := id HWb
  obtain ⟨np1, np2, np3⟩ := NP
  obtain ⟨nq1, nq2, nq3⟩ := NB
  obtain ⟨pE2, pT2, pA2, pC2, pO2, pR2⟩ := id HP
  refine G.aloadN P0 d17_0 rfl rfl (pc' := 1) rfl ?_
  refine G.getF P0 (host := "") (Or.inl (wk hw 53 rfl)) Via.refl bC1 d17_1 (pc' := 4) rfl fun T3 P3 => ?_
  refine G.aloadN P3 d17_4 rfl rfl (pc' := 5) rfl ?_
  refine G.getF P3 (host := "") (Or.inl (wk hw 44 rfl)) Via.refl bN1 d17_5 (pc' := 8) rfl fun T4 P4 => ?_
  refine G.getFR P4 (wk hw 114 rfl) pA2 d17_8 (pc' := 11) rfl ?_
  refine G.isub P4 d17_11 (z := (8 : Int32)) (by decide) (pc' := 12) rfl ?_
  refine G.iloadN P4 d17_12 rfl (pc' := 13) rfl ?_
  refine G.icmp_ge P4 d17_13 (by decide) (pcY := 23) (by decide) (pcN := 16) rfl (fun c5 => ?_) (fun c5 => absurd c5 (by decide))
  refine G.aloadN P4 d17_23 rfl rfl (pc' := 24) rfl ?_
  refine G.getF P4 (host := "") (Or.inl (wk hw 44 rfl)) Via.refl bN1 d17_24 (pc' := 27) rfl fun T6 P6 => ?_
  refine G.iloadN P6 d17_27 rfl (pc' := 28) rfl ?_
  refine G.iloadN P6 d17_28 rfl (pc' := 29) rfl ?_
  refine G.callV P6 (rmWBX l Z a0 hw bp li en fr ed ke mc b1 b2 en k1 y0 y1 y2 y3 (tl) kx _ v0 h0 n0 HW ⟨np1, np2, np3⟩ gp ⟨nq1, nq2, nq3⟩ gp2 ⟨pE2, pT2, pA2, pC2, pO2, pR2⟩ n1 n2 n12 V1 V2) (wk hw 116 rfl) (wk hw 117 rfl) (wk hw 119 rfl) rfl (wk hw 118 rfl) (wk hw 37 rfl) (wk hw 120 rfl) (by decide) pE2 pd_18 (argsL := [(.int v0), (.int (4 : Int32))]) (rest := []) rfl rfl rfl rfl (W := 0) (Nat.le_of_eq rfl) (by decide) d17_29 (pc' := 32) rfl fun T7 L7 v7 P7 Q7 => ?_
  obtain ⟨rfl, N7, K7, HP7, VB7⟩ := Q7
  have N8 := Fr.app N0 N7
  have K9 := K0.trans K7 (allS (Or.inl (List.mem_of_getElem? (i := 0) rfl)) (allS (Or.inl (List.mem_of_getElem? (i := 1) rfl)) all0))
  show Go p e below _ (T7.setTop (mkF m 32 #[.val (.ref bp), .val (.int v0), .val (.int (4 : Int32))] []))
  exact G.retV P7 d17_32 (by decide) (by decide) ⟨rfl, N8, K9, HP7, VB7⟩

theorem ef_rmPIX (m : MethodId) (bp : Addr) (v0 : Int32) : entryFrame m #[(.ref bp), (.int v0)] 4 = mkF m 0 #[.val (.ref bp), .val (.int v0), .unset, .unset] [] := by first | (simp [entryFrame, mkF, argsToLocals, Value.category]; done) | rfl
set_option maxRecDepth 65536 in
set_option maxHeartbeats 40000000 in
theorem rmPIX (l : Launch) (Z : State) (a0 : Array Value) (hw : ∀ d ∈ tables_1, d.before a0 Z = true) (bp li en fr ed : Addr) (ke : ClassId) (mc : Int32) (b1 b2 : Addr) (k1 : ClassId) (y0 y1 y2 y3 : Int32) (tl : List Value) (kx : ClassId) (vx : List Value) (v0 : Int32) (h0 : Heap) (n0 : Nat) (HW : own_W Z h0 bp li en fr ed ke mc b1 b2) (NP : own_N bp li ed en) (gp : n0 ≤ en) (NB : own_N bp li ed b2) (gp2 : n0 ≤ b2) (HP : own_P Z h0 en bp (16384 : Int32) (0 : Int32) (16384 : Int32) (.ref b1)) (n1 : b1 ≠ en) (n2 : b2 ≠ en) (n12 : b1 ≠ b2) (V1 : Arv Z h0 b1 kx .byte (16384 : Int32) vx (.int (0 : Int32))) (V2 : Arv Z h0 b2 k1 .byte (8 : Int32) ((.int y0) :: (.int y1) :: (.int y2) :: (.int y3) :: tl) (.int (0 : Int32))) :
    OMeets l Z y15 prog_31_method_10_code 4 none ({ frames := 6, cells := 0, slots := 0, locals := 83 } : Room) #[(.ref bp), (.int v0)] h0 (fun v h L => v = none ∧ Fr n0 L ∧ Keep h0 h [en, b2] ∧ own_P Z h en bp (16388 : Int32) (1 : Int32) (4 : Int32) (.ref b2) ∧ Arv Z h b2 k1 .byte (8 : Int32) ((.int (nar .byte (v0 >>> ((24 : Int32) &&& 31)).toInt8.toInt32)) :: (.int (nar .byte (v0 >>> ((16 : Int32) &&& 31)).toInt8.toInt32)) :: (.int (nar .byte (v0 >>> ((8 : Int32) &&& 31)).toInt8.toInt32)) :: (.int (nar .byte (v0 >>> ((0 : Int32) &&& 31)).toInt8.toInt32)) :: tl) (.int (0 : Int32))) := by
  refine met (Q := fun v h L => v = none ∧ Fr n0 L ∧ Keep h0 h [en, b2] ∧ own_P Z h en bp (16388 : Int32) (1 : Int32) (4 : Int32) (.ref b2) ∧ Arv Z h b2 k1 .byte (8 : Int32) ((.int (nar .byte (v0 >>> ((24 : Int32) &&& 31)).toInt8.toInt32)) :: (.int (nar .byte (v0 >>> ((16 : Int32) &&& 31)).toInt8.toInt32)) :: (.int (nar .byte (v0 >>> ((8 : Int32) &&& 31)).toInt8.toInt32)) :: (.int (nar .byte (v0 >>> ((0 : Int32) &&& 31)).toInt8.toInt32)) :: tl) (.int (0 : Int32))) pf_15 (fun m => ef_rmPIX m bp v0) fun p e s m below meth c T0 P0 => ?_
  have N0 := Fr.nil n0
  have K0 := Keep.refl h0 [en, b2]
  have HWb := HW.1
  obtain ⟨bE1, bP1, bN1, bF1, bC1⟩ := id HWb
  obtain ⟨np1, np2, np3⟩ := NP
  obtain ⟨nq1, nq2, nq3⟩ := NB
  obtain ⟨pE2, pT2, pA2, pC2, pO2, pR2⟩ := id HP
  refine G.aloadN P0 d15_0 rfl rfl (pc' := 1) rfl ?_
  refine G.getF P0 (host := "") (Or.inl (wk hw 44 rfl)) Via.refl bN1 d15_1 (pc' := 4) rfl fun T3 P3 => ?_
  refine G.iconst P3 d15_4 (z := (4 : Int32)) rfl (pc' := 5) rfl ?_
  refine G.callVP P3 (rmPHx l Z a0 hw en bp b1 (16384 : Int32) (0 : Int32) (16384 : Int32) (16384 : Int32) (4 : Int32) kx _ h0 ⟨pE2, pT2, pA2, pC2, pO2, pR2⟩ V1 (by decide)) (wk hw 103 rfl) (wk hw 104 rfl) (wk hw 106 rfl) rfl (wk hw 105 rfl) (wk hw 37 rfl) (wk hw 107 rfl) (by decide) pE2 pd_16 (argsL := [(.int (4 : Int32))]) (rest := []) rfl rfl rfl rfl (W := 0) (Nat.le_of_eq rfl) (by decide) d15_5 (pc' := 8) rfl fun T4 P4 => ?_
  show Go p e below _ (T4.setTop (mkF m 8 #[.val (.ref bp), .val (.int v0), .unset, .unset] [.null]))
  refine G.astoreN P4 d15_8 rfl (l' := #[.val (.ref bp), .val (.int v0), .val .null, .unset]) rfl (pc' := 9) rfl ?_
  refine G.aloadN P4 d15_9 rfl rfl (pc' := 10) rfl ?_
  refine G.ifnonnullN P4 d15_10 (pc' := 13) rfl ?_
  refine G.aloadN P4 d15_13 rfl rfl (pc' := 14) rfl ?_
  refine G.iloadN P4 d15_14 rfl (pc' := 15) rfl ?_
  refine G.iconst P4 d15_15 (z := (4 : Int32)) rfl (pc' := 16) rfl ?_
  refine G.callQ P4 (rmPAX l Z a0 hw bp li en fr ed ke mc b1 b2 k1 y0 y1 y2 y3 (tl) kx _ v0 h0 n0 HW ⟨np1, np2, np3⟩ gp ⟨nq1, nq2, nq3⟩ gp2 ⟨pE2, pT2, pA2, pC2, pO2, pR2⟩ n1 n2 n12 V1 V2) (wk hw 110 rfl) (wk hw 111 rfl) (wk hw 51 rfl) rfl (wk hw 112 rfl) (wk hw 2 rfl) (wk hw 113 rfl) (by decide) bE1 pd_17 (argsL := [(.int v0), (.int (4 : Int32))]) (rest := []) rfl rfl rfl rfl (W := 0) (Nat.le_of_eq rfl) (by decide) d15_16 (pc' := 19) rfl fun T5 L5 v5 P5 Q5 => ?_
  obtain ⟨rfl, N5, K5, HP5, VB5⟩ := Q5
  have N6 := Fr.app N0 N5
  have K7 := K0.trans K5 (allS (Or.inl (List.mem_of_getElem? (i := 0) rfl)) (allS (Or.inl (List.mem_of_getElem? (i := 1) rfl)) all0))
  show Go p e below _ (T5.setTop (mkF m 19 #[.val (.ref bp), .val (.int v0), .val .null, .unset] []))
  refine G.goto P5 d15_19 (by decide) (pc' := 73) (by decide) ?_
  exact G.retV P5 d15_73 (by decide) (by decide) ⟨rfl, N6, K7, HP5, VB5⟩

theorem ef_rmTIX (m : MethodId) (bp : Addr) : entryFrame m #[(.ref bp)] 4 = mkF m 0 #[.val (.ref bp), .unset, .unset, .unset] [] := by first | (simp [entryFrame, mkF, argsToLocals, Value.category]; done) | rfl
set_option maxRecDepth 65536 in
set_option maxHeartbeats 40000000 in
theorem rmTIX (l : Launch) (Z : State) (a0 : Array Value) (hw : ∀ d ∈ tables_1, d.before a0 Z = true) (bp li en fr ed : Addr) (ke : ClassId) (mc : Int32) (b1 b2 : Addr) (k1 : ClassId) (y0 y1 y2 y3 : Int32) (tl : List Value) (kx : ClassId) (vx : List Value) (h0 : Heap) (n0 : Nat) (HW : own_W Z h0 bp li en fr ed ke mc b1 b2) (NP : own_N bp li ed fr) (gp : n0 ≤ fr) (NB : own_N bp li ed b2) (gp2 : n0 ≤ b2) (HP : own_P Z h0 fr bp (16384 : Int32) (0 : Int32) (16384 : Int32) (.ref b1)) (n1 : b1 ≠ fr) (n2 : b2 ≠ fr) (n12 : b1 ≠ b2) (V1 : Arv Z h0 b1 kx .byte (16384 : Int32) vx (.int (0 : Int32))) (V2 : Arv Z h0 b2 k1 .byte (8 : Int32) ((.int y0) :: (.int y1) :: (.int y2) :: (.int y3) :: tl) (.int (0 : Int32))) :
    OMeets l Z y28 prog_31_method_14_code 4 (some .int) ({ frames := 5, cells := 0, slots := 0, locals := 69 } : Room) #[(.ref bp)] h0 (fun v h L => v = some (.int (own_rd y0 y1 y2 y3)) ∧ Fr n0 L ∧ Keep h0 h [fr] ∧ own_P Z h fr bp (16388 : Int32) (1 : Int32) (4 : Int32) (.ref b2)) := by
  refine met (Q := fun v h L => v = some (.int (own_rd y0 y1 y2 y3)) ∧ Fr n0 L ∧ Keep h0 h [fr] ∧ own_P Z h fr bp (16388 : Int32) (1 : Int32) (4 : Int32) (.ref b2)) pf_28 (fun m => ef_rmTIX m bp) fun p e s m below meth c T0 P0 => ?_
  have N0 := Fr.nil n0
  have K0 := Keep.refl h0 [fr]
  have HWb := HW.1
  obtain ⟨bE1, bP1, bN1, bF1, bC1⟩ := id HWb
  obtain ⟨np1, np2, np3⟩ := NP
  obtain ⟨nq1, nq2, nq3⟩ := NB
  obtain ⟨pE2, pT2, pA2, pC2, pO2, pR2⟩ := id HP
  refine G.aloadN P0 d28_0 rfl rfl (pc' := 1) rfl ?_
  refine G.getF P0 (host := "") (Or.inl (wk hw 46 rfl)) Via.refl bF1 d28_1 (pc' := 4) rfl fun T3 P3 => ?_
  refine G.iconst P3 d28_4 (z := (4 : Int32)) rfl (pc' := 5) rfl ?_
  refine G.callVP P3 (rmPHx l Z a0 hw fr bp b1 (16384 : Int32) (0 : Int32) (16384 : Int32) (16384 : Int32) (4 : Int32) kx _ h0 ⟨pE2, pT2, pA2, pC2, pO2, pR2⟩ V1 (by decide)) (wk hw 103 rfl) (wk hw 104 rfl) (wk hw 106 rfl) rfl (wk hw 105 rfl) (wk hw 37 rfl) (wk hw 107 rfl) (by decide) pE2 pd_16 (argsL := [(.int (4 : Int32))]) (rest := []) rfl rfl rfl rfl (W := 0) (Nat.le_of_eq rfl) (by decide) d28_5 (pc' := 8) rfl fun T4 P4 => ?_
  show Go p e below _ (T4.setTop (mkF m 8 #[.val (.ref bp), .unset, .unset, .unset] [.null]))
  refine G.astoreN P4 d28_8 rfl (l' := #[.val (.ref bp), .val .null, .unset, .unset]) rfl (pc' := 9) rfl ?_
  refine G.aloadN P4 d28_9 rfl rfl (pc' := 10) rfl ?_
  refine G.ifnonnullN P4 d28_10 (pc' := 13) rfl ?_
  refine G.aloadN P4 d28_13 rfl rfl (pc' := 14) rfl ?_
  refine G.getF P4 (host := "") (Or.inl (wk hw 46 rfl)) Via.refl bF1 d28_14 (pc' := 17) rfl fun T5 P5 => ?_
  refine G.iconst P5 d28_17 (z := (4 : Int32)) rfl (pc' := 18) rfl ?_
  refine G.callV P5 (rmRBX l Z a0 hw bp li en fr ed ke mc b1 b2 fr k1 y0 y1 y2 y3 (tl) kx _ h0 n0 HW ⟨np1, np2, np3⟩ gp ⟨nq1, nq2, nq3⟩ gp2 ⟨pE2, pT2, pA2, pC2, pO2, pR2⟩ n1 n2 n12 V1 V2) (wk hw 187 rfl) (wk hw 188 rfl) (wk hw 190 rfl) rfl (wk hw 189 rfl) (wk hw 37 rfl) (wk hw 191 rfl) (by decide) pE2 pd_29 (argsL := [(.int (4 : Int32))]) (rest := []) rfl rfl rfl rfl (W := 0) (Nat.le_of_eq rfl) (by decide) d28_18 (pc' := 21) rfl fun T6 L6 v6 P6 Q6 => ?_
  obtain ⟨rfl, N6, K6, HP6⟩ := Q6
  have N7 := Fr.app N0 N6
  have K8 := K0.trans K6 (allS (Or.inl (List.mem_of_getElem? (i := 0) rfl)) all0)
  show Go p e below _ (T6.setTop (mkF m 21 #[.val (.ref bp), .val .null, .unset, .unset] [(.int (own_rd y0 y1 y2 y3))]))
  refine G.istoreN P6 d28_21 (l' := #[.val (.ref bp), .val .null, .val (.int (own_rd y0 y1 y2 y3)), .unset]) rfl (pc' := 22) rfl ?_
  refine G.goto P6 d28_22 (by decide) (pc' := 84) (by decide) ?_
  refine G.iloadN P6 d28_84 rfl (pc' := 85) rfl ?_
  exact G.retI P6 d28_85 (by decide) (by decide) ⟨rfl, N7, K8, HP6⟩

theorem own_hl4 {a b c d : Value} {tl : List Value} (q : tl.length = 16380) : (4 : Int32).toNatClampNeg + (16380 : Int32).toNatClampNeg ≤ (a :: b :: c :: d :: tl).length := by
  have e1 : (4 : Int32).toNatClampNeg = 4 := by decide
  have e2 : (16380 : Int32).toNatClampNeg = 16380 := by decide
  rw [e1, e2]
  show 4 + 16380 ≤ tl.length + 1 + 1 + 1 + 1
  omega
theorem own_cp {y0 y1 y2 y3 : Value} {tl us D : List Value} {n : Nat} (hn : n = 4) : (y0 :: y1 :: y2 :: y3 :: tl).take n ++ us ++ D = y0 :: y1 :: y2 :: y3 :: (us ++ D) := by
  subst hn; rfl

theorem ef_rmPut (m : MethodId) (bp ar : Addr) : entryFrame m #[(.ref bp), (.ref ar)] 3 = mkF m 0 #[.val (.ref bp), .val (.ref ar), .unset] [] := by first | (simp [entryFrame, mkF, argsToLocals, Value.category]; done) | rfl
set_option maxRecDepth 65536 in
set_option maxHeartbeats 40000000 in
theorem rmPut (l : Launch) (Z : State) (a0 : Array Value) (hw : ∀ d ∈ tables_1, d.before a0 Z = true) (bp li en fr ed : Addr) (ke : ClassId) (mc : Int32) (b1 b2 : Addr) (ar : Addr) (kc k1 : ClassId) (y0 y1 y2 y3 : Int32) (tl : List Value) (h0 : Heap) (n0 : Nat) (HW : own_W Z h0 bp li en fr ed ke mc b1 b2) (NP : own_N bp li ed en) (gp : n0 ≤ en) (NB : own_N bp li ed b1) (gp2 : n0 ≤ b1) (HP : own_P Z h0 en bp (4 : Int32) (0 : Int32) (4 : Int32) (.ref b1)) (n1 : b1 ≠ en) (nc : ar ≠ b1) (VC : Arv Z h0 ar kc .byte (16380 : Int32) [] (.int (0 : Int32))) (V1 : Arv Z h0 b1 k1 .byte (16384 : Int32) ((.int y0) :: (.int y1) :: (.int y2) :: (.int y3) :: tl) (.int (0 : Int32))) (htl : tl.length = 16380) :
    OMeets l Z y25 prog_31_method_11_code 3 none ({ frames := 1, cells := 0, slots := 0, locals := 18 } : Room) #[(.ref bp), (.ref ar)] h0 (fun v h L => v = none ∧ Fr n0 L ∧ Keep h0 h [en, b1] ∧ own_P Z h en bp (16384 : Int32) (0 : Int32) (16384 : Int32) (.ref b1) ∧ ∃ tl', Arv Z h b1 k1 .byte (16384 : Int32) ((.int y0) :: (.int y1) :: (.int y2) :: (.int y3) :: tl') (.int (0 : Int32))) := by
  refine met (Q := fun v h L => v = none ∧ Fr n0 L ∧ Keep h0 h [en, b1] ∧ own_P Z h en bp (16384 : Int32) (0 : Int32) (16384 : Int32) (.ref b1) ∧ ∃ tl', Arv Z h b1 k1 .byte (16384 : Int32) ((.int y0) :: (.int y1) :: (.int y2) :: (.int y3) :: tl') (.int (0 : Int32))) pf_25 (fun m => ef_rmPut m bp ar) fun p e s m below meth c T0 P0 => ?_
  have N0 := Fr.nil n0
  have K0 := Keep.refl h0 [en, b1]
  have HWb := HW.1
  obtain ⟨bE1, bP1, bN1, bF1, bC1⟩ := id HWb
  obtain ⟨np1, np2, np3⟩ := NP
  obtain ⟨nq1, nq2, nq3⟩ := NB
  obtain ⟨pE2, pT2, pA2, pC2, pO2, pR2⟩ := id HP
  refine G.aloadN P0 d25_0 rfl rfl (pc' := 1) rfl ?_
  refine G.getF P0 (host := "") (Or.inl (wk hw 44 rfl)) Via.refl bN1 d25_1 (pc' := 4) rfl fun T3 P3 => ?_
  refine G.aloadN P3 d25_4 rfl rfl (pc' := 5) rfl ?_
  refine G.alen P3 VC d25_5 (pc' := 6) rfl ?_
  refine G.callVP P3 (rmPHy l Z a0 hw en bp b1 (4 : Int32) (0 : Int32) (4 : Int32) (16384 : Int32) (16380 : Int32) k1 _ h0 ⟨pE2, pT2, pA2, pC2, pO2, pR2⟩ V1 (by decide)) (wk hw 103 rfl) (wk hw 104 rfl) (wk hw 106 rfl) rfl (wk hw 105 rfl) (wk hw 37 rfl) (wk hw 107 rfl) (by decide) pE2 pd_16 (argsL := [(.int (16380 : Int32))]) (rest := []) rfl rfl rfl rfl (W := 0) (Nat.le_of_eq rfl) (by decide) d25_6 (pc' := 9) rfl fun T4 P4 => ?_
  show Go p e below _ (T4.setTop (mkF m 9 #[.val (.ref bp), .val (.ref ar), .unset] [(.ref b1)]))
  refine G.astoreN P4 d25_9 rfl (l' := #[.val (.ref bp), .val (.ref ar), .val (.ref b1)]) rfl (pc' := 10) rfl ?_
  refine G.aloadN P4 d25_10 rfl rfl (pc' := 11) rfl ?_
  refine G.ifnonnullY P4 d25_11 (by decide) (pc' := 22) (by decide) ?_
  refine G.aloadN P4 d25_22 rfl rfl (pc' := 23) rfl ?_
  refine G.iconst P4 d25_23 (z := (0 : Int32)) rfl (pc' := 24) rfl ?_
  refine G.aloadN P4 d25_24 rfl rfl (pc' := 25) rfl ?_
  refine G.aloadN P4 d25_25 rfl rfl (pc' := 26) rfl ?_
  refine G.getF P4 (host := "") (Or.inl (wk hw 44 rfl)) Via.refl bN1 d25_26 (pc' := 29) rfl fun T5 P5 => ?_
  refine G.getFR P5 (wk hw 165 rfl) pO2 d25_29 (pc' := 32) rfl ?_
  refine G.aloadN P5 d25_32 rfl rfl (pc' := 33) rfl ?_
  refine G.alen P5 VC d25_33 (pc' := 34) rfl ?_
  refine G.acopy P5 (wk hw 166 rfl) (wk hw 169 rfl) (wk hw 167 rfl) (wk hw 168 rfl) VC V1 (sp := (0 : Int32)) (dp := (4 : Int32)) (nn := (16380 : Int32)) (Or.inl ⟨rfl, rfl⟩) (by decide) (by decide) (by decide) (by decide) (by decide) rfl (own_hl4 htl) N0 gp2 rfl (W := 0) (Nat.le_of_eq rfl) (by decide) d25_34 (pc' := 37) rfl fun T6 h6 L6 P6 N6 K6 V6 => ?_
  have K7 := K0.trans K6 (allS (Or.inl (List.mem_of_getElem? (i := 1) rfl)) all0)
  rw [own_cp (by decide)] at V6
  refine G.aloadN P6 d25_37 rfl rfl (pc' := 38) rfl ?_
  have f8 := (bN1.keep K6 (ninS nq1 nin0))
  refine G.getF P6 (host := "") (Or.inl (wk hw 44 rfl)) Via.refl f8 d25_38 (pc' := 41) rfl fun T9 P9 => ?_
  refine G.aloadN P9 d25_41 rfl rfl (pc' := 42) rfl ?_
  have f10 := (VC.keep K6 (ninS nc nin0))
  refine G.alen P9 f10 d25_42 (pc' := 43) rfl ?_
  have f11 := (pE2.keep K6)
  have f12 := (pT2.keep K6 (ninS (Ne.symm n1) nin0))
  have f13 := (pA2.keep K6 (ninS (Ne.symm n1) nin0))
  have f14 := (pC2.keep K6 (ninS (Ne.symm n1) nin0))
  have f15 := (pO2.keep K6 (ninS (Ne.symm n1) nin0))
  have f16 := (pR2.keep K6 (ninS (Ne.symm n1) nin0))
  refine G.callV P9 (rmPass l Z a0 hw en bp (4 : Int32) (0 : Int32) (4 : Int32) (16380 : Int32) (.ref b1) (16384 : Int32) (16384 : Int32) h6 n0 gp ⟨f11, f12, f13, f14, f15, f16⟩ (by decide) (by decide)) (wk hw 170 rfl) (wk hw 155 rfl) (wk hw 157 rfl) rfl (wk hw 156 rfl) (wk hw 37 rfl) (wk hw 158 rfl) (by decide) f11 pd_24 (argsL := [(.int (16380 : Int32))]) (rest := []) rfl rfl rfl rfl (W := 0) (Nat.le_of_eq rfl) (by decide) d25_43 (pc' := 46) rfl fun T17 L17 v17 P17 Q17 => ?_
  obtain ⟨rfl, N17, K17, HP17⟩ := Q17
  have N18 := Fr.app N6 N17
  have K19 := K7.trans K17 (allS (Or.inl (List.mem_of_getElem? (i := 0) rfl)) all0)
  show Go p e below _ (T17.setTop (mkF m 46 #[.val (.ref bp), .val (.ref ar), .val (.ref b1)] []))
  obtain ⟨pE20, pT20, pA20, pC20, pO20, pR20⟩ := id HP17
  have f21 := (V6.keep K17 (ninS n1 nin0))
  exact G.retV P17 d25_46 (by decide) (by decide) ⟨rfl, N18, K19, ⟨pE20, pT20, pA20, pC20, pO20, pR20⟩, _, f21⟩

theorem ef_rmMv16384 (m : MethodId) (pl : Addr) : entryFrame m #[(.ref pl), (.int (16384 : Int32))] 4 = mkF m 0 #[.val (.ref pl), .val (.int (16384 : Int32)), .unset, .unset] [] := by first | (simp [entryFrame, mkF, argsToLocals, Value.category]; done) | rfl
set_option maxRecDepth 65536 in
set_option maxHeartbeats 40000000 in
theorem rmMv16384 (l : Launch) (Z : State) (a0 : Array Value) (hw : ∀ d ∈ tables_1, d.before a0 Z = true) (bp li en fr ed : Addr) (ke : ClassId) (mc : Int32) (b1 b2 : Addr) (pl : Addr) (k1 : ClassId) (vs1 : List Value) (k2 : ClassId) (vs2 : List Value) (h0 : Heap) (n0 : Nat) (HW : own_W Z h0 bp li en fr ed ke mc b1 b2) (NP : own_N bp li ed pl) (gp : n0 ≤ pl) (HP : own_P Z h0 pl bp (0 : Int32) (0 : Int32) (0 : Int32) .null) (V1 : Arv Z h0 b1 k1 .byte (16384 : Int32) vs1 (.int (0 : Int32))) (n1 : b1 ≠ pl) (V2 : Arv Z h0 b2 k2 .byte (8 : Int32) vs2 (.int (0 : Int32))) (n2 : b2 ≠ pl) :
    OMeets l Z y27 prog_33_method_8_code 4 none ({ frames := 4, cells := 0, slots := 0, locals := 53 } : Room) #[(.ref pl), (.int (16384 : Int32))] h0 (fun v h L => v = none ∧ Fr n0 L ∧ Keep h0 h [pl] ∧ own_P Z h pl bp (16384 : Int32) (0 : Int32) (16384 : Int32) (.ref b1)) := by
  refine met (Q := fun v h L => v = none ∧ Fr n0 L ∧ Keep h0 h [pl] ∧ own_P Z h pl bp (16384 : Int32) (0 : Int32) (16384 : Int32) (.ref b1)) pf_27 (fun m => ef_rmMv16384 m pl) fun p e s m below meth c T0 P0 => ?_
  have N0 := Fr.nil n0
  have K0 := Keep.refl h0 [pl]
  obtain ⟨np1, np2, np3⟩ := NP
  obtain ⟨pE1, pT1, pA1, pC1, pO1, pR1⟩ := id HP
  refine G.aloadN P0 d27_0 rfl rfl (pc' := 1) rfl ?_
  refine G.dup P0 d27_1 rfl (pc' := 2) rfl ?_
  refine G.getF P0 (host := "") (Or.inl (wk hw 159 rfl)) Via.refl pA1 d27_2 (pc' := 5) rfl fun T2 P2 => ?_
  refine G.iloadN P2 d27_5 rfl (pc' := 6) rfl ?_
  refine G.iadd P2 d27_6 (z := (16384 : Int32)) (by decide) (pc' := 7) rfl ?_
  refine G.putF P2 (host := "") (Or.inl (wk hw 159 rfl)) Via.refl pA1 pE1 (Or.inl (wk hw 115 rfl)) (wk hw 36 rfl) (ty := .int) (by decide) rfl rfl d27_7 (pc' := 10) rfl fun T3 h3 P3 W3 => ?_
  have f3 := pA1.same W3
  have N4 := Fr.snoc P3.st N0 gp
  have K5 := K0.wr W3 (Or.inl (List.mem_of_getElem? (i := 0) rfl))
  refine G.iloadN P3 d27_10 rfl (pc' := 11) rfl ?_
  refine G.istoreN P3 d27_11 (l' := #[.val (.ref pl), .val (.int (16384 : Int32)), .val (.int (16384 : Int32)), .unset]) rfl (pc' := 12) rfl ?_
  refine G.iloadN P3 d27_12 rfl (pc' := 13) rfl ?_
  refine G.if_le P3 d27_13 (by decide) (pcY := 48) (by decide) (pcN := 16) rfl (fun c6 => absurd c6 (by decide)) (fun c6 => ?_)
  refine G.aloadN P3 d27_16 rfl rfl (pc' := 17) rfl ?_
  have f7 := (pE1.wr W3)
  have f8 := (pT1.other W3 (Or.inr (slot_ne (Or.inr (wk hw 42 rfl)) (Or.inl (wk hw 115 rfl)) (by decide) (t := (.object "com/example/overuse_to_delay/overusetodelay/gateway/BytePieces")) (t' := .int) (by decide) (by decide))))
  have f9 := (pC1.other W3 (Or.inr (slot_ne (Or.inl (wk hw 128 rfl)) (Or.inl (wk hw 115 rfl)) (by decide) (t := .int) (t' := .int) (by decide) (by decide))))
  have f10 := (pO1.other W3 (Or.inr (slot_ne (Or.inl (wk hw 153 rfl)) (Or.inl (wk hw 115 rfl)) (by decide) (t := .int) (t' := .int) (by decide) (by decide))))
  have f11 := (pR1.other W3 (Or.inr (slot_ne (Or.inl (wk hw 109 rfl)) (Or.inl (wk hw 115 rfl)) (by decide) (t := (.array .byte)) (t' := .int) (by decide) (by decide))))
  have f12 := (HW.keep (Keep.of_wr W3) (ninS np1 nin0) (ninS np2 nin0) (ninS np3 nin0))
  have f13 := (V1.other W3 n1)
  refine G.callV P3 (rmPcN l Z a0 hw bp li en fr ed ke mc b1 b2 pl (16384 : Int32) k1 _ h3 n0 f12 (⟨np1, np2, np3⟩) gp ⟨f7, f8, f3, f9, f10, f11⟩ f13 n1) (wk hw 121 rfl) (wk hw 122 rfl) (wk hw 124 rfl) rfl (wk hw 123 rfl) (wk hw 37 rfl) (wk hw 125 rfl) (by decide) f7 pd_19 (argsL := []) (rest := []) rfl rfl rfl rfl (W := 0) (Nat.le_of_eq rfl) (by decide) d27_17 (pc' := 20) rfl fun T14 L14 v14 P14 Q14 => ?_
  obtain ⟨rfl, N14, K14, HP14⟩ := Q14
  have N15 := Fr.app N4 N14
  have K16 := K5.trans K14 (allS (Or.inl (List.mem_of_getElem? (i := 0) rfl)) all0)
  show Go p e below _ (T14.setTop (mkF m 20 #[.val (.ref pl), .val (.int (16384 : Int32)), .val (.int (16384 : Int32)), .unset] [(.ref b1)]))
  obtain ⟨pE17, pT17, pA17, pC17, pO17, pR17⟩ := id HP14
  have f18 := (f13.keep K14 (ninS n1 nin0))
  refine G.alen P14 f18 d27_20 (pc' := 21) rfl ?_
  refine G.aloadN P14 d27_21 rfl rfl (pc' := 22) rfl ?_
  refine G.getF P14 (host := "") (Or.inl (wk hw 152 rfl)) Via.refl pO17 d27_22 (pc' := 25) rfl fun T19 P19 => ?_
  refine G.isub P19 d27_25 (z := (16384 : Int32)) (by decide) (pc' := 26) rfl ?_
  refine G.iloadN P19 d27_26 rfl (pc' := 27) rfl ?_
  refine G.callSP P19 (rmMin l Z a0 hw (16384 : Int32) (16384 : Int32) T14.heap) (wk hw 181 rfl) (wk hw 56 rfl) (wk hw 57 rfl) (wk hw 58 rfl) (by decide) pd_8 (argsL := [(.int (16384 : Int32)), (.int (16384 : Int32))]) (rest := []) rfl rfl rfl rfl (W := 0) (Nat.le_of_eq rfl) (by decide) d27_27 (pc' := 30) rfl fun T20 P20 => ?_
  show Go p e below _ (T20.setTop (mkF m 30 #[.val (.ref pl), .val (.int (16384 : Int32)), .val (.int (16384 : Int32)), .unset] [(.int (own_min (16384 : Int32) (16384 : Int32)))]))
  rw [show own_min (16384 : Int32) (16384 : Int32) = (16384 : Int32) from by decide]
  refine G.istoreN P20 d27_30 (l' := #[.val (.ref pl), .val (.int (16384 : Int32)), .val (.int (16384 : Int32)), .val (.int (16384 : Int32))]) rfl (pc' := 31) rfl ?_
  refine G.aloadN P20 d27_31 rfl rfl (pc' := 32) rfl ?_
  refine G.dup P20 d27_32 rfl (pc' := 33) rfl ?_
  refine G.getF P20 (host := "") (Or.inl (wk hw 152 rfl)) Via.refl pO17 d27_33 (pc' := 36) rfl fun T21 P21 => ?_
  refine G.iloadN P21 d27_36 rfl (pc' := 37) rfl ?_
  refine G.iadd P21 d27_37 (z := (16384 : Int32)) (by decide) (pc' := 38) rfl ?_
  refine G.putF P21 (host := "") (Or.inl (wk hw 152 rfl)) Via.refl pO17 pE17 (Or.inl (wk hw 153 rfl)) (wk hw 36 rfl) (ty := .int) (by decide) rfl rfl d27_38 (pc' := 41) rfl fun T22 h22 P22 W22 => ?_
  have f22 := pO17.same W22
  have N23 := Fr.snoc P22.st N15 gp
  have K24 := K16.wr W22 (Or.inl (List.mem_of_getElem? (i := 0) rfl))
  refine G.iloadN P22 d27_41 rfl (pc' := 42) rfl ?_
  refine G.iloadN P22 d27_42 rfl (pc' := 43) rfl ?_
  refine G.isub P22 d27_43 (z := (0 : Int32)) (by decide) (pc' := 44) rfl ?_
  refine G.istoreN P22 d27_44 (l' := #[.val (.ref pl), .val (.int (16384 : Int32)), .val (.int (0 : Int32)), .val (.int (16384 : Int32))]) rfl (pc' := 45) rfl ?_
  refine G.goto P22 d27_45 (by decide) (pc' := 12) (by decide) ?_
  refine G.iloadN P22 d27_12 rfl (pc' := 13) rfl ?_
  refine G.if_le P22 d27_13 (by decide) (pcY := 48) (by decide) (pcN := 16) rfl (fun c25 => ?_) (fun c25 => absurd c25 (by decide))
  have f26 := (pE17.wr W22)
  have f27 := (pT17.other W22 (Or.inr (slot_ne (Or.inr (wk hw 42 rfl)) (Or.inl (wk hw 153 rfl)) (by decide) (t := (.object "com/example/overuse_to_delay/overusetodelay/gateway/BytePieces")) (t' := .int) (by decide) (by decide))))
  have f28 := (pA17.other W22 (Or.inr (slot_ne (Or.inl (wk hw 115 rfl)) (Or.inl (wk hw 153 rfl)) (by decide) (t := .int) (t' := .int) (by decide) (by decide))))
  have f29 := (pC17.other W22 (Or.inr (slot_ne (Or.inl (wk hw 128 rfl)) (Or.inl (wk hw 153 rfl)) (by decide) (t := .int) (t' := .int) (by decide) (by decide))))
  have f30 := (pR17.other W22 (Or.inr (slot_ne (Or.inl (wk hw 109 rfl)) (Or.inl (wk hw 153 rfl)) (by decide) (t := (.array .byte)) (t' := .int) (by decide) (by decide))))
  exact G.retV P22 d27_48 (by decide) (by decide) ⟨rfl, N23, K24, ⟨f26, f27, f28, f29, f22, f30⟩⟩

theorem ef_rmSk16384 (m : MethodId) (bp : Addr) : entryFrame m #[(.ref bp), (.int (16384 : Int32))] 2 = mkF m 0 #[.val (.ref bp), .val (.int (16384 : Int32))] [] := by first | (simp [entryFrame, mkF, argsToLocals, Value.category]; done) | rfl
set_option maxRecDepth 65536 in
set_option maxHeartbeats 40000000 in
theorem rmSk16384 (l : Launch) (Z : State) (a0 : Array Value) (hw : ∀ d ∈ tables_1, d.before a0 Z = true) (bp li en fr ed : Addr) (ke : ClassId) (mc : Int32) (b1 b2 : Addr) (k1 : ClassId) (vs1 : List Value) (k2 : ClassId) (vs2 : List Value) (h0 : Heap) (n0 : Nat) (HW : own_W Z h0 bp li en fr ed ke mc b1 b2) (NP : own_N bp li ed fr) (gp : n0 ≤ fr) (HP : own_P Z h0 fr bp (0 : Int32) (0 : Int32) (0 : Int32) .null) (V1 : Arv Z h0 b1 k1 .byte (16384 : Int32) vs1 (.int (0 : Int32))) (n1 : b1 ≠ fr) (V2 : Arv Z h0 b2 k2 .byte (8 : Int32) vs2 (.int (0 : Int32))) (n2 : b2 ≠ fr) :
    OMeets l Z y26 prog_31_method_17_code 2 none ({ frames := 5, cells := 0, slots := 0, locals := 68 } : Room) #[(.ref bp), (.int (16384 : Int32))] h0 (fun v h L => v = none ∧ Fr n0 L ∧ Keep h0 h [fr] ∧ own_P Z h fr bp (16384 : Int32) (0 : Int32) (16384 : Int32) (.ref b1)) := by
  refine met (Q := fun v h L => v = none ∧ Fr n0 L ∧ Keep h0 h [fr] ∧ own_P Z h fr bp (16384 : Int32) (0 : Int32) (16384 : Int32) (.ref b1)) pf_26 (fun m => ef_rmSk16384 m bp) fun p e s m below meth c T0 P0 => ?_
  have N0 := Fr.nil n0
  have K0 := Keep.refl h0 [fr]
  have HWb := HW.1
  obtain ⟨bE1, bP1, bN1, bF1, bC1⟩ := id HWb
  refine G.aloadN P0 d26_0 rfl rfl (pc' := 1) rfl ?_
  refine G.getF P0 (host := "") (Or.inl (wk hw 46 rfl)) Via.refl bF1 d26_1 (pc' := 4) rfl fun T2 P2 => ?_
  refine G.iloadN P2 d26_4 rfl (pc' := 5) rfl ?_
  refine G.callV P2 (rmMv16384 l Z a0 hw bp li en fr ed ke mc b1 b2 fr k1 vs1 k2 vs2 h0 n0 HW NP gp HP V1 n1 V2 n2) (wk hw 176 rfl) (wk hw 177 rfl) (wk hw 179 rfl) rfl (wk hw 178 rfl) (wk hw 37 rfl) (wk hw 180 rfl) (by decide) HP.1 pd_27 (argsL := [(.int (16384 : Int32))]) (rest := []) rfl rfl rfl rfl (W := 0) (Nat.le_of_eq rfl) (by decide) d26_5 (pc' := 8) rfl fun T3 L3 v3 P3 Q3 => ?_
  obtain ⟨rfl, N3, K3, HP3⟩ := Q3
  have N4 := Fr.app N0 N3
  have K5 := K0.trans K3 (allS (Or.inl (List.mem_of_getElem? (i := 0) rfl)) all0)
  show Go p e below _ (T3.setTop (mkF m 8 #[.val (.ref bp), .val (.int (16384 : Int32))] []))
  exact G.retV P3 d26_8 (by decide) (by decide) ⟨rfl, N4, K5, HP3⟩

theorem ef_rmMv16388 (m : MethodId) (pl : Addr) : entryFrame m #[(.ref pl), (.int (16388 : Int32))] 4 = mkF m 0 #[.val (.ref pl), .val (.int (16388 : Int32)), .unset, .unset] [] := by first | (simp [entryFrame, mkF, argsToLocals, Value.category]; done) | rfl
set_option maxRecDepth 65536 in
set_option maxHeartbeats 40000000 in
theorem rmMv16388 (l : Launch) (Z : State) (a0 : Array Value) (hw : ∀ d ∈ tables_1, d.before a0 Z = true) (bp li en fr ed : Addr) (ke : ClassId) (mc : Int32) (b1 b2 : Addr) (pl : Addr) (k1 : ClassId) (vs1 : List Value) (k2 : ClassId) (vs2 : List Value) (h0 : Heap) (n0 : Nat) (HW : own_W Z h0 bp li en fr ed ke mc b1 b2) (NP : own_N bp li ed pl) (gp : n0 ≤ pl) (HP : own_P Z h0 pl bp (0 : Int32) (0 : Int32) (0 : Int32) .null) (V1 : Arv Z h0 b1 k1 .byte (16384 : Int32) vs1 (.int (0 : Int32))) (n1 : b1 ≠ pl) (V2 : Arv Z h0 b2 k2 .byte (8 : Int32) vs2 (.int (0 : Int32))) (n2 : b2 ≠ pl) :
    OMeets l Z y27 prog_33_method_8_code 4 none ({ frames := 4, cells := 0, slots := 0, locals := 53 } : Room) #[(.ref pl), (.int (16388 : Int32))] h0 (fun v h L => v = none ∧ Fr n0 L ∧ Keep h0 h [pl] ∧ own_P Z h pl bp (16388 : Int32) (1 : Int32) (4 : Int32) (.ref b2)) := by
  refine met (Q := fun v h L => v = none ∧ Fr n0 L ∧ Keep h0 h [pl] ∧ own_P Z h pl bp (16388 : Int32) (1 : Int32) (4 : Int32) (.ref b2)) pf_27 (fun m => ef_rmMv16388 m pl) fun p e s m below meth c T0 P0 => ?_
  have N0 := Fr.nil n0
  have K0 := Keep.refl h0 [pl]
  obtain ⟨np1, np2, np3⟩ := NP
  obtain ⟨pE1, pT1, pA1, pC1, pO1, pR1⟩ := id HP
  refine G.aloadN P0 d27_0 rfl rfl (pc' := 1) rfl ?_
  refine G.dup P0 d27_1 rfl (pc' := 2) rfl ?_
  refine G.getF P0 (host := "") (Or.inl (wk hw 159 rfl)) Via.refl pA1 d27_2 (pc' := 5) rfl fun T2 P2 => ?_
  refine G.iloadN P2 d27_5 rfl (pc' := 6) rfl ?_
  refine G.iadd P2 d27_6 (z := (16388 : Int32)) (by decide) (pc' := 7) rfl ?_
  refine G.putF P2 (host := "") (Or.inl (wk hw 159 rfl)) Via.refl pA1 pE1 (Or.inl (wk hw 115 rfl)) (wk hw 36 rfl) (ty := .int) (by decide) rfl rfl d27_7 (pc' := 10) rfl fun T3 h3 P3 W3 => ?_
  have f3 := pA1.same W3
  have N4 := Fr.snoc P3.st N0 gp
  have K5 := K0.wr W3 (Or.inl (List.mem_of_getElem? (i := 0) rfl))
  refine G.iloadN P3 d27_10 rfl (pc' := 11) rfl ?_
  refine G.istoreN P3 d27_11 (l' := #[.val (.ref pl), .val (.int (16388 : Int32)), .val (.int (16388 : Int32)), .unset]) rfl (pc' := 12) rfl ?_
  refine G.iloadN P3 d27_12 rfl (pc' := 13) rfl ?_
  refine G.if_le P3 d27_13 (by decide) (pcY := 48) (by decide) (pcN := 16) rfl (fun c6 => absurd c6 (by decide)) (fun c6 => ?_)
  refine G.aloadN P3 d27_16 rfl rfl (pc' := 17) rfl ?_
  have f7 := (pE1.wr W3)
  have f8 := (pT1.other W3 (Or.inr (slot_ne (Or.inr (wk hw 42 rfl)) (Or.inl (wk hw 115 rfl)) (by decide) (t := (.object "com/example/overuse_to_delay/overusetodelay/gateway/BytePieces")) (t' := .int) (by decide) (by decide))))
  have f9 := (pC1.other W3 (Or.inr (slot_ne (Or.inl (wk hw 128 rfl)) (Or.inl (wk hw 115 rfl)) (by decide) (t := .int) (t' := .int) (by decide) (by decide))))
  have f10 := (pO1.other W3 (Or.inr (slot_ne (Or.inl (wk hw 153 rfl)) (Or.inl (wk hw 115 rfl)) (by decide) (t := .int) (t' := .int) (by decide) (by decide))))
  have f11 := (pR1.other W3 (Or.inr (slot_ne (Or.inl (wk hw 109 rfl)) (Or.inl (wk hw 115 rfl)) (by decide) (t := (.array .byte)) (t' := .int) (by decide) (by decide))))
  have f12 := (HW.keep (Keep.of_wr W3) (ninS np1 nin0) (ninS np2 nin0) (ninS np3 nin0))
  have f13 := (V1.other W3 n1)
  refine G.callV P3 (rmPcN l Z a0 hw bp li en fr ed ke mc b1 b2 pl (16388 : Int32) k1 _ h3 n0 f12 (⟨np1, np2, np3⟩) gp ⟨f7, f8, f3, f9, f10, f11⟩ f13 n1) (wk hw 121 rfl) (wk hw 122 rfl) (wk hw 124 rfl) rfl (wk hw 123 rfl) (wk hw 37 rfl) (wk hw 125 rfl) (by decide) f7 pd_19 (argsL := []) (rest := []) rfl rfl rfl rfl (W := 0) (Nat.le_of_eq rfl) (by decide) d27_17 (pc' := 20) rfl fun T14 L14 v14 P14 Q14 => ?_
  obtain ⟨rfl, N14, K14, HP14⟩ := Q14
  have N15 := Fr.app N4 N14
  have K16 := K5.trans K14 (allS (Or.inl (List.mem_of_getElem? (i := 0) rfl)) all0)
  show Go p e below _ (T14.setTop (mkF m 20 #[.val (.ref pl), .val (.int (16388 : Int32)), .val (.int (16388 : Int32)), .unset] [(.ref b1)]))
  obtain ⟨pE17, pT17, pA17, pC17, pO17, pR17⟩ := id HP14
  have f18 := (f13.keep K14 (ninS n1 nin0))
  refine G.alen P14 f18 d27_20 (pc' := 21) rfl ?_
  refine G.aloadN P14 d27_21 rfl rfl (pc' := 22) rfl ?_
  refine G.getF P14 (host := "") (Or.inl (wk hw 152 rfl)) Via.refl pO17 d27_22 (pc' := 25) rfl fun T19 P19 => ?_
  refine G.isub P19 d27_25 (z := (16384 : Int32)) (by decide) (pc' := 26) rfl ?_
  refine G.iloadN P19 d27_26 rfl (pc' := 27) rfl ?_
  refine G.callSP P19 (rmMin l Z a0 hw (16384 : Int32) (16388 : Int32) T14.heap) (wk hw 181 rfl) (wk hw 56 rfl) (wk hw 57 rfl) (wk hw 58 rfl) (by decide) pd_8 (argsL := [(.int (16384 : Int32)), (.int (16388 : Int32))]) (rest := []) rfl rfl rfl rfl (W := 0) (Nat.le_of_eq rfl) (by decide) d27_27 (pc' := 30) rfl fun T20 P20 => ?_
  show Go p e below _ (T20.setTop (mkF m 30 #[.val (.ref pl), .val (.int (16388 : Int32)), .val (.int (16388 : Int32)), .unset] [(.int (own_min (16384 : Int32) (16388 : Int32)))]))
  rw [show own_min (16384 : Int32) (16388 : Int32) = (16384 : Int32) from by decide]
  refine G.istoreN P20 d27_30 (l' := #[.val (.ref pl), .val (.int (16388 : Int32)), .val (.int (16388 : Int32)), .val (.int (16384 : Int32))]) rfl (pc' := 31) rfl ?_
  refine G.aloadN P20 d27_31 rfl rfl (pc' := 32) rfl ?_
  refine G.dup P20 d27_32 rfl (pc' := 33) rfl ?_
  refine G.getF P20 (host := "") (Or.inl (wk hw 152 rfl)) Via.refl pO17 d27_33 (pc' := 36) rfl fun T21 P21 => ?_
  refine G.iloadN P21 d27_36 rfl (pc' := 37) rfl ?_
  refine G.iadd P21 d27_37 (z := (16384 : Int32)) (by decide) (pc' := 38) rfl ?_
  refine G.putF P21 (host := "") (Or.inl (wk hw 152 rfl)) Via.refl pO17 pE17 (Or.inl (wk hw 153 rfl)) (wk hw 36 rfl) (ty := .int) (by decide) rfl rfl d27_38 (pc' := 41) rfl fun T22 h22 P22 W22 => ?_
  have f22 := pO17.same W22
  have N23 := Fr.snoc P22.st N15 gp
  have K24 := K16.wr W22 (Or.inl (List.mem_of_getElem? (i := 0) rfl))
  refine G.iloadN P22 d27_41 rfl (pc' := 42) rfl ?_
  refine G.iloadN P22 d27_42 rfl (pc' := 43) rfl ?_
  refine G.isub P22 d27_43 (z := (4 : Int32)) (by decide) (pc' := 44) rfl ?_
  refine G.istoreN P22 d27_44 (l' := #[.val (.ref pl), .val (.int (16388 : Int32)), .val (.int (4 : Int32)), .val (.int (16384 : Int32))]) rfl (pc' := 45) rfl ?_
  refine G.goto P22 d27_45 (by decide) (pc' := 12) (by decide) ?_
  refine G.iloadN P22 d27_12 rfl (pc' := 13) rfl ?_
  refine G.if_le P22 d27_13 (by decide) (pcY := 48) (by decide) (pcN := 16) rfl (fun c25 => absurd c25 (by decide)) (fun c25 => ?_)
  refine G.aloadN P22 d27_16 rfl rfl (pc' := 17) rfl ?_
  have f26 := (pE17.wr W22)
  have f27 := (pT17.other W22 (Or.inr (slot_ne (Or.inr (wk hw 42 rfl)) (Or.inl (wk hw 153 rfl)) (by decide) (t := (.object "com/example/overuse_to_delay/overusetodelay/gateway/BytePieces")) (t' := .int) (by decide) (by decide))))
  have f28 := (pA17.other W22 (Or.inr (slot_ne (Or.inl (wk hw 115 rfl)) (Or.inl (wk hw 153 rfl)) (by decide) (t := .int) (t' := .int) (by decide) (by decide))))
  have f29 := (pC17.other W22 (Or.inr (slot_ne (Or.inl (wk hw 128 rfl)) (Or.inl (wk hw 153 rfl)) (by decide) (t := .int) (t' := .int) (by decide) (by decide))))
  have f30 := (pR17.other W22 (Or.inr (slot_ne (Or.inl (wk hw 109 rfl)) (Or.inl (wk hw 153 rfl)) (by decide) (t := (.array .byte)) (t' := .int) (by decide) (by decide))))
  have f31 := ((f12.keep K14 (ninS np1 nin0) (ninS np2 nin0) (ninS np3 nin0)).keep (Keep.of_wr W22) (ninS np1 nin0) (ninS np2 nin0) (ninS np3 nin0))
  have f32 := (f18.other W22 n1)
  have f33 := (((V2.other W3 n2).keep K14 (ninS n2 nin0)).other W22 n2)
  refine G.callV P22 (rmPcX l Z a0 hw bp li en fr ed ke mc b1 b2 pl (16388 : Int32) k1 _ k2 _ h22 n0 f31 (⟨np1, np2, np3⟩) gp ⟨f26, f27, f28, f29, f22, f30⟩ f32 n1 f33 n2) (wk hw 121 rfl) (wk hw 122 rfl) (wk hw 124 rfl) rfl (wk hw 123 rfl) (wk hw 37 rfl) (wk hw 125 rfl) (by decide) f26 pd_19 (argsL := []) (rest := []) rfl rfl rfl rfl (W := 0) (Nat.le_of_eq rfl) (by decide) d27_17 (pc' := 20) rfl fun T34 L34 v34 P34 Q34 => ?_
  obtain ⟨rfl, N34, K34, HP34⟩ := Q34
  have N35 := Fr.app N23 N34
  have K36 := K24.trans K34 (allS (Or.inl (List.mem_of_getElem? (i := 0) rfl)) all0)
  show Go p e below _ (T34.setTop (mkF m 20 #[.val (.ref pl), .val (.int (16388 : Int32)), .val (.int (4 : Int32)), .val (.int (16384 : Int32))] [(.ref b2)]))
  obtain ⟨pE37, pT37, pA37, pC37, pO37, pR37⟩ := id HP34
  have f38 := (f33.keep K34 (ninS n2 nin0))
  refine G.alen P34 f38 d27_20 (pc' := 21) rfl ?_
  refine G.aloadN P34 d27_21 rfl rfl (pc' := 22) rfl ?_
  refine G.getF P34 (host := "") (Or.inl (wk hw 152 rfl)) Via.refl pO37 d27_22 (pc' := 25) rfl fun T39 P39 => ?_
  refine G.isub P39 d27_25 (z := (8 : Int32)) (by decide) (pc' := 26) rfl ?_
  refine G.iloadN P39 d27_26 rfl (pc' := 27) rfl ?_
  refine G.callSP P39 (rmMin l Z a0 hw (8 : Int32) (4 : Int32) T34.heap) (wk hw 181 rfl) (wk hw 56 rfl) (wk hw 57 rfl) (wk hw 58 rfl) (by decide) pd_8 (argsL := [(.int (8 : Int32)), (.int (4 : Int32))]) (rest := []) rfl rfl rfl rfl (W := 0) (Nat.le_of_eq rfl) (by decide) d27_27 (pc' := 30) rfl fun T40 P40 => ?_
  show Go p e below _ (T40.setTop (mkF m 30 #[.val (.ref pl), .val (.int (16388 : Int32)), .val (.int (4 : Int32)), .val (.int (16384 : Int32))] [(.int (own_min (8 : Int32) (4 : Int32)))]))
  rw [show own_min (8 : Int32) (4 : Int32) = (4 : Int32) from by decide]
  refine G.istoreN P40 d27_30 (l' := #[.val (.ref pl), .val (.int (16388 : Int32)), .val (.int (4 : Int32)), .val (.int (4 : Int32))]) rfl (pc' := 31) rfl ?_
  refine G.aloadN P40 d27_31 rfl rfl (pc' := 32) rfl ?_
  refine G.dup P40 d27_32 rfl (pc' := 33) rfl ?_
  refine G.getF P40 (host := "") (Or.inl (wk hw 152 rfl)) Via.refl pO37 d27_33 (pc' := 36) rfl fun T41 P41 => ?_
  refine G.iloadN P41 d27_36 rfl (pc' := 37) rfl ?_
  refine G.iadd P41 d27_37 (z := (4 : Int32)) (by decide) (pc' := 38) rfl ?_
  refine G.putF P41 (host := "") (Or.inl (wk hw 152 rfl)) Via.refl pO37 pE37 (Or.inl (wk hw 153 rfl)) (wk hw 36 rfl) (ty := .int) (by decide) rfl rfl d27_38 (pc' := 41) rfl fun T42 h42 P42 W42 => ?_
  have f42 := pO37.same W42
  have N43 := Fr.snoc P42.st N35 gp
  have K44 := K36.wr W42 (Or.inl (List.mem_of_getElem? (i := 0) rfl))
  refine G.iloadN P42 d27_41 rfl (pc' := 42) rfl ?_
  refine G.iloadN P42 d27_42 rfl (pc' := 43) rfl ?_
  refine G.isub P42 d27_43 (z := (0 : Int32)) (by decide) (pc' := 44) rfl ?_
  refine G.istoreN P42 d27_44 (l' := #[.val (.ref pl), .val (.int (16388 : Int32)), .val (.int (0 : Int32)), .val (.int (4 : Int32))]) rfl (pc' := 45) rfl ?_
  refine G.goto P42 d27_45 (by decide) (pc' := 12) (by decide) ?_
  refine G.iloadN P42 d27_12 rfl (pc' := 13) rfl ?_
  refine G.if_le P42 d27_13 (by decide) (pcY := 48) (by decide) (pcN := 16) rfl (fun c45 => ?_) (fun c45 => absurd c45 (by decide))
  have f46 := (pE37.wr W42)
  have f47 := (pT37.other W42 (Or.inr (slot_ne (Or.inr (wk hw 42 rfl)) (Or.inl (wk hw 153 rfl)) (by decide) (t := (.object "com/example/overuse_to_delay/overusetodelay/gateway/BytePieces")) (t' := .int) (by decide) (by decide))))
  have f48 := (pA37.other W42 (Or.inr (slot_ne (Or.inl (wk hw 115 rfl)) (Or.inl (wk hw 153 rfl)) (by decide) (t := .int) (t' := .int) (by decide) (by decide))))
  have f49 := (pC37.other W42 (Or.inr (slot_ne (Or.inl (wk hw 128 rfl)) (Or.inl (wk hw 153 rfl)) (by decide) (t := .int) (t' := .int) (by decide) (by decide))))
  have f50 := (pR37.other W42 (Or.inr (slot_ne (Or.inl (wk hw 109 rfl)) (Or.inl (wk hw 153 rfl)) (by decide) (t := (.array .byte)) (t' := .int) (by decide) (by decide))))
  exact G.retV P42 d27_48 (by decide) (by decide) ⟨rfl, N43, K44, ⟨f46, f47, f48, f49, f42, f50⟩⟩

theorem ef_rmSk16388 (m : MethodId) (bp : Addr) : entryFrame m #[(.ref bp), (.int (16388 : Int32))] 2 = mkF m 0 #[.val (.ref bp), .val (.int (16388 : Int32))] [] := by first | (simp [entryFrame, mkF, argsToLocals, Value.category]; done) | rfl
set_option maxRecDepth 65536 in
set_option maxHeartbeats 40000000 in
theorem rmSk16388 (l : Launch) (Z : State) (a0 : Array Value) (hw : ∀ d ∈ tables_1, d.before a0 Z = true) (bp li en fr ed : Addr) (ke : ClassId) (mc : Int32) (b1 b2 : Addr) (k1 : ClassId) (vs1 : List Value) (k2 : ClassId) (vs2 : List Value) (h0 : Heap) (n0 : Nat) (HW : own_W Z h0 bp li en fr ed ke mc b1 b2) (NP : own_N bp li ed fr) (gp : n0 ≤ fr) (HP : own_P Z h0 fr bp (0 : Int32) (0 : Int32) (0 : Int32) .null) (V1 : Arv Z h0 b1 k1 .byte (16384 : Int32) vs1 (.int (0 : Int32))) (n1 : b1 ≠ fr) (V2 : Arv Z h0 b2 k2 .byte (8 : Int32) vs2 (.int (0 : Int32))) (n2 : b2 ≠ fr) :
    OMeets l Z y26 prog_31_method_17_code 2 none ({ frames := 5, cells := 0, slots := 0, locals := 68 } : Room) #[(.ref bp), (.int (16388 : Int32))] h0 (fun v h L => v = none ∧ Fr n0 L ∧ Keep h0 h [fr] ∧ own_P Z h fr bp (16388 : Int32) (1 : Int32) (4 : Int32) (.ref b2)) := by
  refine met (Q := fun v h L => v = none ∧ Fr n0 L ∧ Keep h0 h [fr] ∧ own_P Z h fr bp (16388 : Int32) (1 : Int32) (4 : Int32) (.ref b2)) pf_26 (fun m => ef_rmSk16388 m bp) fun p e s m below meth c T0 P0 => ?_
  have N0 := Fr.nil n0
  have K0 := Keep.refl h0 [fr]
  have HWb := HW.1
  obtain ⟨bE1, bP1, bN1, bF1, bC1⟩ := id HWb
  refine G.aloadN P0 d26_0 rfl rfl (pc' := 1) rfl ?_
  refine G.getF P0 (host := "") (Or.inl (wk hw 46 rfl)) Via.refl bF1 d26_1 (pc' := 4) rfl fun T2 P2 => ?_
  refine G.iloadN P2 d26_4 rfl (pc' := 5) rfl ?_
  refine G.callV P2 (rmMv16388 l Z a0 hw bp li en fr ed ke mc b1 b2 fr k1 vs1 k2 vs2 h0 n0 HW NP gp HP V1 n1 V2 n2) (wk hw 176 rfl) (wk hw 177 rfl) (wk hw 179 rfl) rfl (wk hw 178 rfl) (wk hw 37 rfl) (wk hw 180 rfl) (by decide) HP.1 pd_27 (argsL := [(.int (16388 : Int32))]) (rest := []) rfl rfl rfl rfl (W := 0) (Nat.le_of_eq rfl) (by decide) d26_5 (pc' := 8) rfl fun T3 L3 v3 P3 Q3 => ?_
  obtain ⟨rfl, N3, K3, HP3⟩ := Q3
  have N4 := Fr.app N0 N3
  have K5 := K0.trans K3 (allS (Or.inl (List.mem_of_getElem? (i := 0) rfl)) all0)
  show Go p e below _ (T3.setTop (mkF m 8 #[.val (.ref bp), .val (.int (16388 : Int32))] []))
  exact G.retV P3 d26_8 (by decide) (by decide) ⟨rfl, N4, K5, HP3⟩

theorem ef_rmRw (m : MethodId) (bp : Addr) : entryFrame m #[(.ref bp)] 1 = mkF m 0 #[.val (.ref bp)] [] := by first | (simp [entryFrame, mkF, argsToLocals, Value.category]; done) | rfl
set_option maxRecDepth 65536 in
set_option maxHeartbeats 40000000 in
theorem rmRw (l : Launch) (Z : State) (a0 : Array Value) (hw : ∀ d ∈ tables_1, d.before a0 Z = true) (bp li en fr ed : Addr) (ke : ClassId) (mc : Int32) (b1 b2 : Addr) (xa xp xo : Int32) (xr : Value) (h0 : Heap) (n0 : Nat) (HW : own_W Z h0 bp li en fr ed ke mc b1 b2) (NP : own_N bp li ed fr) (gp : n0 ≤ fr) (HP : own_P Z h0 fr bp xa xp xo xr) :
    OMeets l Z y30 prog_31_method_18_code 1 none ({ frames := 0, cells := 0, slots := 0, locals := 0 } : Room) #[(.ref bp)] h0 (fun v h L => v = none ∧ Fr n0 L ∧ Keep h0 h [fr] ∧ own_P Z h fr bp (0 : Int32) (0 : Int32) (0 : Int32) .null) := by
  refine met (Q := fun v h L => v = none ∧ Fr n0 L ∧ Keep h0 h [fr] ∧ own_P Z h fr bp (0 : Int32) (0 : Int32) (0 : Int32) .null) pf_30 (fun m => ef_rmRw m bp) fun p e s m below meth c T0 P0 => ?_
  have N0 := Fr.nil n0
  have K0 := Keep.refl h0 [fr]
  have HWb := HW.1
  obtain ⟨bE1, bP1, bN1, bF1, bC1⟩ := id HWb
  obtain ⟨np1, np2, np3⟩ := NP
  obtain ⟨pE2, pT2, pA2, pC2, pO2, pR2⟩ := id HP
  refine G.aloadN P0 d30_0 rfl rfl (pc' := 1) rfl ?_
  refine G.getF P0 (host := "") (Or.inl (wk hw 46 rfl)) Via.refl bF1 d30_1 (pc' := 4) rfl fun T3 P3 => ?_
  refine G.iconst P3 d30_4 (z := (0 : Int32)) rfl (pc' := 5) rfl ?_
  refine G.putFR P3 (wk hw 114 rfl) pA2 pE2 (wk hw 115 rfl) (wk hw 36 rfl) (ty := .int) (by decide) rfl rfl d30_5 (pc' := 8) rfl fun T4 h4 P4 W4 => ?_
  have f4 := pA2.same W4
  have N5 := Fr.snoc P4.st N0 gp
  have K6 := K0.wr W4 (Or.inl (List.mem_of_getElem? (i := 0) rfl))
  refine G.aloadN P4 d30_8 rfl rfl (pc' := 9) rfl ?_
  have f7 := (bF1.other W4 (Or.inl np1))
  refine G.getF P4 (host := "") (Or.inl (wk hw 46 rfl)) Via.refl f7 d30_9 (pc' := 12) rfl fun T8 P8 => ?_
  refine G.iconst P8 d30_12 (z := (0 : Int32)) rfl (pc' := 13) rfl ?_
  have f9 := (pC2.other W4 (Or.inr (slot_ne (Or.inl (wk hw 128 rfl)) (Or.inl (wk hw 115 rfl)) (by decide) (t := .int) (t' := .int) (by decide) (by decide))))
  have f10 := (pE2.wr W4)
  refine G.putFR P8 (wk hw 197 rfl) f9 f10 (wk hw 128 rfl) (wk hw 36 rfl) (ty := .int) (by decide) rfl rfl d30_13 (pc' := 16) rfl fun T11 h11 P11 W11 => ?_
  have f11 := f9.same W11
  have N12 := Fr.snoc P11.st N5 gp
  have K13 := K6.wr W11 (Or.inl (List.mem_of_getElem? (i := 0) rfl))
  refine G.aloadN P11 d30_16 rfl rfl (pc' := 17) rfl ?_
  have f14 := (f7.other W11 (Or.inl np1))
  refine G.getF P11 (host := "") (Or.inl (wk hw 46 rfl)) Via.refl f14 d30_17 (pc' := 20) rfl fun T15 P15 => ?_
  refine G.iconst P15 d30_20 (z := (0 : Int32)) rfl (pc' := 21) rfl ?_
  have f16 := ((pO2.other W4 (Or.inr (slot_ne (Or.inl (wk hw 153 rfl)) (Or.inl (wk hw 115 rfl)) (by decide) (t := .int) (t' := .int) (by decide) (by decide)))).other W11 (Or.inr (slot_ne (Or.inl (wk hw 153 rfl)) (Or.inl (wk hw 128 rfl)) (by decide) (t := .int) (t' := .int) (by decide) (by decide))))
  have f17 := (f10.wr W11)
  refine G.putFR P15 (wk hw 165 rfl) f16 f17 (wk hw 153 rfl) (wk hw 36 rfl) (ty := .int) (by decide) rfl rfl d30_21 (pc' := 24) rfl fun T18 h18 P18 W18 => ?_
  have f18 := f16.same W18
  have N19 := Fr.snoc P18.st N12 gp
  have K20 := K13.wr W18 (Or.inl (List.mem_of_getElem? (i := 0) rfl))
  refine G.aloadN P18 d30_24 rfl rfl (pc' := 25) rfl ?_
  have f21 := (f14.other W18 (Or.inl np1))
  refine G.getF P18 (host := "") (Or.inl (wk hw 46 rfl)) Via.refl f21 d30_25 (pc' := 28) rfl fun T22 P22 => ?_
  refine G.aconstNull P22 d30_28 (pc' := 29) rfl ?_
  have f23 := (((pR2.other W4 (Or.inr (slot_ne (Or.inl (wk hw 109 rfl)) (Or.inl (wk hw 115 rfl)) (by decide) (t := (.array .byte)) (t' := .int) (by decide) (by decide)))).other W11 (Or.inr (slot_ne (Or.inl (wk hw 109 rfl)) (Or.inl (wk hw 128 rfl)) (by decide) (t := (.array .byte)) (t' := .int) (by decide) (by decide)))).other W18 (Or.inr (slot_ne (Or.inl (wk hw 109 rfl)) (Or.inl (wk hw 153 rfl)) (by decide) (t := (.array .byte)) (t' := .int) (by decide) (by decide))))
  have f24 := (f17.wr W18)
  refine G.putFR P22 (wk hw 198 rfl) f23 f24 (wk hw 109 rfl) (wk hw 36 rfl) (ty := (.array .byte)) (by decide) rfl rfl d30_29 (pc' := 32) rfl fun T25 h25 P25 W25 => ?_
  have f25 := f23.same W25
  have N26 := Fr.snoc P25.st N19 gp
  have K27 := K20.wr W25 (Or.inl (List.mem_of_getElem? (i := 0) rfl))
  have f28 := (f24.wr W25)
  have f29 := ((((pT2.other W4 (Or.inr (slot_ne (Or.inr (wk hw 42 rfl)) (Or.inl (wk hw 115 rfl)) (by decide) (t := (.object "com/example/overuse_to_delay/overusetodelay/gateway/BytePieces")) (t' := .int) (by decide) (by decide)))).other W11 (Or.inr (slot_ne (Or.inr (wk hw 42 rfl)) (Or.inl (wk hw 128 rfl)) (by decide) (t := (.object "com/example/overuse_to_delay/overusetodelay/gateway/BytePieces")) (t' := .int) (by decide) (by decide)))).other W18 (Or.inr (slot_ne (Or.inr (wk hw 42 rfl)) (Or.inl (wk hw 153 rfl)) (by decide) (t := (.object "com/example/overuse_to_delay/overusetodelay/gateway/BytePieces")) (t' := .int) (by decide) (by decide)))).other W25 (Or.inr (slot_ne (Or.inr (wk hw 42 rfl)) (Or.inl (wk hw 109 rfl)) (by decide) (t := (.object "com/example/overuse_to_delay/overusetodelay/gateway/BytePieces")) (t' := (.array .byte)) (by decide) (by decide))))
  have f30 := (((f4.other W11 (Or.inr (slot_ne (Or.inl (wk hw 115 rfl)) (Or.inl (wk hw 128 rfl)) (by decide) (t := .int) (t' := .int) (by decide) (by decide)))).other W18 (Or.inr (slot_ne (Or.inl (wk hw 115 rfl)) (Or.inl (wk hw 153 rfl)) (by decide) (t := .int) (t' := .int) (by decide) (by decide)))).other W25 (Or.inr (slot_ne (Or.inl (wk hw 115 rfl)) (Or.inl (wk hw 109 rfl)) (by decide) (t := .int) (t' := (.array .byte)) (by decide) (by decide))))
  have f31 := ((f11.other W18 (Or.inr (slot_ne (Or.inl (wk hw 128 rfl)) (Or.inl (wk hw 153 rfl)) (by decide) (t := .int) (t' := .int) (by decide) (by decide)))).other W25 (Or.inr (slot_ne (Or.inl (wk hw 128 rfl)) (Or.inl (wk hw 109 rfl)) (by decide) (t := .int) (t' := (.array .byte)) (by decide) (by decide))))
  have f32 := (f18.other W25 (Or.inr (slot_ne (Or.inl (wk hw 153 rfl)) (Or.inl (wk hw 109 rfl)) (by decide) (t := .int) (t' := (.array .byte)) (by decide) (by decide))))
  exact G.retV P25 d30_32 (by decide) (by decide) ⟨rfl, N26, K27, ⟨f28, f29, f30, f31, f32, f25⟩⟩

theorem ef_rmMi (m : MethodId) (a : Addr) (x1 x2 x3 : Int32) : entryFrame m #[(.ref a), (.int x1), (.int x2), (.int x3)] 4 = mkF m 0 #[.val (.ref a), .val (.int x1), .val (.int x2), .val (.int x3)] [] := by first | (simp [entryFrame, mkF, argsToLocals, Value.category]; done) | rfl
set_option maxRecDepth 65536 in
set_option maxHeartbeats 40000000 in
theorem rmMi (l : Launch) (Z : State) (a0 : Array Value) (hw : ∀ d ∈ tables_1, d.before a0 Z = true) (a : Addr) (x1 x2 x3 : Int32) (h0 : Heap) (n0 : Nat) (g0 : n0 ≤ a) (E0 : Exa Z h0 a "com/example/overuse_to_delay/overusetodelay/gateway/BytePieces$Mark") (F_at : Fld Z h0 a "com/example/overuse_to_delay/overusetodelay/gateway/BytePieces$Mark" "at" "I" (.int (0 : Int32))) (F_piece : Fld Z h0 a "com/example/overuse_to_delay/overusetodelay/gateway/BytePieces$Mark" "piece" "I" (.int (0 : Int32))) (F_offset : Fld Z h0 a "com/example/overuse_to_delay/overusetodelay/gateway/BytePieces$Mark" "offset" "I" (.int (0 : Int32))) :
    OMeets l Z y32 prog_32_method_1_code 4 none ({ frames := 2, cells := 0, slots := 0, locals := 24 } : Room) #[(.ref a), (.int x1), (.int x2), (.int x3)] h0 (fun v h L => v = none ∧ Fr n0 L ∧ Keep h0 h [a] ∧ Exa Z h a "com/example/overuse_to_delay/overusetodelay/gateway/BytePieces$Mark" ∧ Fld Z h a "com/example/overuse_to_delay/overusetodelay/gateway/BytePieces$Mark" "at" "I" (.int x1) ∧ Fld Z h a "com/example/overuse_to_delay/overusetodelay/gateway/BytePieces$Mark" "piece" "I" (.int x2) ∧ Fld Z h a "com/example/overuse_to_delay/overusetodelay/gateway/BytePieces$Mark" "offset" "I" (.int x3)) := by
  refine met (Q := fun v h L => v = none ∧ Fr n0 L ∧ Keep h0 h [a] ∧ Exa Z h a "com/example/overuse_to_delay/overusetodelay/gateway/BytePieces$Mark" ∧ Fld Z h a "com/example/overuse_to_delay/overusetodelay/gateway/BytePieces$Mark" "at" "I" (.int x1) ∧ Fld Z h a "com/example/overuse_to_delay/overusetodelay/gateway/BytePieces$Mark" "piece" "I" (.int x2) ∧ Fld Z h a "com/example/overuse_to_delay/overusetodelay/gateway/BytePieces$Mark" "offset" "I" (.int x3)) pf_32 (fun m => ef_rmMi m a x1 x2 x3) fun p e s m below meth c T0 P0 => ?_
  have N0 := Fr.nil n0
  have K0 := Keep.refl h0 [a]
  refine G.aloadN P0 d32_0 rfl rfl (pc' := 1) rfl ?_
  refine G.callIP P0 (rmRec l Z a0 hw a h0) rfl (wk hw 210 rfl) (wk hw 211 rfl) (wk hw 213 rfl) (wk hw 214 rfl) (by decide) pd_33 (argsL := []) (rest := []) rfl rfl rfl rfl (W := 0) (Nat.le_of_eq rfl) (by decide) d32_1 (pc' := 4) rfl fun T1 P1 => ?_
  show Go p e below _ (T1.setTop (mkF m 4 #[.val (.ref a), .val (.int x1), .val (.int x2), .val (.int x3)] []))
  refine G.aloadN P1 d32_4 rfl rfl (pc' := 5) rfl ?_
  refine G.iloadN P1 d32_5 rfl (pc' := 6) rfl ?_
  refine G.putF P1 (host := "") (Or.inl (wk hw 216 rfl)) Via.refl F_at E0 (Or.inr ⟨(wk hw 217 rfl), rfl, rfl⟩) (wk hw 205 rfl) (ty := .int) (by decide) rfl rfl d32_6 (pc' := 9) rfl fun T2 h2 P2 W2 => ?_
  have f2 := F_at.same W2
  have N3 := Fr.snoc P2.st N0 g0
  have K4 := K0.wr W2 (Or.inl (List.mem_of_getElem? (i := 0) rfl))
  refine G.aloadN P2 d32_9 rfl rfl (pc' := 10) rfl ?_
  refine G.iloadN P2 d32_10 rfl (pc' := 11) rfl ?_
  have f5 := (F_piece.other W2 (Or.inr (slot_ne (Or.inr (wk hw 219 rfl)) (Or.inr (wk hw 217 rfl)) (by decide) (t := .int) (t' := .int) (by decide) (by decide))))
  have f6 := (E0.wr W2)
  refine G.putF P2 (host := "") (Or.inl (wk hw 218 rfl)) Via.refl f5 f6 (Or.inr ⟨(wk hw 219 rfl), rfl, rfl⟩) (wk hw 205 rfl) (ty := .int) (by decide) rfl rfl d32_11 (pc' := 14) rfl fun T7 h7 P7 W7 => ?_
  have f7 := f5.same W7
  have N8 := Fr.snoc P7.st N3 g0
  have K9 := K4.wr W7 (Or.inl (List.mem_of_getElem? (i := 0) rfl))
  refine G.aloadN P7 d32_14 rfl rfl (pc' := 15) rfl ?_
  refine G.iloadN P7 d32_15 rfl (pc' := 16) rfl ?_
  have f10 := ((F_offset.other W2 (Or.inr (slot_ne (Or.inr (wk hw 221 rfl)) (Or.inr (wk hw 217 rfl)) (by decide) (t := .int) (t' := .int) (by decide) (by decide)))).other W7 (Or.inr (slot_ne (Or.inr (wk hw 221 rfl)) (Or.inr (wk hw 219 rfl)) (by decide) (t := .int) (t' := .int) (by decide) (by decide))))
  have f11 := (f6.wr W7)
  refine G.putF P7 (host := "") (Or.inl (wk hw 220 rfl)) Via.refl f10 f11 (Or.inr ⟨(wk hw 221 rfl), rfl, rfl⟩) (wk hw 205 rfl) (ty := .int) (by decide) rfl rfl d32_16 (pc' := 19) rfl fun T12 h12 P12 W12 => ?_
  have f12 := f10.same W12
  have N13 := Fr.snoc P12.st N8 g0
  have K14 := K9.wr W12 (Or.inl (List.mem_of_getElem? (i := 0) rfl))
  have f15 := (f11.wr W12)
  have f16 := ((f2.other W7 (Or.inr (slot_ne (Or.inr (wk hw 217 rfl)) (Or.inr (wk hw 219 rfl)) (by decide) (t := .int) (t' := .int) (by decide) (by decide)))).other W12 (Or.inr (slot_ne (Or.inr (wk hw 217 rfl)) (Or.inr (wk hw 221 rfl)) (by decide) (t := .int) (t' := .int) (by decide) (by decide))))
  have f17 := (f7.other W12 (Or.inr (slot_ne (Or.inr (wk hw 219 rfl)) (Or.inr (wk hw 221 rfl)) (by decide) (t := .int) (t' := .int) (by decide) (by decide))))
  exact G.retV P12 d32_19 (by decide) (by decide) ⟨rfl, N13, K14, f15, f16, f17, f12⟩

theorem ef_rmMk (m : MethodId) (bp : Addr) : entryFrame m #[(.ref bp)] 1 = mkF m 0 #[.val (.ref bp)] [] := by first | (simp [entryFrame, mkF, argsToLocals, Value.category]; done) | rfl
set_option maxRecDepth 65536 in
set_option maxHeartbeats 40000000 in
theorem rmMk (l : Launch) (Z : State) (a0 : Array Value) (hw : ∀ d ∈ tables_1, d.before a0 Z = true) (bp li en fr ed : Addr) (ke : ClassId) (mc : Int32) (b1 b2 : Addr) (xa xp xo : Int32) (xr : Value) (h0 : Heap) (n0 : Nat) (Z0 : n0 ≤ Array.size h0) (HW : own_W Z h0 bp li en fr ed ke mc b1 b2) (HP : own_P Z h0 fr bp xa xp xo xr) :
    OMeets l Z y31 prog_31_method_19_code 1 (some (.object "com/example/overuse_to_delay/overusetodelay/gateway/BytePieces$Mark")) ({ frames := 3, cells := 1, slots := 3, locals := 40 } : Room) #[(.ref bp)] h0 (fun v h L => ∃ a, v = some (.ref a) ∧ Fr n0 L ∧ Keep h0 h [] ∧ Exa Z h a "com/example/overuse_to_delay/overusetodelay/gateway/BytePieces$Mark" ∧ Fld Z h a "com/example/overuse_to_delay/overusetodelay/gateway/BytePieces$Mark" "at" "I" (.int xa) ∧ Fld Z h a "com/example/overuse_to_delay/overusetodelay/gateway/BytePieces$Mark" "piece" "I" (.int xp) ∧ Fld Z h a "com/example/overuse_to_delay/overusetodelay/gateway/BytePieces$Mark" "offset" "I" (.int xo)) := by
  refine met (Q := fun v h L => ∃ a, v = some (.ref a) ∧ Fr n0 L ∧ Keep h0 h [] ∧ Exa Z h a "com/example/overuse_to_delay/overusetodelay/gateway/BytePieces$Mark" ∧ Fld Z h a "com/example/overuse_to_delay/overusetodelay/gateway/BytePieces$Mark" "at" "I" (.int xa) ∧ Fld Z h a "com/example/overuse_to_delay/overusetodelay/gateway/BytePieces$Mark" "piece" "I" (.int xp) ∧ Fld Z h a "com/example/overuse_to_delay/overusetodelay/gateway/BytePieces$Mark" "offset" "I" (.int xo)) pf_31 (fun m => ef_rmMk m bp) fun p e s m below meth c T0 P0 => ?_
  have N0 := Fr.nil n0
  have K0 := Keep.refl h0 []
  have HWb := HW.1
  obtain ⟨bE1, bP1, bN1, bF1, bC1⟩ := id HWb
  obtain ⟨pE2, pT2, pA2, pC2, pO2, pR2⟩ := id HP
  refine G.newO P0 (wk hw 204 rfl) (wk hw 205 rfl) (wk hw 206 rfl) d31_0 (by decide) (pc' := 3) rfl fun T3 h3 a3 g3 P3 E3 A3 D3 => ?_
  have n4 : bp ≠ a3 := by rw [g3]; exact Nat.ne_of_lt bE1.lt
  have n5 : fr ≠ a3 := by rw [g3]; exact Nat.ne_of_lt pE2.lt
  have g6 : n0 ≤ a3 := by rw [g3]; exact Z0
  have q3 := (Nat.le_trans K0.1 (Nat.le_of_eq g3.symm))
  have K7 := K0.ext E3
  have f8 : Fld Z h3 a3 "com/example/overuse_to_delay/overusetodelay/gateway/BytePieces$Mark" "at" "I" (.int (0 : Int32)) := D3 (Or.inr (wk hw 217 rfl)) (ty := .int) (by decide)
  have f9 : Fld Z h3 a3 "com/example/overuse_to_delay/overusetodelay/gateway/BytePieces$Mark" "piece" "I" (.int (0 : Int32)) := D3 (Or.inr (wk hw 219 rfl)) (ty := .int) (by decide)
  have f10 : Fld Z h3 a3 "com/example/overuse_to_delay/overusetodelay/gateway/BytePieces$Mark" "offset" "I" (.int (0 : Int32)) := D3 (Or.inr (wk hw 221 rfl)) (ty := .int) (by decide)
  refine G.dup P3 d31_3 rfl (pc' := 4) rfl ?_
  refine G.aloadN P3 d31_4 rfl rfl (pc' := 5) rfl ?_
  have f11 := (bF1.ext E3)
  refine G.getF P3 (host := "") (Or.inl (wk hw 46 rfl)) Via.refl f11 d31_5 (pc' := 8) rfl fun T12 P12 => ?_
  have f13 := (pA2.ext E3)
  refine G.getFR P12 (wk hw 114 rfl) f13 d31_8 (pc' := 11) rfl ?_
  refine G.aloadN P12 d31_11 rfl rfl (pc' := 12) rfl ?_
  refine G.getF P12 (host := "") (Or.inl (wk hw 46 rfl)) Via.refl f11 d31_12 (pc' := 15) rfl fun T14 P14 => ?_
  have f15 := (pC2.ext E3)
  refine G.getFR P14 (wk hw 197 rfl) f15 d31_15 (pc' := 18) rfl ?_
  refine G.aloadN P14 d31_18 rfl rfl (pc' := 19) rfl ?_
  refine G.getF P14 (host := "") (Or.inl (wk hw 46 rfl)) Via.refl f11 d31_19 (pc' := 22) rfl fun T16 P16 => ?_
  have f17 := (pO2.ext E3)
  refine G.getFR P16 (wk hw 165 rfl) f17 d31_22 (pc' := 25) rfl ?_
  refine G.callI P16 (rmMi l Z a0 hw a3 xa xp xo h3 n0 g6 A3 f8 f9 f10) rfl (wk hw 207 rfl) (wk hw 208 rfl) (wk hw 206 rfl) (wk hw 209 rfl) (by decide) pd_32 (argsL := [(.int xa), (.int xp), (.int xo)]) (rest := [(.ref a3)]) rfl rfl rfl rfl (W := 1) (Nat.le_of_eq rfl) (by decide) d31_25 (pc' := 28) rfl fun T18 L18 v18 P18 Q18 => ?_
  obtain ⟨rfl, N18, K18, E18, Fa18, Fb18, Fc18⟩ := Q18
  have N19 := Fr.app N0 N18
  have K20 := K7.trans K18 (allS (Or.inr q3) all0)
  show Go p e below _ (T18.setTop (mkF m 28 #[.val (.ref bp)] [(.ref a3)]))
  exact G.retA P18 rfl rfl rfl d31_28 (by decide) (by decide) ⟨_, rfl, N19, K20, E18, Fa18, Fb18, Fc18⟩

theorem ef_rmGat (m : MethodId) (a : Addr) : entryFrame m #[(.ref a)] 1 = mkF m 0 #[.val (.ref a)] [] := by first | (simp [entryFrame, mkF, argsToLocals, Value.category]; done) | rfl
set_option maxRecDepth 65536 in
set_option maxHeartbeats 40000000 in
theorem rmGat (l : Launch) (Z : State) (a0 : Array Value) (hw : ∀ d ∈ tables_1, d.before a0 Z = true) (a : Addr) (x1 : Int32) (h0 : Heap) (F0 : Fld Z h0 a "com/example/overuse_to_delay/overusetodelay/gateway/BytePieces$Mark" "at" "I" (.int x1)) :
    OMeets l Z y34 prog_32_method_5_code 1 (some .int) ({ frames := 0, cells := 0, slots := 0, locals := 0 } : Room) #[(.ref a)] h0 (OPure (some (.int x1)) h0) := by
  refine met (Q := OPure (some (.int x1)) h0) pf_34 (fun m => ef_rmGat m a) fun p e s m below meth c T0 P0 => ?_
  refine G.aloadN P0 d34_0 rfl rfl (pc' := 1) rfl ?_
  refine G.getF P0 (host := "") (Or.inl (wk hw 216 rfl)) Via.refl F0 d34_1 (pc' := 4) rfl fun T1 P1 => ?_
  exact G.retI P1 d34_4 (by decide) (by decide) ⟨rfl, rfl, rfl⟩

theorem ef_rmGpiece (m : MethodId) (a : Addr) : entryFrame m #[(.ref a)] 1 = mkF m 0 #[.val (.ref a)] [] := by first | (simp [entryFrame, mkF, argsToLocals, Value.category]; done) | rfl
set_option maxRecDepth 65536 in
set_option maxHeartbeats 40000000 in
theorem rmGpiece (l : Launch) (Z : State) (a0 : Array Value) (hw : ∀ d ∈ tables_1, d.before a0 Z = true) (a : Addr) (x1 : Int32) (h0 : Heap) (F0 : Fld Z h0 a "com/example/overuse_to_delay/overusetodelay/gateway/BytePieces$Mark" "piece" "I" (.int x1)) :
    OMeets l Z y35 prog_32_method_6_code 1 (some .int) ({ frames := 0, cells := 0, slots := 0, locals := 0 } : Room) #[(.ref a)] h0 (OPure (some (.int x1)) h0) := by
  refine met (Q := OPure (some (.int x1)) h0) pf_35 (fun m => ef_rmGpiece m a) fun p e s m below meth c T0 P0 => ?_
  refine G.aloadN P0 d35_0 rfl rfl (pc' := 1) rfl ?_
  refine G.getF P0 (host := "") (Or.inl (wk hw 218 rfl)) Via.refl F0 d35_1 (pc' := 4) rfl fun T1 P1 => ?_
  exact G.retI P1 d35_4 (by decide) (by decide) ⟨rfl, rfl, rfl⟩

theorem ef_rmGoffset (m : MethodId) (a : Addr) : entryFrame m #[(.ref a)] 1 = mkF m 0 #[.val (.ref a)] [] := by first | (simp [entryFrame, mkF, argsToLocals, Value.category]; done) | rfl
set_option maxRecDepth 65536 in
set_option maxHeartbeats 40000000 in
theorem rmGoffset (l : Launch) (Z : State) (a0 : Array Value) (hw : ∀ d ∈ tables_1, d.before a0 Z = true) (a : Addr) (x1 : Int32) (h0 : Heap) (F0 : Fld Z h0 a "com/example/overuse_to_delay/overusetodelay/gateway/BytePieces$Mark" "offset" "I" (.int x1)) :
    OMeets l Z y36 prog_32_method_7_code 1 (some .int) ({ frames := 0, cells := 0, slots := 0, locals := 0 } : Room) #[(.ref a)] h0 (OPure (some (.int x1)) h0) := by
  refine met (Q := OPure (some (.int x1)) h0) pf_36 (fun m => ef_rmGoffset m a) fun p e s m below meth c T0 P0 => ?_
  refine G.aloadN P0 d36_0 rfl rfl (pc' := 1) rfl ?_
  refine G.getF P0 (host := "") (Or.inl (wk hw 220 rfl)) Via.refl F0 d36_1 (pc' := 4) rfl fun T1 P1 => ?_
  exact G.retI P1 d36_4 (by decide) (by decide) ⟨rfl, rfl, rfl⟩

theorem ef_rmRem (m : MethodId) (bp : Addr) : entryFrame m #[(.ref bp)] 1 = mkF m 0 #[.val (.ref bp)] [] := by first | (simp [entryFrame, mkF, argsToLocals, Value.category]; done) | rfl
set_option maxRecDepth 65536 in
set_option maxHeartbeats 40000000 in
theorem rmRem (l : Launch) (Z : State) (a0 : Array Value) (hw : ∀ d ∈ tables_1, d.before a0 Z = true) (bp li en fr ed : Addr) (ke : ClassId) (mc : Int32) (b1 b2 : Addr) (xa xp xo : Int32) (xr : Value) (za zp zo : Int32) (zr : Value) (h0 : Heap) (HW : own_W Z h0 bp li en fr ed ke mc b1 b2) (HE : own_P Z h0 en bp xa xp xo xr) (HF : own_P Z h0 fr bp za zp zo zr) :
    OMeets l Z y37 prog_31_method_5_code 1 (some .int) ({ frames := 0, cells := 0, slots := 0, locals := 0 } : Room) #[(.ref bp)] h0 (OPure (some (.int (xa - za))) h0) := by
  refine met (Q := OPure (some (.int (xa - za))) h0) pf_37 (fun m => ef_rmRem m bp) fun p e s m below meth c T0 P0 => ?_
  have HWb := HW.1
  obtain ⟨bE1, bP1, bN1, bF1, bC1⟩ := id HWb
  obtain ⟨pE2, pT2, pA2, pC2, pO2, pR2⟩ := id HE
  refine G.aloadN P0 d37_0 rfl rfl (pc' := 1) rfl ?_
  refine G.getF P0 (host := "") (Or.inl (wk hw 44 rfl)) Via.refl bN1 d37_1 (pc' := 4) rfl fun T3 P3 => ?_
  refine G.getFR P3 (wk hw 114 rfl) pA2 d37_4 (pc' := 7) rfl ?_
  refine G.aloadN P3 d37_7 rfl rfl (pc' := 8) rfl ?_
  refine G.getF P3 (host := "") (Or.inl (wk hw 46 rfl)) Via.refl bF1 d37_8 (pc' := 11) rfl fun T4 P4 => ?_
  refine G.getFR P4 (wk hw 114 rfl) HF.2.2.1 d37_11 (pc' := 14) rfl ?_
  refine G.isub P4 d37_14 rfl (pc' := 15) rfl ?_
  exact G.retI P4 d37_15 (by decide) (by decide) ⟨rfl, rfl, rfl⟩

theorem ef_rmSz (m : MethodId) (bp : Addr) : entryFrame m #[(.ref bp)] 1 = mkF m 0 #[.val (.ref bp)] [] := by first | (simp [entryFrame, mkF, argsToLocals, Value.category]; done) | rfl
set_option maxRecDepth 65536 in
set_option maxHeartbeats 40000000 in
theorem rmSz (l : Launch) (Z : State) (a0 : Array Value) (hw : ∀ d ∈ tables_1, d.before a0 Z = true) (bp li en fr ed : Addr) (ke : ClassId) (mc : Int32) (b1 b2 : Addr) (xa xp xo : Int32) (xr : Value) (h0 : Heap) (HW : own_W Z h0 bp li en fr ed ke mc b1 b2) (HE : own_P Z h0 en bp xa xp xo xr) :
    OMeets l Z y38 prog_31_method_4_code 1 (some .int) ({ frames := 0, cells := 0, slots := 0, locals := 0 } : Room) #[(.ref bp)] h0 (OPure (some (.int xa)) h0) := by
  refine met (Q := OPure (some (.int xa)) h0) pf_38 (fun m => ef_rmSz m bp) fun p e s m below meth c T0 P0 => ?_
  have HWb := HW.1
  obtain ⟨bE1, bP1, bN1, bF1, bC1⟩ := id HWb
  obtain ⟨pE2, pT2, pA2, pC2, pO2, pR2⟩ := id HE
  refine G.aloadN P0 d38_0 rfl rfl (pc' := 1) rfl ?_
  refine G.getF P0 (host := "") (Or.inl (wk hw 44 rfl)) Via.refl bN1 d38_1 (pc' := 4) rfl fun T3 P3 => ?_
  refine G.getFR P3 (wk hw 114 rfl) pA2 d38_4 (pc' := 7) rfl ?_
  exact G.retI P3 d38_7 (by decide) (by decide) ⟨rfl, rfl, rfl⟩

theorem own_b8 (z : Int32) : (nar .byte z.toInt8.toInt32) &&& (255 : Int32) = z &&& (255 : Int32) := by
  have h1 := c_i2b z
  have h2 := c_i2b z.toInt8.toInt32
  have m1 := c_mask z (255 : Int32) 8 (by decide) (by decide)
  have m2 := c_mask z.toInt8.toInt32.toInt8.toInt32 (255 : Int32) 8 (by decide) (by decide)
  show z.toInt8.toInt32.toInt8.toInt32 &&& (255 : Int32) = _
  apply Int32.toInt_inj.mp
  rw [m1, m2]
  omega
theorem own_ssr (b s : BitVec 32) : b.sshiftRight' s = b.sshiftRight s.toNat := rfl
theorem own_bytes (x0 : Int32) : own_rd (nar .byte (x0 >>> ((24 : Int32) &&& 31)).toInt8.toInt32) (nar .byte (x0 >>> ((16 : Int32) &&& 31)).toInt8.toInt32) (nar .byte (x0 >>> ((8 : Int32) &&& 31)).toInt8.toInt32) (nar .byte (x0 >>> ((0 : Int32) &&& 31)).toInt8.toInt32) = x0 := by
  unfold own_rd
  rw [own_b8, own_b8, own_b8, own_b8]
  apply Int32.toBitVec_inj.mp
  rw [show ((24 : Int32) &&& 31) = 24 from by decide, show ((16 : Int32) &&& 31) = 16 from by decide, show ((8 : Int32) &&& 31) = 8 from by decide, show ((0 : Int32) &&& 31) = 0 from by decide]
  simp only [Int32.toBitVec_or, Int32.toBitVec_and, Int32.toBitVec_shiftLeft, Int32.toBitVec_shiftRight]
  rw [show (Int32.toBitVec 24).smod 32 = 24#32 from by decide, show (Int32.toBitVec 16).smod 32 = 16#32 from by decide, show (Int32.toBitVec 8).smod 32 = 8#32 from by decide, show (Int32.toBitVec 0).smod 32 = 0#32 from by decide]
  rw [show Int32.toBitVec 0 = 0#32 from by decide, show Int32.toBitVec 255 = 255#32 from by decide]
  generalize x0.toBitVec = b
  apply BitVec.eq_of_getLsbD_eq
  intro i hi
  have k : i = 0 ∨ i = 1 ∨ i = 2 ∨ i = 3 ∨ i = 4 ∨ i = 5 ∨ i = 6 ∨ i = 7 ∨ i = 8 ∨ i = 9 ∨ i = 10 ∨ i = 11 ∨ i = 12 ∨ i = 13 ∨ i = 14 ∨ i = 15 ∨ i = 16 ∨ i = 17 ∨ i = 18 ∨ i = 19 ∨ i = 20 ∨ i = 21 ∨ i = 22 ∨ i = 23 ∨ i = 24 ∨ i = 25 ∨ i = 26 ∨ i = 27 ∨ i = 28 ∨ i = 29 ∨ i = 30 ∨ i = 31 := by omega
  rcases k with rfl | rfl | rfl | rfl | rfl | rfl | rfl | rfl | rfl | rfl | rfl | rfl | rfl | rfl | rfl | rfl | rfl | rfl | rfl | rfl | rfl | rfl | rfl | rfl | rfl | rfl | rfl | rfl | rfl | rfl | rfl | rfl <;> simp [BitVec.getLsbD_or, BitVec.getLsbD_and, BitVec.getLsbD_shiftLeft, BitVec.getLsbD_sshiftRight, BitVec.getElem_sshiftRight, own_ssr]

def own_D (bp li ed en fr b1 b2 : Addr) : Prop := bp ≠ en ∧ bp ≠ fr ∧ bp ≠ b1 ∧ bp ≠ b2 ∧ li ≠ en ∧ li ≠ fr ∧ li ≠ b1 ∧ li ≠ b2 ∧ ed ≠ en ∧ ed ≠ fr ∧ ed ≠ b1 ∧ ed ≠ b2 ∧ en ≠ fr ∧ b1 ≠ en ∧ b2 ≠ en ∧ b1 ≠ fr ∧ b2 ≠ fr ∧ b1 ≠ b2

set_option maxRecDepth 65536 in
set_option maxHeartbeats 40000000 in
theorem own_tail {p : Program} {l : Launch} {e : Env} {s : State} {m : MethodId} {args : Array Value} {below : List Frame} {meth : Method} {c : Code} {Z : State} {T0 : State} {h0 : Heap} {locs : List Loc} {n0 : Nat} (a0 : Array Value) (hw : ∀ d ∈ tables_1, d.before a0 Z = true) (x0 x1 x2 sel : Int32) (bp li en fr ed : Addr) (ke : ClassId) (mc : Int32) (b1 b2 : Addr) (k1 : ClassId) (tl : List Value) (xa xp xo : Int32) (xr : Value) (P0 : Pos p l e room_1 s m args below meth c Z x.cls code maxLocals ret x.name T0 h0 locs 8 32799) (N0 : Fr n0 locs) (Z0 : n0 ≤ Array.size h0) (HD : own_D bp li ed en fr b1 b2) (gf : n0 ≤ fr) (gn : n0 ≤ en) (g1 : n0 ≤ b1) (g2 : n0 ≤ b2) (HW : own_W Z h0 bp li en fr ed ke mc b1 b2) (HE : own_P Z h0 en bp (16388 : Int32) (1 : Int32) (4 : Int32) (.ref b2)) (HF : own_P Z h0 fr bp xa xp xo xr) (V1 : Arv Z h0 b1 k1 .byte (16384 : Int32) ((.int (nar .byte (x0 >>> ((24 : Int32) &&& 31)).toInt8.toInt32)) :: (.int (nar .byte (x0 >>> ((16 : Int32) &&& 31)).toInt8.toInt32)) :: (.int (nar .byte (x0 >>> ((8 : Int32) &&& 31)).toInt8.toInt32)) :: (.int (nar .byte (x0 >>> ((0 : Int32) &&& 31)).toInt8.toInt32)) :: tl) (.int (0 : Int32))) :
    Go p e below (NF s room_1.cells room_1.slots (fun v h L => v = some (.int 1) ∧ Fr n0 L)) (T0.setTop (mkF m 87 #[.val (.int x0), .val (.int x1), .val (.int x2), .val (.ref bp), .val (.int sel), .unset, .unset, .unset, .unset] [])) := by
  obtain ⟨n_bp_en, n_bp_fr, n_bp_b1, n_bp_b2, n_li_en, n_li_fr, n_li_b1, n_li_b2, n_ed_en, n_ed_fr, n_ed_b1, n_ed_b2, n_en_fr, n_b1_en, n_b2_en, n_b1_fr, n_b2_fr, n_b1_b2⟩ := HD
  obtain ⟨pE1, pT1, pA1, pC1, pO1, pR1⟩ := id HF
  refine G.aloadN P0 at_87 rfl rfl (pc' := 88) rfl ?_
  refine G.callV P0 (rmRw l Z a0 hw bp li en fr ed ke mc b1 b2 xa xp xo xr h0 n0 HW ⟨n_bp_fr, n_li_fr, n_ed_fr⟩ gf ⟨pE1, pT1, pA1, pC1, pO1, pR1⟩) (wk hw 192 rfl) (wk hw 193 rfl) (wk hw 195 rfl) rfl (wk hw 194 rfl) (wk hw 2 rfl) (wk hw 196 rfl) (by decide) HW.1.1 pd_30 (argsL := []) (rest := []) rfl rfl rfl rfl (W := 0) (Nat.le_of_eq rfl) (by decide) at_88 (pc' := 91) rfl fun T2 L2 v2 P2 Q2 => ?_
  obtain ⟨rfl, N2, K2, HP2⟩ := Q2
  have N3 := Fr.app N0 N2
  show Go p e below _ (T2.setTop (mkF m 91 #[.val (.int x0), .val (.int x1), .val (.int x2), .val (.ref bp), .val (.int sel), .unset, .unset, .unset, .unset] []))
  obtain ⟨pE4, pT4, pA4, pC4, pO4, pR4⟩ := id HP2
  refine G.aloadN P2 at_91 rfl rfl (pc' := 92) rfl ?_
  have f5 := (HW.keep K2 (ninS n_bp_fr nin0) (ninS n_li_fr nin0) (ninS n_ed_fr nin0))
  have z6 : n0 ≤ Array.size T2.heap := (Nat.le_trans Z0 K2.1)
  have f7 := (HW.1.1.keep K2)
  refine G.callV P2 (rmMk l Z a0 hw bp li en fr ed ke mc b1 b2 (0 : Int32) (0 : Int32) (0 : Int32) .null T2.heap n0 z6 f5 ⟨pE4, pT4, pA4, pC4, pO4, pR4⟩) (wk hw 199 rfl) (wk hw 200 rfl) (wk hw 202 rfl) rfl (wk hw 201 rfl) (wk hw 2 rfl) (wk hw 203 rfl) (by decide) f7 pd_31 (argsL := []) (rest := []) rfl rfl rfl rfl (W := 0) (Nat.le_of_eq rfl) (by decide) at_92 (pc' := 95) rfl fun T8 L8 v8 P8 Q8 => ?_
  obtain ⟨mk, rfl, N8, K8, E8, Fa8, Fb8, Fc8⟩ := Q8
  have N9 := Fr.app N3 N8
  show Go p e below _ (T8.setTop (mkF m 95 #[.val (.int x0), .val (.int x1), .val (.int x2), .val (.ref bp), .val (.int sel), .unset, .unset, .unset, .unset] [(.ref mk)]))
  refine G.astore P8 at_95 rfl (l' := #[.val (.int x0), .val (.int x1), .val (.int x2), .val (.ref bp), .val (.int sel), .val (.ref mk), .unset, .unset, .unset]) rfl (pc' := 97) rfl ?_
  refine G.aload P8 at_97 rfl rfl (pc' := 99) rfl ?_
  refine G.callVP P8 (rmGat l Z a0 hw mk (0 : Int32) T8.heap Fa8) (wk hw 222 rfl) (wk hw 223 rfl) (wk hw 225 rfl) rfl (wk hw 224 rfl) (wk hw 206 rfl) (wk hw 226 rfl) (by decide) E8 pd_34 (argsL := []) (rest := []) rfl rfl rfl rfl (W := 0) (Nat.le_of_eq rfl) (by decide) at_99 (pc' := 102) rfl fun T10 P10 => ?_
  show Go p e below _ (T10.setTop (mkF m 102 #[.val (.int x0), .val (.int x1), .val (.int x2), .val (.ref bp), .val (.int sel), .val (.ref mk), .unset, .unset, .unset] [(.int (0 : Int32))]))
  refine G.if_ne P10 at_102 (by decide) (pcY := 125) (by decide) (pcN := 105) rfl (fun c11 => absurd c11 (by decide)) (fun c11 => ?_)
  refine G.aload P10 at_105 rfl rfl (pc' := 107) rfl ?_
  refine G.callVP P10 (rmGpiece l Z a0 hw mk (0 : Int32) T8.heap Fb8) (wk hw 227 rfl) (wk hw 228 rfl) (wk hw 230 rfl) rfl (wk hw 229 rfl) (wk hw 206 rfl) (wk hw 231 rfl) (by decide) E8 pd_35 (argsL := []) (rest := []) rfl rfl rfl rfl (W := 0) (Nat.le_of_eq rfl) (by decide) at_107 (pc' := 110) rfl fun T12 P12 => ?_
  show Go p e below _ (T12.setTop (mkF m 110 #[.val (.int x0), .val (.int x1), .val (.int x2), .val (.ref bp), .val (.int sel), .val (.ref mk), .unset, .unset, .unset] [(.int (0 : Int32))]))
  refine G.if_ne P12 at_110 (by decide) (pcY := 125) (by decide) (pcN := 113) rfl (fun c13 => absurd c13 (by decide)) (fun c13 => ?_)
  refine G.aload P12 at_113 rfl rfl (pc' := 115) rfl ?_
  refine G.callVP P12 (rmGoffset l Z a0 hw mk (0 : Int32) T8.heap Fc8) (wk hw 232 rfl) (wk hw 233 rfl) (wk hw 235 rfl) rfl (wk hw 234 rfl) (wk hw 206 rfl) (wk hw 236 rfl) (by decide) E8 pd_36 (argsL := []) (rest := []) rfl rfl rfl rfl (W := 0) (Nat.le_of_eq rfl) (by decide) at_115 (pc' := 118) rfl fun T14 P14 => ?_
  show Go p e below _ (T14.setTop (mkF m 118 #[.val (.int x0), .val (.int x1), .val (.int x2), .val (.ref bp), .val (.int sel), .val (.ref mk), .unset, .unset, .unset] [(.int (0 : Int32))]))
  refine G.if_ne P14 at_118 (by decide) (pcY := 125) (by decide) (pcN := 121) rfl (fun c15 => absurd c15 (by decide)) (fun c15 => ?_)
  refine G.iconst P14 at_121 (z := (1 : Int32)) rfl (pc' := 122) rfl ?_
  refine G.goto P14 at_122 (by decide) (pc' := 126) (by decide) ?_
  refine G.istore P14 at_126 (l' := #[.val (.int x0), .val (.int x1), .val (.int x2), .val (.ref bp), .val (.int sel), .val (.ref mk), .val (.int (1 : Int32)), .unset, .unset]) rfl (pc' := 128) rfl ?_
  refine G.aloadN P14 at_128 rfl rfl (pc' := 129) rfl ?_
  have f16 := (f5.keep K8 nin0 nin0 nin0)
  have f17 := ((HE.keep K2 (ninS n_en_fr nin0)).keep K8 nin0)
  have f18 := (pE4.keep K8)
  have f19 := (pT4.keep K8 nin0)
  have f20 := (pA4.keep K8 nin0)
  have f21 := (pC4.keep K8 nin0)
  have f22 := (pO4.keep K8 nin0)
  have f23 := (pR4.keep K8 nin0)
  have f24 := (f7.keep K8)
  refine G.callVP P14 (rmRem l Z a0 hw bp li en fr ed ke mc b1 b2 (16388 : Int32) (1 : Int32) (4 : Int32) (.ref b2) (0 : Int32) (0 : Int32) (0 : Int32) .null T8.heap f16 f17 ⟨f18, f19, f20, f21, f22, f23⟩) (wk hw 237 rfl) (wk hw 238 rfl) (wk hw 240 rfl) rfl (wk hw 239 rfl) (wk hw 2 rfl) (wk hw 241 rfl) (by decide) f24 pd_37 (argsL := []) (rest := []) rfl rfl rfl rfl (W := 0) (Nat.le_of_eq rfl) (by decide) at_129 (pc' := 132) rfl fun T25 P25 => ?_
  show Go p e below _ (T25.setTop (mkF m 132 #[.val (.int x0), .val (.int x1), .val (.int x2), .val (.ref bp), .val (.int sel), .val (.ref mk), .val (.int (1 : Int32)), .unset, .unset] [(.int ((16388 : Int32) - (0 : Int32)))]))
  rw [show (16388 : Int32) - (0 : Int32) = (16388 : Int32) from by decide]
  show Go p e below _ (T25.setTop (mkF m 132 #[.val (.int x0), .val (.int x1), .val (.int x2), .val (.ref bp), .val (.int sel), .val (.ref mk), .val (.int (1 : Int32)), .unset, .unset] [(.int (16388 : Int32))]))
  refine G.sipush P25 at_132 (z := (16388 : Int32)) rfl (pc' := 135) rfl ?_
  refine G.icmp_ne P25 at_135 (by decide) (pcY := 152) (by decide) (pcN := 138) rfl (fun c26 => absurd c26 (by decide)) (fun c26 => ?_)
  refine G.aloadN P25 at_138 rfl rfl (pc' := 139) rfl ?_
  refine G.callVP P25 (rmSz l Z a0 hw bp li en fr ed ke mc b1 b2 (16388 : Int32) (1 : Int32) (4 : Int32) (.ref b2) T8.heap f16 f17) (wk hw 242 rfl) (wk hw 243 rfl) (wk hw 245 rfl) rfl (wk hw 244 rfl) (wk hw 2 rfl) (wk hw 246 rfl) (by decide) f24 pd_38 (argsL := []) (rest := []) rfl rfl rfl rfl (W := 0) (Nat.le_of_eq rfl) (by decide) at_139 (pc' := 142) rfl fun T27 P27 => ?_
  show Go p e below _ (T27.setTop (mkF m 142 #[.val (.int x0), .val (.int x1), .val (.int x2), .val (.ref bp), .val (.int sel), .val (.ref mk), .val (.int (1 : Int32)), .unset, .unset] [(.int (16388 : Int32))]))
  refine G.sipush P27 at_142 (z := (16388 : Int32)) rfl (pc' := 145) rfl ?_
  refine G.icmp_ne P27 at_145 (by decide) (pcY := 152) (by decide) (pcN := 148) rfl (fun c28 => absurd c28 (by decide)) (fun c28 => ?_)
  refine G.iconst P27 at_148 (z := (1 : Int32)) rfl (pc' := 149) rfl ?_
  refine G.goto P27 at_149 (by decide) (pc' := 153) (by decide) ?_
  refine G.istore P27 at_153 (l' := #[.val (.int x0), .val (.int x1), .val (.int x2), .val (.ref bp), .val (.int sel), .val (.ref mk), .val (.int (1 : Int32)), .val (.int (1 : Int32)), .unset]) rfl (pc' := 155) rfl ?_
  refine G.aloadN P27 at_155 rfl rfl (pc' := 156) rfl ?_
  have f29 := ((V1.keep K2 (ninS n_b1_fr nin0)).keep K8 nin0)
  refine G.callV P27 (rmTIN l Z a0 hw bp li en fr ed ke mc b1 b2 k1 (nar .byte (x0 >>> ((24 : Int32) &&& 31)).toInt8.toInt32) (nar .byte (x0 >>> ((16 : Int32) &&& 31)).toInt8.toInt32) (nar .byte (x0 >>> ((8 : Int32) &&& 31)).toInt8.toInt32) (nar .byte (x0 >>> ((0 : Int32) &&& 31)).toInt8.toInt32) (tl) T8.heap n0 f16 ⟨n_bp_fr, n_li_fr, n_ed_fr⟩ gf ⟨n_bp_b1, n_li_b1, n_ed_b1⟩ g1 ⟨f18, f19, f20, f21, f22, f23⟩ n_b1_fr n_b2_fr n_b1_b2 f29) (wk hw 182 rfl) (wk hw 183 rfl) (wk hw 185 rfl) rfl (wk hw 184 rfl) (wk hw 2 rfl) (wk hw 186 rfl) (by decide) f24 pd_28 (argsL := []) (rest := []) rfl rfl rfl rfl (W := 0) (Nat.le_of_eq rfl) (by decide) at_156 (pc' := 159) rfl fun T30 L30 v30 P30 Q30 => ?_
  obtain ⟨rfl, N30, K30, HP30⟩ := Q30
  have N31 := Fr.app N9 N30
  show Go p e below _ (T30.setTop (mkF m 159 #[.val (.int x0), .val (.int x1), .val (.int x2), .val (.ref bp), .val (.int sel), .val (.ref mk), .val (.int (1 : Int32)), .val (.int (1 : Int32)), .unset] [(.int (own_rd (nar .byte (x0 >>> ((24 : Int32) &&& 31)).toInt8.toInt32) (nar .byte (x0 >>> ((16 : Int32) &&& 31)).toInt8.toInt32) (nar .byte (x0 >>> ((8 : Int32) &&& 31)).toInt8.toInt32) (nar .byte (x0 >>> ((0 : Int32) &&& 31)).toInt8.toInt32)))]))
  obtain ⟨pE32, pT32, pA32, pC32, pO32, pR32⟩ := id HP30
  rw [own_bytes x0]
  show Go p e below _ (T30.setTop (mkF m 159 #[.val (.int x0), .val (.int x1), .val (.int x2), .val (.ref bp), .val (.int sel), .val (.ref mk), .val (.int (1 : Int32)), .val (.int (1 : Int32)), .unset] [(.int x0)]))
  refine G.istore P30 at_159 (l' := #[.val (.int x0), .val (.int x1), .val (.int x2), .val (.ref bp), .val (.int sel), .val (.ref mk), .val (.int (1 : Int32)), .val (.int (1 : Int32)), .val (.int x0)]) rfl (pc' := 161) rfl ?_
  refine G.iload P30 at_161 rfl (pc' := 163) rfl ?_
  refine G.if_eq P30 at_163 (by decide) (pcY := 191) (by decide) (pcN := 166) rfl (fun c33 => absurd c33 (by decide)) (fun c33 => ?_)
  refine G.iload P30 at_166 rfl (pc' := 168) rfl ?_
  refine G.if_eq P30 at_168 (by decide) (pcY := 191) (by decide) (pcN := 171) rfl (fun c34 => absurd c34 (by decide)) (fun c34 => ?_)
  refine G.iload P30 at_171 rfl (pc' := 173) rfl ?_
  refine G.iloadN P30 at_173 rfl (pc' := 174) rfl ?_
  refine G.icmp_ne P30 at_174 (by decide) (pcY := 191) (by decide) (pcN := 177) rfl (fun cc => absurd rfl cc) (fun cc => ?_)
  refine G.aloadN P30 at_177 rfl rfl (pc' := 178) rfl ?_
  have f35 := (f16.keep K30 (ninS n_bp_fr nin0) (ninS n_li_fr nin0) (ninS n_ed_fr nin0))
  have f36 := (f17.keep K30 (ninS n_en_fr nin0))
  have f37 := (f24.keep K30)
  refine G.callVP P30 (rmRem l Z a0 hw bp li en fr ed ke mc b1 b2 (16388 : Int32) (1 : Int32) (4 : Int32) (.ref b2) (4 : Int32) (0 : Int32) (4 : Int32) (.ref b1) T30.heap f35 f36 ⟨pE32, pT32, pA32, pC32, pO32, pR32⟩) (wk hw 237 rfl) (wk hw 238 rfl) (wk hw 240 rfl) rfl (wk hw 239 rfl) (wk hw 2 rfl) (wk hw 241 rfl) (by decide) f37 pd_37 (argsL := []) (rest := []) rfl rfl rfl rfl (W := 0) (Nat.le_of_eq rfl) (by decide) at_178 (pc' := 181) rfl fun T38 P38 => ?_
  show Go p e below _ (T38.setTop (mkF m 181 #[.val (.int x0), .val (.int x1), .val (.int x2), .val (.ref bp), .val (.int sel), .val (.ref mk), .val (.int (1 : Int32)), .val (.int (1 : Int32)), .val (.int x0)] [(.int ((16388 : Int32) - (4 : Int32)))]))
  rw [show (16388 : Int32) - (4 : Int32) = (16384 : Int32) from by decide]
  show Go p e below _ (T38.setTop (mkF m 181 #[.val (.int x0), .val (.int x1), .val (.int x2), .val (.ref bp), .val (.int sel), .val (.ref mk), .val (.int (1 : Int32)), .val (.int (1 : Int32)), .val (.int x0)] [(.int (16384 : Int32))]))
  refine G.sipush P38 at_181 (z := (16384 : Int32)) rfl (pc' := 184) rfl ?_
  refine G.icmp_ne P38 at_184 (by decide) (pcY := 191) (by decide) (pcN := 187) rfl (fun c39 => absurd c39 (by decide)) (fun c39 => ?_)
  refine G.iconst P38 at_187 (z := (1 : Int32)) rfl (pc' := 188) rfl ?_
  refine G.goto P38 at_188 (by decide) (pc' := 192) (by decide) ?_
  exact G.retN P38 (t := .boolean) rfl (by simp) at_192 (by decide) (by decide) ⟨rfl, N31⟩

theorem ef_0 (m : MethodId) (x0 x1 x2 : Int32) : entryFrame m #[(.int x0), (.int x1), (.int x2)] maxLocals = mkF m 0 #[.val (.int x0), .val (.int x1), .val (.int x2), .unset, .unset, .unset, .unset, .unset, .unset] [] := by first | (simp [entryFrame, mkF, argsToLocals, Value.category, maxLocals]; done) | rfl
set_option maxRecDepth 65536 in
set_option maxHeartbeats 40000000 in
theorem rm0 (l : Launch) (Z : State) (a0 : Array Value) (hw : ∀ d ∈ tables_1, d.before a0 Z = true) (x0 x1 x2 : Int32) (h0 : Heap) (n0 : Nat) (Z0 : n0 ≤ Array.size h0) (de : Addr) (kd : ClassId) (vd : List Value) (hde : de < n0) (SD : Sta Z h0 "java/util/ArrayList" "DEFAULTCAPACITY_EMPTY_ELEMENTDATA" "[Ljava/lang/Object;" (.ref de)) (VD : Arv Z h0 de kd (.object "java/lang/Object") (0 : Int32) vd .null) :
    MetFree l x (head1 (Jvm.Cond.code x code maxLocals ret :: tables_1) room_1) (fun a U => a = #[(.int x0), (.int x1), (.int x2)] ∧ Z.Warmed39 U.vm ∧ U.heap = h0) (fun _ _ _ _ _ => True) (fun _ U o U' => ∃ v L, o = .returned v ∧ (fun v h L => v = some (.int 1) ∧ Fr n0 L) v U'.heap L ∧ FrameEnd U o U' L room_1.cells room_1.slots) := by
  refine met (Q := fun v h L => v = some (.int 1) ∧ Fr n0 L) pf_0 (fun m => ef_0 m x0 x1 x2) fun p e s m below meth c T0 P0 => ?_
  have N0 := Fr.nil n0
  refine G.newO P0 (wk hw 0 rfl) (wk hw 1 rfl) (wk hw 2 rfl) at_0 (by decide) (pc' := 3) rfl fun T1 h1 a1 g1 P1 E1 A1 D1 => ?_
  have n2 : de ≠ a1 := by rw [g1]; exact Nat.ne_of_lt VD.lt
  have g3 : n0 ≤ a1 := by rw [g1]; exact Z0
  have f4 : Fld Z h1 a1 "com/example/overuse_to_delay/overusetodelay/gateway/BytePieces" "pieces" "Ljava/util/List;" .null := D1 (Or.inr (wk hw 34 rfl)) (ty := (.object "java/util/List")) (by decide)
  have f5 : Fld Z h1 a1 "com/example/overuse_to_delay/overusetodelay/gateway/BytePieces" "end" "Lcom/example/overuse_to_delay/overusetodelay/gateway/BytePieces$Place;" .null := D1 (Or.inr (wk hw 45 rfl)) (ty := (.object "com/example/overuse_to_delay/overusetodelay/gateway/BytePieces$Place")) (by decide)
  have f6 : Fld Z h1 a1 "com/example/overuse_to_delay/overusetodelay/gateway/BytePieces" "front" "Lcom/example/overuse_to_delay/overusetodelay/gateway/BytePieces$Place;" .null := D1 (Or.inr (wk hw 47 rfl)) (ty := (.object "com/example/overuse_to_delay/overusetodelay/gateway/BytePieces$Place")) (by decide)
  have f7 : Fld Z h1 a1 "com/example/overuse_to_delay/overusetodelay/gateway/BytePieces" "capacity" "I" (.int (0 : Int32)) := D1 (Or.inl (wk hw 54 rfl)) (ty := .int) (by decide)
  refine G.dup P1 at_3 rfl (pc' := 4) rfl ?_
  have f8 := (SD.ext E1)
  have f9 := (VD.ext E1)
  have z10 : n0 ≤ Array.size h1 := (Nat.le_trans Z0 E1.1)
  have nde : a1 ≠ de := Nat.ne_of_gt (Nat.lt_of_lt_of_le hde g3)
  refine G.callI P1 (rmBP l Z a0 hw a1 de h1 n0 z10 g3 A1 f4 f5 f6 f7 f8) rfl (wk hw 3 rfl) (wk hw 4 rfl) (wk hw 2 rfl) (wk hw 5 rfl) (by decide) pd_1 (argsL := []) (rest := [(.ref a1)]) rfl rfl rfl rfl (W := 1) (Nat.le_of_eq rfl) (by decide) at_4 (pc' := 7) rfl fun T11 L11 v11 P11 Q11 => ?_
  obtain ⟨rfl, N11, K11, li, en, fr, ⟨d1, d2, d3, d4, d5, d6⟩, ⟨gl, gn, gf⟩, ⟨s1, s2, s3⟩, HB, HL, HE, HF⟩ := Q11
  have N12 := Fr.app N0 N11
  show Go p e below _ (T11.setTop (mkF m 7 #[.val (.int x0), .val (.int x1), .val (.int x2), .unset, .unset, .unset, .unset, .unset, .unset] [(.ref a1)]))
  have sd2 := own_sta f8 K11 (own_plain A1)
  have hlde : li ≠ de := Nat.ne_of_gt (Nat.lt_of_lt_of_le hde gl)
  obtain ⟨bp, ebp⟩ : ∃ bp, bp = a1 := ⟨_, rfl⟩
  have f13 := (f9.keep K11 (ninS (Ne.symm nde) nin0))
  rw [← ebp] at d1 d2 d3 HB HE HF
  have gb : n0 ≤ bp := by rw [ebp]; exact g3
  rw [← ebp]
  show Go p e below _ (T11.setTop (mkF m 7 #[.val (.int x0), .val (.int x1), .val (.int x2), .unset, .unset, .unset, .unset, .unset, .unset] [(.ref bp)]))
  refine G.astoreN P11 at_7 rfl (l' := #[.val (.int x0), .val (.int x1), .val (.int x2), .val (.ref bp), .unset, .unset, .unset, .unset, .unset]) rfl (pc' := 8) rfl ?_
  refine G.aloadN P11 at_8 rfl rfl (pc' := 9) rfl ?_
  refine G.sipush P11 at_9 (z := (16392 : Int32)) rfl (pc' := 12) rfl ?_
  have z14 : n0 ≤ Array.size T11.heap := (Nat.le_trans z10 K11.1)
  refine G.callV P11 (rmGT l Z a0 hw bp li en fr de (0 : Int32) kd vd T11.heap n0 z14 gb gl d1 hlde HB HL f13 sd2) (wk hw 48 rfl) (wk hw 49 rfl) (wk hw 51 rfl) rfl (wk hw 50 rfl) (wk hw 2 rfl) (wk hw 52 rfl) (by decide) HB.1 pd_7 (argsL := [(.int (16392 : Int32))]) (rest := []) rfl rfl rfl rfl (W := 0) (Nat.le_of_eq rfl) (by decide) at_12 (pc' := 15) rfl fun T15 L15 v15 P15 Q15 => ?_
  obtain ⟨rfl, N15, K15, ed, ke, b1, b2, k1, k2, HW, V1, V2, ⟨ge_, g1, g2⟩, ⟨q1, q2, q3⟩, n_ed_b1, n_ed_b2, n_b1_b2⟩ := Q15
  have N16 := Fr.app N12 N15
  show Go p e below _ (T15.setTop (mkF m 15 #[.val (.int x0), .val (.int x1), .val (.int x2), .val (.ref bp), .unset, .unset, .unset, .unset, .unset] []))
  have f17 := (HE.keep K15 (ninS (Ne.symm d2) (ninS (Ne.symm d4) nin0)))
  have f18 := (HF.keep K15 (ninS (Ne.symm d3) (ninS (Ne.symm d5) nin0)))
  have n_bp_ed : bp ≠ ed := Nat.ne_of_lt (Nat.lt_of_lt_of_le HB.1.lt q1)
  have n_bp_b1 : bp ≠ b1 := Nat.ne_of_lt (Nat.lt_of_lt_of_le HB.1.lt q2)
  have n_bp_b2 : bp ≠ b2 := Nat.ne_of_lt (Nat.lt_of_lt_of_le HB.1.lt q3)
  have n_li_ed : li ≠ ed := Nat.ne_of_lt (Nat.lt_of_lt_of_le HL.1.lt q1)
  have n_li_b1 : li ≠ b1 := Nat.ne_of_lt (Nat.lt_of_lt_of_le HL.1.lt q2)
  have n_li_b2 : li ≠ b2 := Nat.ne_of_lt (Nat.lt_of_lt_of_le HL.1.lt q3)
  have n_en_ed : en ≠ ed := Nat.ne_of_lt (Nat.lt_of_lt_of_le HE.1.lt q1)
  have n_en_b1 : en ≠ b1 := Nat.ne_of_lt (Nat.lt_of_lt_of_le HE.1.lt q2)
  have n_en_b2 : en ≠ b2 := Nat.ne_of_lt (Nat.lt_of_lt_of_le HE.1.lt q3)
  have n_fr_ed : fr ≠ ed := Nat.ne_of_lt (Nat.lt_of_lt_of_le HF.1.lt q1)
  have n_fr_b1 : fr ≠ b1 := Nat.ne_of_lt (Nat.lt_of_lt_of_le HF.1.lt q2)
  have n_fr_b2 : fr ≠ b2 := Nat.ne_of_lt (Nat.lt_of_lt_of_le HF.1.lt q3)
  have HD : own_D bp li ed en fr b1 b2 := ⟨d2, d3, n_bp_b1, n_bp_b2, d4, d5, n_li_b1, n_li_b2, (Ne.symm n_en_ed), (Ne.symm n_fr_ed), n_ed_b1, n_ed_b2, d6, (Ne.symm n_en_b1), (Ne.symm n_en_b2), (Ne.symm n_fr_b1), (Ne.symm n_fr_b2), n_b1_b2⟩
  obtain ⟨mc, emc⟩ : ∃ mc : Int32, ((0 : Int32) + (1 : Int32) + (1 : Int32)) = mc := ⟨_, rfl⟩
  rw [emc] at HW
  obtain ⟨pE19, pT19, pA19, pC19, pO19, pR19⟩ := id f17
  refine G.aloadN P15 at_15 rfl rfl (pc' := 16) rfl ?_
  refine G.iloadN P15 at_16 rfl (pc' := 17) rfl ?_
  refine G.callV P15 (rmPIN l Z a0 hw bp li en fr ed ke mc b1 b2 k1 (0 : Int32) (0 : Int32) (0 : Int32) (0 : Int32) (List.replicate 16380 (.int (0 : Int32))) x0 T15.heap n0 HW ⟨d2, d4, (Ne.symm n_en_ed)⟩ gn ⟨n_bp_b1, n_li_b1, n_ed_b1⟩ g1 ⟨pE19, pT19, pA19, pC19, pO19, pR19⟩ (Ne.symm n_en_b1) (Ne.symm n_en_b2) n_b1_b2 V1) (wk hw 98 rfl) (wk hw 99 rfl) (wk hw 101 rfl) rfl (wk hw 100 rfl) (wk hw 2 rfl) (wk hw 102 rfl) (by decide) HW.1.1 pd_15 (argsL := [(.int x0)]) (rest := []) rfl rfl rfl rfl (W := 0) (Nat.le_of_eq rfl) (by decide) at_17 (pc' := 20) rfl fun T20 L20 v20 P20 Q20 => ?_
  obtain ⟨rfl, N20, K20, HP20, VB20⟩ := Q20
  have N21 := Fr.app N16 N20
  show Go p e below _ (T20.setTop (mkF m 20 #[.val (.int x0), .val (.int x1), .val (.int x2), .val (.ref bp), .unset, .unset, .unset, .unset, .unset] []))
  obtain ⟨pE22, pT22, pA22, pC22, pO22, pR22⟩ := id HP20
  refine G.aloadN P20 at_20 rfl rfl (pc' := 21) rfl ?_
  refine G.sipush P20 at_21 (z := (16380 : Int32)) rfl (pc' := 24) rfl ?_
  have f23 := (V2.keep K20 (ninS (Ne.symm n_en_b2) (ninS (Ne.symm n_b1_b2) nin0)))
  have f24 := (HW.1.1.keep K20)
  have z25 : n0 ≤ Array.size T20.heap := (Nat.le_trans (Nat.le_trans z14 K15.1) K20.1)
  refine G.newP P20 (wk hw 59 rfl) (by decide) (cap := 16380) (by decide) (by decide) (by decide) at_24 (pc' := 26) rfl fun T26 h26 a26 k26 g26 P26 E26 V26 => ?_
  have n27 : b1 ≠ a26 := by rw [g26]; exact Nat.ne_of_lt VB20.lt
  have n28 : b2 ≠ a26 := by rw [g26]; exact Nat.ne_of_lt f23.lt
  have n29 : bp ≠ a26 := by rw [g26]; exact Nat.ne_of_lt f24.lt
  have n30 : en ≠ a26 := by rw [g26]; exact Nat.ne_of_lt pE22.lt
  have g31 : n0 ≤ a26 := by rw [g26]; exact z25
  have f32 := ((HW.keep K20 (ninS d2 (ninS n_bp_b1 nin0)) (ninS d4 (ninS n_li_b1 nin0)) (ninS (Ne.symm n_en_ed) (ninS n_ed_b1 nin0))).ext E26)
  have f33 := (pE22.ext E26)
  have f34 := (pT22.ext E26)
  have f35 := (pA22.ext E26)
  have f36 := (pC22.ext E26)
  have f37 := (pO22.ext E26)
  have f38 := (pR22.ext E26)
  have f39 := (VB20.ext E26)
  have f40 := (f24.ext E26)
  refine G.callV P26 (rmPut l Z a0 hw bp li en fr ed ke mc b1 b2 a26 k26 k1 (nar .byte (x0 >>> ((24 : Int32) &&& 31)).toInt8.toInt32) (nar .byte (x0 >>> ((16 : Int32) &&& 31)).toInt8.toInt32) (nar .byte (x0 >>> ((8 : Int32) &&& 31)).toInt8.toInt32) (nar .byte (x0 >>> ((0 : Int32) &&& 31)).toInt8.toInt32) _ h26 n0 f32 ⟨d2, d4, (Ne.symm n_en_ed)⟩ gn ⟨n_bp_b1, n_li_b1, n_ed_b1⟩ g1 ⟨f33, f34, f35, f36, f37, f38⟩ (Ne.symm n_en_b1) (Ne.symm n27) V26 f39 List.length_replicate) (wk hw 160 rfl) (wk hw 161 rfl) (wk hw 163 rfl) rfl (wk hw 162 rfl) (wk hw 2 rfl) (wk hw 164 rfl) (by decide) f40 pd_25 (argsL := [(.ref a26)]) (rest := []) rfl rfl rfl rfl (W := 0) (Nat.le_of_eq rfl) (by decide) at_26 (pc' := 29) rfl fun T41 L41 v41 P41 Q41 => ?_
  obtain ⟨rfl, N41, K41, HP41, tl, VB41⟩ := Q41
  have N42 := Fr.app N21 N41
  show Go p e below _ (T41.setTop (mkF m 29 #[.val (.int x0), .val (.int x1), .val (.int x2), .val (.ref bp), .unset, .unset, .unset, .unset, .unset] []))
  obtain ⟨pE43, pT43, pA43, pC43, pO43, pR43⟩ := id HP41
  refine G.aloadN P41 at_29 rfl rfl (pc' := 30) rfl ?_
  refine G.iloadN P41 at_30 rfl (pc' := 31) rfl ?_
  have f44 := ((f23.ext E26).keep K41 (ninS (Ne.symm n_en_b2) (ninS (Ne.symm n_b1_b2) nin0)))
  have f45 := (f32.keep K41 (ninS d2 (ninS n_bp_b1 nin0)) (ninS d4 (ninS n_li_b1 nin0)) (ninS (Ne.symm n_en_ed) (ninS n_ed_b1 nin0)))
  have f46 := (f40.keep K41)
  refine G.callV P41 (rmPIX l Z a0 hw bp li en fr ed ke mc b1 b2 k2 (0 : Int32) (0 : Int32) (0 : Int32) (0 : Int32) ([(.int (0 : Int32)), (.int (0 : Int32)), (.int (0 : Int32)), (.int (0 : Int32))]) k1 _ x1 T41.heap n0 f45 ⟨d2, d4, (Ne.symm n_en_ed)⟩ gn ⟨n_bp_b2, n_li_b2, n_ed_b2⟩ g2 ⟨pE43, pT43, pA43, pC43, pO43, pR43⟩ (Ne.symm n_en_b1) (Ne.symm n_en_b2) n_b1_b2 VB41 f44) (wk hw 98 rfl) (wk hw 99 rfl) (wk hw 101 rfl) rfl (wk hw 100 rfl) (wk hw 2 rfl) (wk hw 102 rfl) (by decide) f46 pd_15 (argsL := [(.int x1)]) (rest := []) rfl rfl rfl rfl (W := 0) (Nat.le_of_eq rfl) (by decide) at_31 (pc' := 34) rfl fun T47 L47 v47 P47 Q47 => ?_
  obtain ⟨rfl, N47, K47, HP47, VB47⟩ := Q47
  have N48 := Fr.app N42 N47
  show Go p e below _ (T47.setTop (mkF m 34 #[.val (.int x0), .val (.int x1), .val (.int x2), .val (.ref bp), .unset, .unset, .unset, .unset, .unset] []))
  have f49 := (f45.keep K47 (ninS d2 (ninS n_bp_b2 nin0)) (ninS d4 (ninS n_li_b2 nin0)) (ninS (Ne.symm n_en_ed) (ninS n_ed_b2 nin0)))
  have f50 := ((((f18.keep K20 (ninS (Ne.symm d6) (ninS n_fr_b1 nin0))).ext E26).keep K41 (ninS (Ne.symm d6) (ninS n_fr_b1 nin0))).keep K47 (ninS (Ne.symm d6) (ninS n_fr_b2 nin0)))
  have f51 := (VB41.keep K47 (ninS (Ne.symm n_en_b1) (ninS n_b1_b2 nin0)))
  have f52 := (f46.keep K47)
  have z53 : n0 ≤ Array.size T47.heap := (Nat.le_trans (Nat.le_trans (Nat.le_trans z25 E26.1) K41.1) K47.1)
  refine G.iloadN P47 at_34 rfl (pc' := 35) rfl ?_
  refine G.iconst P47 at_35 (z := (3 : Int32)) rfl (pc' := 36) rfl ?_
  obtain ⟨sel, h_sel⟩ : ∃ z : Int32, (x2 &&& (3 : Int32)) = z := ⟨_, rfl⟩
  refine G.iand P47 at_36 (z := sel) h_sel (pc' := 37) rfl ?_
  refine G.istore P47 at_37 (l' := #[.val (.int x0), .val (.int x1), .val (.int x2), .val (.ref bp), .val (.int sel), .unset, .unset, .unset, .unset]) rfl (pc' := 39) rfl ?_
  refine G.iload P47 at_39 rfl (pc' := 41) rfl ?_
  refine G.iconst P47 at_41 (z := (1 : Int32)) rfl (pc' := 42) rfl ?_
  refine G.icmp_ne P47 at_42 (by decide) (pcY := 53) (by decide) (pcN := 45) rfl (fun c54 => ?_) (fun c54 => ?_)
  · --
    refine G.iload P47 at_53 rfl (pc' := 55) rfl ?_
    refine G.iconst P47 at_55 (z := (2 : Int32)) rfl (pc' := 56) rfl ?_
    refine G.icmp_ne P47 at_56 (by decide) (pcY := 74) (by decide) (pcN := 59) rfl (fun c55 => ?_) (fun c55 => ?_)
    · --
      refine G.iload P47 at_74 rfl (pc' := 76) rfl ?_
      refine G.iconst P47 at_76 (z := (3 : Int32)) rfl (pc' := 77) rfl ?_
      refine G.icmp_ne P47 at_77 (by decide) (pcY := 87) (by decide) (pcN := 80) rfl (fun c56 => ?_) (fun c56 => ?_)
      · --
        exact own_tail a0 hw x0 x1 x2 sel bp li en fr ed ke mc b1 b2 k1 tl (0 : Int32) (0 : Int32) (0 : Int32) .null P47 N48 z53 HD gf gn g1 g2 f49 HP47 f50 f51
      · --
        refine G.aloadN P47 at_80 rfl rfl (pc' := 81) rfl ?_
        refine G.sipush P47 at_81 (z := (16388 : Int32)) rfl (pc' := 84) rfl ?_
        refine G.callV P47 (rmSk16388 l Z a0 hw bp li en fr ed ke mc b1 b2 k1 _ k2 _ T47.heap n0 f49 ⟨d3, d5, (Ne.symm n_fr_ed)⟩ gf f50 f51 (Ne.symm n_fr_b1) VB47 (Ne.symm n_fr_b2)) (wk hw 171 rfl) (wk hw 172 rfl) (wk hw 174 rfl) rfl (wk hw 173 rfl) (wk hw 2 rfl) (wk hw 175 rfl) (by decide) f52 pd_26 (argsL := [(.int (16388 : Int32))]) (rest := []) rfl rfl rfl rfl (W := 0) (Nat.le_of_eq rfl) (by decide) at_84 (pc' := 87) rfl fun T57 L57 v57 P57 Q57 => ?_
        obtain ⟨rfl, N57, K57, HP57⟩ := Q57
        have N58 := Fr.app N48 N57
        show Go p e below _ (T57.setTop (mkF m 87 #[.val (.int x0), .val (.int x1), .val (.int x2), .val (.ref bp), .val (.int sel), .unset, .unset, .unset, .unset] []))
        have f59 := (f49.keep K57 (ninS d3 nin0) (ninS d5 nin0) (ninS (Ne.symm n_fr_ed) nin0))
        have f60 := (HP47.keep K57 (ninS d6 nin0))
        have f61 := (f51.keep K57 (ninS (Ne.symm n_fr_b1) nin0))
        have z62 : n0 ≤ Array.size T57.heap := (Nat.le_trans z53 K57.1)
        exact own_tail a0 hw x0 x1 x2 sel bp li en fr ed ke mc b1 b2 k1 tl (16388 : Int32) (1 : Int32) (4 : Int32) (.ref b2) P57 N58 z62 HD gf gn g1 g2 f59 f60 HP57 f61
    · --
      refine G.aloadN P47 at_59 rfl rfl (pc' := 60) rfl ?_
      refine G.sipush P47 at_60 (z := (16384 : Int32)) rfl (pc' := 63) rfl ?_
      refine G.callV P47 (rmSk16384 l Z a0 hw bp li en fr ed ke mc b1 b2 k1 _ k2 _ T47.heap n0 f49 ⟨d3, d5, (Ne.symm n_fr_ed)⟩ gf f50 f51 (Ne.symm n_fr_b1) VB47 (Ne.symm n_fr_b2)) (wk hw 171 rfl) (wk hw 172 rfl) (wk hw 174 rfl) rfl (wk hw 173 rfl) (wk hw 2 rfl) (wk hw 175 rfl) (by decide) f52 pd_26 (argsL := [(.int (16384 : Int32))]) (rest := []) rfl rfl rfl rfl (W := 0) (Nat.le_of_eq rfl) (by decide) at_63 (pc' := 66) rfl fun T63 L63 v63 P63 Q63 => ?_
      obtain ⟨rfl, N63, K63, HP63⟩ := Q63
      have N64 := Fr.app N48 N63
      show Go p e below _ (T63.setTop (mkF m 66 #[.val (.int x0), .val (.int x1), .val (.int x2), .val (.ref bp), .val (.int sel), .unset, .unset, .unset, .unset] []))
      obtain ⟨pE65, pT65, pA65, pC65, pO65, pR65⟩ := id HP63
      refine G.aloadN P63 at_66 rfl rfl (pc' := 67) rfl ?_
      have f66 := (VB47.keep K63 (ninS (Ne.symm n_fr_b2) nin0))
      have f67 := (f49.keep K63 (ninS d3 nin0) (ninS d5 nin0) (ninS (Ne.symm n_fr_ed) nin0))
      have f68 := (f51.keep K63 (ninS (Ne.symm n_fr_b1) nin0))
      have f69 := (f52.keep K63)
      refine G.callV P63 (rmTIX l Z a0 hw bp li en fr ed ke mc b1 b2 k2 (nar .byte (x1 >>> ((24 : Int32) &&& 31)).toInt8.toInt32) (nar .byte (x1 >>> ((16 : Int32) &&& 31)).toInt8.toInt32) (nar .byte (x1 >>> ((8 : Int32) &&& 31)).toInt8.toInt32) (nar .byte (x1 >>> ((0 : Int32) &&& 31)).toInt8.toInt32) ([(.int (0 : Int32)), (.int (0 : Int32)), (.int (0 : Int32)), (.int (0 : Int32))]) k1 _ T63.heap n0 f67 ⟨d3, d5, (Ne.symm n_fr_ed)⟩ gf ⟨n_bp_b2, n_li_b2, n_ed_b2⟩ g2 ⟨pE65, pT65, pA65, pC65, pO65, pR65⟩ (Ne.symm n_fr_b1) (Ne.symm n_fr_b2) n_b1_b2 f68 f66) (wk hw 182 rfl) (wk hw 183 rfl) (wk hw 185 rfl) rfl (wk hw 184 rfl) (wk hw 2 rfl) (wk hw 186 rfl) (by decide) f69 pd_28 (argsL := []) (rest := []) rfl rfl rfl rfl (W := 0) (Nat.le_of_eq rfl) (by decide) at_67 (pc' := 70) rfl fun T70 L70 v70 P70 Q70 => ?_
      obtain ⟨rfl, N70, K70, HP70⟩ := Q70
      have N71 := Fr.app N64 N70
      show Go p e below _ (T70.setTop (mkF m 70 #[.val (.int x0), .val (.int x1), .val (.int x2), .val (.ref bp), .val (.int sel), .unset, .unset, .unset, .unset] [(.int (own_rd (nar .byte (x1 >>> ((24 : Int32) &&& 31)).toInt8.toInt32) (nar .byte (x1 >>> ((16 : Int32) &&& 31)).toInt8.toInt32) (nar .byte (x1 >>> ((8 : Int32) &&& 31)).toInt8.toInt32) (nar .byte (x1 >>> ((0 : Int32) &&& 31)).toInt8.toInt32)))]))
      refine G.pop P70 at_70 rfl (pc' := 71) rfl ?_
      refine G.goto P70 at_71 (by decide) (pc' := 87) (by decide) ?_
      have f72 := (f67.keep K70 (ninS d3 nin0) (ninS d5 nin0) (ninS (Ne.symm n_fr_ed) nin0))
      have f73 := ((HP47.keep K63 (ninS d6 nin0)).keep K70 (ninS d6 nin0))
      have f74 := (f68.keep K70 (ninS (Ne.symm n_fr_b1) nin0))
      have z75 : n0 ≤ Array.size T70.heap := (Nat.le_trans (Nat.le_trans z53 K63.1) K70.1)
      exact own_tail a0 hw x0 x1 x2 sel bp li en fr ed ke mc b1 b2 k1 tl (16388 : Int32) (1 : Int32) (4 : Int32) (.ref b2) P70 N71 z75 HD gf gn g1 g2 f72 f73 HP70 f74
  · --
    obtain ⟨pE76, pT76, pA76, pC76, pO76, pR76⟩ := id f50
    refine G.aloadN P47 at_45 rfl rfl (pc' := 46) rfl ?_
    refine G.callV P47 (rmTIN l Z a0 hw bp li en fr ed ke mc b1 b2 k1 (nar .byte (x0 >>> ((24 : Int32) &&& 31)).toInt8.toInt32) (nar .byte (x0 >>> ((16 : Int32) &&& 31)).toInt8.toInt32) (nar .byte (x0 >>> ((8 : Int32) &&& 31)).toInt8.toInt32) (nar .byte (x0 >>> ((0 : Int32) &&& 31)).toInt8.toInt32) (tl) T47.heap n0 f49 ⟨d3, d5, (Ne.symm n_fr_ed)⟩ gf ⟨n_bp_b1, n_li_b1, n_ed_b1⟩ g1 ⟨pE76, pT76, pA76, pC76, pO76, pR76⟩ (Ne.symm n_fr_b1) (Ne.symm n_fr_b2) n_b1_b2 f51) (wk hw 182 rfl) (wk hw 183 rfl) (wk hw 185 rfl) rfl (wk hw 184 rfl) (wk hw 2 rfl) (wk hw 186 rfl) (by decide) f52 pd_28 (argsL := []) (rest := []) rfl rfl rfl rfl (W := 0) (Nat.le_of_eq rfl) (by decide) at_46 (pc' := 49) rfl fun T77 L77 v77 P77 Q77 => ?_
    obtain ⟨rfl, N77, K77, HP77⟩ := Q77
    have N78 := Fr.app N48 N77
    show Go p e below _ (T77.setTop (mkF m 49 #[.val (.int x0), .val (.int x1), .val (.int x2), .val (.ref bp), .val (.int sel), .unset, .unset, .unset, .unset] [(.int (own_rd (nar .byte (x0 >>> ((24 : Int32) &&& 31)).toInt8.toInt32) (nar .byte (x0 >>> ((16 : Int32) &&& 31)).toInt8.toInt32) (nar .byte (x0 >>> ((8 : Int32) &&& 31)).toInt8.toInt32) (nar .byte (x0 >>> ((0 : Int32) &&& 31)).toInt8.toInt32)))]))
    refine G.pop P77 at_49 rfl (pc' := 50) rfl ?_
    refine G.goto P77 at_50 (by decide) (pc' := 87) (by decide) ?_
    have f79 := (f49.keep K77 (ninS d3 nin0) (ninS d5 nin0) (ninS (Ne.symm n_fr_ed) nin0))
    have f80 := (HP47.keep K77 (ninS d6 nin0))
    have f81 := (f51.keep K77 (ninS (Ne.symm n_fr_b1) nin0))
    have z82 : n0 ≤ Array.size T77.heap := (Nat.le_trans z53 K77.1)
    exact own_tail a0 hw x0 x1 x2 sel bp li en fr ed ke mc b1 b2 k1 tl (4 : Int32) (0 : Int32) (4 : Int32) (.ref b1) P77 N78 z82 HD gf gn g1 g2 f79 f80 HP77 f81

set_option maxRecDepth 65536 in
set_option maxHeartbeats 40000000 in
theorem comes_1 {Post : Tables → Env → Array Value → State → Outcome → State → Prop} (hpost : ∀ tb e args s v u, (limb_1_1.after args s (.returned v) u = true ∧ limb_1_2.after args s (.returned v) u = true ∧ True) → FrameEnd s (.returned v) u (Jvm.fieldLocs frame_1_writes args s ++ Jvm.arrayLocs frame_1_arrays args s ++ Jvm.staticLocs frame_1_statics s) 32 65728 → Post tb e args s (.returned v) u) :
    ArmFor flags0 classFile x code maxLocals ret World_1 tables_1 room_1 Calls_1 rest_1 Pre_1 Post := by
  intro l hfl _ _ p e ha hc hk s m args below hf hA hF happ hP
  obtain ⟨hcalls, hrest, hpre⟩ := hP
  obtain ⟨-, -, -, hnamed, -, -, -, hat⟩ := (Spec.applies_iff hf).mp happ
  obtain ⟨hg, hn⟩ := and_e (Cond.before_iff.mp (show (Jvm.Cond.and given_1 narrow_1).before args s = true from hpre))
  obtain ⟨h1, hg1⟩ := and_e hg
  obtain ⟨i0, hg2⟩ := and_e hg1
  obtain ⟨i1, hg3⟩ := and_e hg2
  have i2 := hg3
  obtain ⟨w0, w1, w2, rfl⟩ : ∃ w0 w1 w2 : Value, args = #[w0, w1, w2] := by
    have hs : args.size = 3 := by simpa [Cond.value, given_1] using h1
    obtain ⟨L⟩ := args
    match L, hs with
    | [w0, w1, w2], _ => exact ⟨w0, w1, w2, rfl⟩
  have hw := fun d (hd : d ∈ tables_1) => atoms_spec (ws := Jvm.Cond.code x code maxLocals ret :: tables_1) hat d (List.mem_cons_of_mem _ hd)
  obtain ⟨x0, e0⟩ := is_v i0
  obtain rfl : w0 = (.int x0) := Option.some.inj e0
  obtain ⟨x1, e1⟩ := is_v i1
  obtain rfl : w1 = (.int x1) := Option.some.inj e1
  obtain ⟨x2, e2⟩ := is_v i2
  obtain rfl : w2 = (.int x2) := Option.some.inj e2
  have hsets := (atoms_of jdkStatics_1 (show (jdkStatics_1.foldr Jvm.Cond.and restOwn_1).before _ s = true from by rw [← rest_1_c_eq]; exact hrest)).1
  obtain ⟨de, v_de⟩ := exa_v (Cond.before_iff.mp (hsets _ (List.mem_of_getElem? (i := 7) rfl)))
  have SD : Sta s s.heap "java/util/ArrayList" "DEFAULTCAPACITY_EMPTY_ELEMENTDATA" "[Ljava/lang/Object;" (.ref de) := Sta.start v_de (Or.inr ⟨(wk hw 11 rfl), hsets _ (List.mem_of_getElem? (i := 2) rfl)⟩)
  obtain ⟨cl, A⟩ := Arr.start v_de (Cond.before_iff.mp (hsets _ (List.mem_of_getElem? (i := 6) rfl)))
  have S0 : cl.slots.size = 0 := own_len0 v_de A (own_eqv (Cond.before_iff.mp (hsets _ (List.mem_of_getElem? (i := 8) rfl))))
  have VD : Arv s s.heap de cl.cls (.object "java/lang/Object") (0 : Int32) [] .null := ⟨cl, A, rfl, by rw [S0]; rfl, by decide, fun i hi => absurd hi (by rw [S0]; exact Nat.not_lt_zero _), fun i hi => absurd hi (by rw [S0]; exact Nat.not_lt_zero _)⟩
  obtain ⟨n, o, h1, h2, h3, _, L, rfl, ⟨rfl, N⟩, hq⟩ := rm0 l s _ hw x0 x1 x2 s.heap s.heap.size (Nat.le_refl _) de cl.cls [] VD.lt SD VD p e ha hc hk s m _ below hf ((Spec.applies_iff_loose hf).mp happ).1 ⟨rfl, State.Warmed39.refl s, rfl⟩ trivial
  refine ⟨n, _, h1, h2, h3, hpost _ _ _ _ _ _ ⟨Cond.after_iff.mpr rfl, Cond.after_iff.mpr (eq_i res_at (Term.int_eval (1)) rfl), trivial⟩ ⟨hq.1, hq.2.1, (hq.2.2.sift fun y hy => Or.inr (N y hy)).mono (by decide) (by decide)⟩⟩
theorem main_1_1 : Claimed_1_1 := comes_1 fun _ _ _ _ _ _ h hF => ⟨h.1, hF⟩
theorem main_1_2 : Claimed_1_2 := comes_1 fun _ _ _ _ _ _ h hF => ⟨h.2.1, hF⟩
end Jvm.Pilot.@@N@@
namespace Jvm.Pilot.@@N@@
open Jvm Jvm.ClassFile Sem Op Lib Jvm.Free Jvm.Stand Jvm.Pilot.@@N@@.Jvm.D
/-! MADE BY PROGRAM (witnessworld.py) out of the Statement's table words and the real class files: 25 classes; the members and pool entries that the words name. The judged class is class 1, her method 1. -/
namespace start1
open Jvm.ClassFile
def u (s : String) : CpInfo := .utf8 (stringToUtf16 s)
/-- a pool by its gaps: so many unusable entries, then the entry; so many at the end -/
def gap : Nat → List CpInfo → List CpInfo
  | 0, r => r
  | n + 1, r => .unusable :: gap n r
def poolList (es : List (Nat × CpInfo)) (last : Nat) : List CpInfo := es.foldr (fun e r => gap e.1 (e.2 :: r)) (gap last [])
def pool (es : List (Nat × CpInfo)) (last : Nat) : Array CpInfo := ⟨poolList es last⟩
def fileOf (pool : Array CpInfo) (this : Nat) (attrs : Array Attribute := #[]) (ms : Array MethodInfo := #[]) (fl : Nat := 33) (sup : Nat := 0) (ifs : Array Nat := #[]) (fds : Array FieldInfo := #[]) : ClassFile where
  minorVersion := 0
  majorVersion := 65
  constantPool := pool
  accessFlags := fl
  thisClass := this
  superClass := sup
  interfaces := ifs
  fields := fds
  methods := ms
  attributes := attrs
def plain (name : String) (sup : Option ClassId) : Class where
  name := name
  kind := .ordinary
  loader := none
  accessFlags := 33
  super := sup
  interfaces := #[]
  cf := none
  fields := #[]
  methods := #[]
  instanceTypes := #[]
  staticTypes := #[]
  resolved := #[]
  callSites := []
  init := .initialized
  statics := none
  mirror := none

def pool0 : Array CpInfo := pool [(5, u "<init>"), (0, u "()V"), (1, .class_ 10), (1, u "java/lang/Object")] 113

def k0c0 : Code := { maxStack := 0, maxLocals := 1, code := object_method_1_code, exceptionTable := #[], attributes := #[] }
def k0m0 : Method := { name := "<init>", desc := "()V", sig := { parameters := [], returnType := none }, accessFlags := 1, code := some k0c0 }
/-- java/lang/Object -/
def k0 : Class := { plain "java/lang/Object" none with
  accessFlags := 33
  interfaces := #[]
  cf := some (fileOf pool0 8 #[] #[{ accessFlags := 1, nameIndex := 5, descriptorIndex := 6, attributes := #[] }] 33 0 #[] #[])
  fields := #[]
  methods := #[k0m0]
  instanceTypes := #[]
  staticTypes := #[]
  resolved := Array.replicate 124 none
  statics := none }

def pool1 : Array CpInfo := pool [(2, .class_ 4), (0, .nameAndType 5 6), (0, u "java/lang/Object"), (0, u "<init>"), (0, u "()V"), (0, .class_ 8), (0, u "com/example/overuse_to_delay/overusetodelay/gateway/BytePieces"), (0, .methodref 7 3), (0, .methodref 7 11), (0, .nameAndType 12 13), (0, u "growTo"), (0, u "(I)V"), (0, .methodref 7 15), (0, .nameAndType 16 13), (0, u "putInt"), (0, .methodref 7 18), (0, .nameAndType 19 20), (0, u "put"), (0, u "([B)V"), (0, .methodref 7 22), (0, .nameAndType 23 24), (0, u "takeInt"), (0, u "()I"), (0, .methodref 7 26), (0, .nameAndType 27 13), (0, u "skip"), (0, .methodref 7 29), (0, .nameAndType 30 6), (0, u "rewind"), (0, .methodref 7 32), (0, .nameAndType 33 34), (0, u "mark"), (0, u "()Lcom/example/overuse_to_delay/overusetodelay/gateway/BytePieces$Mark;"), (0, .methodref 36 37), (0, .class_ 38), (0, .nameAndType 39 24), (0, u "com/example/overuse_to_delay/overusetodelay/gateway/BytePieces$Mark"), (0, u "at"), (0, .methodref 36 41), (0, .nameAndType 42 24), (0, u "piece"), (0, .methodref 36 44), (0, .nameAndType 45 24), (0, u "offset"), (0, .methodref 7 47), (0, .nameAndType 48 24), (0, u "remaining"), (0, .methodref 7 50), (0, .nameAndType 51 24), (0, u "size"), (0, .class_ 53), (0, u "com/example/overuse_to_delay/overusetodelay/gateway/BytePiecesRewindPinLaw"), (2, u "law"), (0, u "(III)Z")] 5

def k1m0 : Method := { name := "<init>", desc := "()V", sig := { parameters := [], returnType := none }, accessFlags := 1, code := none }
def k1c1 : Code := { maxStack := 2, maxLocals := 9, code := code, exceptionTable := #[], attributes := #[] }
def k1m1 : Method := { name := "law", desc := "(III)Z", sig := { parameters := [.int, .int, .int], returnType := some .boolean }, accessFlags := 9, code := some k1c1 }
/-- com/example/overuse_to_delay/overusetodelay/gateway/BytePiecesRewindPinLaw -/
def k1 : Class := { plain "com/example/overuse_to_delay/overusetodelay/gateway/BytePiecesRewindPinLaw" (some 0) with
  accessFlags := 49
  interfaces := #[]
  cf := some (fileOf pool1 52 #[] #[{ accessFlags := 1, nameIndex := 5, descriptorIndex := 6, attributes := #[] }, { accessFlags := 9, nameIndex := 56, descriptorIndex := 57, attributes := #[] }] 49 2 #[] #[])
  fields := #[]
  methods := #[k1m0, k1m1]
  instanceTypes := #[]
  staticTypes := #[]
  resolved := Array.replicate 63 none
  statics := none }

def pool2 : Array CpInfo := pool [(1, .methodref 2 3), (0, .class_ 4), (0, .nameAndType 5 6), (0, u "java/lang/Object"), (0, u "<init>"), (0, u "()V"), (0, .class_ 8), (0, u "java/util/ArrayList"), (0, .methodref 7 3), (0, .fieldref 11 12), (0, .class_ 13), (0, .nameAndType 14 15), (0, u "com/example/overuse_to_delay/overusetodelay/gateway/BytePieces"), (0, u "pieces"), (0, u "Ljava/util/List;"), (0, .class_ 17), (0, u "com/example/overuse_to_delay/overusetodelay/gateway/BytePieces$Place"), (0, .methodref 16 19), (0, .nameAndType 5 20), (0, u "(Lcom/example/overuse_to_delay/overusetodelay/gateway/BytePieces;)V"), (0, .fieldref 11 22), (0, .nameAndType 23 24), (0, u "end"), (0, u "Lcom/example/overuse_to_delay/overusetodelay/gateway/BytePieces$Place;"), (0, .fieldref 11 26), (0, .nameAndType 27 24), (0, u "front"), (3, u "growTo"), (0, u "(I)V"), (2, u "put"), (0, u "([B)V"), (0, .fieldref 11 38), (0, .nameAndType 39 40), (0, u "capacity"), (0, u "I"), (0, .fieldref 16 42), (0, .nameAndType 43 40), (0, u "at"), (0, .methodref 45 46), (0, .class_ 47), (0, .nameAndType 48 49), (0, u "java/lang/Math"), (0, u "min"), (0, u "(II)I"), (0, .methodref 11 51), (0, .nameAndType 52 36), (0, u "add"), (0, .methodref 16 54), (0, .nameAndType 55 56), (0, u "pieceHolding"), (0, u "(I)[B"), (0, .methodref 11 58), (0, .nameAndType 59 60), (0, u "putAcrossPieces"), (0, u "(II)V"), (0, .fieldref 16 62), (0, .nameAndType 63 40), (0, u "offset"), (0, .methodref 16 65), (0, .nameAndType 66 32), (0, u "pass"), (6, .methodref 74 75), (0, .class_ 76), (0, .nameAndType 77 78), (0, u "java/lang/System"), (0, u "arraycopy"), (0, u "(Ljava/lang/Object;ILjava/lang/Object;II)V"), (0, .methodref 16 80), (0, .nameAndType 81 60), (0, u "writeByteByByte"), (0, .methodref 16 83), (0, .nameAndType 84 85), (0, u "readByteByByte"), (0, u "(I)I"), (6, u "piece"), (7, .methodref 16 101), (0, .nameAndType 102 32), (0, u "move"), (0, .fieldref 16 104), (0, .nameAndType 92 40), (0, .fieldref 16 106), (0, .nameAndType 107 108), (0, u "array"), (0, u "[B"), (0, .class_ 110), (0, u "com/example/overuse_to_delay/overusetodelay/gateway/BytePieces$Mark"), (0, .methodref 109 112), (0, .nameAndType 5 113), (0, u "(III)V"), (19, u "remaining"), (0, u "()I"), (6, .class_ 143), (1, u "java/util/List"), (0, u "size"), (10, .interfaceMethodref 141 156), (0, .nameAndType 52 157), (0, u "(Ljava/lang/Object;)Z"), (30, u "PIECE_BYTES"), (2, u "FIRST_PUT_BYTES"), (1, u "PIECES_A_MOVE"), (11, u "putInt"), (3, u "takeInt"), (1, u "skip"), (0, u "rewind"), (0, u "mark"), (0, u "()Lcom/example/overuse_to_delay/overusetodelay/gateway/BytePieces$Mark;")] 36

def k2c0 : Code := { maxStack := 4, maxLocals := 1, code := prog_31_method_1_code, exceptionTable := #[], attributes := #[] }
def k2m0 : Method := { name := "<init>", desc := "()V", sig := { parameters := [], returnType := none }, accessFlags := 0, code := some k2c0 }
def k2c1 : Code := { maxStack := 1, maxLocals := 1, code := prog_31_method_4_code, exceptionTable := #[], attributes := #[] }
def k2m1 : Method := { name := "size", desc := "()I", sig := { parameters := [], returnType := some .int }, accessFlags := 0, code := some k2c1 }
def k2c2 : Code := { maxStack := 2, maxLocals := 1, code := prog_31_method_5_code, exceptionTable := #[], attributes := #[] }
def k2m2 : Method := { name := "remaining", desc := "()I", sig := { parameters := [], returnType := some .int }, accessFlags := 0, code := some k2c2 }
def k2c3 : Code := { maxStack := 4, maxLocals := 2, code := prog_31_method_7_code, exceptionTable := #[], attributes := #[] }
def k2m3 : Method := { name := "growTo", desc := "(I)V", sig := { parameters := [.int], returnType := none }, accessFlags := 0, code := some k2c3 }
def k2c4 : Code := { maxStack := 4, maxLocals := 4, code := prog_31_method_10_code, exceptionTable := #[], attributes := #[] }
def k2m4 : Method := { name := "putInt", desc := "(I)V", sig := { parameters := [.int], returnType := none }, accessFlags := 0, code := some k2c4 }
def k2c5 : Code := { maxStack := 5, maxLocals := 3, code := prog_31_method_11_code, exceptionTable := #[], attributes := #[] }
def k2m5 : Method := { name := "put", desc := "([B)V", sig := { parameters := [(.array .byte)], returnType := none }, accessFlags := 0, code := some k2c5 }
def k2c6 : Code := { maxStack := 4, maxLocals := 4, code := prog_31_method_14_code, exceptionTable := #[], attributes := #[] }
def k2m6 : Method := { name := "takeInt", desc := "()I", sig := { parameters := [], returnType := some .int }, accessFlags := 0, code := some k2c6 }
def k2c7 : Code := { maxStack := 2, maxLocals := 2, code := prog_31_method_17_code, exceptionTable := #[], attributes := #[] }
def k2m7 : Method := { name := "skip", desc := "(I)V", sig := { parameters := [.int], returnType := none }, accessFlags := 0, code := some k2c7 }
def k2c8 : Code := { maxStack := 2, maxLocals := 1, code := prog_31_method_18_code, exceptionTable := #[], attributes := #[] }
def k2m8 : Method := { name := "rewind", desc := "()V", sig := { parameters := [], returnType := none }, accessFlags := 0, code := some k2c8 }
def k2c9 : Code := { maxStack := 5, maxLocals := 1, code := prog_31_method_19_code, exceptionTable := #[], attributes := #[] }
def k2m9 : Method := { name := "mark", desc := "()Lcom/example/overuse_to_delay/overusetodelay/gateway/BytePieces$Mark;", sig := { parameters := [], returnType := some (.object "com/example/overuse_to_delay/overusetodelay/gateway/BytePieces$Mark") }, accessFlags := 0, code := some k2c9 }
def k2c10 : Code := { maxStack := 3, maxLocals := 3, code := prog_31_method_26_code, exceptionTable := #[], attributes := #[] }
def k2m10 : Method := { name := "putAcrossPieces", desc := "(II)V", sig := { parameters := [.int, .int], returnType := none }, accessFlags := 2, code := some k2c10 }
def k2c11 : Code := { maxStack := 3, maxLocals := 2, code := prog_31_method_29_code, exceptionTable := #[], attributes := #[] }
def k2m11 : Method := { name := "add", desc := "([B)V", sig := { parameters := [(.array .byte)], returnType := none }, accessFlags := 2, code := some k2c11 }
/-- com/example/overuse_to_delay/overusetodelay/gateway/BytePieces -/
def k2 : Class := { plain "com/example/overuse_to_delay/overusetodelay/gateway/BytePieces" (some 0) with
  accessFlags := 48
  interfaces := #[]
  cf := some (fileOf pool2 11 #[.nestMembers #[16, 109]] #[{ accessFlags := 0, nameIndex := 5, descriptorIndex := 6, attributes := #[] }, { accessFlags := 0, nameIndex := 144, descriptorIndex := 134, attributes := #[] }, { accessFlags := 0, nameIndex := 133, descriptorIndex := 134, attributes := #[] }, { accessFlags := 0, nameIndex := 31, descriptorIndex := 32, attributes := #[] }, { accessFlags := 0, nameIndex := 205, descriptorIndex := 32, attributes := #[] }, { accessFlags := 0, nameIndex := 35, descriptorIndex := 36, attributes := #[] }, { accessFlags := 0, nameIndex := 209, descriptorIndex := 134, attributes := #[] }, { accessFlags := 0, nameIndex := 211, descriptorIndex := 32, attributes := #[] }, { accessFlags := 0, nameIndex := 212, descriptorIndex := 6, attributes := #[] }, { accessFlags := 0, nameIndex := 213, descriptorIndex := 214, attributes := #[] }, { accessFlags := 2, nameIndex := 59, descriptorIndex := 60, attributes := #[] }, { accessFlags := 2, nameIndex := 52, descriptorIndex := 36, attributes := #[] }] 48 2 #[] #[{ accessFlags := 24, nameIndex := 188, descriptorIndex := 40, attributes := #[] }, { accessFlags := 26, nameIndex := 191, descriptorIndex := 40, attributes := #[] }, { accessFlags := 26, nameIndex := 193, descriptorIndex := 40, attributes := #[] }, { accessFlags := 18, nameIndex := 14, descriptorIndex := 15, attributes := #[] }, { accessFlags := 2, nameIndex := 39, descriptorIndex := 40, attributes := #[] }, { accessFlags := 18, nameIndex := 23, descriptorIndex := 24, attributes := #[] }, { accessFlags := 18, nameIndex := 27, descriptorIndex := 24, attributes := #[] }])
  fields := #[{ name := "PIECE_BYTES", type := .int, accessFlags := 24, slot := 0, constantValue := 0 }, { name := "FIRST_PUT_BYTES", type := .int, accessFlags := 26, slot := 1, constantValue := 0 }, { name := "PIECES_A_MOVE", type := .int, accessFlags := 26, slot := 2, constantValue := 0 }, { name := "pieces", type := (.object "java/util/List"), accessFlags := 18, slot := 0, constantValue := 0 }, { name := "capacity", type := .int, accessFlags := 2, slot := 1, constantValue := 0 }, { name := "end", type := (.object "com/example/overuse_to_delay/overusetodelay/gateway/BytePieces$Place"), accessFlags := 18, slot := 2, constantValue := 0 }, { name := "front", type := (.object "com/example/overuse_to_delay/overusetodelay/gateway/BytePieces$Place"), accessFlags := 18, slot := 3, constantValue := 0 }]
  methods := #[k2m0, k2m1, k2m2, k2m3, k2m4, k2m5, k2m6, k2m7, k2m8, k2m9, k2m10, k2m11]
  instanceTypes := #[(.object "java/util/List"), .int, (.object "com/example/overuse_to_delay/overusetodelay/gateway/BytePieces$Place"), (.object "com/example/overuse_to_delay/overusetodelay/gateway/BytePieces$Place")]
  staticTypes := #[.int, .int, .int]
  resolved := ((((Array.replicate 251 none).set! 41 (some (.field 13 0))).set! 61 (some (.field 13 2))).set! 103 (some (.field 13 1))).set! 105 (some (.field 13 3))
  statics := none }

def pool3 : Array CpInfo := pool [(8, .class_ 10), (1, u "java/lang/Iterable"), (24, .class_ 36), (0, u "java/lang/Object")] 25

/-- java/lang/Iterable -/
def k3 : Class := { plain "java/lang/Iterable" (some 0) with
  accessFlags := 1537
  interfaces := #[]
  cf := some (fileOf pool3 8 #[] #[] 1537 35 #[] #[])
  fields := #[]
  methods := #[]
  instanceTypes := #[]
  staticTypes := #[]
  resolved := Array.replicate 62 none
  statics := none }

def pool4 : Array CpInfo := pool [(10, .class_ 12), (1, u "java/util/Collection"), (47, .class_ 61), (0, u "java/lang/Object"), (0, .class_ 63), (0, u "java/lang/Iterable")] 51

/-- java/util/Collection -/
def k4 : Class := { plain "java/util/Collection" (some 0) with
  accessFlags := 1537
  interfaces := #[3]
  cf := some (fileOf pool4 10 #[] #[] 1537 60 #[62] #[])
  fields := #[]
  methods := #[]
  instanceTypes := #[]
  staticTypes := #[]
  resolved := Array.replicate 115 none
  statics := none }

def pool5 : Array CpInfo := pool [(1, .methodref 2 3), (0, .class_ 4), (0, .nameAndType 5 6), (0, u "java/lang/Object"), (0, u "<init>"), (0, u "()V"), (1, .class_ 10), (1, u "java/util/AbstractCollection"), (66, .class_ 78), (0, u "java/util/Collection")] 81

def k5c0 : Code := { maxStack := 1, maxLocals := 1, code := jdk_22_method_1_code, exceptionTable := #[], attributes := #[] }
def k5m0 : Method := { name := "<init>", desc := "()V", sig := { parameters := [], returnType := none }, accessFlags := 4, code := some k5c0 }
/-- java/util/AbstractCollection -/
def k5 : Class := { plain "java/util/AbstractCollection" (some 0) with
  accessFlags := 1057
  interfaces := #[4]
  cf := some (fileOf pool5 8 #[] #[{ accessFlags := 4, nameIndex := 5, descriptorIndex := 6, attributes := #[] }] 1057 2 #[77] #[])
  fields := #[]
  methods := #[k5m0]
  instanceTypes := #[]
  staticTypes := #[]
  resolved := Array.replicate 160 none
  statics := none }

def pool6 : Array CpInfo := pool [(8, .class_ 10), (1, u "java/util/SequencedCollection"), (15, .class_ 27), (0, u "java/lang/Object"), (0, .class_ 29), (0, u "java/util/Collection")] 27

/-- java/util/SequencedCollection -/
def k6 : Class := { plain "java/util/SequencedCollection" (some 0) with
  accessFlags := 1537
  interfaces := #[4]
  cf := some (fileOf pool6 8 #[] #[] 1537 26 #[28] #[])
  fields := #[]
  methods := #[]
  instanceTypes := #[]
  staticTypes := #[]
  resolved := Array.replicate 57 none
  statics := none }

def pool7 : Array CpInfo := pool [(8, .class_ 10), (1, u "java/util/List"), (49, u "add"), (3, u "(Ljava/lang/Object;)Z"), (10, u "get"), (0, u "(I)Ljava/lang/Object;"), (26, .class_ 104), (0, u "java/lang/Object"), (15, .class_ 121), (0, u "java/util/SequencedCollection")] 129

def k7m0 : Method := { name := "add", desc := "(Ljava/lang/Object;)Z", sig := { parameters := [(.object "java/lang/Object")], returnType := some .boolean }, accessFlags := 1025, code := none }
def k7m1 : Method := { name := "get", desc := "(I)Ljava/lang/Object;", sig := { parameters := [.int], returnType := some (.object "java/lang/Object") }, accessFlags := 1025, code := none }
/-- java/util/List -/
def k7 : Class := { plain "java/util/List" (some 0) with
  accessFlags := 1537
  interfaces := #[6]
  cf := some (fileOf pool7 8 #[] #[{ accessFlags := 1025, nameIndex := 60, descriptorIndex := 64, attributes := #[] }, { accessFlags := 1025, nameIndex := 75, descriptorIndex := 76, attributes := #[] }] 1537 103 #[120] #[])
  fields := #[]
  methods := #[k7m0, k7m1]
  instanceTypes := #[]
  staticTypes := #[]
  resolved := Array.replicate 251 none
  statics := none }

def pool8 : Array CpInfo := pool [(1, .methodref 2 3), (0, .class_ 4), (0, .nameAndType 5 6), (0, u "java/util/AbstractCollection"), (0, u "<init>"), (0, u "()V"), (0, .fieldref 8 9), (0, .class_ 10), (0, .nameAndType 11 12), (0, u "java/util/AbstractList"), (0, u "modCount"), (0, u "I"), (64, .class_ 78), (0, u "java/util/AbstractList$Itr"), (3, .class_ 83), (0, u "java/util/AbstractList$ListItr"), (9, .class_ 94), (0, u "java/util/AbstractList$RandomAccessSubList"), (3, .class_ 99), (0, u "java/util/AbstractList$SubList"), (33, .class_ 134), (0, u "java/util/List"), (73, .class_ 209), (0, u "java/util/AbstractList$SubList$1"), (0, .class_ 211), (0, u "java/util/AbstractList$RandomAccessSpliterator")] 6

def k8c0 : Code := { maxStack := 2, maxLocals := 1, code := jdk_39_method_1_code, exceptionTable := #[], attributes := #[] }
def k8m0 : Method := { name := "<init>", desc := "()V", sig := { parameters := [], returnType := none }, accessFlags := 4, code := some k8c0 }
/-- java/util/AbstractList -/
def k8 : Class := { plain "java/util/AbstractList" (some 5) with
  accessFlags := 1057
  interfaces := #[7]
  cf := some (fileOf pool8 8 #[.nestMembers #[93, 98, 208, 210, 82, 77]] #[{ accessFlags := 4, nameIndex := 5, descriptorIndex := 6, attributes := #[] }] 1057 2 #[133] #[{ accessFlags := 132, nameIndex := 11, descriptorIndex := 12, attributes := #[] }])
  fields := #[{ name := "modCount", type := .int, accessFlags := 132, slot := 0, constantValue := 0 }]
  methods := #[k8m0]
  instanceTypes := #[.int]
  staticTypes := #[]
  resolved := Array.replicate 218 none
  statics := none }

def pool9 : Array CpInfo := pool [(1, .class_ 2), (0, u "java/util/RandomAccess"), (0, .class_ 4), (0, u "java/lang/Object")] 2

/-- java/util/RandomAccess -/
def k9 : Class := { plain "java/util/RandomAccess" (some 0) with
  accessFlags := 1537
  interfaces := #[]
  cf := some (fileOf pool9 1 #[] #[] 1537 3 #[] #[])
  fields := #[]
  methods := #[]
  instanceTypes := #[]
  staticTypes := #[]
  resolved := Array.replicate 7 none
  statics := none }

def pool10 : Array CpInfo := pool [(1, .class_ 2), (0, u "java/lang/Cloneable"), (0, .class_ 4), (0, u "java/lang/Object")] 2

/-- java/lang/Cloneable -/
def k10 : Class := { plain "java/lang/Cloneable" (some 0) with
  accessFlags := 1537
  interfaces := #[]
  cf := some (fileOf pool10 1 #[] #[] 1537 3 #[] #[])
  fields := #[]
  methods := #[]
  instanceTypes := #[]
  staticTypes := #[]
  resolved := Array.replicate 7 none
  statics := none }

def pool11 : Array CpInfo := pool [(1, .class_ 2), (0, u "java/io/Serializable"), (0, .class_ 4), (0, u "java/lang/Object")] 2

/-- java/io/Serializable -/
def k11 : Class := { plain "java/io/Serializable" (some 0) with
  accessFlags := 1537
  interfaces := #[]
  cf := some (fileOf pool11 1 #[] #[] 1537 3 #[] #[])
  fields := #[]
  methods := #[]
  instanceTypes := #[]
  staticTypes := #[]
  resolved := Array.replicate 7 none
  statics := none }

def pool12 : Array CpInfo := pool [(1, .methodref 2 3), (0, .class_ 4), (0, .nameAndType 5 6), (0, u "java/util/AbstractList"), (0, u "<init>"), (0, u "()V"), (0, .class_ 8), (0, u "java/lang/Object"), (0, .fieldref 10 11), (0, .class_ 12), (0, .nameAndType 13 14), (0, u "java/util/ArrayList"), (0, u "elementData"), (0, u "[Ljava/lang/Object;"), (2, u "EMPTY_ELEMENTDATA"), (21, .fieldref 10 40), (0, .nameAndType 41 14), (0, u "DEFAULTCAPACITY_EMPTY_ELEMENTDATA"), (5, u "()[Ljava/lang/Object;"), (0, .fieldref 10 49), (0, .nameAndType 50 51), (0, u "size"), (0, u "I"), (11, .fieldref 10 64), (0, .nameAndType 65 51), (0, u "modCount"), (3, .methodref 10 70), (0, .nameAndType 71 72), (0, u "grow"), (0, u "(I)[Ljava/lang/Object;"), (6, .methodref 80 81), (0, .class_ 82), (0, .nameAndType 83 84), (0, u "java/lang/Math"), (0, u "max"), (0, u "(II)I"), (11, u "(Ljava/lang/Object;)Z"), (21, .methodref 119 120), (0, .class_ 121), (0, .nameAndType 122 84), (0, u "java/util/Objects"), (0, u "checkIndex"), (0, .methodref 10 124), (0, .nameAndType 13 125), (0, u "(I)Ljava/lang/Object;"), (3, .methodref 10 130), (0, .nameAndType 71 47), (0, .methodref 10 132), (0, .nameAndType 133 134), (0, u "add"), (0, u "(Ljava/lang/Object;[Ljava/lang/Object;I)V"), (13, .class_ 149), (0, u "java/util/List"), (112, .class_ 263), (0, u "java/util/ArrayList$ListItr"), (3, .class_ 268), (0, u "java/util/ArrayList$Itr"), (7, .class_ 277), (0, u "java/util/ArrayList$SubList"), (12, .class_ 291), (0, u "java/util/ArrayList$ArrayListSpliterator"), (37, .class_ 330), (0, u "java/util/RandomAccess"), (0, .class_ 332), (0, u "java/lang/Cloneable"), (0, .class_ 334), (0, u "java/io/Serializable"), (0, u "serialVersionUID"), (0, u "J"), (3, u "DEFAULT_CAPACITY"), (40, u "get"), (118, .class_ 501), (0, u "java/util/ArrayList$SubList$2"), (0, .class_ 503), (0, u "java/util/ArrayList$SubList$1")] 5

def k12c0 : Code := { maxStack := 2, maxLocals := 1, code := jdk_38_method_2_code, exceptionTable := #[], attributes := #[] }
def k12m0 : Method := { name := "<init>", desc := "()V", sig := { parameters := [], returnType := none }, accessFlags := 1, code := some k12c0 }
def k12c1 : Code := { maxStack := 4, maxLocals := 4, code := jdk_38_method_6_code, exceptionTable := #[], attributes := #[] }
def k12m1 : Method := { name := "grow", desc := "(I)[Ljava/lang/Object;", sig := { parameters := [.int], returnType := some (.array (.object "java/lang/Object")) }, accessFlags := 2, code := some k12c1 }
def k12c2 : Code := { maxStack := 3, maxLocals := 1, code := jdk_38_method_7_code, exceptionTable := #[], attributes := #[] }
def k12m2 : Method := { name := "grow", desc := "()[Ljava/lang/Object;", sig := { parameters := [], returnType := some (.array (.object "java/lang/Object")) }, accessFlags := 2, code := some k12c2 }
def k12c3 : Code := { maxStack := 2, maxLocals := 2, code := jdk_38_method_18_code, exceptionTable := #[], attributes := #[] }
def k12m3 : Method := { name := "elementData", desc := "(I)Ljava/lang/Object;", sig := { parameters := [.int], returnType := some (.object "java/lang/Object") }, accessFlags := 0, code := some k12c3 }
def k12c4 : Code := { maxStack := 2, maxLocals := 2, code := jdk_38_method_20_code, exceptionTable := #[], attributes := #[] }
def k12m4 : Method := { name := "get", desc := "(I)Ljava/lang/Object;", sig := { parameters := [.int], returnType := some (.object "java/lang/Object") }, accessFlags := 1, code := some k12c4 }
def k12c5 : Code := { maxStack := 3, maxLocals := 4, code := jdk_38_method_24_code, exceptionTable := #[], attributes := #[] }
def k12m5 : Method := { name := "add", desc := "(Ljava/lang/Object;[Ljava/lang/Object;I)V", sig := { parameters := [(.object "java/lang/Object"), (.array (.object "java/lang/Object")), .int], returnType := none }, accessFlags := 2, code := some k12c5 }
def k12c6 : Code := { maxStack := 4, maxLocals := 2, code := jdk_38_method_25_code, exceptionTable := #[], attributes := #[] }
def k12m6 : Method := { name := "add", desc := "(Ljava/lang/Object;)Z", sig := { parameters := [(.object "java/lang/Object")], returnType := some .boolean }, accessFlags := 1, code := some k12c6 }
/-- java/util/ArrayList -/
def k12 : Class := { plain "java/util/ArrayList" (some 8) with
  accessFlags := 33
  interfaces := #[7, 9, 10, 11]
  cf := some (fileOf pool12 10 #[.nestMembers #[290, 276, 500, 502, 262, 267]] #[{ accessFlags := 1, nameIndex := 5, descriptorIndex := 6, attributes := #[] }, { accessFlags := 2, nameIndex := 71, descriptorIndex := 72, attributes := #[] }, { accessFlags := 2, nameIndex := 71, descriptorIndex := 47, attributes := #[] }, { accessFlags := 0, nameIndex := 13, descriptorIndex := 125, attributes := #[] }, { accessFlags := 1, nameIndex := 381, descriptorIndex := 125, attributes := #[] }, { accessFlags := 2, nameIndex := 133, descriptorIndex := 134, attributes := #[] }, { accessFlags := 1, nameIndex := 133, descriptorIndex := 96, attributes := #[] }] 33 2 #[148, 329, 331, 333] #[{ accessFlags := 26, nameIndex := 335, descriptorIndex := 336, attributes := #[] }, { accessFlags := 26, nameIndex := 340, descriptorIndex := 51, attributes := #[] }, { accessFlags := 26, nameIndex := 17, descriptorIndex := 14, attributes := #[] }, { accessFlags := 26, nameIndex := 41, descriptorIndex := 14, attributes := #[] }, { accessFlags := 128, nameIndex := 13, descriptorIndex := 14, attributes := #[] }, { accessFlags := 2, nameIndex := 50, descriptorIndex := 51, attributes := #[] }])
  fields := #[{ name := "serialVersionUID", type := .long, accessFlags := 26, slot := 0, constantValue := 0 }, { name := "DEFAULT_CAPACITY", type := .int, accessFlags := 26, slot := 1, constantValue := 0 }, { name := "EMPTY_ELEMENTDATA", type := (.array (.object "java/lang/Object")), accessFlags := 26, slot := 2, constantValue := 0 }, { name := "DEFAULTCAPACITY_EMPTY_ELEMENTDATA", type := (.array (.object "java/lang/Object")), accessFlags := 26, slot := 3, constantValue := 0 }, { name := "elementData", type := (.array (.object "java/lang/Object")), accessFlags := 128, slot := 1, constantValue := 0 }, { name := "size", type := .int, accessFlags := 2, slot := 2, constantValue := 0 }]
  methods := #[k12m0, k12m1, k12m2, k12m3, k12m4, k12m5, k12m6]
  instanceTypes := #[.int, (.array (.object "java/lang/Object")), .int]
  staticTypes := #[.long, .int, (.array (.object "java/lang/Object")), (.array (.object "java/lang/Object"))]
  resolved := Array.replicate 509 none
  statics := some 0 }

def pool13 : Array CpInfo := pool [(1, .fieldref 2 3), (0, .class_ 4), (0, .nameAndType 5 6), (0, u "com/example/overuse_to_delay/overusetodelay/gateway/BytePieces$Place"), (0, u "this$0"), (0, u "Lcom/example/overuse_to_delay/overusetodelay/gateway/BytePieces;"), (0, .methodref 8 9), (0, .class_ 10), (0, .nameAndType 11 12), (0, u "java/lang/Object"), (0, u "<init>"), (0, u "()V"), (4, u "at"), (1, .fieldref 2 20), (0, .nameAndType 17 21), (0, u "I"), (2, u "piece"), (0, .fieldref 2 26), (0, .nameAndType 24 21), (2, u "offset"), (0, .fieldref 2 31), (0, .nameAndType 29 21), (0, .fieldref 2 33), (0, .nameAndType 34 35), (0, u "array"), (0, u "[B"), (0, .fieldref 37 38), (0, .class_ 39), (0, .nameAndType 40 41), (0, u "com/example/overuse_to_delay/overusetodelay/gateway/BytePieces"), (0, u "pieces"), (0, u "Ljava/util/List;"), (0, .interfaceMethodref 43 44), (0, .class_ 45), (0, .nameAndType 46 47), (0, u "java/util/List"), (0, u "get"), (0, u "(I)Ljava/lang/Object;"), (0, .class_ 35), (2, .methodref 2 52), (0, .nameAndType 24 53), (0, u "()[B"), (0, .methodref 2 55), (0, .nameAndType 56 57), (0, u "pass"), (0, u "(I)V"), (0, .methodref 59 60), (0, .class_ 61), (0, .nameAndType 62 63), (0, u "java/lang/Math"), (0, u "min"), (0, u "(II)I"), (0, u "(Lcom/example/overuse_to_delay/overusetodelay/gateway/BytePieces;)V"), (5, u "pieceHolding"), (0, u "(I)[B"), (0, u "writeByteByByte"), (0, u "(II)V"), (0, u "readByteByByte"), (0, u "(I)I"), (0, u "move")] 6

def k13c0 : Code := { maxStack := 2, maxLocals := 2, code := prog_33_method_1_code, exceptionTable := #[], attributes := #[] }
def k13m0 : Method := { name := "<init>", desc := "(Lcom/example/overuse_to_delay/overusetodelay/gateway/BytePieces;)V", sig := { parameters := [(.object "com/example/overuse_to_delay/overusetodelay/gateway/BytePieces")], returnType := none }, accessFlags := 0, code := some k13c0 }
def k13c1 : Code := { maxStack := 3, maxLocals := 1, code := prog_33_method_3_code, exceptionTable := #[], attributes := #[] }
def k13m1 : Method := { name := "piece", desc := "()[B", sig := { parameters := [], returnType := some (.array .byte) }, accessFlags := 0, code := some k13c1 }
def k13c2 : Code := { maxStack := 2, maxLocals := 2, code := prog_33_method_4_code, exceptionTable := #[], attributes := #[] }
def k13m2 : Method := { name := "pieceHolding", desc := "(I)[B", sig := { parameters := [.int], returnType := some (.array .byte) }, accessFlags := 0, code := some k13c2 }
def k13c3 : Code := { maxStack := 3, maxLocals := 2, code := prog_33_method_5_code, exceptionTable := #[], attributes := #[] }
def k13m3 : Method := { name := "pass", desc := "(I)V", sig := { parameters := [.int], returnType := none }, accessFlags := 0, code := some k13c3 }
def k13c4 : Code := { maxStack := 4, maxLocals := 5, code := prog_33_method_6_code, exceptionTable := #[], attributes := #[] }
def k13m4 : Method := { name := "writeByteByByte", desc := "(II)V", sig := { parameters := [.int, .int], returnType := none }, accessFlags := 0, code := some k13c4 }
def k13c5 : Code := { maxStack := 3, maxLocals := 5, code := prog_33_method_7_code, exceptionTable := #[], attributes := #[] }
def k13m5 : Method := { name := "readByteByByte", desc := "(I)I", sig := { parameters := [.int], returnType := some .int }, accessFlags := 0, code := some k13c5 }
def k13c6 : Code := { maxStack := 3, maxLocals := 4, code := prog_33_method_8_code, exceptionTable := #[], attributes := #[] }
def k13m6 : Method := { name := "move", desc := "(I)V", sig := { parameters := [.int], returnType := none }, accessFlags := 0, code := some k13c6 }
/-- com/example/overuse_to_delay/overusetodelay/gateway/BytePieces$Place -/
def k13 : Class := { plain "com/example/overuse_to_delay/overusetodelay/gateway/BytePieces$Place" (some 0) with
  accessFlags := 48
  interfaces := #[]
  cf := some (fileOf pool13 2 #[.nestHost 37] #[{ accessFlags := 0, nameIndex := 11, descriptorIndex := 64, attributes := #[] }, { accessFlags := 0, nameIndex := 24, descriptorIndex := 53, attributes := #[] }, { accessFlags := 0, nameIndex := 70, descriptorIndex := 71, attributes := #[] }, { accessFlags := 0, nameIndex := 56, descriptorIndex := 57, attributes := #[] }, { accessFlags := 0, nameIndex := 72, descriptorIndex := 73, attributes := #[] }, { accessFlags := 0, nameIndex := 74, descriptorIndex := 75, attributes := #[] }, { accessFlags := 0, nameIndex := 76, descriptorIndex := 57, attributes := #[] }] 48 8 #[] #[{ accessFlags := 2, nameIndex := 17, descriptorIndex := 21, attributes := #[] }, { accessFlags := 2, nameIndex := 24, descriptorIndex := 21, attributes := #[] }, { accessFlags := 2, nameIndex := 29, descriptorIndex := 21, attributes := #[] }, { accessFlags := 2, nameIndex := 34, descriptorIndex := 35, attributes := #[] }, { accessFlags := 4112, nameIndex := 5, descriptorIndex := 6, attributes := #[] }])
  fields := #[{ name := "at", type := .int, accessFlags := 2, slot := 0, constantValue := 0 }, { name := "piece", type := .int, accessFlags := 2, slot := 1, constantValue := 0 }, { name := "offset", type := .int, accessFlags := 2, slot := 2, constantValue := 0 }, { name := "array", type := (.array .byte), accessFlags := 2, slot := 3, constantValue := 0 }, { name := "this$0", type := (.object "com/example/overuse_to_delay/overusetodelay/gateway/BytePieces"), accessFlags := 4112, slot := 4, constantValue := 0 }]
  methods := #[k13m0, k13m1, k13m2, k13m3, k13m4, k13m5, k13m6]
  instanceTypes := #[.int, .int, .int, (.array .byte), (.object "com/example/overuse_to_delay/overusetodelay/gateway/BytePieces")]
  staticTypes := #[]
  resolved := Array.replicate 83 none
  statics := none }

def pool14 : Array CpInfo := pool [(1, .class_ 2), (0, u "java/lang/Math"), (1, .class_ 6), (1, u "java/lang/Object"), (0, u "<init>"), (0, u "()V"), (89, .class_ 100), (1, u "java/lang/Math$RandomNumberGeneratorHolder"), (71, u "negativeZeroFloatBits"), (0, u "J"), (2, u "negativeZeroDoubleBits"), (21, u "max"), (2, u "min"), (43, u "$assertionsDisabled"), (0, u "Z"), (88, u "(II)I"), (2, u "twoToTheDoubleScaleDown"), (0, u "D"), (4, u "twoToTheDoubleScaleUp"), (9, u "E"), (3, u "PI"), (2, u "TAU"), (2, u "DEGREES_TO_RADIANS"), (0, u "RADIANS_TO_DEGREES")] 94

def k14m0 : Method := { name := "<init>", desc := "()V", sig := { parameters := [], returnType := none }, accessFlags := 2, code := none }
def k14c1 : Code := { maxStack := 2, maxLocals := 2, code := jdk_29_method_65_code, exceptionTable := #[], attributes := #[] }
def k14m1 : Method := { name := "max", desc := "(II)I", sig := { parameters := [.int, .int], returnType := some .int }, accessFlags := 9, code := some k14c1 }
def k14c2 : Code := { maxStack := 2, maxLocals := 2, code := jdk_29_method_69_code, exceptionTable := #[], attributes := #[] }
def k14m2 : Method := { name := "min", desc := "(II)I", sig := { parameters := [.int, .int], returnType := some .int }, accessFlags := 9, code := some k14c2 }
/-- java/lang/Math -/
def k14 : Class := { plain "java/lang/Math" (some 0) with
  accessFlags := 49
  interfaces := #[]
  cf := some (fileOf pool14 1 #[.nestMembers #[98]] #[{ accessFlags := 2, nameIndex := 7, descriptorIndex := 8, attributes := #[] }, { accessFlags := 9, nameIndex := 198, descriptorIndex := 335, attributes := #[] }, { accessFlags := 9, nameIndex := 201, descriptorIndex := 335, attributes := #[] }] 49 4 #[] #[{ accessFlags := 25, nameIndex := 354, descriptorIndex := 339, attributes := #[] }, { accessFlags := 25, nameIndex := 358, descriptorIndex := 339, attributes := #[] }, { accessFlags := 25, nameIndex := 361, descriptorIndex := 339, attributes := #[] }, { accessFlags := 26, nameIndex := 364, descriptorIndex := 339, attributes := #[] }, { accessFlags := 26, nameIndex := 365, descriptorIndex := 339, attributes := #[] }, { accessFlags := 26, nameIndex := 172, descriptorIndex := 173, attributes := #[] }, { accessFlags := 26, nameIndex := 176, descriptorIndex := 173, attributes := #[] }, { accessFlags := 8, nameIndex := 344, descriptorIndex := 339, attributes := #[] }, { accessFlags := 8, nameIndex := 338, descriptorIndex := 339, attributes := #[] }, { accessFlags := 4120, nameIndex := 245, descriptorIndex := 246, attributes := #[] }])
  fields := #[{ name := "E", type := .double, accessFlags := 25, slot := 0, constantValue := 0 }, { name := "PI", type := .double, accessFlags := 25, slot := 1, constantValue := 0 }, { name := "TAU", type := .double, accessFlags := 25, slot := 2, constantValue := 0 }, { name := "DEGREES_TO_RADIANS", type := .double, accessFlags := 26, slot := 3, constantValue := 0 }, { name := "RADIANS_TO_DEGREES", type := .double, accessFlags := 26, slot := 4, constantValue := 0 }, { name := "negativeZeroFloatBits", type := .long, accessFlags := 26, slot := 5, constantValue := 0 }, { name := "negativeZeroDoubleBits", type := .long, accessFlags := 26, slot := 6, constantValue := 0 }, { name := "twoToTheDoubleScaleUp", type := .double, accessFlags := 8, slot := 7, constantValue := 0 }, { name := "twoToTheDoubleScaleDown", type := .double, accessFlags := 8, slot := 8, constantValue := 0 }, { name := "$assertionsDisabled", type := .boolean, accessFlags := 4120, slot := 9, constantValue := 0 }]
  methods := #[k14m0, k14m1, k14m2]
  instanceTypes := #[]
  staticTypes := #[.double, .double, .double, .double, .double, .long, .long, .double, .double, .boolean]
  resolved := Array.replicate 460 none
  statics := none }

def pool15 : Array CpInfo := pool [(2, .class_ 4), (1, u "java/lang/Object"), (0, u "<init>"), (0, u "()V"), (35, .class_ 44), (1, u "java/util/Objects"), (60, .methodref 106 107), (0, .class_ 108), (0, .nameAndType 109 110), (0, u "jdk/internal/util/Preconditions"), (0, u "checkIndex"), (0, u "(IILjava/util/function/BiFunction;)I"), (60, u "(II)I")] 12

def k15m0 : Method := { name := "<init>", desc := "()V", sig := { parameters := [], returnType := none }, accessFlags := 2, code := none }
def k15c1 : Code := { maxStack := 3, maxLocals := 2, code := jdk_31_method_17_code, exceptionTable := #[], attributes := #[] }
def k15m1 : Method := { name := "checkIndex", desc := "(II)I", sig := { parameters := [.int, .int], returnType := some .int }, accessFlags := 9, code := some k15c1 }
/-- java/util/Objects -/
def k15 : Class := { plain "java/util/Objects" (some 0) with
  accessFlags := 49
  interfaces := #[]
  cf := some (fileOf pool15 42 #[] #[{ accessFlags := 2, nameIndex := 5, descriptorIndex := 6, attributes := #[] }, { accessFlags := 9, nameIndex := 109, descriptorIndex := 171, attributes := #[] }] 49 2 #[] #[])
  fields := #[]
  methods := #[k15m0, k15m1]
  instanceTypes := #[]
  staticTypes := #[]
  resolved := Array.replicate 184 none
  statics := none }

def pool16 : Array CpInfo := pool [(2, .class_ 4), (1, u "java/lang/Object"), (0, u "<init>"), (0, u "()V"), (17, .class_ 26), (1, u "jdk/internal/util/Preconditions"), (6, u "checkIndex"), (21, .class_ 56), (0, u "jdk/internal/util/Preconditions$4"), (57, .class_ 115), (0, u "jdk/internal/util/Preconditions$1"), (7, u "SIOOBE_FORMATTER"), (0, u "Ljava/util/function/BiFunction;"), (0, .class_ 126), (0, u "jdk/internal/util/Preconditions$2"), (3, u "AIOOBE_FORMATTER"), (0, .class_ 132), (0, u "jdk/internal/util/Preconditions$3"), (3, u "IOOBE_FORMATTER"), (41, u "(IILjava/util/function/BiFunction;)I")] 15

def k16m0 : Method := { name := "<init>", desc := "()V", sig := { parameters := [], returnType := none }, accessFlags := 1, code := none }
def k16c1 : Code := { maxStack := 3, maxLocals := 3, code := jdk_41_method_11_code, exceptionTable := #[], attributes := #[] }
def k16m1 : Method := { name := "checkIndex", desc := "(IILjava/util/function/BiFunction;)I", sig := { parameters := [.int, .int, (.object "java/util/function/BiFunction")], returnType := some .int }, accessFlags := 9, code := some k16c1 }
/-- jdk/internal/util/Preconditions -/
def k16 : Class := { plain "jdk/internal/util/Preconditions" (some 0) with
  accessFlags := 33
  interfaces := #[]
  cf := some (fileOf pool16 24 #[.nestMembers #[55, 131, 125, 114]] #[{ accessFlags := 1, nameIndex := 5, descriptorIndex := 6, attributes := #[] }, { accessFlags := 9, nameIndex := 33, descriptorIndex := 178, attributes := #[] }] 33 2 #[] #[{ accessFlags := 25, nameIndex := 123, descriptorIndex := 124, attributes := #[] }, { accessFlags := 25, nameIndex := 130, descriptorIndex := 124, attributes := #[] }, { accessFlags := 25, nameIndex := 136, descriptorIndex := 124, attributes := #[] }])
  fields := #[{ name := "SIOOBE_FORMATTER", type := (.object "java/util/function/BiFunction"), accessFlags := 25, slot := 0, constantValue := 0 }, { name := "AIOOBE_FORMATTER", type := (.object "java/util/function/BiFunction"), accessFlags := 25, slot := 1, constantValue := 0 }, { name := "IOOBE_FORMATTER", type := (.object "java/util/function/BiFunction"), accessFlags := 25, slot := 2, constantValue := 0 }]
  methods := #[k16m0, k16m1]
  instanceTypes := #[]
  staticTypes := #[(.object "java/util/function/BiFunction"), (.object "java/util/function/BiFunction"), (.object "java/util/function/BiFunction")]
  resolved := Array.replicate 194 none
  statics := none }

def pool17 : Array CpInfo := pool [(2, .class_ 4), (1, u "java/lang/Object"), (0, u "<init>"), (0, u "()V"), (1, .class_ 10), (1, u "java/lang/System"), (0, u "allowSecurityManager"), (0, u "I"), (16, u "cons"), (0, u "Ljava/io/Console;"), (77, .class_ 110), (1, u "java/lang/System$CallersHolder"), (43, u "initialErrStream"), (0, u "Ljava/io/PrintStream;"), (19, u "security"), (0, u "Ljava/lang/SecurityManager;"), (31, .class_ 209), (0, u "java/lang/System$1"), (7, u "props"), (0, u "Ljava/util/Properties;"), (2, u "lineSeparator"), (0, u "Ljava/lang/String;"), (96, .class_ 321), (1, u "java/lang/System$LoggerFinder"), (5, .class_ 328), (0, u "java/lang/System$Logger"), (67, u "err"), (2, u "out"), (91, u "notSupportedJnuEncoding"), (15, u "in"), (17, u "initialIn"), (0, u "Ljava/io/InputStream;"), (35, u "bootLayer"), (0, u "Ljava/lang/ModuleLayer;"), (99, .class_ 664), (0, u "java/lang/System$2"), (9, u "NEVER"), (2, u "MAYBE"), (49, u "arraycopy"), (0, u "(Ljava/lang/Object;ILjava/lang/Object;II)V"), (72, .class_ 802), (0, u "java/lang/System$Logger$Level")] 31

def k17m0 : Method := { name := "<init>", desc := "()V", sig := { parameters := [], returnType := none }, accessFlags := 2, code := none }
def k17m1 : Method := { name := "arraycopy", desc := "(Ljava/lang/Object;ILjava/lang/Object;II)V", sig := { parameters := [(.object "java/lang/Object"), .int, (.object "java/lang/Object"), .int, .int], returnType := none }, accessFlags := 265, code := none }
/-- java/lang/System -/
def k17 : Class := { plain "java/lang/System" (some 0) with
  accessFlags := 49
  interfaces := #[]
  cf := some (fileOf pool17 8 #[.nestMembers #[319, 327, 801, 108, 663, 208]] #[{ accessFlags := 2, nameIndex := 5, descriptorIndex := 6, attributes := #[] }, { accessFlags := 265, nameIndex := 727, descriptorIndex := 728, attributes := #[] }] 49 2 #[] #[{ accessFlags := 25, nameIndex := 507, descriptorIndex := 526, attributes := #[] }, { accessFlags := 25, nameIndex := 399, descriptorIndex := 155, attributes := #[] }, { accessFlags := 25, nameIndex := 396, descriptorIndex := 155, attributes := #[] }, { accessFlags := 10, nameIndex := 525, descriptorIndex := 526, attributes := #[] }, { accessFlags := 26, nameIndex := 674, descriptorIndex := 12, attributes := #[] }, { accessFlags := 26, nameIndex := 677, descriptorIndex := 12, attributes := #[] }, { accessFlags := 10, nameIndex := 11, descriptorIndex := 12, attributes := #[] }, { accessFlags := 74, nameIndex := 175, descriptorIndex := 176, attributes := #[] }, { accessFlags := 10, nameIndex := 491, descriptorIndex := 222, attributes := #[] }, { accessFlags := 74, nameIndex := 29, descriptorIndex := 30, attributes := #[] }, { accessFlags := 74, nameIndex := 154, descriptorIndex := 155, attributes := #[] }, { accessFlags := 10, nameIndex := 217, descriptorIndex := 218, attributes := #[] }, { accessFlags := 10, nameIndex := 221, descriptorIndex := 222, attributes := #[] }, { accessFlags := 8, nameIndex := 562, descriptorIndex := 563, attributes := #[] }])
  fields := #[{ name := "in", type := (.object "java/io/InputStream"), accessFlags := 25, slot := 0, constantValue := 0 }, { name := "out", type := (.object "java/io/PrintStream"), accessFlags := 25, slot := 1, constantValue := 0 }, { name := "err", type := (.object "java/io/PrintStream"), accessFlags := 25, slot := 2, constantValue := 0 }, { name := "initialIn", type := (.object "java/io/InputStream"), accessFlags := 10, slot := 3, constantValue := 0 }, { name := "NEVER", type := .int, accessFlags := 26, slot := 4, constantValue := 0 }, { name := "MAYBE", type := .int, accessFlags := 26, slot := 5, constantValue := 0 }, { name := "allowSecurityManager", type := .int, accessFlags := 10, slot := 6, constantValue := 0 }, { name := "security", type := (.object "java/lang/SecurityManager"), accessFlags := 74, slot := 7, constantValue := 0 }, { name := "notSupportedJnuEncoding", type := (.object "java/lang/String"), accessFlags := 10, slot := 8, constantValue := 0 }, { name := "cons", type := (.object "java/io/Console"), accessFlags := 74, slot := 9, constantValue := 0 }, { name := "initialErrStream", type := (.object "java/io/PrintStream"), accessFlags := 74, slot := 10, constantValue := 0 }, { name := "props", type := (.object "java/util/Properties"), accessFlags := 10, slot := 11, constantValue := 0 }, { name := "lineSeparator", type := (.object "java/lang/String"), accessFlags := 10, slot := 12, constantValue := 0 }, { name := "bootLayer", type := (.object "java/lang/ModuleLayer"), accessFlags := 8, slot := 13, constantValue := 0 }]
  methods := #[k17m0, k17m1]
  instanceTypes := #[]
  staticTypes := #[(.object "java/io/InputStream"), (.object "java/io/PrintStream"), (.object "java/io/PrintStream"), (.object "java/io/InputStream"), .int, .int, .int, (.object "java/lang/SecurityManager"), (.object "java/lang/String"), (.object "java/io/Console"), (.object "java/io/PrintStream"), (.object "java/util/Properties"), (.object "java/lang/String"), (.object "java/lang/ModuleLayer")]
  resolved := Array.replicate 834 none
  statics := none }

def pool18 : Array CpInfo := pool [(1, .methodref 2 3), (0, .class_ 4), (0, .nameAndType 5 6), (0, u "java/lang/Object"), (0, u "<init>"), (0, u "()V"), (0, .class_ 8), (0, u "java/lang/Record")] 13

def k18c0 : Code := { maxStack := 1, maxLocals := 1, code := jdk_30_method_1_code, exceptionTable := #[], attributes := #[] }
def k18m0 : Method := { name := "<init>", desc := "()V", sig := { parameters := [], returnType := none }, accessFlags := 4, code := some k18c0 }
/-- java/lang/Record -/
def k18 : Class := { plain "java/lang/Record" (some 0) with
  accessFlags := 1057
  interfaces := #[]
  cf := some (fileOf pool18 7 #[] #[{ accessFlags := 4, nameIndex := 5, descriptorIndex := 6, attributes := #[] }] 1057 2 #[] #[])
  fields := #[]
  methods := #[k18m0]
  instanceTypes := #[]
  staticTypes := #[]
  resolved := Array.replicate 22 none
  statics := none }

def pool19 : Array CpInfo := pool [(1, .methodref 2 3), (0, .class_ 4), (0, .nameAndType 5 6), (0, u "java/lang/Record"), (0, u "<init>"), (0, u "()V"), (0, .fieldref 8 9), (0, .class_ 10), (0, .nameAndType 11 12), (0, u "com/example/overuse_to_delay/overusetodelay/gateway/BytePieces$Mark"), (0, u "at"), (0, u "I"), (0, .fieldref 8 14), (0, .nameAndType 15 12), (0, u "piece"), (0, .fieldref 8 17), (0, .nameAndType 18 12), (0, u "offset"), (12, u "(III)V"), (4, u "()I"), (4, .class_ 42), (0, u "com/example/overuse_to_delay/overusetodelay/gateway/BytePieces")] 21

def k19c0 : Code := { maxStack := 2, maxLocals := 4, code := prog_32_method_1_code, exceptionTable := #[], attributes := #[] }
def k19m0 : Method := { name := "<init>", desc := "(III)V", sig := { parameters := [.int, .int, .int], returnType := none }, accessFlags := 0, code := some k19c0 }
def k19c1 : Code := { maxStack := 1, maxLocals := 1, code := prog_32_method_5_code, exceptionTable := #[], attributes := #[] }
def k19m1 : Method := { name := "at", desc := "()I", sig := { parameters := [], returnType := some .int }, accessFlags := 1, code := some k19c1 }
def k19c2 : Code := { maxStack := 1, maxLocals := 1, code := prog_32_method_6_code, exceptionTable := #[], attributes := #[] }
def k19m2 : Method := { name := "piece", desc := "()I", sig := { parameters := [], returnType := some .int }, accessFlags := 1, code := some k19c2 }
def k19c3 : Code := { maxStack := 1, maxLocals := 1, code := prog_32_method_7_code, exceptionTable := #[], attributes := #[] }
def k19m3 : Method := { name := "offset", desc := "()I", sig := { parameters := [], returnType := some .int }, accessFlags := 1, code := some k19c3 }
/-- com/example/overuse_to_delay/overusetodelay/gateway/BytePieces$Mark -/
def k19 : Class := { plain "com/example/overuse_to_delay/overusetodelay/gateway/BytePieces$Mark" (some 18) with
  accessFlags := 48
  interfaces := #[]
  cf := some (fileOf pool19 8 #[.nestHost 41] #[{ accessFlags := 0, nameIndex := 5, descriptorIndex := 31, attributes := #[] }, { accessFlags := 1, nameIndex := 11, descriptorIndex := 36, attributes := #[] }, { accessFlags := 1, nameIndex := 15, descriptorIndex := 36, attributes := #[] }, { accessFlags := 1, nameIndex := 18, descriptorIndex := 36, attributes := #[] }] 48 2 #[] #[{ accessFlags := 18, nameIndex := 11, descriptorIndex := 12, attributes := #[] }, { accessFlags := 18, nameIndex := 15, descriptorIndex := 12, attributes := #[] }, { accessFlags := 18, nameIndex := 18, descriptorIndex := 12, attributes := #[] }])
  fields := #[{ name := "at", type := .int, accessFlags := 18, slot := 0, constantValue := 0 }, { name := "piece", type := .int, accessFlags := 18, slot := 1, constantValue := 0 }, { name := "offset", type := .int, accessFlags := 18, slot := 2, constantValue := 0 }]
  methods := #[k19m0, k19m1, k19m2, k19m3]
  instanceTypes := #[.int, .int, .int]
  staticTypes := #[]
  resolved := Array.replicate 64 none
  statics := none }

/-- the primitive byte -/
def k20 : Class := { plain "byte" none with kind := .primitive 'B', accessFlags := 0x411 }
/-- [B -/
def k21 : Class := { plain "[B" (some 0) with kind := .array 20 .byte, interfaces := #[10, 11], accessFlags := 1041 }

/-- the primitive int -/
def k22 : Class := { plain "int" none with kind := .primitive 'I', accessFlags := 0x411 }
/-- [I -/
def k23 : Class := { plain "[I" (some 0) with kind := .array 22 .int, interfaces := #[10, 11], accessFlags := 1041 }

/-- [Ljava/lang/Object; -/
def k24 : Class := { plain "[Ljava/lang/Object;" (some 0) with kind := .array 0 (.object "java/lang/Object"), interfaces := #[10, 11], accessFlags := 1041 }

def heap : Heap := #[{ cls := 12, slots := #[.long 0, .int 0, .ref 1, .ref 2], vm := .statics 12 },
  { cls := 24, slots := #[], vm := .none },
  { cls := 24, slots := #[], vm := .none }]
def classes : Array Class := #[k0, k1, k2, k3, k4, k5, k6, k7, k8, k9, k10, k11, k12, k13, k14, k15, k16, k17, k18, k19, k20, k21, k22, k23, k24]
def interned : List (Array UInt16 × Addr) := []
def slotsUsed : Nat := 4
def theMethod : MethodId := ⟨1, 1⟩
def args0 : Array Value := #[.int 5, .int 6, .int 7]
def aboutOver (below : List Frame) : State where
  vm := { classes := classes, interned := interned.toArray }
  heap := heap
  slotsUsed := slotsUsed
  threads := #[{ frames := .invoking theMethod args0 :: below }]
def below0 : List Frame := [.native { method := ⟨0, 0⟩, args := #[] }]
def about1 : State := aboutOver below0
def p0 : Program := .bare "" "" ""
def e0 : Env := launch0.env 0 0 0
theorem w_frames : about1.frames = Frame.invoking theMethod args0 :: below0 := rfl
set_option maxRecDepth 65536 in
theorem w_args : argsFit about1.vm theMethod args0 = true := by decide +kernel
set_option maxRecDepth 65536 in
theorem w_heap : heapFits about1 = true := by decide +kernel
set_option maxRecDepth 65536 in
theorem w_runnable : about1.curStatus? = some .runnable := by decide +kernel
set_option maxRecDepth 65536 in
theorem w_alone : about1.alone = true := by decide +kernel
set_option maxRecDepth 65536 in
theorem w_named : about1.methodNamed? x = some theMethod := by decide +kernel
set_option maxRecDepth 65536 in
theorem w_hears : about1.hears theMethod below0 = true := by decide +kernel
set_option maxRecDepth 65536 in
theorem w_ripe : about1.ripe theMethod args0 below0 = true := by decide +kernel
theorem w_running : about1.status = .running := rfl
set_option maxRecDepth 65536 in
theorem w_room : about1.hasRoom e0.platform room_1 = true :=
  launch0.hasRoom_least _ room_1 (by decide +kernel) (by decide +kernel) (by decide +kernel) (by decide +kernel) (by decide +kernel) (by decide +kernel)
theorem allAtoms_all (ts : List Jvm.Cond) (a : Array Jvm.Value) (st : Jvm.State) : (allAtoms ts).before a st = ts.all (fun c => c.before a st) := by
  induction ts with
  | nil => rfl
  | cons c t ih =>
    show (Jvm.Cond.and c (allAtoms t)).before a st = _
    rw [Jvm.Cond.before_and, ih, List.all_cons]
def words1 : List Jvm.Cond := Jvm.Cond.code x code maxLocals ret :: tables_1
/-- a 'code' word, met by the world's own term for the bytes: nothing is compared byte by byte -/
theorem code_word {y : MethodName} {bytes : ByteArray} {mx : Nat} {rt : Option FieldType} {a : Array Value} {s : State} {m : MethodId} {meth : Method} {c : Code} (h1 : s.methodNamed? y = some m) (h2 : s.vm.method? m = some meth) (h3 : meth.code = some c) (h4 : c.code = bytes)
    (h5 : (c.maxLocals == mx && c.exceptionTable.isEmpty && decide (c.maxStack ≤ mostOperands) && decide (meth.sig.returnType = rt) && !meth.locks && decide (parseMethodDescriptor y.desc = some meth.sig)) = true) : (Jvm.Cond.code y bytes mx rt).before a s = true := by
  simp only [Bool.and_eq_true, beq_iff_eq, Bool.not_eq_true', decide_eq_true_eq] at h5
  obtain ⟨⟨⟨⟨⟨g1, g2⟩, g3⟩, g4⟩, g5⟩, g6⟩ := h5
  simp [Cond.before, Cond.holds, Cond.value, h1, h2, h3, h4, g1, g2, g3, g4, g5, g6]
def isCode : Jvm.Cond → Bool
  | .code _ _ _ _ => true
  | _ => false
theorem all_split {L : List Jvm.Cond} {P : Jvm.Cond → Bool} (h1 : L.all (fun c => isCode c || P c) = true) (h2 : ∀ c ∈ L.filter isCode, P c = true) : L.all P = true := by
  refine List.all_eq_true.mpr fun c hc => ?_
  have h := List.all_eq_true.mp h1 c hc
  rcases Bool.eq_false_or_eq_true (isCode c) with hi | hi
  · exact h2 c (List.mem_filter.mpr ⟨hc, hi⟩)
  · simpa [hi] using h
set_option maxRecDepth 65536 in
theorem w_c0 : (Jvm.Cond.code x code maxLocals ret).before args0 about1 = true := code_word (m := ⟨1, 1⟩) (meth := k1m1) (c := k1c1) (by decide +kernel) rfl rfl rfl (by decide +kernel)
set_option maxRecDepth 65536 in
theorem w_c1 : (Jvm.Cond.code ({ cls := "com/example/overuse_to_delay/overusetodelay/gateway/BytePieces", name := "<init>", desc := "()V" } : Jvm.MethodName) prog_31_method_1_code (1 : Nat) (Option.none : Option Jvm.ClassFile.FieldType)).before args0 about1 = true := code_word (m := ⟨2, 0⟩) (meth := k2m0) (c := k2c0) (by decide +kernel) rfl rfl rfl (by decide +kernel)
set_option maxRecDepth 65536 in
theorem w_c2 : (Jvm.Cond.code ({ cls := "java/lang/Object", name := "<init>", desc := "()V" } : Jvm.MethodName) object_method_1_code (1 : Nat) (Option.none : Option Jvm.ClassFile.FieldType)).before args0 about1 = true := code_word (m := ⟨0, 0⟩) (meth := k0m0) (c := k0c0) (by decide +kernel) rfl rfl rfl (by decide +kernel)
set_option maxRecDepth 65536 in
theorem w_c3 : (Jvm.Cond.code ({ cls := "java/util/ArrayList", name := "<init>", desc := "()V" } : Jvm.MethodName) jdk_38_method_2_code (1 : Nat) (Option.none : Option Jvm.ClassFile.FieldType)).before args0 about1 = true := code_word (m := ⟨12, 0⟩) (meth := k12m0) (c := k12c0) (by decide +kernel) rfl rfl rfl (by decide +kernel)
set_option maxRecDepth 65536 in
theorem w_c4 : (Jvm.Cond.code ({ cls := "java/util/AbstractList", name := "<init>", desc := "()V" } : Jvm.MethodName) jdk_39_method_1_code (1 : Nat) (Option.none : Option Jvm.ClassFile.FieldType)).before args0 about1 = true := code_word (m := ⟨8, 0⟩) (meth := k8m0) (c := k8c0) (by decide +kernel) rfl rfl rfl (by decide +kernel)
set_option maxRecDepth 65536 in
theorem w_c5 : (Jvm.Cond.code ({ cls := "java/util/AbstractCollection", name := "<init>", desc := "()V" } : Jvm.MethodName) jdk_22_method_1_code (1 : Nat) (Option.none : Option Jvm.ClassFile.FieldType)).before args0 about1 = true := code_word (m := ⟨5, 0⟩) (meth := k5m0) (c := k5c0) (by decide +kernel) rfl rfl rfl (by decide +kernel)
set_option maxRecDepth 65536 in
theorem w_c6 : (Jvm.Cond.code ({ cls := "com/example/overuse_to_delay/overusetodelay/gateway/BytePieces$Place", name := "<init>", desc := "(Lcom/example/overuse_to_delay/overusetodelay/gateway/BytePieces;)V" } : Jvm.MethodName) prog_33_method_1_code (2 : Nat) (Option.none : Option Jvm.ClassFile.FieldType)).before args0 about1 = true := code_word (m := ⟨13, 0⟩) (meth := k13m0) (c := k13c0) (by decide +kernel) rfl rfl rfl (by decide +kernel)
set_option maxRecDepth 65536 in
theorem w_c7 : (Jvm.Cond.code ({ cls := "com/example/overuse_to_delay/overusetodelay/gateway/BytePieces", name := "growTo", desc := "(I)V" } : Jvm.MethodName) prog_31_method_7_code (2 : Nat) (Option.none : Option Jvm.ClassFile.FieldType)).before args0 about1 = true := code_word (m := ⟨2, 3⟩) (meth := k2m3) (c := k2c3) (by decide +kernel) rfl rfl rfl (by decide +kernel)
set_option maxRecDepth 65536 in
theorem w_c8 : (Jvm.Cond.code ({ cls := "java/lang/Math", name := "min", desc := "(II)I" } : Jvm.MethodName) jdk_29_method_69_code (2 : Nat) (Option.some Jvm.ClassFile.FieldType.int)).before args0 about1 = true := code_word (m := ⟨14, 2⟩) (meth := k14m2) (c := k14c2) (by decide +kernel) rfl rfl rfl (by decide +kernel)
set_option maxRecDepth 65536 in
theorem w_c9 : (Jvm.Cond.code ({ cls := "com/example/overuse_to_delay/overusetodelay/gateway/BytePieces", name := "add", desc := "([B)V" } : Jvm.MethodName) prog_31_method_29_code (2 : Nat) (Option.none : Option Jvm.ClassFile.FieldType)).before args0 about1 = true := code_word (m := ⟨2, 11⟩) (meth := k2m11) (c := k2c11) (by decide +kernel) rfl rfl rfl (by decide +kernel)
set_option maxRecDepth 65536 in
theorem w_c10 : (Jvm.Cond.code ({ cls := "java/util/ArrayList", name := "add", desc := "(Ljava/lang/Object;)Z" } : Jvm.MethodName) jdk_38_method_25_code (2 : Nat) (Option.some Jvm.ClassFile.FieldType.boolean)).before args0 about1 = true := code_word (m := ⟨12, 6⟩) (meth := k12m6) (c := k12c6) (by decide +kernel) rfl rfl rfl (by decide +kernel)
set_option maxRecDepth 65536 in
theorem w_c11 : (Jvm.Cond.code ({ cls := "java/util/ArrayList", name := "add", desc := "(Ljava/lang/Object;[Ljava/lang/Object;I)V" } : Jvm.MethodName) jdk_38_method_24_code (4 : Nat) (Option.none : Option Jvm.ClassFile.FieldType)).before args0 about1 = true := code_word (m := ⟨12, 5⟩) (meth := k12m5) (c := k12c5) (by decide +kernel) rfl rfl rfl (by decide +kernel)
set_option maxRecDepth 65536 in
theorem w_c12 : (Jvm.Cond.code ({ cls := "java/util/ArrayList", name := "grow", desc := "()[Ljava/lang/Object;" } : Jvm.MethodName) jdk_38_method_7_code (1 : Nat) (Option.some (Jvm.ClassFile.FieldType.array (Jvm.ClassFile.FieldType.object "java/lang/Object")))).before args0 about1 = true := code_word (m := ⟨12, 2⟩) (meth := k12m2) (c := k12c2) (by decide +kernel) rfl rfl rfl (by decide +kernel)
set_option maxRecDepth 65536 in
theorem w_c13 : (Jvm.Cond.code ({ cls := "java/util/ArrayList", name := "grow", desc := "(I)[Ljava/lang/Object;" } : Jvm.MethodName) jdk_38_method_6_code (4 : Nat) (Option.some (Jvm.ClassFile.FieldType.array (Jvm.ClassFile.FieldType.object "java/lang/Object")))).before args0 about1 = true := code_word (m := ⟨12, 1⟩) (meth := k12m1) (c := k12c1) (by decide +kernel) rfl rfl rfl (by decide +kernel)
set_option maxRecDepth 65536 in
theorem w_c14 : (Jvm.Cond.code ({ cls := "java/lang/Math", name := "max", desc := "(II)I" } : Jvm.MethodName) jdk_29_method_65_code (2 : Nat) (Option.some Jvm.ClassFile.FieldType.int)).before args0 about1 = true := code_word (m := ⟨14, 1⟩) (meth := k14m1) (c := k14c1) (by decide +kernel) rfl rfl rfl (by decide +kernel)
set_option maxRecDepth 65536 in
theorem w_c15 : (Jvm.Cond.code ({ cls := "com/example/overuse_to_delay/overusetodelay/gateway/BytePieces", name := "putInt", desc := "(I)V" } : Jvm.MethodName) prog_31_method_10_code (4 : Nat) (Option.none : Option Jvm.ClassFile.FieldType)).before args0 about1 = true := code_word (m := ⟨2, 4⟩) (meth := k2m4) (c := k2c4) (by decide +kernel) rfl rfl rfl (by decide +kernel)
set_option maxRecDepth 65536 in
theorem w_c16 : (Jvm.Cond.code ({ cls := "com/example/overuse_to_delay/overusetodelay/gateway/BytePieces$Place", name := "pieceHolding", desc := "(I)[B" } : Jvm.MethodName) prog_33_method_4_code (2 : Nat) (Option.some (Jvm.ClassFile.FieldType.array Jvm.ClassFile.FieldType.byte))).before args0 about1 = true := code_word (m := ⟨13, 2⟩) (meth := k13m2) (c := k13c2) (by decide +kernel) rfl rfl rfl (by decide +kernel)
set_option maxRecDepth 65536 in
theorem w_c17 : (Jvm.Cond.code ({ cls := "com/example/overuse_to_delay/overusetodelay/gateway/BytePieces", name := "putAcrossPieces", desc := "(II)V" } : Jvm.MethodName) prog_31_method_26_code (3 : Nat) (Option.none : Option Jvm.ClassFile.FieldType)).before args0 about1 = true := code_word (m := ⟨2, 10⟩) (meth := k2m10) (c := k2c10) (by decide +kernel) rfl rfl rfl (by decide +kernel)
set_option maxRecDepth 65536 in
theorem w_c18 : (Jvm.Cond.code ({ cls := "com/example/overuse_to_delay/overusetodelay/gateway/BytePieces$Place", name := "writeByteByByte", desc := "(II)V" } : Jvm.MethodName) prog_33_method_6_code (5 : Nat) (Option.none : Option Jvm.ClassFile.FieldType)).before args0 about1 = true := code_word (m := ⟨13, 4⟩) (meth := k13m4) (c := k13c4) (by decide +kernel) rfl rfl rfl (by decide +kernel)
set_option maxRecDepth 65536 in
theorem w_c19 : (Jvm.Cond.code ({ cls := "com/example/overuse_to_delay/overusetodelay/gateway/BytePieces$Place", name := "piece", desc := "()[B" } : Jvm.MethodName) prog_33_method_3_code (1 : Nat) (Option.some (Jvm.ClassFile.FieldType.array Jvm.ClassFile.FieldType.byte))).before args0 about1 = true := code_word (m := ⟨13, 1⟩) (meth := k13m1) (c := k13c1) (by decide +kernel) rfl rfl rfl (by decide +kernel)
set_option maxRecDepth 65536 in
theorem w_c20 : (Jvm.Cond.code ({ cls := "java/util/ArrayList", name := "get", desc := "(I)Ljava/lang/Object;" } : Jvm.MethodName) jdk_38_method_20_code (2 : Nat) (Option.some (Jvm.ClassFile.FieldType.object "java/lang/Object"))).before args0 about1 = true := code_word (m := ⟨12, 4⟩) (meth := k12m4) (c := k12c4) (by decide +kernel) rfl rfl rfl (by decide +kernel)
set_option maxRecDepth 65536 in
theorem w_c21 : (Jvm.Cond.code ({ cls := "java/util/Objects", name := "checkIndex", desc := "(II)I" } : Jvm.MethodName) jdk_31_method_17_code (2 : Nat) (Option.some Jvm.ClassFile.FieldType.int)).before args0 about1 = true := code_word (m := ⟨15, 1⟩) (meth := k15m1) (c := k15c1) (by decide +kernel) rfl rfl rfl (by decide +kernel)
set_option maxRecDepth 65536 in
theorem w_c22 : (Jvm.Cond.code ({ cls := "jdk/internal/util/Preconditions", name := "checkIndex", desc := "(IILjava/util/function/BiFunction;)I" } : Jvm.MethodName) jdk_41_method_11_code (3 : Nat) (Option.some Jvm.ClassFile.FieldType.int)).before args0 about1 = true := code_word (m := ⟨16, 1⟩) (meth := k16m1) (c := k16c1) (by decide +kernel) rfl rfl rfl (by decide +kernel)
set_option maxRecDepth 65536 in
theorem w_c23 : (Jvm.Cond.code ({ cls := "java/util/ArrayList", name := "elementData", desc := "(I)Ljava/lang/Object;" } : Jvm.MethodName) jdk_38_method_18_code (2 : Nat) (Option.some (Jvm.ClassFile.FieldType.object "java/lang/Object"))).before args0 about1 = true := code_word (m := ⟨12, 3⟩) (meth := k12m3) (c := k12c3) (by decide +kernel) rfl rfl rfl (by decide +kernel)
set_option maxRecDepth 65536 in
theorem w_c24 : (Jvm.Cond.code ({ cls := "com/example/overuse_to_delay/overusetodelay/gateway/BytePieces$Place", name := "pass", desc := "(I)V" } : Jvm.MethodName) prog_33_method_5_code (2 : Nat) (Option.none : Option Jvm.ClassFile.FieldType)).before args0 about1 = true := code_word (m := ⟨13, 3⟩) (meth := k13m3) (c := k13c3) (by decide +kernel) rfl rfl rfl (by decide +kernel)
set_option maxRecDepth 65536 in
theorem w_c25 : (Jvm.Cond.code ({ cls := "com/example/overuse_to_delay/overusetodelay/gateway/BytePieces", name := "put", desc := "([B)V" } : Jvm.MethodName) prog_31_method_11_code (3 : Nat) (Option.none : Option Jvm.ClassFile.FieldType)).before args0 about1 = true := code_word (m := ⟨2, 5⟩) (meth := k2m5) (c := k2c5) (by decide +kernel) rfl rfl rfl (by decide +kernel)
set_option maxRecDepth 65536 in
theorem w_c26 : (Jvm.Cond.code ({ cls := "com/example/overuse_to_delay/overusetodelay/gateway/BytePieces", name := "skip", desc := "(I)V" } : Jvm.MethodName) prog_31_method_17_code (2 : Nat) (Option.none : Option Jvm.ClassFile.FieldType)).before args0 about1 = true := code_word (m := ⟨2, 7⟩) (meth := k2m7) (c := k2c7) (by decide +kernel) rfl rfl rfl (by decide +kernel)
set_option maxRecDepth 65536 in
theorem w_c27 : (Jvm.Cond.code ({ cls := "com/example/overuse_to_delay/overusetodelay/gateway/BytePieces$Place", name := "move", desc := "(I)V" } : Jvm.MethodName) prog_33_method_8_code (4 : Nat) (Option.none : Option Jvm.ClassFile.FieldType)).before args0 about1 = true := code_word (m := ⟨13, 6⟩) (meth := k13m6) (c := k13c6) (by decide +kernel) rfl rfl rfl (by decide +kernel)
set_option maxRecDepth 65536 in
theorem w_c28 : (Jvm.Cond.code ({ cls := "com/example/overuse_to_delay/overusetodelay/gateway/BytePieces", name := "takeInt", desc := "()I" } : Jvm.MethodName) prog_31_method_14_code (4 : Nat) (Option.some Jvm.ClassFile.FieldType.int)).before args0 about1 = true := code_word (m := ⟨2, 6⟩) (meth := k2m6) (c := k2c6) (by decide +kernel) rfl rfl rfl (by decide +kernel)
set_option maxRecDepth 65536 in
theorem w_c29 : (Jvm.Cond.code ({ cls := "com/example/overuse_to_delay/overusetodelay/gateway/BytePieces$Place", name := "readByteByByte", desc := "(I)I" } : Jvm.MethodName) prog_33_method_7_code (5 : Nat) (Option.some Jvm.ClassFile.FieldType.int)).before args0 about1 = true := code_word (m := ⟨13, 5⟩) (meth := k13m5) (c := k13c5) (by decide +kernel) rfl rfl rfl (by decide +kernel)
set_option maxRecDepth 65536 in
theorem w_c30 : (Jvm.Cond.code ({ cls := "com/example/overuse_to_delay/overusetodelay/gateway/BytePieces", name := "rewind", desc := "()V" } : Jvm.MethodName) prog_31_method_18_code (1 : Nat) (Option.none : Option Jvm.ClassFile.FieldType)).before args0 about1 = true := code_word (m := ⟨2, 8⟩) (meth := k2m8) (c := k2c8) (by decide +kernel) rfl rfl rfl (by decide +kernel)
set_option maxRecDepth 65536 in
theorem w_c31 : (Jvm.Cond.code ({ cls := "com/example/overuse_to_delay/overusetodelay/gateway/BytePieces", name := "mark", desc := "()Lcom/example/overuse_to_delay/overusetodelay/gateway/BytePieces$Mark;" } : Jvm.MethodName) prog_31_method_19_code (1 : Nat) (Option.some (Jvm.ClassFile.FieldType.object "com/example/overuse_to_delay/overusetodelay/gateway/BytePieces$Mark"))).before args0 about1 = true := code_word (m := ⟨2, 9⟩) (meth := k2m9) (c := k2c9) (by decide +kernel) rfl rfl rfl (by decide +kernel)
set_option maxRecDepth 65536 in
theorem w_c32 : (Jvm.Cond.code ({ cls := "com/example/overuse_to_delay/overusetodelay/gateway/BytePieces$Mark", name := "<init>", desc := "(III)V" } : Jvm.MethodName) prog_32_method_1_code (4 : Nat) (Option.none : Option Jvm.ClassFile.FieldType)).before args0 about1 = true := code_word (m := ⟨19, 0⟩) (meth := k19m0) (c := k19c0) (by decide +kernel) rfl rfl rfl (by decide +kernel)
set_option maxRecDepth 65536 in
theorem w_c33 : (Jvm.Cond.code ({ cls := "java/lang/Record", name := "<init>", desc := "()V" } : Jvm.MethodName) jdk_30_method_1_code (1 : Nat) (Option.none : Option Jvm.ClassFile.FieldType)).before args0 about1 = true := code_word (m := ⟨18, 0⟩) (meth := k18m0) (c := k18c0) (by decide +kernel) rfl rfl rfl (by decide +kernel)
set_option maxRecDepth 65536 in
theorem w_c34 : (Jvm.Cond.code ({ cls := "com/example/overuse_to_delay/overusetodelay/gateway/BytePieces$Mark", name := "at", desc := "()I" } : Jvm.MethodName) prog_32_method_5_code (1 : Nat) (Option.some Jvm.ClassFile.FieldType.int)).before args0 about1 = true := code_word (m := ⟨19, 1⟩) (meth := k19m1) (c := k19c1) (by decide +kernel) rfl rfl rfl (by decide +kernel)
set_option maxRecDepth 65536 in
theorem w_c35 : (Jvm.Cond.code ({ cls := "com/example/overuse_to_delay/overusetodelay/gateway/BytePieces$Mark", name := "piece", desc := "()I" } : Jvm.MethodName) prog_32_method_6_code (1 : Nat) (Option.some Jvm.ClassFile.FieldType.int)).before args0 about1 = true := code_word (m := ⟨19, 2⟩) (meth := k19m2) (c := k19c2) (by decide +kernel) rfl rfl rfl (by decide +kernel)
set_option maxRecDepth 65536 in
theorem w_c36 : (Jvm.Cond.code ({ cls := "com/example/overuse_to_delay/overusetodelay/gateway/BytePieces$Mark", name := "offset", desc := "()I" } : Jvm.MethodName) prog_32_method_7_code (1 : Nat) (Option.some Jvm.ClassFile.FieldType.int)).before args0 about1 = true := code_word (m := ⟨19, 3⟩) (meth := k19m3) (c := k19c3) (by decide +kernel) rfl rfl rfl (by decide +kernel)
set_option maxRecDepth 65536 in
theorem w_c37 : (Jvm.Cond.code ({ cls := "com/example/overuse_to_delay/overusetodelay/gateway/BytePieces", name := "remaining", desc := "()I" } : Jvm.MethodName) prog_31_method_5_code (1 : Nat) (Option.some Jvm.ClassFile.FieldType.int)).before args0 about1 = true := code_word (m := ⟨2, 2⟩) (meth := k2m2) (c := k2c2) (by decide +kernel) rfl rfl rfl (by decide +kernel)
set_option maxRecDepth 65536 in
theorem w_c38 : (Jvm.Cond.code ({ cls := "com/example/overuse_to_delay/overusetodelay/gateway/BytePieces", name := "size", desc := "()I" } : Jvm.MethodName) prog_31_method_4_code (1 : Nat) (Option.some Jvm.ClassFile.FieldType.int)).before args0 about1 = true := code_word (m := ⟨2, 1⟩) (meth := k2m1) (c := k2c1) (by decide +kernel) rfl rfl rfl (by decide +kernel)
def codes1 : List Jvm.Cond := [Jvm.Cond.code x code maxLocals ret, Jvm.Cond.code ({ cls := "com/example/overuse_to_delay/overusetodelay/gateway/BytePieces", name := "<init>", desc := "()V" } : Jvm.MethodName) prog_31_method_1_code (1 : Nat) (Option.none : Option Jvm.ClassFile.FieldType), Jvm.Cond.code ({ cls := "java/lang/Object", name := "<init>", desc := "()V" } : Jvm.MethodName) object_method_1_code (1 : Nat) (Option.none : Option Jvm.ClassFile.FieldType), Jvm.Cond.code ({ cls := "java/util/ArrayList", name := "<init>", desc := "()V" } : Jvm.MethodName) jdk_38_method_2_code (1 : Nat) (Option.none : Option Jvm.ClassFile.FieldType), Jvm.Cond.code ({ cls := "java/util/AbstractList", name := "<init>", desc := "()V" } : Jvm.MethodName) jdk_39_method_1_code (1 : Nat) (Option.none : Option Jvm.ClassFile.FieldType), Jvm.Cond.code ({ cls := "java/util/AbstractCollection", name := "<init>", desc := "()V" } : Jvm.MethodName) jdk_22_method_1_code (1 : Nat) (Option.none : Option Jvm.ClassFile.FieldType), Jvm.Cond.code ({ cls := "com/example/overuse_to_delay/overusetodelay/gateway/BytePieces$Place", name := "<init>", desc := "(Lcom/example/overuse_to_delay/overusetodelay/gateway/BytePieces;)V" } : Jvm.MethodName) prog_33_method_1_code (2 : Nat) (Option.none : Option Jvm.ClassFile.FieldType), Jvm.Cond.code ({ cls := "com/example/overuse_to_delay/overusetodelay/gateway/BytePieces", name := "growTo", desc := "(I)V" } : Jvm.MethodName) prog_31_method_7_code (2 : Nat) (Option.none : Option Jvm.ClassFile.FieldType), Jvm.Cond.code ({ cls := "java/lang/Math", name := "min", desc := "(II)I" } : Jvm.MethodName) jdk_29_method_69_code (2 : Nat) (Option.some Jvm.ClassFile.FieldType.int), Jvm.Cond.code ({ cls := "com/example/overuse_to_delay/overusetodelay/gateway/BytePieces", name := "add", desc := "([B)V" } : Jvm.MethodName) prog_31_method_29_code (2 : Nat) (Option.none : Option Jvm.ClassFile.FieldType), Jvm.Cond.code ({ cls := "java/util/ArrayList", name := "add", desc := "(Ljava/lang/Object;)Z" } : Jvm.MethodName) jdk_38_method_25_code (2 : Nat) (Option.some Jvm.ClassFile.FieldType.boolean), Jvm.Cond.code ({ cls := "java/util/ArrayList", name := "add", desc := "(Ljava/lang/Object;[Ljava/lang/Object;I)V" } : Jvm.MethodName) jdk_38_method_24_code (4 : Nat) (Option.none : Option Jvm.ClassFile.FieldType), Jvm.Cond.code ({ cls := "java/util/ArrayList", name := "grow", desc := "()[Ljava/lang/Object;" } : Jvm.MethodName) jdk_38_method_7_code (1 : Nat) (Option.some (Jvm.ClassFile.FieldType.array (Jvm.ClassFile.FieldType.object "java/lang/Object"))), Jvm.Cond.code ({ cls := "java/util/ArrayList", name := "grow", desc := "(I)[Ljava/lang/Object;" } : Jvm.MethodName) jdk_38_method_6_code (4 : Nat) (Option.some (Jvm.ClassFile.FieldType.array (Jvm.ClassFile.FieldType.object "java/lang/Object"))), Jvm.Cond.code ({ cls := "java/lang/Math", name := "max", desc := "(II)I" } : Jvm.MethodName) jdk_29_method_65_code (2 : Nat) (Option.some Jvm.ClassFile.FieldType.int), Jvm.Cond.code ({ cls := "com/example/overuse_to_delay/overusetodelay/gateway/BytePieces", name := "putInt", desc := "(I)V" } : Jvm.MethodName) prog_31_method_10_code (4 : Nat) (Option.none : Option Jvm.ClassFile.FieldType), Jvm.Cond.code ({ cls := "com/example/overuse_to_delay/overusetodelay/gateway/BytePieces$Place", name := "pieceHolding", desc := "(I)[B" } : Jvm.MethodName) prog_33_method_4_code (2 : Nat) (Option.some (Jvm.ClassFile.FieldType.array Jvm.ClassFile.FieldType.byte)), Jvm.Cond.code ({ cls := "com/example/overuse_to_delay/overusetodelay/gateway/BytePieces", name := "putAcrossPieces", desc := "(II)V" } : Jvm.MethodName) prog_31_method_26_code (3 : Nat) (Option.none : Option Jvm.ClassFile.FieldType), Jvm.Cond.code ({ cls := "com/example/overuse_to_delay/overusetodelay/gateway/BytePieces$Place", name := "writeByteByByte", desc := "(II)V" } : Jvm.MethodName) prog_33_method_6_code (5 : Nat) (Option.none : Option Jvm.ClassFile.FieldType), Jvm.Cond.code ({ cls := "com/example/overuse_to_delay/overusetodelay/gateway/BytePieces$Place", name := "piece", desc := "()[B" } : Jvm.MethodName) prog_33_method_3_code (1 : Nat) (Option.some (Jvm.ClassFile.FieldType.array Jvm.ClassFile.FieldType.byte)), Jvm.Cond.code ({ cls := "java/util/ArrayList", name := "get", desc := "(I)Ljava/lang/Object;" } : Jvm.MethodName) jdk_38_method_20_code (2 : Nat) (Option.some (Jvm.ClassFile.FieldType.object "java/lang/Object")), Jvm.Cond.code ({ cls := "java/util/Objects", name := "checkIndex", desc := "(II)I" } : Jvm.MethodName) jdk_31_method_17_code (2 : Nat) (Option.some Jvm.ClassFile.FieldType.int), Jvm.Cond.code ({ cls := "jdk/internal/util/Preconditions", name := "checkIndex", desc := "(IILjava/util/function/BiFunction;)I" } : Jvm.MethodName) jdk_41_method_11_code (3 : Nat) (Option.some Jvm.ClassFile.FieldType.int), Jvm.Cond.code ({ cls := "java/util/ArrayList", name := "elementData", desc := "(I)Ljava/lang/Object;" } : Jvm.MethodName) jdk_38_method_18_code (2 : Nat) (Option.some (Jvm.ClassFile.FieldType.object "java/lang/Object")), Jvm.Cond.code ({ cls := "com/example/overuse_to_delay/overusetodelay/gateway/BytePieces$Place", name := "pass", desc := "(I)V" } : Jvm.MethodName) prog_33_method_5_code (2 : Nat) (Option.none : Option Jvm.ClassFile.FieldType), Jvm.Cond.code ({ cls := "com/example/overuse_to_delay/overusetodelay/gateway/BytePieces", name := "put", desc := "([B)V" } : Jvm.MethodName) prog_31_method_11_code (3 : Nat) (Option.none : Option Jvm.ClassFile.FieldType), Jvm.Cond.code ({ cls := "com/example/overuse_to_delay/overusetodelay/gateway/BytePieces", name := "skip", desc := "(I)V" } : Jvm.MethodName) prog_31_method_17_code (2 : Nat) (Option.none : Option Jvm.ClassFile.FieldType), Jvm.Cond.code ({ cls := "com/example/overuse_to_delay/overusetodelay/gateway/BytePieces$Place", name := "move", desc := "(I)V" } : Jvm.MethodName) prog_33_method_8_code (4 : Nat) (Option.none : Option Jvm.ClassFile.FieldType), Jvm.Cond.code ({ cls := "com/example/overuse_to_delay/overusetodelay/gateway/BytePieces", name := "takeInt", desc := "()I" } : Jvm.MethodName) prog_31_method_14_code (4 : Nat) (Option.some Jvm.ClassFile.FieldType.int), Jvm.Cond.code ({ cls := "com/example/overuse_to_delay/overusetodelay/gateway/BytePieces$Place", name := "readByteByByte", desc := "(I)I" } : Jvm.MethodName) prog_33_method_7_code (5 : Nat) (Option.some Jvm.ClassFile.FieldType.int), Jvm.Cond.code ({ cls := "com/example/overuse_to_delay/overusetodelay/gateway/BytePieces", name := "rewind", desc := "()V" } : Jvm.MethodName) prog_31_method_18_code (1 : Nat) (Option.none : Option Jvm.ClassFile.FieldType), Jvm.Cond.code ({ cls := "com/example/overuse_to_delay/overusetodelay/gateway/BytePieces", name := "mark", desc := "()Lcom/example/overuse_to_delay/overusetodelay/gateway/BytePieces$Mark;" } : Jvm.MethodName) prog_31_method_19_code (1 : Nat) (Option.some (Jvm.ClassFile.FieldType.object "com/example/overuse_to_delay/overusetodelay/gateway/BytePieces$Mark")), Jvm.Cond.code ({ cls := "com/example/overuse_to_delay/overusetodelay/gateway/BytePieces$Mark", name := "<init>", desc := "(III)V" } : Jvm.MethodName) prog_32_method_1_code (4 : Nat) (Option.none : Option Jvm.ClassFile.FieldType), Jvm.Cond.code ({ cls := "java/lang/Record", name := "<init>", desc := "()V" } : Jvm.MethodName) jdk_30_method_1_code (1 : Nat) (Option.none : Option Jvm.ClassFile.FieldType), Jvm.Cond.code ({ cls := "com/example/overuse_to_delay/overusetodelay/gateway/BytePieces$Mark", name := "at", desc := "()I" } : Jvm.MethodName) prog_32_method_5_code (1 : Nat) (Option.some Jvm.ClassFile.FieldType.int), Jvm.Cond.code ({ cls := "com/example/overuse_to_delay/overusetodelay/gateway/BytePieces$Mark", name := "piece", desc := "()I" } : Jvm.MethodName) prog_32_method_6_code (1 : Nat) (Option.some Jvm.ClassFile.FieldType.int), Jvm.Cond.code ({ cls := "com/example/overuse_to_delay/overusetodelay/gateway/BytePieces$Mark", name := "offset", desc := "()I" } : Jvm.MethodName) prog_32_method_7_code (1 : Nat) (Option.some Jvm.ClassFile.FieldType.int), Jvm.Cond.code ({ cls := "com/example/overuse_to_delay/overusetodelay/gateway/BytePieces", name := "remaining", desc := "()I" } : Jvm.MethodName) prog_31_method_5_code (1 : Nat) (Option.some Jvm.ClassFile.FieldType.int), Jvm.Cond.code ({ cls := "com/example/overuse_to_delay/overusetodelay/gateway/BytePieces", name := "size", desc := "()I" } : Jvm.MethodName) prog_31_method_4_code (1 : Nat) (Option.some Jvm.ClassFile.FieldType.int)]
set_option maxRecDepth 65536 in
theorem codes_eq : words1.filter isCode = codes1 := rfl
theorem w_codes : ∀ c ∈ words1.filter isCode, c.before args0 about1 = true := by
  rw [codes_eq]
  intro c hc
  simp only [codes1, List.mem_cons, List.not_mem_nil, or_false] at hc
  rcases hc with rfl | rfl | rfl | rfl | rfl | rfl | rfl | rfl | rfl | rfl | rfl | rfl | rfl | rfl | rfl | rfl | rfl | rfl | rfl | rfl | rfl | rfl | rfl | rfl | rfl | rfl | rfl | rfl | rfl | rfl | rfl | rfl | rfl | rfl | rfl | rfl | rfl | rfl | rfl
  · exact w_c0
  · exact w_c1
  · exact w_c2
  · exact w_c3
  · exact w_c4
  · exact w_c5
  · exact w_c6
  · exact w_c7
  · exact w_c8
  · exact w_c9
  · exact w_c10
  · exact w_c11
  · exact w_c12
  · exact w_c13
  · exact w_c14
  · exact w_c15
  · exact w_c16
  · exact w_c17
  · exact w_c18
  · exact w_c19
  · exact w_c20
  · exact w_c21
  · exact w_c22
  · exact w_c23
  · exact w_c24
  · exact w_c25
  · exact w_c26
  · exact w_c27
  · exact w_c28
  · exact w_c29
  · exact w_c30
  · exact w_c31
  · exact w_c32
  · exact w_c33
  · exact w_c34
  · exact w_c35
  · exact w_c36
  · exact w_c37
  · exact w_c38
set_option maxRecDepth 65536 in
theorem w_t1 : (words1.take 24).all (fun c => isCode c || c.before args0 about1) = true := by decide +kernel
set_option maxRecDepth 65536 in
theorem w_t2 : ((words1.drop 24).take 24).all (fun c => isCode c || c.before args0 about1) = true := by decide +kernel
set_option maxRecDepth 65536 in
theorem w_t3 : (((words1.drop 24).drop 24).take 24).all (fun c => isCode c || c.before args0 about1) = true := by decide +kernel
set_option maxRecDepth 65536 in
theorem w_t4 : ((((words1.drop 24).drop 24).drop 24).take 24).all (fun c => isCode c || c.before args0 about1) = true := by decide +kernel
set_option maxRecDepth 65536 in
theorem w_t5 : (((((words1.drop 24).drop 24).drop 24).drop 24).take 24).all (fun c => isCode c || c.before args0 about1) = true := by decide +kernel
set_option maxRecDepth 65536 in
theorem w_t6 : ((((((words1.drop 24).drop 24).drop 24).drop 24).drop 24).take 24).all (fun c => isCode c || c.before args0 about1) = true := by decide +kernel
set_option maxRecDepth 65536 in
theorem w_t7 : (((((((words1.drop 24).drop 24).drop 24).drop 24).drop 24).drop 24).take 24).all (fun c => isCode c || c.before args0 about1) = true := by decide +kernel
set_option maxRecDepth 65536 in
theorem w_t8 : ((((((((words1.drop 24).drop 24).drop 24).drop 24).drop 24).drop 24).drop 24).take 24).all (fun c => isCode c || c.before args0 about1) = true := by decide +kernel
set_option maxRecDepth 65536 in
theorem w_t9 : (((((((((words1.drop 24).drop 24).drop 24).drop 24).drop 24).drop 24).drop 24).drop 24).take 24).all (fun c => isCode c || c.before args0 about1) = true := by decide +kernel
set_option maxRecDepth 65536 in
theorem w_t10 : ((((((((((words1.drop 24).drop 24).drop 24).drop 24).drop 24).drop 24).drop 24).drop 24).drop 24).take 24).all (fun c => isCode c || c.before args0 about1) = true := by decide +kernel
set_option maxRecDepth 65536 in
theorem w_t11 : ((((((((((words1.drop 24).drop 24).drop 24).drop 24).drop 24).drop 24).drop 24).drop 24).drop 24).drop 24).all (fun c => isCode c || c.before args0 about1) = true := by decide +kernel
theorem w_tables : (allAtoms (Jvm.Cond.code x code maxLocals ret :: tables_1)).before args0 about1 = true := by
  rw [allAtoms_all]
  show words1.all (fun c => c.before args0 about1) = true
  refine all_split ?_ w_codes
  rw [← List.take_append_drop 24 words1, List.all_append, w_t1, ← List.take_append_drop 24 (words1.drop 24), List.all_append, w_t2, ← List.take_append_drop 24 ((words1.drop 24).drop 24), List.all_append, w_t3, ← List.take_append_drop 24 (((words1.drop 24).drop 24).drop 24), List.all_append, w_t4, ← List.take_append_drop 24 ((((words1.drop 24).drop 24).drop 24).drop 24), List.all_append, w_t5, ← List.take_append_drop 24 (((((words1.drop 24).drop 24).drop 24).drop 24).drop 24), List.all_append, w_t6, ← List.take_append_drop 24 ((((((words1.drop 24).drop 24).drop 24).drop 24).drop 24).drop 24), List.all_append, w_t7, ← List.take_append_drop 24 (((((((words1.drop 24).drop 24).drop 24).drop 24).drop 24).drop 24).drop 24), List.all_append, w_t8, ← List.take_append_drop 24 ((((((((words1.drop 24).drop 24).drop 24).drop 24).drop 24).drop 24).drop 24).drop 24), List.all_append, w_t9, ← List.take_append_drop 24 (((((((((words1.drop 24).drop 24).drop 24).drop 24).drop 24).drop 24).drop 24).drop 24).drop 24), List.all_append, w_t10, w_t11]
  rfl
set_option maxRecDepth 65536 in
theorem w_rest : rest_1_c.before args0 about1 = true := by decide +kernel
set_option maxRecDepth 65536 in
theorem w_case : (Jvm.Cond.and given_1 narrow_1).before args0 about1 = true := by decide +kernel
theorem w_applies : (headSpec (Jvm.Cond.code x code maxLocals ret :: tables_1) room_1).applies x e0.platform about1 = true :=
  (Spec.applies_iff w_frames).mpr ⟨w_running, w_runnable, w_alone, w_named, w_hears, w_ripe, w_room, w_tables⟩
theorem atStart : AtStart classFile x code maxLocals ret World_1 tables_1 room_1 Calls_1 rest_1 Pre_1 launch0 p0 e0 about1 theMethod args0 below0 :=
  ⟨lists_1, trivial, launch0.admits_env _ _ _, launch0.least_env, fairChoices_fair.cas, fairChoices_fair.clock, w_frames, w_args, w_heap, w_applies, trivial, w_rest, w_case⟩
end start1
theorem witness_1 : WitnessClaimed_1 := ⟨start1.p0, start1.e0, start1.about1, start1.theMethod, start1.args0, start1.below0, start1.atStart⟩
end Jvm.Pilot.@@N@@
