import JvmDerived
import JvmDerived.Pilot.@@N@@Statement
import JvmDerived.Pilot.@@N@@Code
set_option linter.unusedVariables false
set_option linter.unusedSimpArgs false
namespace Jvm.RoadKit
open Sem ClassFile Op Lib Jvm.Stand Jvm.Free Jvm.LawKit
section New
variable {p : Program} {l : Launch} {e : Env} {R : Room} {s : State} {m : MethodId} {args : Array Value} {below : List Frame} {meth : Method} {c : Code} {T : State} {locs : List Loc} {cells slots : Nat}
theorem retI (X : Stand p l e R s m args below meth c T locs cells slots) (hx : p.tables.exec = Jvm.exec) {pc : Nat} {Ls : Array Slot} {z : Int32} {rest : List Value} (hret : meth.sig.returnType = some .int) (hd : decode c.code pc = .ok (.ireturn, 1)) {fs : List Frame}
    (hl : ∀ (f : JFrame) (acts : List Action), f.method = m → f.locked = none → f.entered = [] → (doReturn e (T.setTop f) acts (some (.int z))).1 = T.setFrames fs) : Steps p.tables e below (T.setTop (mkF m pc Ls (.int z :: rest))) (T.setFrames fs) := by
  have hm' : T.vm.method? m = some meth := X.method'
  have hn : narrow .int (.int z) = .int z := rfl
  show Steps p.tables e below (T.setTop { method := m, pc := pc, locals := Ls, stack := _ :: rest, locked := none }) _
  jvm_step X.here [X.here.top, hx, hd, hm', hret, hn]
  first | (intro acts; rw [hl _ acts rfl rfl rfl]) | rw [hl _ _ rfl rfl rfl]
  exact Steps.refl _
end New
end Jvm.RoadKit
namespace Jvm.OwnKit
open Jvm Jvm.ClassFile Sem Op Lib Jvm.Free Jvm.Stand Jvm.LawKit Jvm.RoadKit
/-- the walk comes to an end as Q says -/
def Go (p : Program) (e : Env) (below : List Frame) (F : Option Value → State → Prop) (S0 : State) : Prop :=
  ∃ (t : State) (o : Outcome), Steps p.tables e below S0 t ∧ t.status = .running ∧ Ended t below o ∧ ∃ v, o = .returned v ∧ F v t
/-- the end as a contract says it -/
def NF (s : State) (cs ss : Nat) (Q : Option Value → Heap → List Loc → Prop) : Option Value → State → Prop := fun v t => ∃ L, Q v t.heap L ∧ FrameEnd s (.returned v) t L cs ss
/-- where the walk stands: what is fixed for the whole body, the Stand, the heap -/
def Pos (p : Program) (l : Launch) (e : Env) (R : Room) (s : State) (m : MethodId) (args : Array Value) (below : List Frame) (meth : Method) (c : Code) (Z : State) (own : String) (bytes : ByteArray) (ml : Nat) (ret : Option FieldType) (nm : String) (T : State) (h : Heap) (locs : List Loc) (cells slots : Nat) : Prop :=
  (p.tables.exec = Jvm.exec ∧ Z.Warmed39 s.vm ∧ s.vm.findClass own = some m.cls ∧ c.code = bytes ∧ c.maxLocals = ml ∧ meth.sig.returnType = ret ∧ meth.locks = false ∧ meth.name = nm) ∧ Stand p l e R s m args below meth c T locs cells slots ∧ T.heap = h
def ushr (x y : Int32) : Int32 := (x.toUInt32 >>> (y &&& 31).toUInt32).toInt32
def ushrJ (x : Int64) (y : Int32) : Int64 := (x.toUInt64 >>> (y &&& 0x3f).toInt64.toUInt64).toInt64
def lcmpO (x y : Int64) : Int32 := if x > y then 1 else if x = y then 0 else -1
/-- a callee's contract, at one heap, for one list of arguments -/
abbrev OMeets (l : Launch) (Z : State) (y : MethodName) (bytes : ByteArray) (ml : Nat) (ret : Option FieldType) (rm : Room) (as' : Array Value) (h0 : Heap) (Q : Option Value → Heap → List Loc → Prop) : Prop :=
  MetFree l y (head1 [Jvm.Cond.code y bytes ml ret] rm) (fun a U => a = as' ∧ Z.Warmed39 U.vm ∧ U.heap = h0) (fun _ _ _ _ _ => True) (fun _ U o U' => ∃ v L, o = .returned v ∧ Q v U'.heap L ∧ FrameEnd U o U' L rm.cells rm.slots)
/-- it returns v and has moved nothing -/
def OPure (v0 : Option Value) (h0 : Heap) (v : Option Value) (h : Heap) (L : List Loc) : Prop := v = v0 ∧ h = h0 ∧ L = []
theorem wk {ws : List Jvm.Cond} {a0 : Array Value} {Z : State} (hw : ∀ d ∈ ws, d.before a0 Z = true) (i : Nat) {d : Jvm.Cond} (h : ws[i]? = some d) : d.before a0 Z = true := hw _ (List.mem_of_getElem? h)
section Own
variable {p : Program} {l : Launch} {e : Env} {R : Room} {s : State} {m : MethodId} {args : Array Value} {below : List Frame} {meth : Method} {c : Code} {Z : State} {own : String} {bytes : ByteArray} {ml : Nat} {ret : Option FieldType} {nm : String} {T : State} {h : Heap} {locs : List Loc} {cells slots : Nat} {cs ss : Nat} {Q : Option Value → Heap → List Loc → Prop} {FF : Option Value → State → Prop} {a0 : Array Value} {pc pc' : Nat} {Ls : Array Slot} {St : List Value}
theorem Pos.x (P : Pos p l e R s m args below meth c Z own bytes ml ret nm T h locs cells slots) : p.tables.exec = Jvm.exec := P.1.1
theorem Pos.z (P : Pos p l e R s m args below meth c Z own bytes ml ret nm T h locs cells slots) : Z.Warmed39 s.vm := P.1.2.1
theorem Pos.ow (P : Pos p l e R s m args below meth c Z own bytes ml ret nm T h locs cells slots) : s.vm.findClass own = some m.cls := P.1.2.2.1
theorem Pos.bt (P : Pos p l e R s m args below meth c Z own bytes ml ret nm T h locs cells slots) : c.code = bytes := P.1.2.2.2.1
theorem Pos.mx (P : Pos p l e R s m args below meth c Z own bytes ml ret nm T h locs cells slots) : c.maxLocals = ml := P.1.2.2.2.2.1
theorem Pos.rt (P : Pos p l e R s m args below meth c Z own bytes ml ret nm T h locs cells slots) : meth.sig.returnType = ret := P.1.2.2.2.2.2.1
theorem Pos.lk (P : Pos p l e R s m args below meth c Z own bytes ml ret nm T h locs cells slots) : meth.locks = false := P.1.2.2.2.2.2.2.1
theorem Pos.mn (P : Pos p l e R s m args below meth c Z own bytes ml ret nm T h locs cells slots) : meth.name = nm := P.1.2.2.2.2.2.2.2
theorem Pos.st (P : Pos p l e R s m args below meth c Z own bytes ml ret nm T h locs cells slots) : Stand p l e R s m args below meth c T locs cells slots := P.2.1
theorem Pos.eh (P : Pos p l e R s m args below meth c Z own bytes ml ret nm T h locs cells slots) : T.heap = h := P.2.2
theorem Pos.here (P : Pos p l e R s m args below meth c Z own bytes ml ret nm T h locs cells slots) : At T m c below := P.2.1.here
theorem Go.via {S0 S1 : State} (st : ∀ target, Steps p.tables e below S1 target → Steps p.tables e below S0 target) (k : Go p e below FF S1) : Go p e below FF S0 := by
  obtain ⟨t, o, h1, r⟩ := k
  exact ⟨t, o, st t h1, r⟩
theorem Go.come {S0 S1 : State} (st : Steps p.tables e below S0 S1) (k : Go p e below FF S1) : Go p e below FF S0 := by
  obtain ⟨t, o, h1, r⟩ := k
  exact ⟨t, o, st.trans h1, r⟩
theorem Go.dia {S0 S1 : State} (hh : Go p e below FF S1 → Go p e below FF S0) (kk : Go p e below FF S1) : Go p e below FF S0 := hh kk
theorem Go.all {ι : Type} {S0 : State} {A : ι → Prop} {S1 : ι → State} (hh : (∀ i, A i → Go p e below FF (S1 i)) → Go p e below FF S0) (kk : ∀ i, A i → Go p e below FF (S1 i)) : Go p e below FF S0 := hh kk
theorem sI {a b : Int32} (q : a = b) : some (Value.int a) = some (Value.int b) := by rw [q]
theorem sJ {a b : Int64} (q : a = b) : some (Value.long a) = some (Value.long b) := by rw [q]
theorem sR {a b : Addr} (q : a = b) : some (Value.ref a) = some (Value.ref b) := by rw [q]
theorem met {l : Launch} {Z : State} {y : MethodName} {bytes : ByteArray} {ml : Nat} {ret : Option FieldType} {ws : List Jvm.Cond} {rm : Room} {as' : Array Value} {h0 : Heap} {Ls : Array Slot} {Q : Option Value → Heap → List Loc → Prop} (hn : plainFor y = true) (hf : ∀ m, entryFrame m as' ml = mkF m 0 Ls [])
    (body : ∀ p e s m below meth c T, Pos p l e rm s m as' below meth c Z y.cls bytes ml ret y.name T h0 [] 0 0 → Go p e below (NF s rm.cells rm.slots Q) (T.setTop (mkF m 0 Ls []))) :
    MetFree l y (head1 (Jvm.Cond.code y bytes ml ret :: ws) rm) (fun a U => a = as' ∧ Z.Warmed39 U.vm ∧ U.heap = h0) (fun _ _ _ _ _ => True) (fun _ U o U' => ∃ v L, o = .returned v ∧ Q v U'.heap L ∧ FrameEnd U o U' L rm.cells rm.slots) := by
  refine MetFree.of_bodySF hn hisR ?_
  intro p e s m args below meth c s₁ Bd hml0 hP hK
  obtain ⟨rfl, hZ, hh⟩ := hP
  have X0 : Stand p l e rm s m args below meth c s₁ [] 0 0 := Stand.of_body Bd
  have e0 : s₁.heap = h0 := by rw [← hh, Bd.state]; rfl
  have hlk : meth.locks = false := by first | exact BodyLoose.notSynchronized Bd | exact Bd.locks
  have P : Pos p l e rm s m args below meth c Z y.cls bytes ml ret y.name s₁ h0 [] 0 0 := ⟨⟨Bd.exec, hZ, findClass_of_methodNamed Bd.named, Bd.bytes, hml0, Bd.returns, hlk, (name_of_methodNamed Bd.named Bd.method).1⟩, X0, e0⟩
  obtain ⟨t, o, h1, h2, h3, v, rfl, L, hQ, hF⟩ := body p e s m below meth c s₁ P
  exact ⟨t, _, castTop (hf m) h1, h2, h3, v, L, rfl, hQ, hF⟩
/-! ### plain steps -/
theorem G.aloadN (P : Pos p l e R s m args below meth c Z own bytes ml ret nm T h locs cells slots) {k : Fin 4} {v : Value} (hd : decode bytes pc = .ok (.aload_n k, 1)) (hl : Ls[k.val]? = some (.val v)) (hv : v.isRef = true) (hp : pc + 1 = pc') (kk : Go p e below FF (T.setTop (mkF m pc' Ls (v :: St)))) : Go p e below FF (T.setTop (mkF m pc Ls St)) := by
  subst hp; exact Go.via (fun _ => XS.aloadN P.here P.x rfl (hb P.bt hd) hl hv) kk
theorem G.iloadN (P : Pos p l e R s m args below meth c Z own bytes ml ret nm T h locs cells slots) {k : Fin 4} {v : Int32} (hd : decode bytes pc = .ok (.iload_n k, 1)) (hl : Ls[k.val]? = some (.val (.int v))) (hp : pc + 1 = pc') (kk : Go p e below FF (T.setTop (mkF m pc' Ls (.int v :: St)))) : Go p e below FF (T.setTop (mkF m pc Ls St)) := by
  subst hp; exact Go.via (fun _ => XS.iloadN P.here P.x rfl (hb P.bt hd) hl) kk
theorem G.lloadN (P : Pos p l e R s m args below meth c Z own bytes ml ret nm T h locs cells slots) {k : Fin 4} {v : Int64} (hd : decode bytes pc = .ok (.lload_n k, 1)) (hl : Ls[k.val]? = some (.val (.long v))) (hp : pc + 1 = pc') (kk : Go p e below FF (T.setTop (mkF m pc' Ls (.long v :: St)))) : Go p e below FF (T.setTop (mkF m pc Ls St)) := by
  subst hp; exact Go.via (fun _ => XS.lloadN P.here P.x rfl (hb P.bt hd) hl) kk
theorem G.istoreN (P : Pos p l e R s m args below meth c Z own bytes ml ret nm T h locs cells slots) {k : Fin 4} {x : Int32} {l' : Array Slot} (hd : decode bytes pc = .ok (.istore_n k, 1)) (hl : storeLocals Ls k.val (.int x) = some l') (hp : pc + 1 = pc') (kk : Go p e below FF (T.setTop (mkF m pc' l' St))) : Go p e below FF (T.setTop (mkF m pc Ls (.int x :: St))) := by
  subst hp; exact Go.via (fun _ => XS.istoreN P.here P.x rfl (hb P.bt hd) rfl hl) kk
theorem G.lstoreN (P : Pos p l e R s m args below meth c Z own bytes ml ret nm T h locs cells slots) {k : Fin 4} {x : Int64} {l' : Array Slot} (hd : decode bytes pc = .ok (.lstore_n k, 1)) (hl : storeLocals Ls k.val (.long x) = some l') (hp : pc + 1 = pc') (kk : Go p e below FF (T.setTop (mkF m pc' l' St))) : Go p e below FF (T.setTop (mkF m pc Ls (.long x :: St))) := by
  subst hp; exact Go.via (fun _ => XS.lstoreN P.here P.x rfl (hb P.bt hd) rfl hl) kk
theorem G.astoreN (P : Pos p l e R s m args below meth c Z own bytes ml ret nm T h locs cells slots) {k : Fin 4} {x : Value} {l' : Array Slot} (hd : decode bytes pc = .ok (.astore_n k, 1)) (hv : x.isRef = true) (hl : storeLocals Ls k.val x = some l') (hp : pc + 1 = pc') (kk : Go p e below FF (T.setTop (mkF m pc' l' St))) : Go p e below FF (T.setTop (mkF m pc Ls (x :: St))) := by
  subst hp; exact Go.via (fun _ => XS.astoreN P.here P.x rfl (hb P.bt hd) rfl hv hl) kk
theorem G.aload (P : Pos p l e R s m args below meth c Z own bytes ml ret nm T h locs cells slots) {k : Nat} {v : Value} (hd : decode bytes pc = .ok (.aload k, 2)) (hl : Ls[k]? = some (.val v)) (hv : v.isRef = true) (hp : pc + 2 = pc') (kk : Go p e below FF (T.setTop (mkF m pc' Ls (v :: St)))) : Go p e below FF (T.setTop (mkF m pc Ls St)) := by
  subst hp; exact Go.via (fun _ => XS.aload P.here P.x rfl (hb P.bt hd) hl hv) kk
theorem G.iload (P : Pos p l e R s m args below meth c Z own bytes ml ret nm T h locs cells slots) {k : Nat} {v : Int32} (hd : decode bytes pc = .ok (.iload k, 2)) (hl : Ls[k]? = some (.val (.int v))) (hp : pc + 2 = pc') (kk : Go p e below FF (T.setTop (mkF m pc' Ls (.int v :: St)))) : Go p e below FF (T.setTop (mkF m pc Ls St)) := by
  subst hp; exact Go.via (fun _ => XS.iload P.here P.x rfl (hb P.bt hd) hl) kk
theorem G.lload (P : Pos p l e R s m args below meth c Z own bytes ml ret nm T h locs cells slots) {k : Nat} {v : Int64} (hd : decode bytes pc = .ok (.lload k, 2)) (hl : Ls[k]? = some (.val (.long v))) (hp : pc + 2 = pc') (kk : Go p e below FF (T.setTop (mkF m pc' Ls (.long v :: St)))) : Go p e below FF (T.setTop (mkF m pc Ls St)) := by
  subst hp; exact Go.via (fun _ => XS.lload P.here P.x rfl (hb P.bt hd) hl) kk
theorem G.istore (P : Pos p l e R s m args below meth c Z own bytes ml ret nm T h locs cells slots) {k : Nat} {x : Int32} {l' : Array Slot} (hd : decode bytes pc = .ok (.istore k, 2)) (hl : storeLocals Ls k (.int x) = some l') (hp : pc + 2 = pc') (kk : Go p e below FF (T.setTop (mkF m pc' l' St))) : Go p e below FF (T.setTop (mkF m pc Ls (.int x :: St))) := by
  subst hp; exact Go.via (fun _ => XS.istore P.here P.x rfl (hb P.bt hd) rfl hl) kk
theorem G.lstore (P : Pos p l e R s m args below meth c Z own bytes ml ret nm T h locs cells slots) {k : Nat} {x : Int64} {l' : Array Slot} (hd : decode bytes pc = .ok (.lstore k, 2)) (hl : storeLocals Ls k (.long x) = some l') (hp : pc + 2 = pc') (kk : Go p e below FF (T.setTop (mkF m pc' l' St))) : Go p e below FF (T.setTop (mkF m pc Ls (.long x :: St))) := by
  subst hp; exact Go.via (fun _ => XS.lstore P.here P.x rfl (hb P.bt hd) rfl hl) kk
theorem G.astore (P : Pos p l e R s m args below meth c Z own bytes ml ret nm T h locs cells slots) {k : Nat} {x : Value} {l' : Array Slot} (hd : decode bytes pc = .ok (.astore k, 2)) (hv : x.isRef = true) (hl : storeLocals Ls k x = some l') (hp : pc + 2 = pc') (kk : Go p e below FF (T.setTop (mkF m pc' l' St))) : Go p e below FF (T.setTop (mkF m pc Ls (x :: St))) := by
  subst hp; exact Go.via (fun _ => XS.astore P.here P.x rfl (hb P.bt hd) rfl hv hl) kk
theorem G.iconst (P : Pos p l e R s m args below meth c Z own bytes ml ret nm T h locs cells slots) {i : Int} {z : Int32} (hd : decode bytes pc = .ok (.iconst i, 1)) (hz : Int32.ofInt i = z) (hp : pc + 1 = pc') (kk : Go p e below FF (T.setTop (mkF m pc' Ls (.int z :: St)))) : Go p e below FF (T.setTop (mkF m pc Ls St)) := by
  subst hp hz; exact Go.via (fun _ => XS.iconst P.here P.x rfl (hb P.bt hd) ) kk
theorem G.bipush (P : Pos p l e R s m args below meth c Z own bytes ml ret nm T h locs cells slots) {i : Int} {z : Int32} (hd : decode bytes pc = .ok (.bipush i, 2)) (hz : (Int8.ofInt i).toInt32 = z) (hp : pc + 2 = pc') (kk : Go p e below FF (T.setTop (mkF m pc' Ls (.int z :: St)))) : Go p e below FF (T.setTop (mkF m pc Ls St)) := by
  subst hp hz; exact Go.via (fun _ => XS.bipush P.here P.x rfl (hb P.bt hd) ) kk
theorem G.sipush (P : Pos p l e R s m args below meth c Z own bytes ml ret nm T h locs cells slots) {i : Int} {z : Int32} (hd : decode bytes pc = .ok (.sipush i, 3)) (hz : (Int16.ofInt i).toInt32 = z) (hp : pc + 3 = pc') (kk : Go p e below FF (T.setTop (mkF m pc' Ls (.int z :: St)))) : Go p e below FF (T.setTop (mkF m pc Ls St)) := by
  subst hp hz; exact Go.via (fun _ => XS.sipush P.here P.x rfl (hb P.bt hd) ) kk
theorem G.lconst (P : Pos p l e R s m args below meth c Z own bytes ml ret nm T h locs cells slots) {k : Fin 2} {z : Int64} (hd : decode bytes pc = .ok (.lconst k, 1)) (hz : Int64.ofNat k = z) (hp : pc + 1 = pc') (kk : Go p e below FF (T.setTop (mkF m pc' Ls (.long z :: St)))) : Go p e below FF (T.setTop (mkF m pc Ls St)) := by
  subst hp hz; exact Go.via (fun _ => XS.lconst P.here P.x rfl (hb P.bt hd) ) kk
theorem G.aconstNull (P : Pos p l e R s m args below meth c Z own bytes ml ret nm T h locs cells slots)  (hd : decode bytes pc = .ok (.aconst_null, 1))  (hp : pc + 1 = pc') (kk : Go p e below FF (T.setTop (mkF m pc' Ls (.null :: St)))) : Go p e below FF (T.setTop (mkF m pc Ls St)) := by
  subst hp; exact Go.via (fun _ => XS.aconstNull P.here P.x rfl (hb P.bt hd) ) kk
theorem G.iadd (P : Pos p l e R s m args below meth c Z own bytes ml ret nm T h locs cells slots) {x y z : Int32} (hd : decode bytes pc = .ok (.iadd, 1)) (hz : x + y = z) (hp : pc + 1 = pc') (kk : Go p e below FF (T.setTop (mkF m pc' Ls (.int z :: St)))) : Go p e below FF (T.setTop (mkF m pc Ls (.int y :: .int x :: St))) := by
  subst hp hz; exact Go.via (fun _ => XS.iadd P.here P.x rfl (hb P.bt hd) rfl) kk
theorem G.isub (P : Pos p l e R s m args below meth c Z own bytes ml ret nm T h locs cells slots) {x y z : Int32} (hd : decode bytes pc = .ok (.isub, 1)) (hz : x - y = z) (hp : pc + 1 = pc') (kk : Go p e below FF (T.setTop (mkF m pc' Ls (.int z :: St)))) : Go p e below FF (T.setTop (mkF m pc Ls (.int y :: .int x :: St))) := by
  subst hp hz; exact Go.via (fun _ => XS.isub P.here P.x rfl (hb P.bt hd) rfl) kk
theorem G.imul (P : Pos p l e R s m args below meth c Z own bytes ml ret nm T h locs cells slots) {x y z : Int32} (hd : decode bytes pc = .ok (.imul, 1)) (hz : x * y = z) (hp : pc + 1 = pc') (kk : Go p e below FF (T.setTop (mkF m pc' Ls (.int z :: St)))) : Go p e below FF (T.setTop (mkF m pc Ls (.int y :: .int x :: St))) := by
  subst hp hz; exact Go.via (fun _ => XS.imul P.here P.x rfl (hb P.bt hd) rfl) kk
theorem G.iand (P : Pos p l e R s m args below meth c Z own bytes ml ret nm T h locs cells slots) {x y z : Int32} (hd : decode bytes pc = .ok (.iand, 1)) (hz : x &&& y = z) (hp : pc + 1 = pc') (kk : Go p e below FF (T.setTop (mkF m pc' Ls (.int z :: St)))) : Go p e below FF (T.setTop (mkF m pc Ls (.int y :: .int x :: St))) := by
  subst hp hz; exact Go.via (fun _ => XS.iand P.here P.x rfl (hb P.bt hd) rfl) kk
theorem G.ior (P : Pos p l e R s m args below meth c Z own bytes ml ret nm T h locs cells slots) {x y z : Int32} (hd : decode bytes pc = .ok (.ior, 1)) (hz : x ||| y = z) (hp : pc + 1 = pc') (kk : Go p e below FF (T.setTop (mkF m pc' Ls (.int z :: St)))) : Go p e below FF (T.setTop (mkF m pc Ls (.int y :: .int x :: St))) := by
  subst hp hz; exact Go.via (fun _ => XS.ior P.here P.x rfl (hb P.bt hd) rfl) kk
theorem G.ixor (P : Pos p l e R s m args below meth c Z own bytes ml ret nm T h locs cells slots) {x y z : Int32} (hd : decode bytes pc = .ok (.ixor, 1)) (hz : x ^^^ y = z) (hp : pc + 1 = pc') (kk : Go p e below FF (T.setTop (mkF m pc' Ls (.int z :: St)))) : Go p e below FF (T.setTop (mkF m pc Ls (.int y :: .int x :: St))) := by
  subst hp hz; exact Go.via (fun _ => XS.ixor P.here P.x rfl (hb P.bt hd) rfl) kk
theorem G.ishl (P : Pos p l e R s m args below meth c Z own bytes ml ret nm T h locs cells slots) {x y z : Int32} (hd : decode bytes pc = .ok (.ishl, 1)) (hz : x <<< (y &&& 31) = z) (hp : pc + 1 = pc') (kk : Go p e below FF (T.setTop (mkF m pc' Ls (.int z :: St)))) : Go p e below FF (T.setTop (mkF m pc Ls (.int y :: .int x :: St))) := by
  subst hp hz; exact Go.via (fun _ => XS.ishl P.here P.x rfl (hb P.bt hd) rfl) kk
theorem G.ishr (P : Pos p l e R s m args below meth c Z own bytes ml ret nm T h locs cells slots) {x y z : Int32} (hd : decode bytes pc = .ok (.ishr, 1)) (hz : x >>> (y &&& 31) = z) (hp : pc + 1 = pc') (kk : Go p e below FF (T.setTop (mkF m pc' Ls (.int z :: St)))) : Go p e below FF (T.setTop (mkF m pc Ls (.int y :: .int x :: St))) := by
  subst hp hz; exact Go.via (fun _ => XS.ishr P.here P.x rfl (hb P.bt hd) rfl) kk
theorem G.iushr (P : Pos p l e R s m args below meth c Z own bytes ml ret nm T h locs cells slots) {x y z : Int32} (hd : decode bytes pc = .ok (.iushr, 1)) (hz : ushr x y = z) (hp : pc + 1 = pc') (kk : Go p e below FF (T.setTop (mkF m pc' Ls (.int z :: St)))) : Go p e below FF (T.setTop (mkF m pc Ls (.int y :: .int x :: St))) := by
  subst hp hz; exact Go.via (fun _ => XS.iushr P.here P.x rfl (hb P.bt hd) rfl) kk
theorem G.idiv (P : Pos p l e R s m args below meth c Z own bytes ml ret nm T h locs cells slots) {x y z : Int32} (hd : decode bytes pc = .ok (.idiv, 1)) (hy : y ≠ 0) (hz : x / y = z) (hp : pc + 1 = pc') (kk : Go p e below FF (T.setTop (mkF m pc' Ls (.int z :: St)))) : Go p e below FF (T.setTop (mkF m pc Ls (.int y :: .int x :: St))) := by
  subst hp hz; exact Go.via (fun _ => XS.idiv P.here P.x rfl (hb P.bt hd) rfl hy) kk
theorem G.ladd (P : Pos p l e R s m args below meth c Z own bytes ml ret nm T h locs cells slots) {x y z : Int64} (hd : decode bytes pc = .ok (.ladd, 1)) (hz : x + y = z) (hp : pc + 1 = pc') (kk : Go p e below FF (T.setTop (mkF m pc' Ls (.long z :: St)))) : Go p e below FF (T.setTop (mkF m pc Ls (.long y :: .long x :: St))) := by
  subst hp hz; exact Go.via (fun _ => XS.ladd P.here P.x rfl (hb P.bt hd) rfl) kk
theorem G.lsub (P : Pos p l e R s m args below meth c Z own bytes ml ret nm T h locs cells slots) {x y z : Int64} (hd : decode bytes pc = .ok (.lsub, 1)) (hz : x - y = z) (hp : pc + 1 = pc') (kk : Go p e below FF (T.setTop (mkF m pc' Ls (.long z :: St)))) : Go p e below FF (T.setTop (mkF m pc Ls (.long y :: .long x :: St))) := by
  subst hp hz; exact Go.via (fun _ => XS.lsub P.here P.x rfl (hb P.bt hd) rfl) kk
theorem G.lmul (P : Pos p l e R s m args below meth c Z own bytes ml ret nm T h locs cells slots) {x y z : Int64} (hd : decode bytes pc = .ok (.lmul, 1)) (hz : x * y = z) (hp : pc + 1 = pc') (kk : Go p e below FF (T.setTop (mkF m pc' Ls (.long z :: St)))) : Go p e below FF (T.setTop (mkF m pc Ls (.long y :: .long x :: St))) := by
  subst hp hz; exact Go.via (fun _ => XS.lmul P.here P.x rfl (hb P.bt hd) rfl) kk
theorem G.land (P : Pos p l e R s m args below meth c Z own bytes ml ret nm T h locs cells slots) {x y z : Int64} (hd : decode bytes pc = .ok (.land, 1)) (hz : x &&& y = z) (hp : pc + 1 = pc') (kk : Go p e below FF (T.setTop (mkF m pc' Ls (.long z :: St)))) : Go p e below FF (T.setTop (mkF m pc Ls (.long y :: .long x :: St))) := by
  subst hp hz; exact Go.via (fun _ => XS.land P.here P.x rfl (hb P.bt hd) rfl) kk
theorem G.lor (P : Pos p l e R s m args below meth c Z own bytes ml ret nm T h locs cells slots) {x y z : Int64} (hd : decode bytes pc = .ok (.lor, 1)) (hz : x ||| y = z) (hp : pc + 1 = pc') (kk : Go p e below FF (T.setTop (mkF m pc' Ls (.long z :: St)))) : Go p e below FF (T.setTop (mkF m pc Ls (.long y :: .long x :: St))) := by
  subst hp hz; exact Go.via (fun _ => XS.lor P.here P.x rfl (hb P.bt hd) rfl) kk
theorem G.lxor (P : Pos p l e R s m args below meth c Z own bytes ml ret nm T h locs cells slots) {x y z : Int64} (hd : decode bytes pc = .ok (.lxor, 1)) (hz : x ^^^ y = z) (hp : pc + 1 = pc') (kk : Go p e below FF (T.setTop (mkF m pc' Ls (.long z :: St)))) : Go p e below FF (T.setTop (mkF m pc Ls (.long y :: .long x :: St))) := by
  subst hp hz; exact Go.via (fun _ => XS.lxor P.here P.x rfl (hb P.bt hd) rfl) kk
theorem G.ldiv (P : Pos p l e R s m args below meth c Z own bytes ml ret nm T h locs cells slots) {x y z : Int64} (hd : decode bytes pc = .ok (.ldiv, 1)) (hy : y ≠ 0) (hz : x / y = z) (hp : pc + 1 = pc') (kk : Go p e below FF (T.setTop (mkF m pc' Ls (.long z :: St)))) : Go p e below FF (T.setTop (mkF m pc Ls (.long y :: .long x :: St))) := by
  subst hp hz; exact Go.via (fun _ => XS.ldiv P.here P.x rfl (hb P.bt hd) rfl hy) kk
theorem G.lushr (P : Pos p l e R s m args below meth c Z own bytes ml ret nm T h locs cells slots) {x z : Int64} {y : Int32} (hd : decode bytes pc = .ok (.lushr, 1)) (hz : ushrJ x y = z) (hp : pc + 1 = pc') (kk : Go p e below FF (T.setTop (mkF m pc' Ls (.long z :: St)))) : Go p e below FF (T.setTop (mkF m pc Ls (.int y :: .long x :: St))) := by
  subst hp hz; exact Go.via (fun _ => XS.lushr P.here P.x rfl (hb P.bt hd) rfl) kk
theorem G.lcmp (P : Pos p l e R s m args below meth c Z own bytes ml ret nm T h locs cells slots) {x y : Int64} {z : Int32} (hd : decode bytes pc = .ok (.lcmp, 1)) (hz : lcmpO x y = z) (hp : pc + 1 = pc') (kk : Go p e below FF (T.setTop (mkF m pc' Ls (.int z :: St)))) : Go p e below FF (T.setTop (mkF m pc Ls (.long y :: .long x :: St))) := by
  subst hp hz; exact Go.via (fun _ => XS.lcmp P.here P.x rfl (hb P.bt hd) rfl) kk
theorem G.ineg (P : Pos p l e R s m args below meth c Z own bytes ml ret nm T h locs cells slots) {x : Int32} {z : Int32} (hd : decode bytes pc = .ok (.ineg, 1)) (hz : -x = z) (hp : pc + 1 = pc') (kk : Go p e below FF (T.setTop (mkF m pc' Ls (.int z :: St)))) : Go p e below FF (T.setTop (mkF m pc Ls (.int x :: St))) := by
  subst hp hz; exact Go.via (fun _ => XS.ineg P.here P.x rfl (hb P.bt hd) rfl) kk
theorem G.i2b (P : Pos p l e R s m args below meth c Z own bytes ml ret nm T h locs cells slots) {x : Int32} {z : Int32} (hd : decode bytes pc = .ok (.i2b, 1)) (hz : x.toInt8.toInt32 = z) (hp : pc + 1 = pc') (kk : Go p e below FF (T.setTop (mkF m pc' Ls (.int z :: St)))) : Go p e below FF (T.setTop (mkF m pc Ls (.int x :: St))) := by
  subst hp hz; exact Go.via (fun _ => XS.i2b P.here P.x rfl (hb P.bt hd) rfl) kk
theorem G.i2c (P : Pos p l e R s m args below meth c Z own bytes ml ret nm T h locs cells slots) {x : Int32} {z : Int32} (hd : decode bytes pc = .ok (.i2c, 1)) (hz : x.toUInt32.toUInt16.toUInt32.toInt32 = z) (hp : pc + 1 = pc') (kk : Go p e below FF (T.setTop (mkF m pc' Ls (.int z :: St)))) : Go p e below FF (T.setTop (mkF m pc Ls (.int x :: St))) := by
  subst hp hz; exact Go.via (fun _ => XS.i2c P.here P.x rfl (hb P.bt hd) rfl) kk
theorem G.i2s (P : Pos p l e R s m args below meth c Z own bytes ml ret nm T h locs cells slots) {x : Int32} {z : Int32} (hd : decode bytes pc = .ok (.i2s, 1)) (hz : x.toInt16.toInt32 = z) (hp : pc + 1 = pc') (kk : Go p e below FF (T.setTop (mkF m pc' Ls (.int z :: St)))) : Go p e below FF (T.setTop (mkF m pc Ls (.int x :: St))) := by
  subst hp hz; exact Go.via (fun _ => XS.i2s P.here P.x rfl (hb P.bt hd) rfl) kk
theorem G.i2l (P : Pos p l e R s m args below meth c Z own bytes ml ret nm T h locs cells slots) {x : Int32} {z : Int64} (hd : decode bytes pc = .ok (.i2l, 1)) (hz : x.toInt64 = z) (hp : pc + 1 = pc') (kk : Go p e below FF (T.setTop (mkF m pc' Ls (.long z :: St)))) : Go p e below FF (T.setTop (mkF m pc Ls (.int x :: St))) := by
  subst hp hz; exact Go.via (fun _ => XS.i2l P.here P.x rfl (hb P.bt hd) rfl) kk
theorem G.l2i (P : Pos p l e R s m args below meth c Z own bytes ml ret nm T h locs cells slots) {x : Int64} {z : Int32} (hd : decode bytes pc = .ok (.l2i, 1)) (hz : x.toInt32 = z) (hp : pc + 1 = pc') (kk : Go p e below FF (T.setTop (mkF m pc' Ls (.int z :: St)))) : Go p e below FF (T.setTop (mkF m pc Ls (.long x :: St))) := by
  subst hp hz; exact Go.via (fun _ => XS.l2i P.here P.x rfl (hb P.bt hd) rfl) kk
theorem G.lneg (P : Pos p l e R s m args below meth c Z own bytes ml ret nm T h locs cells slots) {x : Int64} {z : Int64} (hd : decode bytes pc = .ok (.lneg, 1)) (hz : -x = z) (hp : pc + 1 = pc') (kk : Go p e below FF (T.setTop (mkF m pc' Ls (.long z :: St)))) : Go p e below FF (T.setTop (mkF m pc Ls (.long x :: St))) := by
  subst hp hz; exact Go.via (fun _ => XS.lneg P.here P.x rfl (hb P.bt hd) rfl) kk
theorem G.pop (P : Pos p l e R s m args below meth c Z own bytes ml ret nm T h locs cells slots) {x : Value} (hd : decode bytes pc = .ok (.pop, 1)) (hc : x.category = 1) (hp : pc + 1 = pc') (kk : Go p e below FF (T.setTop (mkF m pc' Ls St))) : Go p e below FF (T.setTop (mkF m pc Ls (x :: St))) := by
  subst hp; exact Go.via (fun _ => XS.pop P.here P.x rfl (hb P.bt hd) rfl hc) kk
theorem G.dup (P : Pos p l e R s m args below meth c Z own bytes ml ret nm T h locs cells slots) {x : Value} (hd : decode bytes pc = .ok (.dup, 1)) (hc : x.category = 1) (hp : pc + 1 = pc') (kk : Go p e below FF (T.setTop (mkF m pc' Ls (x :: x :: St)))) : Go p e below FF (T.setTop (mkF m pc Ls (x :: St))) := by
  subst hp; exact Go.via (fun _ => XS.dup P.here P.x rfl (hb P.bt hd) rfl hc) kk
theorem G.dupX1 (P : Pos p l e R s m args below meth c Z own bytes ml ret nm T h locs cells slots) {x y : Value} (hd : decode bytes pc = .ok (.dup_x1, 1)) (hc : x.category = 1) (hc2 : y.category = 1) (hp : pc + 1 = pc') (kk : Go p e below FF (T.setTop (mkF m pc' Ls (x :: y :: x :: St)))) : Go p e below FF (T.setTop (mkF m pc Ls (x :: y :: St))) := by
  subst hp; exact Go.via (fun _ => XS.dupX1 P.here P.x rfl (hb P.bt hd) rfl hc hc2) kk
theorem G.iinc (P : Pos p l e R s m args below meth c Z own bytes ml ret nm T h locs cells slots) {k : Nat} {cst : Int} {x z : Int32} {l' : Array Slot} (hd : decode bytes pc = .ok (.iinc k cst, 3)) (hl : Ls[k]? = some (.val (.int x))) (hz : x + Int32.ofInt cst = z) (hl' : storeLocals Ls k (.int z) = some l') (hp : pc + 3 = pc') (kk : Go p e below FF (T.setTop (mkF m pc' l' St))) : Go p e below FF (T.setTop (mkF m pc Ls St)) := by
  subst hp hz; exact Go.via (fun _ => XS.iinc P.here P.x rfl (hb P.bt hd) hl hl') kk
theorem G.dup2 (P : Pos p l e R s m args below meth c Z own bytes ml ret nm T h locs cells slots) {x y : Value} (hd : decode bytes pc = .ok (.dup2, 1)) (hc : x.category = 1) (hc2 : y.category = 1) (hp : pc + 1 = pc') (kk : Go p e below FF (T.setTop (mkF m pc' Ls (x :: y :: x :: y :: St)))) : Go p e below FF (T.setTop (mkF m pc Ls (x :: y :: St))) := by
  subst hp; exact Go.via (fun _ => XT.dup2 P.here P.x rfl (hb P.bt hd) rfl hc hc2) kk
theorem G.dupX2 (P : Pos p l e R s m args below meth c Z own bytes ml ret nm T h locs cells slots) {x y w : Value} (hd : decode bytes pc = .ok (.dup_x2, 1)) (hc : x.category = 1) (hc2 : y.category = 1) (hc3 : w.category = 1) (hp : pc + 1 = pc') (kk : Go p e below FF (T.setTop (mkF m pc' Ls (x :: y :: w :: x :: St)))) : Go p e below FF (T.setTop (mkF m pc Ls (x :: y :: w :: St))) := by
  subst hp
  refine Go.via (S1 := T.setTop (mkF m (pc + 1) Ls (x :: y :: w :: x :: St))) (fun target hr => ?_) kk
  have hd' := hb P.bt hd
  have hx := P.x
  show Steps p.tables e below (T.setTop { method := m, pc := pc, locals := Ls, stack := x :: y :: w :: St, locked := none }) _
  jvm_step P.here [P.here.top, hx, hd', hc, hc2, hc3]
  exact hr
theorem G.goto (P : Pos p l e R s m args below meth c Z own bytes ml ret nm T h locs cells slots) {o : Int} (hd : decode bytes pc = .ok (.goto o, 3)) (ho : 0 ≤ (pc : Int) + o) (hp : ((pc : Int) + o).toNat = pc') (kk : Go p e below FF (T.setTop (mkF m pc' Ls St))) : Go p e below FF (T.setTop (mkF m pc Ls St)) :=
  Go.via (fun _ => XS.goto P.here P.x rfl (pc0 := pc) rfl (hb P.bt hd) ho hp) kk
theorem G.irem (P : Pos p l e R s m args below meth c Z own bytes ml ret nm T h locs cells slots) {x y z : Int32} (hd : decode bytes pc = .ok (.irem, 1)) (hy : y ≠ 0) (hz : x % y = z) (hp : pc + 1 = pc') (kk : Go p e below FF (T.setTop (mkF m pc' Ls (.int z :: St)))) : Go p e below FF (T.setTop (mkF m pc Ls (.int y :: .int x :: St))) := by
  subst hp hz; exact Go.via (fun _ => iremM (g := mkF m pc Ls (.int y :: .int x :: St)) P.st P.x rfl (hb P.bt hd) rfl hy) kk
theorem G.ldcI (P : Pos p l e R s m args below meth c Z own bytes ml ret nm T h locs cells slots) {i : Nat} {v : Int32} (w : (Jvm.Cond.constant own i v).before a0 Z = true) (hd : decode bytes pc = .ok (.ldc i, 2)) (hp : pc + 2 = pc') (kk : Go p e below FF (T.setTop (mkF m pc' Ls (.int v :: St)))) : Go p e below FF (T.setTop (mkF m pc Ls St)) := by
  subst hp; exact Go.via (P.st.ldcInt P.x P.ow (mvT P.z w) (g := mkF m pc Ls St) rfl (hb P.bt hd)) kk
theorem G.ldcJ (P : Pos p l e R s m args below meth c Z own bytes ml ret nm T h locs cells slots) {i : Nat} {v : Int64} (w : (Jvm.Cond.constantLong own i v).before a0 Z = true) (hd : decode bytes pc = .ok (.ldc2_w i, 3)) (hp : pc + 3 = pc') (kk : Go p e below FF (T.setTop (mkF m pc' Ls (.long v :: St)))) : Go p e below FF (T.setTop (mkF m pc Ls St)) := by
  subst hp; exact Go.via (P.st.ldc2Long P.x P.ow (mvT P.z w) (g := mkF m pc Ls St) rfl (hb P.bt hd)) kk
/-! ### branches -/
theorem G.icmp (P : Pos p l e R s m args below meth c Z own bytes ml ret nm T h locs cells slots) {cd : ClassFile.Cond} {x y : Int32} {o : Int} {pcY pcN : Nat} (hd : decode bytes pc = .ok (.if_icmp cd o, 3)) (ho : 0 ≤ (pc : Int) + o) (hp : ((pc : Int) + o).toNat = pcY) (hn : pc + 3 = pcN)
    (hY : if_icmp.holds cd x y = true → Go p e below FF (T.setTop (mkF m pcY Ls St))) (hN : if_icmp.holds cd x y = false → Go p e below FF (T.setTop (mkF m pcN Ls St))) : Go p e below FF (T.setTop (mkF m pc Ls (.int y :: .int x :: St))) := by
  subst hn
  cases hc : if_icmp.holds cd x y
  · exact Go.via (fun _ => XS.icmpNo P.here P.x rfl (hb P.bt hd) rfl hc) (hN hc)
  · exact Go.via (fun _ => XS.icmpYes P.here P.x rfl (pc0 := pc) rfl (hb P.bt hd) rfl hc ho hp) (hY hc)
theorem G.if0 (P : Pos p l e R s m args below meth c Z own bytes ml ret nm T h locs cells slots) {cd : ClassFile.Cond} {x : Int32} {o : Int} {pcY pcN : Nat} (hd : decode bytes pc = .ok (.ifCond cd o, 3)) (ho : 0 ≤ (pc : Int) + o) (hp : ((pc : Int) + o).toNat = pcY) (hn : pc + 3 = pcN)
    (hY : if_icmp.holds cd x 0 = true → Go p e below FF (T.setTop (mkF m pcY Ls St))) (hN : if_icmp.holds cd x 0 = false → Go p e below FF (T.setTop (mkF m pcN Ls St))) : Go p e below FF (T.setTop (mkF m pc Ls (.int x :: St))) := by
  subst hn
  cases hc : if_icmp.holds cd x 0
  · exact Go.via (fun _ => XS.ifNo P.here P.x rfl (hb P.bt hd) rfl ((Jvm.RoadKit.if0 _ _).trans hc)) (hN hc)
  · exact Go.via (fun _ => XS.ifYes P.here P.x rfl (pc0 := pc) rfl (hb P.bt hd) rfl ((Jvm.RoadKit.if0 _ _).trans hc) ho hp) (hY hc)
theorem h_eq {x y : Int32} : (if_icmp.holds .eq x y = true → x = y) ∧ (if_icmp.holds .eq x y = false → ¬ x = y) := ⟨fun h => Classical.byContradiction fun q => (by rw [(feq q).1] at h; cases h), fun h q => (by rw [(teq q).1] at h; cases h)⟩
theorem h_ne {x y : Int32} : (if_icmp.holds .ne x y = true → ¬ x = y) ∧ (if_icmp.holds .ne x y = false → x = y) := ⟨fun h q => (by rw [(teq q).2] at h; cases h), fun h => Classical.byContradiction fun q => (by rw [(feq q).2] at h; cases h)⟩
theorem h_lt {x y : Int32} : (if_icmp.holds .lt x y = true → x < y) ∧ (if_icmp.holds .lt x y = false → ¬ x < y) := ⟨fun h => Classical.byContradiction fun q => (by rw [(flt q).1] at h; cases h), fun h q => (by rw [(tlt q).1] at h; cases h)⟩
theorem h_ge {x y : Int32} : (if_icmp.holds .ge x y = true → ¬ x < y) ∧ (if_icmp.holds .ge x y = false → x < y) := ⟨fun h q => (by rw [(tlt q).2.1] at h; cases h), fun h => Classical.byContradiction fun q => (by rw [(flt q).2.1] at h; cases h)⟩
theorem h_gt {x y : Int32} : (if_icmp.holds .gt x y = true → y < x) ∧ (if_icmp.holds .gt x y = false → ¬ y < x) := ⟨fun h => Classical.byContradiction fun q => (by rw [(flt q).2.2.1] at h; cases h), fun h q => (by rw [(tlt q).2.2.1] at h; cases h)⟩
theorem h_le {x y : Int32} : (if_icmp.holds .le x y = true → ¬ y < x) ∧ (if_icmp.holds .le x y = false → y < x) := ⟨fun h q => (by rw [(tlt q).2.2.2] at h; cases h), fun h => Classical.byContradiction fun q => (by rw [(flt q).2.2.2] at h; cases h)⟩
theorem G.icmp_eq (P : Pos p l e R s m args below meth c Z own bytes ml ret nm T h locs cells slots) {x y : Int32} {o : Int} {pcY pcN : Nat} (hd : decode bytes pc = .ok (.if_icmp .eq o, 3)) (ho : 0 ≤ (pc : Int) + o) (hp : ((pc : Int) + o).toNat = pcY) (hn : pc + 3 = pcN) (hY : x = y → Go p e below FF (T.setTop (mkF m pcY Ls St))) (hN : ¬ x = y → Go p e below FF (T.setTop (mkF m pcN Ls St))) : Go p e below FF (T.setTop (mkF m pc Ls (.int y :: .int x :: St))) :=
  G.icmp P hd ho hp hn (fun q => hY (h_eq.1 q)) (fun q => hN (h_eq.2 q))
theorem G.if_eq (P : Pos p l e R s m args below meth c Z own bytes ml ret nm T h locs cells slots) {x : Int32} {o : Int} {pcY pcN : Nat} (hd : decode bytes pc = .ok (.ifCond .eq o, 3)) (ho : 0 ≤ (pc : Int) + o) (hp : ((pc : Int) + o).toNat = pcY) (hn : pc + 3 = pcN) (hY : x = 0 → Go p e below FF (T.setTop (mkF m pcY Ls St))) (hN : ¬ x = 0 → Go p e below FF (T.setTop (mkF m pcN Ls St))) : Go p e below FF (T.setTop (mkF m pc Ls (.int x :: St))) :=
  G.if0 P hd ho hp hn (fun q => hY (h_eq.1 q)) (fun q => hN (h_eq.2 q))
theorem G.icmp_ne (P : Pos p l e R s m args below meth c Z own bytes ml ret nm T h locs cells slots) {x y : Int32} {o : Int} {pcY pcN : Nat} (hd : decode bytes pc = .ok (.if_icmp .ne o, 3)) (ho : 0 ≤ (pc : Int) + o) (hp : ((pc : Int) + o).toNat = pcY) (hn : pc + 3 = pcN) (hY : ¬ x = y → Go p e below FF (T.setTop (mkF m pcY Ls St))) (hN : x = y → Go p e below FF (T.setTop (mkF m pcN Ls St))) : Go p e below FF (T.setTop (mkF m pc Ls (.int y :: .int x :: St))) :=
  G.icmp P hd ho hp hn (fun q => hY (h_ne.1 q)) (fun q => hN (h_ne.2 q))
theorem G.if_ne (P : Pos p l e R s m args below meth c Z own bytes ml ret nm T h locs cells slots) {x : Int32} {o : Int} {pcY pcN : Nat} (hd : decode bytes pc = .ok (.ifCond .ne o, 3)) (ho : 0 ≤ (pc : Int) + o) (hp : ((pc : Int) + o).toNat = pcY) (hn : pc + 3 = pcN) (hY : ¬ x = 0 → Go p e below FF (T.setTop (mkF m pcY Ls St))) (hN : x = 0 → Go p e below FF (T.setTop (mkF m pcN Ls St))) : Go p e below FF (T.setTop (mkF m pc Ls (.int x :: St))) :=
  G.if0 P hd ho hp hn (fun q => hY (h_ne.1 q)) (fun q => hN (h_ne.2 q))
theorem G.icmp_lt (P : Pos p l e R s m args below meth c Z own bytes ml ret nm T h locs cells slots) {x y : Int32} {o : Int} {pcY pcN : Nat} (hd : decode bytes pc = .ok (.if_icmp .lt o, 3)) (ho : 0 ≤ (pc : Int) + o) (hp : ((pc : Int) + o).toNat = pcY) (hn : pc + 3 = pcN) (hY : x < y → Go p e below FF (T.setTop (mkF m pcY Ls St))) (hN : ¬ x < y → Go p e below FF (T.setTop (mkF m pcN Ls St))) : Go p e below FF (T.setTop (mkF m pc Ls (.int y :: .int x :: St))) :=
  G.icmp P hd ho hp hn (fun q => hY (h_lt.1 q)) (fun q => hN (h_lt.2 q))
theorem G.if_lt (P : Pos p l e R s m args below meth c Z own bytes ml ret nm T h locs cells slots) {x : Int32} {o : Int} {pcY pcN : Nat} (hd : decode bytes pc = .ok (.ifCond .lt o, 3)) (ho : 0 ≤ (pc : Int) + o) (hp : ((pc : Int) + o).toNat = pcY) (hn : pc + 3 = pcN) (hY : x < 0 → Go p e below FF (T.setTop (mkF m pcY Ls St))) (hN : ¬ x < 0 → Go p e below FF (T.setTop (mkF m pcN Ls St))) : Go p e below FF (T.setTop (mkF m pc Ls (.int x :: St))) :=
  G.if0 P hd ho hp hn (fun q => hY (h_lt.1 q)) (fun q => hN (h_lt.2 q))
theorem G.icmp_ge (P : Pos p l e R s m args below meth c Z own bytes ml ret nm T h locs cells slots) {x y : Int32} {o : Int} {pcY pcN : Nat} (hd : decode bytes pc = .ok (.if_icmp .ge o, 3)) (ho : 0 ≤ (pc : Int) + o) (hp : ((pc : Int) + o).toNat = pcY) (hn : pc + 3 = pcN) (hY : ¬ x < y → Go p e below FF (T.setTop (mkF m pcY Ls St))) (hN : x < y → Go p e below FF (T.setTop (mkF m pcN Ls St))) : Go p e below FF (T.setTop (mkF m pc Ls (.int y :: .int x :: St))) :=
  G.icmp P hd ho hp hn (fun q => hY (h_ge.1 q)) (fun q => hN (h_ge.2 q))
theorem G.if_ge (P : Pos p l e R s m args below meth c Z own bytes ml ret nm T h locs cells slots) {x : Int32} {o : Int} {pcY pcN : Nat} (hd : decode bytes pc = .ok (.ifCond .ge o, 3)) (ho : 0 ≤ (pc : Int) + o) (hp : ((pc : Int) + o).toNat = pcY) (hn : pc + 3 = pcN) (hY : ¬ x < 0 → Go p e below FF (T.setTop (mkF m pcY Ls St))) (hN : x < 0 → Go p e below FF (T.setTop (mkF m pcN Ls St))) : Go p e below FF (T.setTop (mkF m pc Ls (.int x :: St))) :=
  G.if0 P hd ho hp hn (fun q => hY (h_ge.1 q)) (fun q => hN (h_ge.2 q))
theorem G.icmp_gt (P : Pos p l e R s m args below meth c Z own bytes ml ret nm T h locs cells slots) {x y : Int32} {o : Int} {pcY pcN : Nat} (hd : decode bytes pc = .ok (.if_icmp .gt o, 3)) (ho : 0 ≤ (pc : Int) + o) (hp : ((pc : Int) + o).toNat = pcY) (hn : pc + 3 = pcN) (hY : y < x → Go p e below FF (T.setTop (mkF m pcY Ls St))) (hN : ¬ y < x → Go p e below FF (T.setTop (mkF m pcN Ls St))) : Go p e below FF (T.setTop (mkF m pc Ls (.int y :: .int x :: St))) :=
  G.icmp P hd ho hp hn (fun q => hY (h_gt.1 q)) (fun q => hN (h_gt.2 q))
theorem G.if_gt (P : Pos p l e R s m args below meth c Z own bytes ml ret nm T h locs cells slots) {x : Int32} {o : Int} {pcY pcN : Nat} (hd : decode bytes pc = .ok (.ifCond .gt o, 3)) (ho : 0 ≤ (pc : Int) + o) (hp : ((pc : Int) + o).toNat = pcY) (hn : pc + 3 = pcN) (hY : 0 < x → Go p e below FF (T.setTop (mkF m pcY Ls St))) (hN : ¬ 0 < x → Go p e below FF (T.setTop (mkF m pcN Ls St))) : Go p e below FF (T.setTop (mkF m pc Ls (.int x :: St))) :=
  G.if0 P hd ho hp hn (fun q => hY (h_gt.1 q)) (fun q => hN (h_gt.2 q))
theorem G.icmp_le (P : Pos p l e R s m args below meth c Z own bytes ml ret nm T h locs cells slots) {x y : Int32} {o : Int} {pcY pcN : Nat} (hd : decode bytes pc = .ok (.if_icmp .le o, 3)) (ho : 0 ≤ (pc : Int) + o) (hp : ((pc : Int) + o).toNat = pcY) (hn : pc + 3 = pcN) (hY : ¬ y < x → Go p e below FF (T.setTop (mkF m pcY Ls St))) (hN : y < x → Go p e below FF (T.setTop (mkF m pcN Ls St))) : Go p e below FF (T.setTop (mkF m pc Ls (.int y :: .int x :: St))) :=
  G.icmp P hd ho hp hn (fun q => hY (h_le.1 q)) (fun q => hN (h_le.2 q))
theorem G.if_le (P : Pos p l e R s m args below meth c Z own bytes ml ret nm T h locs cells slots) {x : Int32} {o : Int} {pcY pcN : Nat} (hd : decode bytes pc = .ok (.ifCond .le o, 3)) (ho : 0 ≤ (pc : Int) + o) (hp : ((pc : Int) + o).toNat = pcY) (hn : pc + 3 = pcN) (hY : ¬ 0 < x → Go p e below FF (T.setTop (mkF m pcY Ls St))) (hN : 0 < x → Go p e below FF (T.setTop (mkF m pcN Ls St))) : Go p e below FF (T.setTop (mkF m pc Ls (.int x :: St))) :=
  G.if0 P hd ho hp hn (fun q => hY (h_le.1 q)) (fun q => hN (h_le.2 q))
theorem G.acmp_eq (P : Pos p l e R s m args below meth c Z own bytes ml ret nm T h locs cells slots) {a b : Addr} {o : Int} {pcY pcN : Nat} (hd : decode bytes pc = .ok (.if_acmp .eq o, 3)) (ho : 0 ≤ (pc : Int) + o) (hp : ((pc : Int) + o).toNat = pcY) (hn : pc + 3 = pcN)
    (hY : a = b → Go p e below FF (T.setTop (mkF m pcY Ls St))) (hN : ¬ a = b → Go p e below FF (T.setTop (mkF m pcN Ls St))) : Go p e below FF (T.setTop (mkF m pc Ls (.ref b :: .ref a :: St))) := by
  subst hn
  by_cases hc : a = b
  · refine Go.via (fun _ => XS.acmpYes P.here P.x rfl (pc0 := pc) rfl (hb P.bt hd) rfl ?_ ho hp) (hY hc)
    simp [if_acmp.holds, hc]
  · refine Go.via (fun _ => XS.acmpNo P.here P.x rfl (hb P.bt hd) rfl ?_) (hN hc)
    simp [if_acmp.holds, hc]
theorem G.acmp_ne (P : Pos p l e R s m args below meth c Z own bytes ml ret nm T h locs cells slots) {a b : Addr} {o : Int} {pcY pcN : Nat} (hd : decode bytes pc = .ok (.if_acmp .ne o, 3)) (ho : 0 ≤ (pc : Int) + o) (hp : ((pc : Int) + o).toNat = pcY) (hn : pc + 3 = pcN)
    (hY : ¬ a = b → Go p e below FF (T.setTop (mkF m pcY Ls St))) (hN : a = b → Go p e below FF (T.setTop (mkF m pcN Ls St))) : Go p e below FF (T.setTop (mkF m pc Ls (.ref b :: .ref a :: St))) := by
  subst hn
  by_cases hc : a = b
  · refine Go.via (fun _ => XS.acmpNo P.here P.x rfl (hb P.bt hd) rfl ?_) (hN hc)
    simp [if_acmp.holds, hc]
  · refine Go.via (fun _ => XS.acmpYes P.here P.x rfl (pc0 := pc) rfl (hb P.bt hd) rfl ?_ ho hp) (hY hc)
    simp [if_acmp.holds, hc]
theorem G.acmpNe (P : Pos p l e R s m args below meth c Z own bytes ml ret nm T h locs cells slots) {cd : ACond} {x y : Value} (h1 : x.isRef = true) (h2 : y.isRef = true) (hq : ¬ x = y) {o : Int} {pcT : Nat} (hd : decode bytes pc = .ok (.if_acmp cd o, 3)) (ho : 0 ≤ (pc : Int) + o) (hp : pcT = if acV cd false = true then ((pc : Int) + o).toNat else pc + 3)
    (kk : Go p e below FF (T.setTop (mkF m pcT Ls St))) : Go p e below FF (T.setTop (mkF m pc Ls (y :: x :: St))) :=
  Go.via (fun _ => Jvm.RoadKit.acmp (g := mkF m pc Ls (y :: x :: St)) P.st P.x rfl h1 h2 (pc0 := pc) rfl (hb P.bt hd) rfl (decide_eq_false hq) ho hp) kk
theorem G.acmpEq (P : Pos p l e R s m args below meth c Z own bytes ml ret nm T h locs cells slots) {cd : ACond} {x y : Value} (h1 : x.isRef = true) (h2 : y.isRef = true) (hq : x = y) {o : Int} {pcT : Nat} (hd : decode bytes pc = .ok (.if_acmp cd o, 3)) (ho : 0 ≤ (pc : Int) + o) (hp : pcT = if acV cd true = true then ((pc : Int) + o).toNat else pc + 3)
    (kk : Go p e below FF (T.setTop (mkF m pcT Ls St))) : Go p e below FF (T.setTop (mkF m pc Ls (y :: x :: St))) :=
  Go.via (fun _ => Jvm.RoadKit.acmp (g := mkF m pc Ls (y :: x :: St)) P.st P.x rfl h1 h2 (pc0 := pc) rfl (hb P.bt hd) rfl (decide_eq_true hq) ho hp) kk
theorem G.ifnullY (P : Pos p l e R s m args below meth c Z own bytes ml ret nm T h locs cells slots) {o : Int} (hd : decode bytes pc = .ok (.ifnull o, 3)) (ho : 0 ≤ (pc : Int) + o) (hp : ((pc : Int) + o).toNat = pc') (kk : Go p e below FF (T.setTop (mkF m pc' Ls St))) : Go p e below FF (T.setTop (mkF m pc Ls (.null :: St))) :=
  Go.via (fun _ => XS.ifnullYes P.here P.x rfl (pc0 := pc) rfl (hb P.bt hd) rfl ho hp) kk
theorem G.ifnullN (P : Pos p l e R s m args below meth c Z own bytes ml ret nm T h locs cells slots) {o : Int} {b : Addr} (hd : decode bytes pc = .ok (.ifnull o, 3)) (hp : pc + 3 = pc') (kk : Go p e below FF (T.setTop (mkF m pc' Ls St))) : Go p e below FF (T.setTop (mkF m pc Ls (.ref b :: St))) := by
  subst hp; exact Go.via (fun _ => XS.ifnullNo P.here P.x rfl (hb P.bt hd) rfl) kk
theorem G.ifnonnullY (P : Pos p l e R s m args below meth c Z own bytes ml ret nm T h locs cells slots) {o : Int} {b : Addr} (hd : decode bytes pc = .ok (.ifnonnull o, 3)) (ho : 0 ≤ (pc : Int) + o) (hp : ((pc : Int) + o).toNat = pc') (kk : Go p e below FF (T.setTop (mkF m pc' Ls St))) : Go p e below FF (T.setTop (mkF m pc Ls (.ref b :: St))) :=
  Go.via (fun _ => XS.ifnonnullYes P.here P.x rfl (pc0 := pc) rfl (hb P.bt hd) rfl ho hp) kk
theorem G.ifnonnullN (P : Pos p l e R s m args below meth c Z own bytes ml ret nm T h locs cells slots) {o : Int} (hd : decode bytes pc = .ok (.ifnonnull o, 3)) (hp : pc + 3 = pc') (kk : Go p e below FF (T.setTop (mkF m pc' Ls St))) : Go p e below FF (T.setTop (mkF m pc Ls (.null :: St))) := by
  subst hp; exact Go.via (fun _ => XS.ifnonnullNo P.here P.x rfl (hb P.bt hd) rfl) kk
/-! ### the heap -/
theorem G.getF (P : Pos p l e R s m args below meth c Z own bytes ml ret nm T h locs cells slots) {R0 O n d host : String} {i : Nat} (w : (Jvm.Cond.fieldLink own i R0 n d).before a0 Z = true ∨ (Jvm.Cond.fieldLinkNest own i R0 n d host).before a0 Z = true) (via : Via Z R0 O n d) {a : Addr} {v : Value} (F : Fld Z h a O n d v) (hd : decode bytes pc = .ok (.getfield i, 3)) (hp : pc + 3 = pc')
    (kk : ∀ T', Pos p l e R s m args below meth c Z own bytes ml ret nm T' h locs cells slots → Go p e below FF (T'.setTop (mkF m pc' Ls (v :: St)))) : Go p e below FF (T.setTop (mkF m pc Ls (.ref a :: St))) := by
  subst hp
  obtain ⟨T', X', e', st⟩ := Jvm.RoadKit.getF P.st P.x P.z P.ow w via P.eh F (g := mkF m pc Ls (.ref a :: St)) rfl rfl (hb P.bt hd)
  exact Go.via st (kk T' ⟨P.1, X', e'⟩)
theorem G.putF (P : Pos p l e R s m args below meth c Z own bytes ml ret nm T h locs cells slots) {R0 O n d host C : String} {i kn : Nat} {ty : FieldType} (w : (Jvm.Cond.fieldLink own i R0 n d).before a0 Z = true ∨ (Jvm.Cond.fieldLinkNest own i R0 n d host).before a0 Z = true) (via : Via Z R0 O n d) {a : Addr} {v old : Value} (F : Fld Z h a O n d old) (E : Exa Z h a C)
    (L : (Jvm.Cond.lays C O n d).before a0 Z = true ∨ ((Jvm.Cond.laysFinal C O n d).before a0 Z = true ∧ own = O ∧ nm = "<init>")) (wi : (Jvm.Cond.instantiable C kn).before a0 Z = true) (hty : parseFieldDescriptor d = some ty) (hn : narrow ty v = v) (hf : fits ty v = true) (hd : decode bytes pc = .ok (.putfield i, 3)) (hp : pc + 3 = pc')
    (kk : ∀ T' h', Pos p l e R s m args below meth c Z own bytes ml ret nm T' h' (locs ++ [⟨a, Jvm.RoadKit.slotOf Z O n d⟩]) cells slots → Wr h h' a (Jvm.RoadKit.slotOf Z O n d) v → Go p e below FF (T'.setTop (mkF m pc' Ls St))) : Go p e below FF (T.setTop (mkF m pc Ls (v :: .ref a :: St))) := by
  subst hp
  obtain ⟨T', h', X', e', W, st⟩ := Jvm.RoadKit.putF P.st P.x P.z P.ow w via P.eh F E (L.imp id fun q => ⟨q.1, q.2.1, P.mn.trans q.2.2⟩) wi hty hn hf (g := mkF m pc Ls (v :: .ref a :: St)) rfl rfl (hb P.bt hd)
  exact Go.via st (kk T' h' ⟨P.1, X', e'⟩ W)
theorem G.putFN (P : Pos p l e R s m args below meth c Z own bytes ml ret nm T h locs cells slots) {R0 O n d C : String} {i kn : Nat} {ty : FieldType} (w : (Jvm.Cond.fieldLink own i R0 n d).before a0 Z = true) (via : Via Z R0 O n d) {a : Addr} {v v' old : Value} (F : Fld Z h a O n d old) (E : Exa Z h a C)
    (L : (Jvm.Cond.lays C O n d).before a0 Z = true ∨ ((Jvm.Cond.laysFinal C O n d).before a0 Z = true ∧ own = O ∧ nm = "<init>")) (wi : (Jvm.Cond.instantiable C kn).before a0 Z = true) (hty : parseFieldDescriptor d = some ty) (hn : narrow ty v = v') (hf : fits ty v' = true) (hd : decode bytes pc = .ok (.putfield i, 3)) (hp : pc + 3 = pc')
    (kk : ∀ T' h', Pos p l e R s m args below meth c Z own bytes ml ret nm T' h' (locs ++ [⟨a, Jvm.RoadKit.slotOf Z O n d⟩]) cells slots → Wr h h' a (Jvm.RoadKit.slotOf Z O n d) v' → Go p e below FF (T'.setTop (mkF m pc' Ls St))) : Go p e below FF (T.setTop (mkF m pc Ls (v :: .ref a :: St))) := by
  subst hp
  obtain ⟨T', h', X', e', W, st⟩ := Jvm.RoadKit.putFN P.st P.x P.z P.ow w via P.eh F E (L.imp id fun q => ⟨q.1, q.2.1, P.mn.trans q.2.2⟩) wi hty hn hf (g := mkF m pc Ls (v :: .ref a :: St)) rfl rfl (hb P.bt hd)
  exact Go.via st (kk T' h' ⟨P.1, X', e'⟩ W)
theorem G.getS (P : Pos p l e R s m args below meth c Z own bytes ml ret nm T h locs cells slots) {R0 O n d host : String} {i : Nat} (w : (Jvm.Cond.fieldLink own i R0 n d).before a0 Z = true ∨ (Jvm.Cond.fieldLinkNest own i R0 n d host).before a0 Z = true) (via : Via Z R0 O n d) {v : Value} (F : Sta Z h O n d v) (hd : decode bytes pc = .ok (.getstatic i, 3)) (hp : pc + 3 = pc')
    (kk : ∀ T', Pos p l e R s m args below meth c Z own bytes ml ret nm T' h locs cells slots → Go p e below FF (T'.setTop (mkF m pc' Ls (v :: St)))) : Go p e below FF (T.setTop (mkF m pc Ls St)) := by
  subst hp
  obtain ⟨T', X', e', st⟩ := getS2 P.st P.x P.z P.ow w via P.eh F (g := mkF m pc Ls St) rfl (hb P.bt hd)
  exact Go.via st (kk T' ⟨P.1, X', e'⟩)
theorem G.newO (P : Pos p l e R s m args below meth c Z own bytes ml ret nm T h locs cells slots) {C : String} {i n : Nat} (w : (Jvm.Cond.classLink own i C).before a0 Z = true) (wi : (Jvm.Cond.instantiable C n).before a0 Z = true) (wz : (Jvm.Cond.initialized C).before a0 Z = true) (hd : decode bytes pc = .ok (.new i, 3)) (hro : cells + 1 ≤ R.cells ∧ slots + n ≤ R.slots) (hp : pc + 3 = pc')
    (kk : ∀ T' h' a, a = h.size → Pos p l e R s m args below meth c Z own bytes ml ret nm T' h' locs (cells + 1) (slots + n) → Ext h h' → Exa Z h' a C → (∀ {O fn d : String} {ty : FieldType}, Laid Z a0 C O fn d → parseFieldDescriptor d = some ty → Fld Z h' a O fn d (defaultValue ty)) → Go p e below FF (T'.setTop (mkF m pc' Ls (.ref a :: St)))) : Go p e below FF (T.setTop (mkF m pc Ls St)) := by
  subst hp
  obtain ⟨T', h', X', e', E, A, D, -, st⟩ := Jvm.RoadKit.newO P.st P.x P.z P.ow w wi wz P.eh (g := mkF m pc Ls St) rfl (hb P.bt hd) hro.1 hro.2
  exact Go.via st (kk T' h' h.size rfl ⟨P.1, X', e'⟩ E A D)
theorem G.newP (P : Pos p l e R s m args below meth c Z own bytes ml ret nm T h locs cells slots) {aty : ArrayType} (w : (Jvm.Cond.arrayClass (newarray.typeOf aty)).before a0 Z = true) {n : Int32} (hn : ¬ n < 0) {cap : Nat} (hcap : n.toNatClampNeg ≤ cap) (hbb : cap * 8 ≤ 536870912) (hro : cells + 1 ≤ R.cells ∧ slots + cap ≤ R.slots) (hd : decode bytes pc = .ok (.newarray aty, 2)) (hp : pc + 2 = pc')
    (kk : ∀ T' h' a k, a = h.size → Pos p l e R s m args below meth c Z own bytes ml ret nm T' h' locs (cells + 1) (slots + cap) → Ext h h' → Arv Z h' a k (newarray.typeOf aty) n [] (defaultValue (newarray.typeOf aty)) → Go p e below FF (T'.setTop (mkF m pc' Ls (.ref a :: St)))) : Go p e below FF (T.setTop (mkF m pc Ls (.int n :: St))) := by
  subst hp
  obtain ⟨T', h', k, X', e', E, A, st⟩ := Jvm.RoadKit.newP P.st P.x P.z w P.eh (g := mkF m pc Ls (.int n :: St)) rfl (hb P.bt hd) rfl hn hcap hbb hro.1 hro.2
  exact Go.via st (kk T' h' h.size k rfl ⟨P.1, X', e'⟩ E (Arv.new A hn))
theorem G.alen (P : Pos p l e R s m args below meth c Z own bytes ml ret nm T h locs cells slots) {a : Addr} {k : ClassId} {ty : FieldType} {z : Int32} {vs : List Value} {dv : Value} (V : Arv Z h a k ty z vs dv) (hd : decode bytes pc = .ok (.arraylength, 1)) (hp : pc + 1 = pc')
    (kk : Go p e below FF (T.setTop (mkF m pc' Ls (.int z :: St)))) : Go p e below FF (T.setTop (mkF m pc Ls (.ref a :: St))) := by
  subst hp
  obtain ⟨cl, A, -, S, N, -⟩ := V
  refine Go.via (fun t => P.st.arraylength P.x (cell := cl) (by rw [P.eh]; exact A.1) (State.isArrayOf_alike P.z.alike A.2.1) (g := mkF m pc Ls (.ref a :: St)) rfl rfl (hb P.bt hd) t) ?_
  rw [len_of S N]; exact kk
theorem G.stI (P : Pos p l e R s m args below meth c Z own bytes ml ret nm T h locs cells slots) {a : Addr} {k : ClassId} {z : Int32} {vs : List Value} {dv : Value} (V : Arv Z h a k .int z vs dv) {j x : Int32} (i : Nat) (hi : j.toNatClampNeg = i) (hin : ¬ j < 0 ∧ j < z) (hl : i < vs.length) (hd : decode bytes pc = .ok (.iastore, 1)) (hp : pc + 1 = pc')
    (kk : ∀ T' h', Pos p l e R s m args below meth c Z own bytes ml ret nm T' h' (locs ++ [⟨a, i⟩]) cells slots → Wr h h' a i (.int x) → Arv Z h' a k .int z (vs.set i (.int x)) dv → Go p e below FF (T'.setTop (mkF m pc' Ls St))) : Go p e below FF (T.setTop (mkF m pc Ls (.int x :: .int j :: .ref a :: St))) := by
  subst hp hi
  obtain ⟨cl, A, q1, S, N, H, Gf⟩ := V
  obtain ⟨T', h', X', e', W, st⟩ := Jvm.RoadKit.stI P.st P.x P.z P.eh A (inb_of S hin) (g := mkF m pc Ls (.int x :: .int j :: .ref a :: St)) rfl rfl (hb P.bt hd)
  exact Go.via st (kk T' h' ⟨P.1, X', e'⟩ W (Arv.set A q1 S N H Gf rfl W _ rfl hl))
theorem G.stB (P : Pos p l e R s m args below meth c Z own bytes ml ret nm T h locs cells slots) {a : Addr} {k : ClassId} {z : Int32} {vs : List Value} {dv : Value} (V : Arv Z h a k .byte z vs dv) {j x : Int32} (i : Nat) (hi : j.toNatClampNeg = i) (hin : ¬ j < 0 ∧ j < z) (hl : i < vs.length) (hd : decode bytes pc = .ok (.bastore, 1)) (hp : pc + 1 = pc')
    (kk : ∀ T' h', Pos p l e R s m args below meth c Z own bytes ml ret nm T' h' (locs ++ [⟨a, i⟩]) cells slots → Wr h h' a i (.int (nar .byte x)) → Arv Z h' a k .byte z (vs.set i (.int (nar .byte x))) dv → Go p e below FF (T'.setTop (mkF m pc' Ls St))) : Go p e below FF (T.setTop (mkF m pc Ls (.int x :: .int j :: .ref a :: St))) := by
  subst hp hi
  obtain ⟨cl, A, q1, S, N, H, Gf⟩ := V
  obtain ⟨T', h', X', e', W, st⟩ := Jvm.RoadKit.stB P.st P.x P.z P.eh A (inb_of S hin) (g := mkF m pc Ls (.int x :: .int j :: .ref a :: St)) rfl rfl (hb P.bt hd)
  exact Go.via st (kk T' h' ⟨P.1, X', e'⟩ W (Arv.set A q1 S N H Gf (fits_nar_byte _) W _ rfl hl))
theorem G.stZ (P : Pos p l e R s m args below meth c Z own bytes ml ret nm T h locs cells slots) {a : Addr} {k : ClassId} {z : Int32} {vs : List Value} {dv : Value} (V : Arv Z h a k .boolean z vs dv) {j x : Int32} (i : Nat) (hi : j.toNatClampNeg = i) (hin : ¬ j < 0 ∧ j < z) (hl : i < vs.length) (hd : decode bytes pc = .ok (.bastore, 1)) (hp : pc + 1 = pc')
    (kk : ∀ T' h', Pos p l e R s m args below meth c Z own bytes ml ret nm T' h' (locs ++ [⟨a, i⟩]) cells slots → Wr h h' a i (.int (nar .boolean x)) → Arv Z h' a k .boolean z (vs.set i (.int (nar .boolean x))) dv → Go p e below FF (T'.setTop (mkF m pc' Ls St))) : Go p e below FF (T.setTop (mkF m pc Ls (.int x :: .int j :: .ref a :: St))) := by
  subst hp hi
  obtain ⟨cl, A, q1, S, N, H, Gf⟩ := V
  obtain ⟨T', h', X', e', W, st⟩ := Jvm.RoadKit.stZ P.st P.x P.z P.eh A (inb_of S hin) (g := mkF m pc Ls (.int x :: .int j :: .ref a :: St)) rfl rfl (hb P.bt hd)
  exact Go.via st (kk T' h' ⟨P.1, X', e'⟩ W (Arv.set A q1 S N H Gf (fits_nar_bool _) W _ rfl hl))
theorem G.stC (P : Pos p l e R s m args below meth c Z own bytes ml ret nm T h locs cells slots) {a : Addr} {k : ClassId} {z : Int32} {vs : List Value} {dv : Value} (V : Arv Z h a k .char z vs dv) {j x : Int32} (i : Nat) (hi : j.toNatClampNeg = i) (hin : ¬ j < 0 ∧ j < z) (hl : i < vs.length) (hd : decode bytes pc = .ok (.castore, 1)) (hp : pc + 1 = pc')
    (kk : ∀ T' h', Pos p l e R s m args below meth c Z own bytes ml ret nm T' h' (locs ++ [⟨a, i⟩]) cells slots → Wr h h' a i (.int (nar .char x)) → Arv Z h' a k .char z (vs.set i (.int (nar .char x))) dv → Go p e below FF (T'.setTop (mkF m pc' Ls St))) : Go p e below FF (T.setTop (mkF m pc Ls (.int x :: .int j :: .ref a :: St))) := by
  subst hp hi
  obtain ⟨cl, A, q1, S, N, H, Gf⟩ := V
  obtain ⟨T', h', X', e', W, st⟩ := Jvm.RoadKit.stC P.st P.x P.z P.eh A (inb_of S hin) (g := mkF m pc Ls (.int x :: .int j :: .ref a :: St)) rfl rfl (hb P.bt hd)
  exact Go.via st (kk T' h' ⟨P.1, X', e'⟩ W (Arv.set A q1 S N H Gf (fits_nar_char _) W _ rfl hl))
theorem G.iaload (P : Pos p l e R s m args below meth c Z own bytes ml ret nm T h locs cells slots) {a : Addr} {k : ClassId} {z : Int32} {vs : List Value} {dv : Value} (V : Arv Z h a k .int z vs dv) {j : Int32} {v : Value} (hin : ¬ j < 0 ∧ j < z) (hv : vs.getD j.toNatClampNeg dv = v) (hd : decode bytes pc = .ok (.iaload, 1)) (hp : pc + 1 = pc')
    (kk : Go p e below FF (T.setTop (mkF m pc' Ls (v :: St)))) : Go p e below FF (T.setTop (mkF m pc Ls (.int j :: .ref a :: St))) := by
  subst hp
  obtain ⟨cl, A, q1, S, N, H, Gf⟩ := V
  have hb' := inb_of S hin
  exact Go.via (fun t => P.st.iaload P.x (by rw [P.eh]; exact A.1) (State.isArrayOf_alike P.z.alike A.2.1) A.2.2 hb' (Has.at H hb' hv) (g := mkF m pc Ls (.int j :: .ref a :: St)) rfl rfl (hb P.bt hd) t) kk
theorem G.baloadB (P : Pos p l e R s m args below meth c Z own bytes ml ret nm T h locs cells slots) {a : Addr} {k : ClassId} {z : Int32} {vs : List Value} {dv : Value} (V : Arv Z h a k .byte z vs dv) {j : Int32} {v : Value} (hin : ¬ j < 0 ∧ j < z) (hv : vs.getD j.toNatClampNeg dv = v) (hd : decode bytes pc = .ok (.baload, 1)) (hp : pc + 1 = pc')
    (kk : Go p e below FF (T.setTop (mkF m pc' Ls (v :: St)))) : Go p e below FF (T.setTop (mkF m pc Ls (.int j :: .ref a :: St))) := by
  subst hp
  obtain ⟨cl, A, q1, S, N, H, Gf⟩ := V
  have hb' := inb_of S hin
  exact Go.via (fun t => P.st.baloadBytes P.x (by rw [P.eh]; exact A.1) (State.isArrayOf_alike P.z.alike A.2.1) A.2.2 hb' (Has.at H hb' hv) (g := mkF m pc Ls (.int j :: .ref a :: St)) rfl rfl (hb P.bt hd) t) kk
theorem G.baloadZ (P : Pos p l e R s m args below meth c Z own bytes ml ret nm T h locs cells slots) {a : Addr} {k : ClassId} {z : Int32} {vs : List Value} {dv : Value} (V : Arv Z h a k .boolean z vs dv) {j : Int32} {v : Value} (hin : ¬ j < 0 ∧ j < z) (hv : vs.getD j.toNatClampNeg dv = v) (hd : decode bytes pc = .ok (.baload, 1)) (hp : pc + 1 = pc')
    (kk : Go p e below FF (T.setTop (mkF m pc' Ls (v :: St)))) : Go p e below FF (T.setTop (mkF m pc Ls (.int j :: .ref a :: St))) := by
  subst hp
  obtain ⟨cl, A, q1, S, N, H, Gf⟩ := V
  have hb' := inb_of S hin
  exact Go.via (fun t => P.st.baloadBooleans P.x (by rw [P.eh]; exact A.1) (State.isArrayOf_alike P.z.alike A.2.1) A.2.2 hb' (Has.at H hb' hv) (g := mkF m pc Ls (.int j :: .ref a :: St)) rfl rfl (hb P.bt hd) t) kk
theorem G.aaload (P : Pos p l e R s m args below meth c Z own bytes ml ret nm T h locs cells slots) {a : Addr} {k : ClassId} {ty : FieldType} {z : Int32} {vs : List Value} {dv : Value} (V : Arv Z h a k ty z vs dv) (hty : ty.isReference = true) {j : Int32} {v : Value} (hin : ¬ j < 0 ∧ j < z) (hv : vs.getD j.toNatClampNeg dv = v) (hd : decode bytes pc = .ok (.aaload, 1)) (hp : pc + 1 = pc')
    (kk : Go p e below FF (T.setTop (mkF m pc' Ls (v :: St)))) : Go p e below FF (T.setTop (mkF m pc Ls (.int j :: .ref a :: St))) := by
  subst hp
  obtain ⟨cl, A, q1, S, N, H, Gf⟩ := V
  have hb' := inb_of S hin
  exact Go.via (fun t => P.st.aaload P.x (by rw [P.eh]; exact A.1) (State.isArrayOf_alike P.z.alike A.2.1) hty A.2.2 hb' (Has.at H hb' hv) (g := mkF m pc Ls (.int j :: .ref a :: St)) rfl rfl (hb P.bt hd) t) kk
/-! ### returns -/
theorem Go.end_ {S0 : State} (P : Pos p l e R s m args below meth c Z own bytes ml ret nm T h locs cells slots) {v : Option Value} (hv : ret = none → v = none) (hc : cells ≤ cs) (hs : slots ≤ ss) (hq : Q v h locs)
    (st : ∀ fs, (∀ (f : JFrame) (acts : List Action), f.method = m → f.locked = none → f.entered = [] → (doReturn e (T.setTop f) acts v).1 = T.setFrames fs) → Steps p.tables e below S0 (T.setFrames fs)) : Go p e below (NF s cs ss Q) S0 := by
  have hlk := P.lk
  obtain ⟨fs, hr, hrun, hended, hW, hsame⟩ := P.st.leave (v := v) (fun q => hv (P.rt.symm.trans q)) hlk
  refine ⟨_, _, st fs hr, hrun, hended, _, rfl, _, ?_, ⟨_, rfl⟩, hW, hsame.mono hc hs⟩
  have q : (T.setFrames fs).heap = h := P.eh
  rw [q]; exact hq
theorem G.retI (P : Pos p l e R s m args below meth c Z own bytes ml (some .int) nm T h locs cells slots) {z : Int32} (hd : decode bytes pc = .ok (.ireturn, 1)) (hc : cells ≤ cs) (hs : slots ≤ ss) (hq : Q (some (.int z)) h locs) : Go p e below (NF s cs ss Q) (T.setTop (mkF m pc Ls (.int z :: St))) :=
  Go.end_ P (fun q => by cases q) hc hs hq (fun fs hr => Jvm.RoadKit.retI P.st P.x P.rt (hb P.bt hd) hr)
theorem G.retN (P : Pos p l e R s m args below meth c Z own bytes ml ret nm T h locs cells slots) {z : Int32} {t : FieldType} (ht : ret = some t) (ht2 : t = .boolean ∨ t = .byte ∨ t = .char ∨ t = .short) (hd : decode bytes pc = .ok (.ireturn, 1)) (hc : cells ≤ cs) (hs : slots ≤ ss) (hq : Q (some (.int (nar t z))) h locs) : Go p e below (NF s cs ss Q) (T.setTop (mkF m pc Ls (.int z :: St))) :=
  Go.end_ P (fun q => by rw [ht] at q; cases q) hc hs hq (fun fs hr => Jvm.RoadKit.retN P.st P.x (P.rt.trans ht) ht2 (hb P.bt hd) hr)
theorem G.retV (P : Pos p l e R s m args below meth c Z own bytes ml none nm T h locs cells slots) (hd : decode bytes pc = .ok (.return_, 1)) (hc : cells ≤ cs) (hs : slots ≤ ss) (hq : Q none h locs) : Go p e below (NF s cs ss Q) (T.setTop (mkF m pc Ls [])) :=
  Go.end_ P (fun _ => rfl) hc hs hq (fun fs hr => P.st.returnOut P.x P.rt (hb P.bt hd) hr)
theorem G.retA (P : Pos p l e R s m args below meth c Z own bytes ml ret nm T h locs cells slots) {w : Value} {t : FieldType} (ht : ret = some t) (ht2 : t.isReference = true) (hw : w.isRef = true) (hd : decode bytes pc = .ok (.areturn, 1)) (hc : cells ≤ cs) (hs : slots ≤ ss) (hq : Q (some w) h locs) : Go p e below (NF s cs ss Q) (T.setTop (mkF m pc Ls [w])) :=
  Go.end_ P (fun q => by rw [ht] at q; cases q) hc hs hq (fun fs hr => P.st.areturnOut P.x hw (P.rt.trans ht) ht2 (hb P.bt hd) hr)
theorem G.retJ (P : Pos p l e R s m args below meth c Z own bytes ml (some .long) nm T h locs cells slots) {w : Int64} (hd : decode bytes pc = .ok (.lreturn, 1)) (hc : cells ≤ cs) (hs : slots ≤ ss) (hq : Q (some (.long w)) h locs) : Go p e below (NF s cs ss Q) (T.setTop (mkF m pc Ls [.long w])) :=
  Go.end_ P (fun q => by cases q) hc hs hq (fun fs hr => P.st.lreturnOut P.x P.rt (hb P.bt hd) hr)
/-! ### calls -/
theorem Pos.re (P : Pos p l e R s m args below meth c Z own bytes ml ret nm T h locs cells slots) {T' : State} {h' : Heap} {locs' : List Loc} {cells' slots' : Nat} (X' : Stand p l e R s m args below meth c T' locs' cells' slots') (e' : T'.heap = h') : Pos p l e R s m args below meth c Z own bytes ml ret nm T' h' locs' cells' slots' := ⟨P.1, X', e'⟩
theorem G.callS (P : Pos p l e R s m args below meth c Z own bytes ml ret nm T h locs cells slots) {y : MethodName} {by' : ByteArray} {ml' : Nat} {ret' : Option FieldType} {i : Nat} {rm : Room} {as' : Array Value} {Qc : Option Value → Heap → List Loc → Prop} (hM : OMeets l Z y by' ml' ret' rm as' h Qc)
    (w1 : (Jvm.Cond.methodLink own i y).before a0 Z = true) (w2 : (Jvm.Cond.static y).before a0 Z = true) (w3 : (Jvm.Cond.initialized y.cls).before a0 Z = true) (w4 : (Jvm.Cond.code y by' ml' ret').before a0 Z = true)
    (hy : y.cls ≠ "java/lang/invoke/MethodHandle" ∧ y.cls ≠ "java/lang/invoke/VarHandle") {ps : List FieldType} {r : Option FieldType} (hds : parseMethodDescriptor y.desc = some ⟨ps, r⟩) {argsL rest : List Value} (hal : argsL.length = ps.length) (hst : argsL.reverse ++ rest = St) (has : argsL.toArray = as') (hsz : Ls.size = ml)
    {W : Nat} (hW : (rest.map fun v => v.category).sum ≤ W) (hro : rm.frames + 1 ≤ R.frames ∧ W + (ml' + 11) + rm.locals ≤ R.locals ∧ cells + rm.cells ≤ R.cells ∧ slots + rm.slots ≤ R.slots)
    (hd : decode bytes pc = .ok (.invokestatic i, 3)) (hp : pc + 3 = pc')
    (kk : ∀ T' L v, Pos p l e R s m args below meth c Z own bytes ml ret nm T' T'.heap (locs ++ L) (cells + rm.cells) (slots + rm.slots) → Qc v T'.heap L → Go p e below FF (T'.setTop (mkF m pc' Ls (v.toList ++ rest)))) : Go p e below FF (T.setTop (mkF m pc Ls St)) := by
  subst hp hst has
  obtain ⟨v, _, ⟨T', L', k', n'⟩, -, X', ⟨Lc, hQ, l1, l2, l3⟩, st⟩ := Jvm.LawKit.callS P.st P.x (y := y) P.ow (mvT P.z w1) (mvT P.z w2) (mvT P.z w3) (mvT P.z w4) hy (backOf (W := W) hM P.z w4 w3 hro.1 hro.2.1) (g := mkF m pc Ls (argsL.reverse ++ rest)) rfl (by rw [P.mx]; exact hsz) (argsL := argsL) (rest := rest) (lenOf hds hal) rfl (by show 2 * 0 + _ ≤ _; omega) (hb P.bt hd) (fun _ _ => ⟨rfl, P.eh, hro.2.2.1, hro.2.2.2⟩)
  dsimp only [Pt.U, Pt.locs, Pt.cells, Pt.slots] at X' l1 l2 l3 st hQ
  subst l1 l2 l3
  exact Go.via st (kk T' Lc v ⟨P.1, X', rfl⟩ hQ)
theorem G.callSP (P : Pos p l e R s m args below meth c Z own bytes ml ret nm T h locs cells slots) {y : MethodName} {by' : ByteArray} {ml' : Nat} {ret' : Option FieldType} {i fr lo : Nat} {as' : Array Value} {v0 : Option Value} (hM : OMeets l Z y by' ml' ret' ⟨fr, 0, 0, lo⟩ as' h (OPure v0 h))
    (w1 : (Jvm.Cond.methodLink own i y).before a0 Z = true) (w2 : (Jvm.Cond.static y).before a0 Z = true) (w3 : (Jvm.Cond.initialized y.cls).before a0 Z = true) (w4 : (Jvm.Cond.code y by' ml' ret').before a0 Z = true)
    (hy : y.cls ≠ "java/lang/invoke/MethodHandle" ∧ y.cls ≠ "java/lang/invoke/VarHandle") {ps : List FieldType} {r : Option FieldType} (hds : parseMethodDescriptor y.desc = some ⟨ps, r⟩) {argsL rest : List Value} (hal : argsL.length = ps.length) (hst : argsL.reverse ++ rest = St) (has : argsL.toArray = as') (hsz : Ls.size = ml)
    {W : Nat} (hW : (rest.map fun v => v.category).sum ≤ W) (hro : fr + 1 ≤ R.frames ∧ W + (ml' + 11) + lo ≤ R.locals ∧ cells ≤ R.cells ∧ slots ≤ R.slots)
    (hd : decode bytes pc = .ok (.invokestatic i, 3)) (hp : pc + 3 = pc')
    (kk : ∀ T', Pos p l e R s m args below meth c Z own bytes ml ret nm T' h locs cells slots → Go p e below FF (T'.setTop (mkF m pc' Ls (v0.toList ++ rest)))) : Go p e below FF (T.setTop (mkF m pc Ls St)) := by
  refine G.callS P hM w1 w2 w3 w4 hy hds hal hst has hsz hW hro hd hp fun T' L v P' hQ => ?_
  obtain ⟨rfl, e, rfl⟩ := hQ
  rw [List.append_nil] at P'
  exact kk T' ⟨P'.1, P'.2.1, e⟩
theorem G.callV (P : Pos p l e R s m args below meth c Z own bytes ml ret nm T h locs cells slots) {C : String} {y z : MethodName} {by' : ByteArray} {ml' : Nat} {ret' : Option FieldType} {i : Nat} {rm : Room} {as' : Array Value} {Qc : Option Value → Heap → List Loc → Prop} (hM : OMeets l Z z by' ml' ret' rm as' h Qc)
    (w1 : (Jvm.Cond.methodLink own i y).before a0 Z = true) (w2 : (Jvm.Cond.declares y).before a0 Z = true) (w3 : (Jvm.Cond.selects C y z).before a0 Z = true) (hyz : y = z) (w4 : (Jvm.Cond.instanceMethod z).before a0 Z = true) (w5 : (Jvm.Cond.initialized z.cls).before a0 Z = true) (w6 : (Jvm.Cond.code z by' ml' ret').before a0 Z = true)
    (hy : y.cls ≠ "java/lang/invoke/MethodHandle" ∧ y.cls ≠ "java/lang/invoke/VarHandle") {b : Addr} (E : Exa Z h b C) {ps : List FieldType} {r : Option FieldType} (hds : parseMethodDescriptor y.desc = some ⟨ps, r⟩) {argsL rest : List Value} (hal : argsL.length = ps.length) (hst : argsL.reverse ++ .ref b :: rest = St) (has : (.ref b :: argsL).toArray = as') (hsz : Ls.size = ml)
    {W : Nat} (hW : (rest.map fun v => v.category).sum ≤ W) (hro : rm.frames + 1 ≤ R.frames ∧ W + (ml' + 11) + rm.locals ≤ R.locals ∧ cells + rm.cells ≤ R.cells ∧ slots + rm.slots ≤ R.slots)
    (hd : decode bytes pc = .ok (.invokevirtual i, 3)) (hp : pc + 3 = pc')
    (kk : ∀ T' L v, Pos p l e R s m args below meth c Z own bytes ml ret nm T' T'.heap (locs ++ L) (cells + rm.cells) (slots + rm.slots) → Qc v T'.heap L → Go p e below FF (T'.setTop (mkF m pc' Ls (v.toList ++ rest)))) : Go p e below FF (T.setTop (mkF m pc Ls St)) := by
  subst hp hst has hyz
  obtain ⟨cB, kB, q1, q2, q3⟩ := isOf P.z P.eh E
  obtain ⟨v, _, ⟨T', L', k', n'⟩, -, X', ⟨Lc, hQ, l1, l2, l3⟩, st⟩ := P.st.virtualBack P.x (y := y) (z := y) P.ow (mvT P.z w1) (mvT P.z w2) (notFace_of_selects (args := #[]) (mvT P.z w3)) (mvT P.z w3) (mvT P.z w4) hy (backOf (W := W) hM P.z w6 w5 hro.1 hro.2.1) q1 q3 (g := mkF m pc Ls (argsL.reverse ++ .ref b :: rest)) rfl (by rw [P.mx]; exact hsz) (Steps.refl _) (argsL := argsL) (rest := rest) (lenOf hds hal) rfl (by show 2 * 0 + _ ≤ _; omega) (hb P.bt hd) (fun _ _ => ⟨rfl, P.eh, hro.2.2.1, hro.2.2.2⟩)
  dsimp only [Pt.U, Pt.locs, Pt.cells, Pt.slots] at X' l1 l2 l3 st hQ
  subst l1 l2 l3
  exact Go.come st (kk T' Lc v ⟨P.1, X', rfl⟩ hQ)
theorem G.callVP (P : Pos p l e R s m args below meth c Z own bytes ml ret nm T h locs cells slots) {C : String} {y z : MethodName} {by' : ByteArray} {ml' : Nat} {ret' : Option FieldType} {i fr lo : Nat} {as' : Array Value} {v0 : Option Value} (hM : OMeets l Z z by' ml' ret' ⟨fr, 0, 0, lo⟩ as' h (OPure v0 h))
    (w1 : (Jvm.Cond.methodLink own i y).before a0 Z = true) (w2 : (Jvm.Cond.declares y).before a0 Z = true) (w3 : (Jvm.Cond.selects C y z).before a0 Z = true) (hyz : y = z) (w4 : (Jvm.Cond.instanceMethod z).before a0 Z = true) (w5 : (Jvm.Cond.initialized z.cls).before a0 Z = true) (w6 : (Jvm.Cond.code z by' ml' ret').before a0 Z = true)
    (hy : y.cls ≠ "java/lang/invoke/MethodHandle" ∧ y.cls ≠ "java/lang/invoke/VarHandle") {b : Addr} (E : Exa Z h b C) {ps : List FieldType} {r : Option FieldType} (hds : parseMethodDescriptor y.desc = some ⟨ps, r⟩) {argsL rest : List Value} (hal : argsL.length = ps.length) (hst : argsL.reverse ++ .ref b :: rest = St) (has : (.ref b :: argsL).toArray = as') (hsz : Ls.size = ml)
    {W : Nat} (hW : (rest.map fun v => v.category).sum ≤ W) (hro : fr + 1 ≤ R.frames ∧ W + (ml' + 11) + lo ≤ R.locals ∧ cells ≤ R.cells ∧ slots ≤ R.slots)
    (hd : decode bytes pc = .ok (.invokevirtual i, 3)) (hp : pc + 3 = pc')
    (kk : ∀ T', Pos p l e R s m args below meth c Z own bytes ml ret nm T' h locs cells slots → Go p e below FF (T'.setTop (mkF m pc' Ls (v0.toList ++ rest)))) : Go p e below FF (T.setTop (mkF m pc Ls St)) := by
  refine G.callV P hM w1 w2 w3 hyz w4 w5 w6 hy E hds hal hst has hsz hW hro hd hp fun T' L v P' hQ => ?_
  obtain ⟨rfl, e, rfl⟩ := hQ
  rw [List.append_nil] at P'
  exact kk T' ⟨P'.1, P'.2.1, e⟩
theorem G.callI (P : Pos p l e R s m args below meth c Z own bytes ml ret nm T h locs cells slots) {y : MethodName} {by' : ByteArray} {ml' : Nat} {i : Nat} {rm : Room} {as' : Array Value} {Qc : Option Value → Heap → List Loc → Prop} (hM : OMeets l Z y by' ml' none rm as' h Qc) (hyn : y.name = "<init>")
    (w1 : (Jvm.Cond.methodLink own i y).before a0 Z = true) (w2 : (Jvm.Cond.instanceMethod y).before a0 Z = true) (w3 : (Jvm.Cond.initialized y.cls).before a0 Z = true) (w4 : (Jvm.Cond.code y by' ml' none).before a0 Z = true)
    (hy : y.cls ≠ "java/lang/invoke/MethodHandle" ∧ y.cls ≠ "java/lang/invoke/VarHandle") {b : Addr} {ps : List FieldType} {r : Option FieldType} (hds : parseMethodDescriptor y.desc = some ⟨ps, r⟩) {argsL rest : List Value} (hal : argsL.length = ps.length) (hst : argsL.reverse ++ .ref b :: rest = St) (has : (.ref b :: argsL).toArray = as') (hsz : Ls.size = ml)
    {W : Nat} (hW : (rest.map fun v => v.category).sum ≤ W) (hro : rm.frames + 1 ≤ R.frames ∧ W + (ml' + 11) + rm.locals ≤ R.locals ∧ cells + rm.cells ≤ R.cells ∧ slots + rm.slots ≤ R.slots)
    (hd : decode bytes pc = .ok (.invokespecial i, 3)) (hp : pc + 3 = pc')
    (kk : ∀ T' L v, Pos p l e R s m args below meth c Z own bytes ml ret nm T' T'.heap (locs ++ L) (cells + rm.cells) (slots + rm.slots) → Qc v T'.heap L → Go p e below FF (T'.setTop (mkF m pc' Ls (v.toList ++ rest)))) : Go p e below FF (T.setTop (mkF m pc Ls St)) := by
  subst hp hst has
  obtain ⟨v, _, ⟨T', L', k', n'⟩, -, X', ⟨Lc, hQ, l1, l2, l3⟩, st⟩ := P.st.specialBack P.x (y := y) hyn P.ow (mvT P.z w1) (mvT P.z w2) (mvT P.z w4) hy (backOf (W := W) hM P.z w4 w3 hro.1 hro.2.1) (g := mkF m pc Ls (argsL.reverse ++ .ref b :: rest)) rfl (by rw [P.mx]; exact hsz) (Steps.refl _) (a := b) (argsL := argsL) (rest := rest) (lenOf hds hal) rfl (by show 2 * 0 + _ ≤ _; omega) (hb P.bt hd) (fun _ _ => ⟨rfl, P.eh, hro.2.2.1, hro.2.2.2⟩)
  dsimp only [Pt.U, Pt.locs, Pt.cells, Pt.slots] at X' l1 l2 l3 st hQ
  subst l1 l2 l3
  exact Go.come st (kk T' Lc v ⟨P.1, X', rfl⟩ hQ)
theorem G.callIP (P : Pos p l e R s m args below meth c Z own bytes ml ret nm T h locs cells slots) {y : MethodName} {by' : ByteArray} {ml' : Nat} {i fr lo : Nat} {as' : Array Value} {v0 : Option Value} (hM : OMeets l Z y by' ml' none ⟨fr, 0, 0, lo⟩ as' h (OPure v0 h)) (hyn : y.name = "<init>")
    (w1 : (Jvm.Cond.methodLink own i y).before a0 Z = true) (w2 : (Jvm.Cond.instanceMethod y).before a0 Z = true) (w3 : (Jvm.Cond.initialized y.cls).before a0 Z = true) (w4 : (Jvm.Cond.code y by' ml' none).before a0 Z = true)
    (hy : y.cls ≠ "java/lang/invoke/MethodHandle" ∧ y.cls ≠ "java/lang/invoke/VarHandle") {b : Addr} {ps : List FieldType} {r : Option FieldType} (hds : parseMethodDescriptor y.desc = some ⟨ps, r⟩) {argsL rest : List Value} (hal : argsL.length = ps.length) (hst : argsL.reverse ++ .ref b :: rest = St) (has : (.ref b :: argsL).toArray = as') (hsz : Ls.size = ml)
    {W : Nat} (hW : (rest.map fun v => v.category).sum ≤ W) (hro : fr + 1 ≤ R.frames ∧ W + (ml' + 11) + lo ≤ R.locals ∧ cells ≤ R.cells ∧ slots ≤ R.slots)
    (hd : decode bytes pc = .ok (.invokespecial i, 3)) (hp : pc + 3 = pc')
    (kk : ∀ T', Pos p l e R s m args below meth c Z own bytes ml ret nm T' h locs cells slots → Go p e below FF (T'.setTop (mkF m pc' Ls (v0.toList ++ rest)))) : Go p e below FF (T.setTop (mkF m pc Ls St)) := by
  refine G.callI P hM hyn w1 w2 w3 w4 hy hds hal hst has hsz hW hro hd hp fun T' L v P' hQ => ?_
  obtain ⟨rfl, e, rfl⟩ := hQ
  rw [List.append_nil] at P'
  exact kk T' ⟨P'.1, P'.2.1, e⟩
theorem Pos.more (P : Pos p l e R s m args below meth c Z own bytes ml ret nm T h locs cells slots) {cells' slots' : Nat} (hc : cells ≤ cells') (hs : slots ≤ slots') : Pos p l e R s m args below meth c Z own bytes ml ret nm T h locs cells' slots' :=
  ⟨P.1, P.st.more hc hs, P.2.2⟩
theorem G.callF (P : Pos p l e R s m args below meth c Z own bytes ml ret nm T h locs cells slots) {C : String} {xi y : MethodName} {by' : ByteArray} {ml' : Nat} {ret' : Option FieldType} {i cnt : Nat} {rm : Room} {as' : Array Value} {Qc : Option Value → Heap → List Loc → Prop} (hM : OMeets l Z y by' ml' ret' rm as' h Qc)
    (w1 : (Jvm.Cond.methodLink own i xi).before a0 Z = true) (w2 : (Jvm.Cond.declares xi).before a0 Z = true) (w3 : (Jvm.Cond.interfaceMethod xi.cls xi.cls xi.name xi.desc).before a0 Z = true) (w4 : (Jvm.Cond.selects C xi y).before a0 Z = true) (w5 : (Jvm.Cond.instanceMethod y).before a0 Z = true)
    (w6 : (Jvm.Cond.publicMethod y).before a0 Z = true) (w7 : (Jvm.Cond.unhidden C xi.name xi.desc).before a0 Z = true) (w8 : (Jvm.Cond.castable C xi.cls).before a0 Z = true) (w9 : (Jvm.Cond.initialized y.cls).before a0 Z = true) (w10 : (Jvm.Cond.code y by' ml' ret').before a0 Z = true)
    (hy : xi.cls ≠ "java/lang/invoke/MethodHandle" ∧ xi.cls ≠ "java/lang/invoke/VarHandle") {b : Addr} (E : Exa Z h b C) {ps : List FieldType} {r : Option FieldType} (hds : parseMethodDescriptor xi.desc = some ⟨ps, r⟩) {argsL rest : List Value} (hal : argsL.length = ps.length) (hst : argsL.reverse ++ .ref b :: rest = St) (has : (.ref b :: argsL).toArray = as') (hsz : Ls.size = ml)
    {W : Nat} (hW : (rest.map fun v => v.category).sum ≤ W) (hro : rm.frames + 1 ≤ R.frames ∧ W + (ml' + 11) + rm.locals ≤ R.locals ∧ cells + rm.cells ≤ R.cells ∧ slots + rm.slots ≤ R.slots)
    (hd : decode bytes pc = .ok (.invokeinterface i cnt, 5)) (hp : pc + 5 = pc')
    (kk : ∀ T' L v, Pos p l e R s m args below meth c Z own bytes ml ret nm T' T'.heap (locs ++ L) (cells + rm.cells) (slots + rm.slots) → Qc v T'.heap L → Go p e below FF (T'.setTop (mkF m pc' Ls (v.toList ++ rest)))) : Go p e below FF (T.setTop (mkF m pc Ls St)) := by
  subst hp hst has
  obtain ⟨cB, kB, q1, q2, q3⟩ := isOf P.z P.eh E
  obtain ⟨v, _, ⟨T', L', k', n'⟩, -, X', ⟨Lc, hQ, l1, l2, l3⟩, st⟩ := P.st.interfaceBack P.x (xi := xi) (y := y) P.ow (mvT P.z w1) (mvT P.z w2) (mvT P.z w3 (by simp [Cond.onTables, Cond.keepsFace, Cond.keeps, Cond.steady, Cond.faceAtom, hy.1, hy.2])) (mvT P.z w4) (mvT P.z w5) (mvT P.z w6) (mvT P.z w7) (mvT P.z w8) hy (backOf (W := W) hM P.z w10 w9 hro.1 hro.2.1) q1 q2 q3 (g := mkF m pc Ls (argsL.reverse ++ .ref b :: rest)) rfl (by rw [P.mx]; exact hsz) (Steps.refl _) (argsL := argsL) (rest := rest) (lenOf hds hal) rfl (by show 2 * 0 + _ ≤ _; omega) (hb P.bt hd) (fun _ _ => ⟨rfl, P.eh, hro.2.2.1, hro.2.2.2⟩)
  dsimp only [Pt.U, Pt.locs, Pt.cells, Pt.slots] at X' l1 l2 l3 st hQ
  subst l1 l2 l3
  exact Go.come st (kk T' Lc v ⟨P.1, X', rfl⟩ hQ)
theorem G.callQ (P : Pos p l e R s m args below meth c Z own bytes ml ret nm T h locs cells slots) {y x0 z0 : MethodName} {C C0 : String} {by' : ByteArray} {ml' : Nat} {ret' : Option FieldType} {i : Nat} {rm : Room} {as' : Array Value} {Qc : Option Value → Heap → List Loc → Prop} (hM : OMeets l Z y by' ml' ret' rm as' h Qc)
    (w1 : (Jvm.Cond.methodLink own i y).before a0 Z = true) (w2 : (Jvm.Cond.instanceMethod y).before a0 Z = true) (w3 : (Jvm.Cond.selects C0 x0 z0).before a0 Z = true) (hz0 : z0.cls = y.cls) (w4 : (Jvm.Cond.privateMethod y).before a0 Z = true) (w5 : (Jvm.Cond.initialized y.cls).before a0 Z = true) (w6 : (Jvm.Cond.code y by' ml' ret').before a0 Z = true)
    (hy : y.cls ≠ "java/lang/invoke/MethodHandle" ∧ y.cls ≠ "java/lang/invoke/VarHandle") {b : Addr} (E : Exa Z h b C) {ps : List FieldType} {r : Option FieldType} (hds : parseMethodDescriptor y.desc = some ⟨ps, r⟩) {argsL rest : List Value} (hal : argsL.length = ps.length) (hst : argsL.reverse ++ .ref b :: rest = St) (has : (.ref b :: argsL).toArray = as') (hsz : Ls.size = ml)
    {W : Nat} (hW : (rest.map fun v => v.category).sum ≤ W) (hro : rm.frames + 1 ≤ R.frames ∧ W + (ml' + 11) + rm.locals ≤ R.locals ∧ cells + rm.cells ≤ R.cells ∧ slots + rm.slots ≤ R.slots)
    (hd : decode bytes pc = .ok (.invokevirtual i, 3)) (hp : pc + 3 = pc')
    (kk : ∀ T' L v, Pos p l e R s m args below meth c Z own bytes ml ret nm T' T'.heap (locs ++ L) (cells + rm.cells) (slots + rm.slots) → Qc v T'.heap L → Go p e below FF (T'.setTop (mkF m pc' Ls (v.toList ++ rest)))) : Go p e below FF (T.setTop (mkF m pc Ls St)) := by
  subst hp hst has
  obtain ⟨cq, q1, q2⟩ := E.cell
  obtain ⟨mk, mM, hn, hmM, hsM, haM⟩ := Cond.instanceMethod_spec (mvT (args := args) P.z w2)
  obtain ⟨mM', cM, hmM', -, -, -, -, -, -, hsg⟩ := Cond.code_spec hn (mvT (args := args) P.z w6)
  cases hmM.symm.trans hmM'
  obtain ⟨-, -, m2, -, -, q3, -, kP, hkP, hkI⟩ := Cond.selects_spec (mvT (args := args) P.z w3)
  have e1 := findClass_of_methodNamed q3
  rw [hz0] at e1
  have hcl : m2.cls = mk.cls := Option.some.inj (e1.symm.trans (findClass_of_methodNamed hn))
  rw [hcl] at hkP
  have hs0 : selectMethod e.platform s.vm cq.cls mk = .method mk := selectMethod_private hmM (Cond.privateMethod_at (mvP P.z w4 (args := #[])) mk mM hn hmM)
  obtain ⟨vm₁, X₁, st₁⟩ := P.st.invokevirtual P.x P.ow (mvT P.z w1) hn hmM hsM hkP hkI hy (a := b) (cell := cq) (by rw [P.eh]; exact q1) q2 hs0 hmM haM hkP hkI (g := mkF m pc Ls (argsL.reverse ++ .ref b :: rest)) rfl (argsL := argsL) (rest := rest) (lenOf hds hal _ hsg) rfl (hb P.bt hd)
  obtain ⟨v, ⟨T', L', k', n'⟩, X', ⟨Lc, hQ, l1, l2, l3⟩, st₂⟩ := (backOf (W := W) (len := 3) (R := R) (p := p) (e := e) (below := below) (args := args) hM P.z w6 w5 hro.1 hro.2.1) m meth c ⟨T.setVm vm₁, locs, cells, slots⟩ (mkF m pc Ls rest) (.invokevirtual i) mk (.ref b :: argsL).toArray X₁ rfl (by rw [P.mx]; exact hsz) (hb P.bt hd) (by show 2 * 0 + (rest.map fun v => v.category).sum ≤ _; omega) (X₁.named hn) ⟨rfl, P.eh, hro.2.2.1, hro.2.2.2⟩
  dsimp only [Pt.U, Pt.locs, Pt.cells, Pt.slots] at X' l1 l2 l3 st₂ hQ
  subst l1 l2 l3
  exact Go.come ((st₁ _ fun acts => by rw [doInvoke_state]; exact Steps.refl _).trans st₂) (kk T' Lc v ⟨P.1, X', rfl⟩ hQ)
theorem pureK {v0 : Option Value} (kk : ∀ T', Pos p l e R s m args below meth c Z own bytes ml ret nm T' h locs cells slots → Go p e below FF (T'.setTop (mkF m pc' Ls (v0.toList ++ St)))) : ∀ T' L v, Pos p l e R s m args below meth c Z own bytes ml ret nm T' T'.heap (locs ++ L) (cells + 0) (slots + 0) → OPure v0 h v T'.heap L → Go p e below FF (T'.setTop (mkF m pc' Ls (v.toList ++ St))) := by
  intro T' L v P' hQ
  obtain ⟨rfl, e, rfl⟩ := hQ
  rw [List.append_nil] at P'
  exact kk T' ⟨P'.1, P'.2.1, e⟩
theorem hacw {W n : Nat} (q : W + 18 ≤ n) : W + (nativeFrameWords "java/lang/System" "arraycopy" 5 + 11) ≤ n := by
  have e : nativeFrameWords "java/lang/System" "arraycopy" 5 = 7 := by decide
  rw [e]; omega
theorem G.acopy (P : Pos p l e R s m args below meth c Z own bytes ml ret nm T h locs cells slots) {i : Nat} (w1 : (Jvm.Cond.methodLink own i Jvm.Stand.acN).before a0 Z = true) (w2 : (Jvm.Cond.native Jvm.Stand.acN).before a0 Z = true) (w3 : (Jvm.Cond.static Jvm.Stand.acN).before a0 Z = true) (w4 : (Jvm.Cond.initialized "java/lang/System").before a0 Z = true)
    {a b : Addr} {k k' : ClassId} {ty ty' : FieldType} {z z' sp dp nn : Int32} {vs vd us : List Value} {dv dd : Value} (A : Arv Z h a k ty z vs dv) (B : Arv Z h b k' ty' z' vd dd) (hty : (ty = ty' ∧ refKind ty = false) ∨ (refKind ty = true ∧ refKind ty' = true ∧ StoL Z h b us))
    (h1 : ¬ sp < 0) (h2 : ¬ dp < 0) (h3 : ¬ nn < 0) (h4 : sp.toNatClampNeg + nn.toNatClampNeg ≤ z.toNatClampNeg) (h5 : dp.toNatClampNeg + nn.toNatClampNeg ≤ z'.toNatClampNeg)
    (hus : us = (List.range nn.toNatClampNeg).map fun i => vs.getD (sp.toNatClampNeg + i) dv) (hl : dp.toNatClampNeg + nn.toNatClampNeg ≤ vd.length) {n0 : Nat} (N : Fr n0 locs) (ge : n0 ≤ b) (hsz : Ls.size = ml)
    {W : Nat} (hW : (St.map fun v => v.category).sum ≤ W) (hro : 1 ≤ R.frames ∧ W + 18 ≤ R.locals) (hd : decode bytes pc = .ok (.invokestatic i, 3)) (hp : pc + 3 = pc')
    (kk : ∀ T' h' L, Pos p l e R s m args below meth c Z own bytes ml ret nm T' h' L cells slots → Fr n0 L → Keep h h' [b] → Arv Z h' b k' ty' z' (vd.take dp.toNatClampNeg ++ us ++ vd.drop (dp.toNatClampNeg + nn.toNatClampNeg)) dd → Go p e below FF (T'.setTop (mkF m pc' Ls St))) :
    Go p e below FF (T.setTop (mkF m pc Ls (.int nn :: .int dp :: .ref b :: .int sp :: .ref a :: St))) := by
  subst hp
  obtain ⟨T', h', L, X', e', N', K, V, st⟩ := cpA P.st P.x P.z P.ow w1 w2 w3 w4 P.eh A B hty h1 h2 h3 h4 h5 hus hl N ge (g := mkF m pc Ls (.int nn :: .int dp :: .ref b :: .int sp :: .ref a :: St)) rfl (by rw [P.mx]; exact hsz) rfl (hb P.bt hd) hro.1 (W := W) (by show 2 * 0 + _ ≤ _; omega) (hacw hro.2)
  exact Go.via st (kk T' h' L ⟨P.1, X', e'⟩ N' K V)
theorem G.newR (P : Pos p l e R s m args below meth c Z own bytes ml ret nm T h locs cells slots) {C : String} {i : Nat} (w1 : (Jvm.Cond.classLink own i C).before a0 Z = true) (w2 : (Jvm.Cond.arrayOver (.object C)).before a0 Z = true) {n : Int32} (hn : ¬ n < 0) {cap : Nat} (hcap : n.toNatClampNeg ≤ cap) (hbb : cap * 8 ≤ 536870912) (hro : cells + 1 ≤ R.cells ∧ slots + cap ≤ R.slots) (hd : decode bytes pc = .ok (.anewarray i, 3)) (hp : pc + 3 = pc')
    (kk : ∀ T' h' a k, a = h.size → Pos p l e R s m args below meth c Z own bytes ml ret nm T' h' locs (cells + 1) (slots + cap) → Ext h h' → Arv Z h' a k (.object C) n [] .null → Ovr Z k C → Go p e below FF (T'.setTop (mkF m pc' Ls (.ref a :: St)))) : Go p e below FF (T.setTop (mkF m pc Ls (.int n :: St))) := by
  subst hp
  obtain ⟨T', h', k, X', e', E, A, O, st⟩ := Jvm.RoadKit.newR P.st P.x P.z P.ow w1 w2 P.eh (g := mkF m pc Ls (.int n :: St)) rfl (hb P.bt hd) rfl hn hcap hbb hro.1 hro.2
  exact Go.via st (kk T' h' h.size k rfl ⟨P.1, X', e'⟩ E (Arv.new A hn) O)
theorem G.stR (P : Pos p l e R s m args below meth c Z own bytes ml ret nm T h locs cells slots) {a : Addr} {k : ClassId} {ty : FieldType} {z : Int32} {vs : List Value} {dv : Value} (V : Arv Z h a k ty z vs dv) (hty : ty.isReference = true) {j : Int32} {y : Addr} {C : String} (O : Ovr Z k C) (I : Ins Z h y C true) (hft : fits ty (.ref y) = true) (i : Nat) (hi : j.toNatClampNeg = i) (hin : ¬ j < 0 ∧ j < z) (hl : i < vs.length) (hd : decode bytes pc = .ok (.aastore, 1)) (hp : pc + 1 = pc')
    (kk : ∀ T' h', Pos p l e R s m args below meth c Z own bytes ml ret nm T' h' (locs ++ [⟨a, i⟩]) cells slots → Wr h h' a i (.ref y) → Arv Z h' a k ty z (vs.set i (.ref y)) dv → Go p e below FF (T'.setTop (mkF m pc' Ls St))) : Go p e below FF (T.setTop (mkF m pc Ls (.ref y :: .int j :: .ref a :: St))) := by
  subst hp hi
  obtain ⟨cl, A, q1, S, N, H, Gf⟩ := V
  obtain ⟨T', h', X', e', W, st⟩ := Jvm.RoadKit.stR P.st P.x P.z P.eh A (inb_of S hin) hty (Sto.ofV A q1 O I) (g := mkF m pc Ls (.ref y :: .int j :: .ref a :: St)) rfl rfl (hb P.bt hd)
  exact Go.via st (kk T' h' ⟨P.1, X', e'⟩ W (Arv.set A q1 S N H Gf hft W _ rfl hl))
theorem G.cast (P : Pos p l e R s m args below meth c Z own bytes ml ret nm T h locs cells slots) {K : String} {i : Nat} (w : (Jvm.Cond.classLink own i K).before a0 Z = true) {a : Addr} (I : Ins Z h a K true) (hd : decode bytes pc = .ok (.checkcast i, 3)) (hp : pc + 3 = pc')
    (kk : ∀ T', Pos p l e R s m args below meth c Z own bytes ml ret nm T' h locs cells slots → Go p e below FF (T'.setTop (mkF m pc' Ls (.ref a :: St)))) : Go p e below FF (T.setTop (mkF m pc Ls (.ref a :: St))) := by
  subst hp
  obtain ⟨T', X', e', st⟩ := castY P.st P.x P.z P.ow w P.eh I (g := mkF m pc Ls (.ref a :: St)) rfl rfl (hb P.bt hd)
  exact Go.via st (kk T' ⟨P.1, X', e'⟩)
theorem G.instY (P : Pos p l e R s m args below meth c Z own bytes ml ret nm T h locs cells slots) {K : String} {i : Nat} (w : (Jvm.Cond.classLink own i K).before a0 Z = true) {a : Addr} (I : Ins Z h a K true) (hd : decode bytes pc = .ok (.instanceof i, 3)) (hp : pc + 3 = pc')
    (kk : ∀ T', Pos p l e R s m args below meth c Z own bytes ml ret nm T' h locs cells slots → Go p e below FF (T'.setTop (mkF m pc' Ls (.int 1 :: St)))) : Go p e below FF (T.setTop (mkF m pc Ls (.ref a :: St))) := by
  subst hp
  obtain ⟨T', X', e', st⟩ := Jvm.RoadKit.instY P.st P.x P.z P.ow w P.eh I (g := mkF m pc Ls (.ref a :: St)) rfl rfl (hb P.bt hd)
  exact Go.via st (kk T' ⟨P.1, X', e'⟩)
theorem G.newPE (P : Pos p l e R s m args below meth c Z own bytes ml ret nm T h locs cells slots) {aty : ArrayType} (w : (Jvm.Cond.arrayClass (newarray.typeOf aty)).before a0 Z = true) {n : Int32} (hn : ¬ n < 0) {cap : Nat} (hcap : n.toNatClampNeg ≤ cap) (hbb : cap * 8 ≤ 536870912) (hro : cells + 1 ≤ R.cells ∧ slots + cap ≤ R.slots) {ad : String} (had : "[" ++ (newarray.typeOf aty).toString = ad) (hd : decode bytes pc = .ok (.newarray aty, 2)) (hp : pc + 2 = pc')
    (kk : ∀ T' h' a k, a = h.size → Pos p l e R s m args below meth c Z own bytes ml ret nm T' h' locs (cells + 1) (slots + cap) → Ext h h' → Arv Z h' a k (newarray.typeOf aty) n [] (defaultValue (newarray.typeOf aty)) → Exa Z h' a ad → Go p e below FF (T'.setTop (mkF m pc' Ls (.ref a :: St)))) : Go p e below FF (T.setTop (mkF m pc Ls (.int n :: St))) := by
  subst hp
  obtain ⟨T', h', k, X', e', E, A, B, st⟩ := Jvm.RoadKit.newPE P.st P.x P.z w P.eh (g := mkF m pc Ls (.int n :: St)) rfl (hb P.bt hd) rfl hn hcap hbb hro.1 hro.2 had
  exact Go.via st (kk T' h' h.size k rfl ⟨P.1, X', e'⟩ E (Arv.new A hn) B)
theorem G.clone (P : Pos p l e R s m args below meth c Z own bytes ml ret nm T h locs cells slots) {ad : String} {i : Nat} (w1 : (Jvm.Cond.methodLink own i ⟨ad, "clone", "()Ljava/lang/Object;"⟩).before a0 Z = true) (w2 : (Jvm.Cond.sameMethod ad "java/lang/Object" "clone" "()Ljava/lang/Object;").before a0 Z = true) (w3 : (Jvm.Cond.native ⟨"java/lang/Object", "clone", "()Ljava/lang/Object;"⟩).before a0 Z = true)
    (w4 : (Jvm.Cond.instanceMethod ⟨"java/lang/Object", "clone", "()Ljava/lang/Object;"⟩).before a0 Z = true) (w5 : (Jvm.Cond.selects ad ⟨ad, "clone", "()Ljava/lang/Object;"⟩ ⟨"java/lang/Object", "clone", "()Ljava/lang/Object;"⟩).before a0 Z = true) (w6 : (Jvm.Cond.castable ad "java/lang/Cloneable").before a0 Z = true)
    {a : Addr} {k : ClassId} {ty : FieldType} {z : Int32} {vs : List Value} {dv : Value} (V : Arv Z h a k ty z vs dv) (E : Exa Z h a ad) (hsz : Ls.size = ml) {W cap : Nat} (hW : (St.map fun v => v.category).sum ≤ W) (hcap : z.toNatClampNeg ≤ cap) (hro : 1 ≤ R.frames ∧ W + 14 ≤ R.locals ∧ cells + 1 ≤ R.cells ∧ slots + cap ≤ R.slots)
    (hd : decode bytes pc = .ok (.invokevirtual i, 3)) (hp : pc + 3 = pc')
    (kk : ∀ T' h' a', a' = h.size → Pos p l e R s m args below meth c Z own bytes ml ret nm T' h' locs (cells + 1) (slots + cap) → Ext h h' → Arv Z h' a' k ty z vs dv → Exa Z h' a' ad → Go p e below FF (T'.setTop (mkF m pc' Ls (.ref a' :: St)))) : Go p e below FF (T.setTop (mkF m pc Ls (.ref a :: St))) := by
  subst hp
  obtain ⟨T', h', X', e', ex, A, B, st⟩ := cloneH P.st P.x P.z P.ow w1 w2 w3 w4 w5 w6 P.eh V.arh E (g := mkF m pc Ls (.ref a :: St)) rfl (by rw [P.mx]; exact hsz) rfl (hb P.bt hd) hro.1 (W := W) (by show 2 * 0 + _ ≤ _; omega) hro.2.1 hcap hro.2.2.1 hro.2.2.2
  exact Go.via st (kk T' h' h.size rfl ⟨P.1, X', e'⟩ ex A B)
theorem G.tsw (P : Pos p l e R s m args below meth c Z own bytes ml ret nm T h locs cells slots) {dflt low high o : Int} {offs : Array Int} {len : Nat} {x : Int32} (hd : decode bytes pc = .ok (.tableswitch dflt low high offs, len)) (hin : ¬ (x.toInt < low ∨ x.toInt > high)) (hoff : offs[(x.toInt - low).toNat]? = some o) (ho : 0 ≤ (pc : Int) + o) (hp : ((pc : Int) + o).toNat = pc')
    (kk : Go p e below FF (T.setTop (mkF m pc' Ls St))) : Go p e below FF (T.setTop (mkF m pc Ls (.int x :: St))) :=
  Go.via (fun _ => XS.tswIn (g := mkF m pc Ls (.int x :: St)) P.here P.x rfl (pc0 := pc) rfl (hb P.bt hd) rfl hin hoff ho hp) kk
theorem G.callU (P : Pos p l e R s m args below meth c Z own bytes ml ret nm T h locs cells slots) {C owner : String} {x y : MethodName} {by' : ByteArray} {ml' : Nat} {ret' : Option FieldType} {i : Nat} {rm : Room} {as' : Array Value} {Qc : Option Value → Heap → List Loc → Prop} (hM : OMeets l Z y by' ml' ret' rm as' h Qc)
    (w1 : (Jvm.Cond.methodLink own i x).before a0 Z = true) (w2 : (Jvm.Cond.sameMethod x.cls owner x.name x.desc).before a0 Z = true) (w3 : (Jvm.Cond.declares ⟨owner, x.name, x.desc⟩).before a0 Z = true) (hy : owner ≠ "java/lang/invoke/MethodHandle" ∧ owner ≠ "java/lang/invoke/VarHandle") (w4 : (Jvm.Cond.selects C x y).before a0 Z = true) (w5 : (Jvm.Cond.instanceMethod y).before a0 Z = true) (w6 : (Jvm.Cond.initialized y.cls).before a0 Z = true) (w7 : (Jvm.Cond.code y by' ml' ret').before a0 Z = true)
    {b : Addr} (E : Exa Z h b C) {ps : List FieldType} {r : Option FieldType} (hds : parseMethodDescriptor x.desc = some ⟨ps, r⟩) {argsL rest : List Value} (hal : argsL.length = ps.length) (hst : argsL.reverse ++ .ref b :: rest = St) (has : (.ref b :: argsL).toArray = as') (hsz : Ls.size = ml)
    {W : Nat} (hW : (rest.map fun v => v.category).sum ≤ W) (hro : rm.frames + 1 ≤ R.frames ∧ W + (ml' + 11) + rm.locals ≤ R.locals ∧ cells + rm.cells ≤ R.cells ∧ slots + rm.slots ≤ R.slots)
    (hd : decode bytes pc = .ok (.invokevirtual i, 3)) (hp : pc + 3 = pc')
    (kk : ∀ T' L v, Pos p l e R s m args below meth c Z own bytes ml ret nm T' T'.heap (locs ++ L) (cells + rm.cells) (slots + rm.slots) → Qc v T'.heap L → Go p e below FF (T'.setTop (mkF m pc' Ls (v.toList ++ rest)))) : Go p e below FF (T.setTop (mkF m pc Ls St)) := by
  subst hp hst has
  obtain ⟨cB, kB, q1, q2, q3⟩ := isOf P.z P.eh E
  obtain ⟨v, _, ⟨T', L', k', n'⟩, -, X', ⟨Lc, hQ, l1, l2, l3⟩, st⟩ := P.st.virtualBackUp P.x (x := x) (y := y) P.ow (mvT P.z w1) (mvT P.z w2) (mvT P.z w3) hy (mvT P.z w4) (mvT P.z w5) (backOf (W := W) hM P.z w7 w6 hro.1 hro.2.1) q1 q3 (g := mkF m pc Ls (argsL.reverse ++ .ref b :: rest)) rfl (by rw [P.mx]; exact hsz) (Steps.refl _) (argsL := argsL) (rest := rest) (lenOf hds hal) rfl (by show 2 * 0 + _ ≤ _; omega) (hb P.bt hd) (fun _ _ => ⟨rfl, P.eh, hro.2.2.1, hro.2.2.2⟩)
  dsimp only [Pt.U, Pt.locs, Pt.cells, Pt.slots] at X' l1 l2 l3 st hQ
  subst l1 l2 l3
  exact Go.come st (kk T' Lc v ⟨P.1, X', rfl⟩ hQ)
end Own
end Jvm.OwnKit
namespace Jvm.Pilot.@@N@@
open Jvm Jvm.ClassFile Sem Op Lib Jvm.Free Jvm.Stand Jvm.LawKit Jvm.RoadKit Jvm.OwnKit Bundle Jvm.Pilot.@@N@@.Jvm.D
abbrev y1 : MethodName := ⟨"com/example/byteloom/byteloom/cbor/CborReaderAtEndPinLaw", "pick", "(I)I"⟩
theorem d1_0 : decode method_3_code 0 = .ok (.iload_n 0, 1) := by decide +kernel
theorem d1_1 : decode method_3_code 1 = .ok (.sipush 256, 3) := by decide +kernel
theorem d1_4 : decode method_3_code 4 = .ok (.iand, 1) := by decide +kernel
theorem d1_5 : decode method_3_code 5 = .ok (.ifCond .eq 9, 3) := by decide +kernel
theorem d1_8 : decode method_3_code 8 = .ok (.sipush 246, 3) := by decide +kernel
theorem d1_11 : decode method_3_code 11 = .ok (.goto 8, 3) := by decide +kernel
theorem d1_14 : decode method_3_code 14 = .ok (.iload_n 0, 1) := by decide +kernel
theorem d1_15 : decode method_3_code 15 = .ok (.sipush 255, 3) := by decide +kernel
theorem d1_18 : decode method_3_code 18 = .ok (.iand, 1) := by decide +kernel
theorem d1_19 : decode method_3_code 19 = .ok (.ireturn, 1) := by decide +kernel
abbrev y2 : MethodName := ⟨"com/example/byteloom/byteloom/cbor/CborReader", "<init>", "([BI)V"⟩
theorem d2_0 : decode prog_6_method_2_code 0 = .ok (.aload_n 0, 1) := by decide +kernel
theorem d2_1 : decode prog_6_method_2_code 1 = .ok (.invokespecial 7, 3) := by decide +kernel
theorem d2_4 : decode prog_6_method_2_code 4 = .ok (.iload_n 2, 1) := by decide +kernel
theorem d2_5 : decode prog_6_method_2_code 5 = .ok (.ifCond .ge 17, 3) := by decide +kernel
theorem d2_8 : decode prog_6_method_2_code 8 = .ok (.new 12, 3) := by decide +kernel
theorem d2_11 : decode prog_6_method_2_code 11 = .ok (.dup, 1) := by decide +kernel
theorem d2_12 : decode prog_6_method_2_code 12 = .ok (.iload_n 2, 1) := by decide +kernel
theorem d2_13 : decode prog_6_method_2_code 13 = .ok (.invokedynamic 14, 5) := by decide +kernel
theorem d2_18 : decode prog_6_method_2_code 18 = .ok (.invokespecial 18, 3) := by decide +kernel
theorem d2_21 : decode prog_6_method_2_code 21 = .ok (.athrow, 1) := by decide +kernel
theorem d2_22 : decode prog_6_method_2_code 22 = .ok (.aload_n 0, 1) := by decide +kernel
theorem d2_23 : decode prog_6_method_2_code 23 = .ok (.aload_n 1, 1) := by decide +kernel
theorem d2_24 : decode prog_6_method_2_code 24 = .ok (.putfield 21, 3) := by decide +kernel
theorem d2_27 : decode prog_6_method_2_code 27 = .ok (.aload_n 0, 1) := by decide +kernel
theorem d2_28 : decode prog_6_method_2_code 28 = .ok (.iload_n 2, 1) := by decide +kernel
theorem d2_29 : decode prog_6_method_2_code 29 = .ok (.putfield 25, 3) := by decide +kernel
theorem d2_32 : decode prog_6_method_2_code 32 = .ok (.return_, 1) := by decide +kernel
abbrev y3 : MethodName := ⟨"java/lang/Object", "<init>", "()V"⟩
abbrev y4 : MethodName := ⟨"com/example/byteloom/byteloom/cbor/CborReader", "atEnd", "()Z"⟩
theorem d4_0 : decode prog_6_method_29_code 0 = .ok (.aload_n 0, 1) := by decide +kernel
theorem d4_1 : decode prog_6_method_29_code 1 = .ok (.getfield 57, 3) := by decide +kernel
theorem d4_4 : decode prog_6_method_29_code 4 = .ok (.aload_n 0, 1) := by decide +kernel
theorem d4_5 : decode prog_6_method_29_code 5 = .ok (.getfield 21, 3) := by decide +kernel
theorem d4_8 : decode prog_6_method_29_code 8 = .ok (.arraylength, 1) := by decide +kernel
theorem d4_9 : decode prog_6_method_29_code 9 = .ok (.if_icmp .ne 7, 3) := by decide +kernel
theorem d4_12 : decode prog_6_method_29_code 12 = .ok (.iconst 1, 1) := by decide +kernel
theorem d4_13 : decode prog_6_method_29_code 13 = .ok (.goto 4, 3) := by decide +kernel
theorem d4_16 : decode prog_6_method_29_code 16 = .ok (.iconst 0, 1) := by decide +kernel
theorem d4_17 : decode prog_6_method_29_code 17 = .ok (.ireturn, 1) := by decide +kernel
abbrev y5 : MethodName := ⟨"com/example/byteloom/byteloom/cbor/CborReader", "readNull", "()Z"⟩
theorem d5_0 : decode prog_6_method_27_code 0 = .ok (.aload_n 0, 1) := by decide +kernel
theorem d5_1 : decode prog_6_method_27_code 1 = .ok (.getfield 57, 3) := by decide +kernel
theorem d5_4 : decode prog_6_method_27_code 4 = .ok (.aload_n 0, 1) := by decide +kernel
theorem d5_5 : decode prog_6_method_27_code 5 = .ok (.getfield 21, 3) := by decide +kernel
theorem d5_8 : decode prog_6_method_27_code 8 = .ok (.arraylength, 1) := by decide +kernel
theorem d5_9 : decode prog_6_method_27_code 9 = .ok (.if_icmp .ge 26, 3) := by decide +kernel
theorem d5_12 : decode prog_6_method_27_code 12 = .ok (.aload_n 0, 1) := by decide +kernel
theorem d5_13 : decode prog_6_method_27_code 13 = .ok (.getfield 21, 3) := by decide +kernel
theorem d5_16 : decode prog_6_method_27_code 16 = .ok (.aload_n 0, 1) := by decide +kernel
theorem d5_17 : decode prog_6_method_27_code 17 = .ok (.getfield 57, 3) := by decide +kernel
theorem d5_20 : decode prog_6_method_27_code 20 = .ok (.baload, 1) := by decide +kernel
theorem d5_21 : decode prog_6_method_27_code 21 = .ok (.sipush 255, 3) := by decide +kernel
theorem d5_24 : decode prog_6_method_27_code 24 = .ok (.iand, 1) := by decide +kernel
theorem d5_25 : decode prog_6_method_27_code 25 = .ok (.sipush 246, 3) := by decide +kernel
theorem d5_28 : decode prog_6_method_27_code 28 = .ok (.if_icmp .ne 7, 3) := by decide +kernel
theorem d5_31 : decode prog_6_method_27_code 31 = .ok (.iconst 1, 1) := by decide +kernel
theorem d5_32 : decode prog_6_method_27_code 32 = .ok (.goto 4, 3) := by decide +kernel
theorem d5_35 : decode prog_6_method_27_code 35 = .ok (.iconst 0, 1) := by decide +kernel
theorem d5_36 : decode prog_6_method_27_code 36 = .ok (.istore_n 1, 1) := by decide +kernel
theorem d5_37 : decode prog_6_method_27_code 37 = .ok (.iload_n 1, 1) := by decide +kernel
theorem d5_38 : decode prog_6_method_27_code 38 = .ok (.ifCond .eq 13, 3) := by decide +kernel
theorem d5_41 : decode prog_6_method_27_code 41 = .ok (.aload_n 0, 1) := by decide +kernel
theorem d5_42 : decode prog_6_method_27_code 42 = .ok (.dup, 1) := by decide +kernel
theorem d5_43 : decode prog_6_method_27_code 43 = .ok (.getfield 57, 3) := by decide +kernel
theorem d5_46 : decode prog_6_method_27_code 46 = .ok (.iconst 1, 1) := by decide +kernel
theorem d5_47 : decode prog_6_method_27_code 47 = .ok (.iadd, 1) := by decide +kernel
theorem d5_48 : decode prog_6_method_27_code 48 = .ok (.putfield 57, 3) := by decide +kernel
theorem d5_51 : decode prog_6_method_27_code 51 = .ok (.iload_n 1, 1) := by decide +kernel
theorem d5_52 : decode prog_6_method_27_code 52 = .ok (.ireturn, 1) := by decide +kernel
abbrev y6 : MethodName := ⟨"com/example/byteloom/byteloom/cbor/CborReaderAtEndPinLaw", "step", "(IIIII)I"⟩
theorem d6_0 : decode method_4_code 0 = .ok (.iload_n 0, 1) := by decide +kernel
theorem d6_1 : decode method_4_code 1 = .ok (.iload_n 1, 1) := by decide +kernel
theorem d6_2 : decode method_4_code 2 = .ok (.if_icmp .lt 5, 3) := by decide +kernel
theorem d6_5 : decode method_4_code 5 = .ok (.iload_n 0, 1) := by decide +kernel
theorem d6_6 : decode method_4_code 6 = .ok (.ireturn, 1) := by decide +kernel
theorem d6_7 : decode method_4_code 7 = .ok (.iload_n 0, 1) := by decide +kernel
theorem d6_8 : decode method_4_code 8 = .ok (.ifCond .ne 7, 3) := by decide +kernel
theorem d6_11 : decode method_4_code 11 = .ok (.iload_n 2, 1) := by decide +kernel
theorem d6_12 : decode method_4_code 12 = .ok (.goto 14, 3) := by decide +kernel
theorem d6_15 : decode method_4_code 15 = .ok (.iload_n 0, 1) := by decide +kernel
theorem d6_16 : decode method_4_code 16 = .ok (.iconst 1, 1) := by decide +kernel
theorem d6_17 : decode method_4_code 17 = .ok (.if_icmp .ne 7, 3) := by decide +kernel
theorem d6_20 : decode method_4_code 20 = .ok (.iload_n 3, 1) := by decide +kernel
theorem d6_21 : decode method_4_code 21 = .ok (.goto 5, 3) := by decide +kernel
theorem d6_24 : decode method_4_code 24 = .ok (.iload 4, 2) := by decide +kernel
theorem d6_26 : decode method_4_code 26 = .ok (.istore 5, 2) := by decide +kernel
theorem d6_28 : decode method_4_code 28 = .ok (.iload 5, 2) := by decide +kernel
theorem d6_30 : decode method_4_code 30 = .ok (.sipush 246, 3) := by decide +kernel
theorem d6_33 : decode method_4_code 33 = .ok (.if_icmp .ne 9, 3) := by decide +kernel
theorem d6_36 : decode method_4_code 36 = .ok (.iload_n 0, 1) := by decide +kernel
theorem d6_37 : decode method_4_code 37 = .ok (.iconst 1, 1) := by decide +kernel
theorem d6_38 : decode method_4_code 38 = .ok (.iadd, 1) := by decide +kernel
theorem d6_39 : decode method_4_code 39 = .ok (.goto 4, 3) := by decide +kernel
theorem d6_42 : decode method_4_code 42 = .ok (.iload_n 0, 1) := by decide +kernel
theorem d6_43 : decode method_4_code 43 = .ok (.ireturn, 1) := by decide +kernel
theorem pf_0 : plainFor x = true := by first | exact plainFor_of_name (by first | (simp [plainName, overriddenIn, x]; done) | decide +kernel) | decide +kernel
theorem pd_0 : parseMethodDescriptor "(IIIIII)Z" = some ⟨[.int, .int, .int, .int, .int, .int], some .boolean⟩ := by decide +kernel
theorem pf_1 : plainFor y1 = true := by first | exact plainFor_of_name (by first | (simp [plainName, overriddenIn, y1]; done) | decide +kernel) | decide +kernel
theorem pd_1 : parseMethodDescriptor "(I)I" = some ⟨[.int], some .int⟩ := by decide +kernel
theorem pf_2 : plainFor y2 = true := by first | exact plainFor_of_name (by first | (simp [plainName, overriddenIn, y2]; done) | decide +kernel) | decide +kernel
theorem pd_2 : parseMethodDescriptor "([BI)V" = some ⟨[(.array .byte), .int], none⟩ := by decide +kernel
theorem pf_4 : plainFor y4 = true := by first | exact plainFor_of_name (by first | (simp [plainName, overriddenIn, y4]; done) | decide +kernel) | decide +kernel
theorem pd_4 : parseMethodDescriptor "()Z" = some ⟨[], some .boolean⟩ := by decide +kernel
theorem pf_5 : plainFor y5 = true := by first | exact plainFor_of_name (by first | (simp [plainName, overriddenIn, y5]; done) | decide +kernel) | decide +kernel
theorem pd_5 : parseMethodDescriptor "()Z" = some ⟨[], some .boolean⟩ := by decide +kernel
theorem pf_6 : plainFor y6 = true := by first | exact plainFor_of_name (by first | (simp [plainName, overriddenIn, y6]; done) | decide +kernel) | decide +kernel
theorem pd_6 : parseMethodDescriptor "(IIIII)I" = some ⟨[.int, .int, .int, .int, .int], some .int⟩ := by decide +kernel
def own_pick (x : Int32) : Int32 := if (x &&& (256 : Int32)) = (0 : Int32) then (x &&& (255 : Int32)) else (246 : Int32)
theorem own_pick_rng (x : Int32) : 0 ≤ (own_pick x).toInt ∧ (own_pick x).toInt ≤ 255 := by
  unfold own_pick
  have a := c_mask x (255 : Int32) 8 (by decide) (by decide)
  have k : (246 : Int32).toInt = 246 := rfl
  split <;> omega
def own_by (v : Int32) : Int32 := nar .byte v.toInt8.toInt32
theorem own_byte (v : Int32) (h : 0 ≤ v.toInt ∧ v.toInt ≤ 255) : (own_by v) &&& (255 : Int32) = v := by
  apply Int32.toInt_inj.mp
  rw [c_mask _ (255 : Int32) 8 (by decide) (by decide)]
  have a := c_i2b v
  have b := c_i2b v.toInt8.toInt32
  have e : own_by v = v.toInt8.toInt32.toInt8.toInt32 := rfl
  rw [e]
  omega
theorem own_lit (n : Int32) (h : n = (0 : Int32) ∨ n = (1 : Int32) ∨ n = (2 : Int32) ∨ n = (3 : Int32)) : 0 ≤ n.toInt ∧ n.toInt ≤ 3 := by
  rcases h with rfl | rfl | rfl | rfl <;> decide
theorem own_and3 (x : Int32) : 0 ≤ (x &&& (3 : Int32)).toInt ∧ (x &&& (3 : Int32)).toInt ≤ 3 := by
  have a := c_mask x (3 : Int32) 2 (by decide) (by decide)
  omega
theorem own_neg {n : Int32} (h : 0 ≤ n.toInt ∧ n.toInt ≤ 3) : ¬ n < (0 : Int32) := by
  rw [Int32.lt_iff_toInt_lt]; have : (0 : Int32).toInt = 0 := rfl; omega
theorem own_cap {n : Int32} (h : 0 ≤ n.toInt ∧ n.toInt ≤ 3) : n.toNatClampNeg ≤ 3 := by
  have q : n.toNatClampNeg = n.toInt.toNat := rfl
  rw [q]; omega

def own_at (v0 v1 v2 o : Int32) : Int32 := if o = (0 : Int32) then v0 else if o = (1 : Int32) then v1 else v2
def own_step (o n v0 v1 v2 : Int32) : Int32 := if o < n then (if own_at v0 v1 v2 o = (246 : Int32) then o + (1 : Int32) else o) else o
def own_inv (o n : Int32) : Prop := 0 ≤ o.toInt ∧ o.toInt ≤ n.toInt ∧ n.toInt ≤ 3
theorem own_three {o n : Int32} (h : own_inv o n) (q : o < n) : o = (0 : Int32) ∨ o = (1 : Int32) ∨ o = (2 : Int32) := by
  obtain ⟨h1, h2, h3⟩ := h
  rw [Int32.lt_iff_toInt_lt] at q
  have k0 : (0 : Int32).toInt = 0 := rfl
  have k1 : (1 : Int32).toInt = 1 := rfl
  have k2 : (2 : Int32).toInt = 2 := rfl
  simp only [← Int32.toInt_inj, k0, k1, k2]; omega
theorem own_inv_step {o n v0 v1 v2 : Int32} (h : own_inv o n) : own_inv (own_step o n v0 v1 v2) n := by
  unfold own_step
  by_cases q : o < n
  · rw [if_pos q]
    by_cases r : own_at v0 v1 v2 o = (246 : Int32)
    · rw [if_pos r]
      obtain ⟨h1, h2, h3⟩ := h
      rw [Int32.lt_iff_toInt_lt] at q
      have a := c_iadd o 1
      have k1 : (1 : Int32).toInt = 1 := rfl
      have l1 := (o + (1 : Int32)).toInt_lt
      have l2 := (o + (1 : Int32)).le_toInt
      unfold own_inv; omega
    · rw [if_neg r]; exact h
  · rw [if_neg q]; exact h
theorem own_pos {o n : Int32} (h : own_inv o n) : ¬ o < (0 : Int32) := by
  rw [Int32.lt_iff_toInt_lt]; have : (0 : Int32).toInt = 0 := rfl; unfold own_inv at h; omega
/-- what the array holds, seen from the law's ints -/
def own_rel (n q0 q1 q2 v0 v1 v2 : Int32) : Prop := ((0 : Int32) < n → q0 &&& (255 : Int32) = v0) ∧ ((1 : Int32) < n → q1 &&& (255 : Int32) = v1) ∧ ((2 : Int32) < n → q2 &&& (255 : Int32) = v2)
theorem own_read {o n q0 q1 q2 : Int32} (h : own_inv o n) (q : o < n) : ([.int q0, .int q1, .int q2] : List Value).getD o.toNatClampNeg (.int (0 : Int32)) = .int (own_at q0 q1 q2 o) := by
  rcases own_three h q with rfl | rfl | rfl <;> rfl
theorem own_nxt {o n q0 q1 q2 v0 v1 v2 : Int32} (h : own_inv o n) (r : own_rel n q0 q1 q2 v0 v1 v2) : (if (o < n ∧ ((own_at q0 q1 q2 o) &&& (255 : Int32)) = (246 : Int32)) then (o + (1 : Int32)) else o) = own_step o n v0 v1 v2 := by
  unfold own_step
  by_cases q : o < n
  · have e : (own_at q0 q1 q2 o) &&& (255 : Int32) = own_at v0 v1 v2 o := by
      rcases own_three h q with rfl | rfl | rfl
      · exact r.1 q
      · exact r.2.1 q
      · exact r.2.2 q
    simp only [q, true_and, e, if_true]
  · simp only [q, false_and, if_false]
theorem own_in0 {n j : Int32} (h : j < n) (q : ¬ j < (0 : Int32)) : ¬ j < (0 : Int32) ∧ j < n := ⟨q, h⟩
theorem own_lt2 {a b n : Int32} (h : ¬ a < n) (q : b < n) (r : a.toInt ≤ b.toInt) : False := by
  rw [Int32.lt_iff_toInt_lt] at h q; omega

theorem ef_rmPick (m : MethodId) (x0 : Int32) : entryFrame m #[(.int x0)] 1 = mkF m 0 #[.val (.int x0)] [] := by first | (simp [entryFrame, mkF, argsToLocals, Value.category]; done) | rfl
set_option maxRecDepth 65536 in
set_option maxHeartbeats 40000000 in
theorem rmPick (l : Launch) (Z : State) (a0 : Array Value) (hw : ∀ d ∈ tables_1, d.before a0 Z = true) (x0 : Int32) (h0 : Heap) :
    OMeets l Z y1 method_3_code 1 (some .int) ({ frames := 0, cells := 0, slots := 0, locals := 0 } : Room) #[(.int x0)] h0 (OPure (some (.int (own_pick x0))) h0) := by
  refine met (Q := OPure (some (.int (own_pick x0))) h0) pf_1 (fun m => ef_rmPick m x0) fun p e s m below meth c T0 P0 => ?_
  refine G.iloadN P0 d1_0 rfl (pc' := 1) rfl ?_
  refine G.sipush P0 d1_1 (z := (256 : Int32)) rfl (pc' := 4) rfl ?_
  refine G.iand P0 d1_4 rfl (pc' := 5) rfl ?_
  refine G.if_eq P0 d1_5 (by decide) (pcY := 14) (by decide) (pcN := 8) rfl (fun c1 => ?_) (fun c1 => ?_)
  · --
    refine G.iloadN P0 d1_14 rfl (pc' := 15) rfl ?_
    refine G.sipush P0 d1_15 (z := (255 : Int32)) rfl (pc' := 18) rfl ?_
    refine G.iand P0 d1_18 rfl (pc' := 19) rfl ?_
    have e_ : (x0 &&& (255 : Int32)) = own_pick x0 := (if_pos c1).symm
    exact G.retI P0 d1_19 (by decide) (by decide) ⟨sI e_, rfl, rfl⟩
  · --
    refine G.sipush P0 d1_8 (z := (246 : Int32)) rfl (pc' := 11) rfl ?_
    refine G.goto P0 d1_11 (by decide) (pc' := 19) (by decide) ?_
    have e_ : (246 : Int32) = own_pick x0 := (if_neg c1).symm
    exact G.retI P0 d1_19 (by decide) (by decide) ⟨sI e_, rfl, rfl⟩

theorem ef_rmInit (m : MethodId) (a b : Addr) (x2 : Int32) : entryFrame m #[(.ref a), (.ref b), (.int x2)] 3 = mkF m 0 #[.val (.ref a), .val (.ref b), .val (.int x2)] [] := by first | (simp [entryFrame, mkF, argsToLocals, Value.category]; done) | rfl
set_option maxRecDepth 65536 in
set_option maxHeartbeats 40000000 in
theorem rmInit (l : Launch) (Z : State) (a0 : Array Value) (hw : ∀ d ∈ tables_1, d.before a0 Z = true) (a b : Addr) (x2 : Int32) (h0 : Heap) (hc : ¬ x2 < (0 : Int32)) (n0 : Nat) (g0 : n0 ≤ a) (E0 : Exa Z h0 a "com/example/byteloom/byteloom/cbor/CborReader") (FB : Fld Z h0 a "com/example/byteloom/byteloom/cbor/CborReader" "bytes" "[B" .null) (FO : Fld Z h0 a "com/example/byteloom/byteloom/cbor/CborReader" "offset" "I" (.int (0 : Int32))) (FN : Fld Z h0 a "com/example/byteloom/byteloom/cbor/CborReader" "maxNesting" "I" (.int (0 : Int32))) :
    OMeets l Z y2 prog_6_method_2_code 3 none ({ frames := 1, cells := 0, slots := 0, locals := 12 } : Room) #[(.ref a), (.ref b), (.int x2)] h0 (fun v h L => v = none ∧ Fr n0 L ∧ Keep h0 h [a] ∧ Fld Z h a "com/example/byteloom/byteloom/cbor/CborReader" "bytes" "[B" (.ref b) ∧ Fld Z h a "com/example/byteloom/byteloom/cbor/CborReader" "offset" "I" (.int (0 : Int32))) := by
  refine met (Q := fun v h L => v = none ∧ Fr n0 L ∧ Keep h0 h [a] ∧ Fld Z h a "com/example/byteloom/byteloom/cbor/CborReader" "bytes" "[B" (.ref b) ∧ Fld Z h a "com/example/byteloom/byteloom/cbor/CborReader" "offset" "I" (.int (0 : Int32))) pf_2 (fun m => ef_rmInit m a b x2) fun p e s m below meth c T0 P0 => ?_
  have N0 := Fr.nil n0
  have K0 := Keep.refl h0 [a]
  refine G.aloadN P0 d2_0 rfl rfl (pc' := 1) rfl ?_
  obtain ⟨T1, X1, e1, s1⟩ := Jvm.RoadKit.initO P0.st P0.x P0.z P0.ow (wk hw 12 rfl) (wk hw 13 rfl) (wk hw 14 rfl) P0.eh (g := (mkF m 1 #[.val (.ref a), .val (.ref b), .val (.int x2)] [(.ref a)])) rfl (by rw [P0.mx]; rfl) rfl (hb P0.bt d2_1) (by decide) (W := 0) (by show 2 * 0 + _ ≤ _; exact Nat.le_of_eq rfl) (by decide)
  have P1 := Pos.re P0 X1 e1
  refine Go.via s1 ?_
  show Go p e below _ (T1.setTop (mkF m 4 #[.val (.ref a), .val (.ref b), .val (.int x2)] []))
  refine G.iloadN P1 d2_4 rfl (pc' := 5) rfl ?_
  refine G.if_ge P1 d2_5 (by decide) (pcY := 22) (by decide) (pcN := 8) rfl (fun cc => ?_) (fun cc => absurd cc hc)
  refine G.aloadN P1 d2_22 rfl rfl (pc' := 23) rfl ?_
  refine G.aloadN P1 d2_23 rfl rfl (pc' := 24) rfl ?_
  refine G.putF P1 (host := "") (Or.inl (wk hw 15 rfl)) Via.refl FB E0 (Or.inr ⟨(wk hw 16 rfl), rfl, rfl⟩) (wk hw 6 rfl) (ty := (.array .byte)) (by decide) rfl rfl d2_24 (pc' := 27) rfl fun T2 h2 P2 W2 => ?_
  have f2 := FB.same W2
  have N3 := Fr.snoc P2.st N0 g0
  have K4 := K0.wr W2 (Or.inl (List.mem_of_getElem? (i := 0) rfl))
  refine G.aloadN P2 d2_27 rfl rfl (pc' := 28) rfl ?_
  refine G.iloadN P2 d2_28 rfl (pc' := 29) rfl ?_
  have f5 := (FN.other W2 (Or.inr (slot_ne (Or.inr (wk hw 18 rfl)) (Or.inr (wk hw 16 rfl)) (by decide) (t := .int) (t' := (.array .byte)) (by decide) (by decide))))
  have f6 := (E0.wr W2)
  refine G.putF P2 (host := "") (Or.inl (wk hw 17 rfl)) Via.refl f5 f6 (Or.inr ⟨(wk hw 18 rfl), rfl, rfl⟩) (wk hw 6 rfl) (ty := .int) (by decide) rfl rfl d2_29 (pc' := 32) rfl fun T7 h7 P7 W7 => ?_
  have f7 := f5.same W7
  have N8 := Fr.snoc P7.st N3 g0
  have K9 := K4.wr W7 (Or.inl (List.mem_of_getElem? (i := 0) rfl))
  have f10 := (f2.other W7 (Or.inr (slot_ne (Or.inr (wk hw 16 rfl)) (Or.inr (wk hw 18 rfl)) (by decide) (t := (.array .byte)) (t' := .int) (by decide) (by decide))))
  have f11 := ((FO.other W2 (Or.inr (slot_ne (Or.inl (wk hw 25 rfl)) (Or.inr (wk hw 16 rfl)) (by decide) (t := .int) (t' := (.array .byte)) (by decide) (by decide)))).other W7 (Or.inr (slot_ne (Or.inl (wk hw 25 rfl)) (Or.inr (wk hw 18 rfl)) (by decide) (t := .int) (t' := .int) (by decide) (by decide))))
  exact G.retV P7 d2_32 (by decide) (by decide) ⟨rfl, N8, K9, f10, f11⟩

theorem ef_rmEnd (m : MethodId) (a : Addr) : entryFrame m #[(.ref a)] 1 = mkF m 0 #[.val (.ref a)] [] := by first | (simp [entryFrame, mkF, argsToLocals, Value.category]; done) | rfl
set_option maxRecDepth 65536 in
set_option maxHeartbeats 40000000 in
theorem rmEnd (l : Launch) (Z : State) (a0 : Array Value) (hw : ∀ d ∈ tables_1, d.before a0 Z = true) (a b : Addr) (off n : Int32) (kk : ClassId) (vs : List Value) (dv : Value) (h0 : Heap) (FB : Fld Z h0 a "com/example/byteloom/byteloom/cbor/CborReader" "bytes" "[B" (.ref b)) (FO : Fld Z h0 a "com/example/byteloom/byteloom/cbor/CborReader" "offset" "I" (.int off)) (V : Arv Z h0 b kk .byte n vs dv) :
    OMeets l Z y4 prog_6_method_29_code 1 (some .boolean) ({ frames := 0, cells := 0, slots := 0, locals := 0 } : Room) #[(.ref a)] h0 (OPure (some (.int (if off = n then (1 : Int32) else (0 : Int32)))) h0) := by
  refine met (Q := OPure (some (.int (if off = n then (1 : Int32) else (0 : Int32)))) h0) pf_4 (fun m => ef_rmEnd m a) fun p e s m below meth c T0 P0 => ?_
  refine G.aloadN P0 d4_0 rfl rfl (pc' := 1) rfl ?_
  refine G.getF P0 (host := "") (Or.inl (wk hw 24 rfl)) Via.refl FO d4_1 (pc' := 4) rfl fun T1 P1 => ?_
  refine G.aloadN P1 d4_4 rfl rfl (pc' := 5) rfl ?_
  refine G.getF P1 (host := "") (Or.inl (wk hw 15 rfl)) Via.refl FB d4_5 (pc' := 8) rfl fun T2 P2 => ?_
  refine G.alen P2 V d4_8 (pc' := 9) rfl ?_
  refine G.icmp_ne P2 d4_9 (by decide) (pcY := 16) (by decide) (pcN := 12) rfl (fun c3 => ?_) (fun c3 => ?_)
  · --
    refine G.iconst P2 d4_16 (z := (0 : Int32)) rfl (pc' := 17) rfl ?_
    have e_ : (0 : Int32) = (if off = n then (1 : Int32) else (0 : Int32)) := (if_neg c3).symm
    exact G.retN P2 (t := .boolean) rfl (by simp) d4_17 (by decide) (by decide) ⟨sI e_, rfl, rfl⟩
  · --
    refine G.iconst P2 d4_12 (z := (1 : Int32)) rfl (pc' := 13) rfl ?_
    refine G.goto P2 d4_13 (by decide) (pc' := 17) (by decide) ?_
    have e_ : (1 : Int32) = (if off = n then (1 : Int32) else (0 : Int32)) := (if_pos c3).symm
    exact G.retN P2 (t := .boolean) rfl (by simp) d4_17 (by decide) (by decide) ⟨sI e_, rfl, rfl⟩

theorem ef_rmRead (m : MethodId) (a : Addr) : entryFrame m #[(.ref a)] 2 = mkF m 0 #[.val (.ref a), .unset] [] := by first | (simp [entryFrame, mkF, argsToLocals, Value.category]; done) | rfl
set_option maxRecDepth 65536 in
set_option maxHeartbeats 40000000 in
theorem rmRead (l : Launch) (Z : State) (a0 : Array Value) (hw : ∀ d ∈ tables_1, d.before a0 Z = true) (a b : Addr) (off n xx : Int32) (kk : ClassId) (vs : List Value) (dv : Value) (h0 : Heap) (n0 : Nat) (g0 : n0 ≤ a) (hab : a ≠ b) (E0 : Exa Z h0 a "com/example/byteloom/byteloom/cbor/CborReader") (FB : Fld Z h0 a "com/example/byteloom/byteloom/cbor/CborReader" "bytes" "[B" (.ref b)) (FO : Fld Z h0 a "com/example/byteloom/byteloom/cbor/CborReader" "offset" "I" (.int off)) (V : Arv Z h0 b kk .byte n vs dv) (ho : ¬ off < (0 : Int32)) (hx : off < n → vs.getD off.toNatClampNeg dv = .int xx) :
    OMeets l Z y5 prog_6_method_27_code 2 (some .boolean) ({ frames := 0, cells := 0, slots := 0, locals := 0 } : Room) #[(.ref a)] h0 (fun v h L => v = some (.int (if (off < n ∧ (xx &&& (255 : Int32)) = (246 : Int32)) then (1 : Int32) else (0 : Int32))) ∧ Fr n0 L ∧ Keep h0 h [a] ∧ Exa Z h a "com/example/byteloom/byteloom/cbor/CborReader" ∧ Fld Z h a "com/example/byteloom/byteloom/cbor/CborReader" "bytes" "[B" (.ref b) ∧ Fld Z h a "com/example/byteloom/byteloom/cbor/CborReader" "offset" "I" (.int (if (off < n ∧ (xx &&& (255 : Int32)) = (246 : Int32)) then (off + (1 : Int32)) else off))) := by
  refine met (Q := fun v h L => v = some (.int (if (off < n ∧ (xx &&& (255 : Int32)) = (246 : Int32)) then (1 : Int32) else (0 : Int32))) ∧ Fr n0 L ∧ Keep h0 h [a] ∧ Exa Z h a "com/example/byteloom/byteloom/cbor/CborReader" ∧ Fld Z h a "com/example/byteloom/byteloom/cbor/CborReader" "bytes" "[B" (.ref b) ∧ Fld Z h a "com/example/byteloom/byteloom/cbor/CborReader" "offset" "I" (.int (if (off < n ∧ (xx &&& (255 : Int32)) = (246 : Int32)) then (off + (1 : Int32)) else off))) pf_5 (fun m => ef_rmRead m a) fun p e s m below meth c T0 P0 => ?_
  have N0 := Fr.nil n0
  have K0 := Keep.refl h0 [a]
  refine G.aloadN P0 d5_0 rfl rfl (pc' := 1) rfl ?_
  refine G.getF P0 (host := "") (Or.inl (wk hw 24 rfl)) Via.refl FO d5_1 (pc' := 4) rfl fun T1 P1 => ?_
  refine G.aloadN P1 d5_4 rfl rfl (pc' := 5) rfl ?_
  refine G.getF P1 (host := "") (Or.inl (wk hw 15 rfl)) Via.refl FB d5_5 (pc' := 8) rfl fun T2 P2 => ?_
  refine G.alen P2 V d5_8 (pc' := 9) rfl ?_
  refine G.icmp_ge P2 d5_9 (by decide) (pcY := 35) (by decide) (pcN := 12) rfl (fun c3 => ?_) (fun c3 => ?_)
  · --
    have e_ : ¬ (off < n ∧ (xx &&& (255 : Int32)) = (246 : Int32)) := fun q => c3 q.1
    refine G.iconst P2 d5_35 (z := (0 : Int32)) rfl (pc' := 36) rfl ?_
    refine G.istoreN P2 d5_36 (l' := #[.val (.ref a), .val (.int (0 : Int32))]) rfl (pc' := 37) rfl ?_
    refine G.iloadN P2 d5_37 rfl (pc' := 38) rfl ?_
    refine G.if_eq P2 d5_38 (by decide) (pcY := 51) (by decide) (pcN := 41) rfl (fun c4 => ?_) (fun c4 => absurd c4 (by decide))
    refine G.iloadN P2 d5_51 rfl (pc' := 52) rfl ?_
    have e1_ : (0 : Int32) = (if (off < n ∧ (xx &&& (255 : Int32)) = (246 : Int32)) then (1 : Int32) else (0 : Int32)) := (if_neg e_).symm
    have e2_ := FO
    rw [← (if_neg e_ : (if (off < n ∧ (xx &&& (255 : Int32)) = (246 : Int32)) then (off + (1 : Int32)) else off) = off)] at e2_
    exact G.retN P2 (t := .boolean) rfl (by simp) d5_52 (by decide) (by decide) ⟨sI e1_, N0, K0, E0, FB, e2_⟩
  · --
    refine G.aloadN P2 d5_12 rfl rfl (pc' := 13) rfl ?_
    refine G.getF P2 (host := "") (Or.inl (wk hw 15 rfl)) Via.refl FB d5_13 (pc' := 16) rfl fun T5 P5 => ?_
    refine G.aloadN P5 d5_16 rfl rfl (pc' := 17) rfl ?_
    refine G.getF P5 (host := "") (Or.inl (wk hw 24 rfl)) Via.refl FO d5_17 (pc' := 20) rfl fun T6 P6 => ?_
    refine G.baloadB P6 V (j := off) (v := .int xx) ⟨ho, c3⟩ (hx c3) d5_20 (pc' := 21) rfl ?_
    refine G.sipush P6 d5_21 (z := (255 : Int32)) rfl (pc' := 24) rfl ?_
    refine G.iand P6 d5_24 rfl (pc' := 25) rfl ?_
    refine G.sipush P6 d5_25 (z := (246 : Int32)) rfl (pc' := 28) rfl ?_
    refine G.icmp_ne P6 d5_28 (by decide) (pcY := 35) (by decide) (pcN := 31) rfl (fun c7 => ?_) (fun c7 => ?_)
    · --
      have e_ : ¬ (off < n ∧ (xx &&& (255 : Int32)) = (246 : Int32)) := fun q => c7 q.2
      refine G.iconst P6 d5_35 (z := (0 : Int32)) rfl (pc' := 36) rfl ?_
      refine G.istoreN P6 d5_36 (l' := #[.val (.ref a), .val (.int (0 : Int32))]) rfl (pc' := 37) rfl ?_
      refine G.iloadN P6 d5_37 rfl (pc' := 38) rfl ?_
      refine G.if_eq P6 d5_38 (by decide) (pcY := 51) (by decide) (pcN := 41) rfl (fun c8 => ?_) (fun c8 => absurd c8 (by decide))
      refine G.iloadN P6 d5_51 rfl (pc' := 52) rfl ?_
      have e1_ : (0 : Int32) = (if (off < n ∧ (xx &&& (255 : Int32)) = (246 : Int32)) then (1 : Int32) else (0 : Int32)) := (if_neg e_).symm
      have e2_ := FO
      rw [← (if_neg e_ : (if (off < n ∧ (xx &&& (255 : Int32)) = (246 : Int32)) then (off + (1 : Int32)) else off) = off)] at e2_
      exact G.retN P6 (t := .boolean) rfl (by simp) d5_52 (by decide) (by decide) ⟨sI e1_, N0, K0, E0, FB, e2_⟩
    · --
      have e_ : (off < n ∧ (xx &&& (255 : Int32)) = (246 : Int32)) := ⟨c3, c7⟩
      refine G.iconst P6 d5_31 (z := (1 : Int32)) rfl (pc' := 32) rfl ?_
      refine G.goto P6 d5_32 (by decide) (pc' := 36) (by decide) ?_
      refine G.istoreN P6 d5_36 (l' := #[.val (.ref a), .val (.int (1 : Int32))]) rfl (pc' := 37) rfl ?_
      refine G.iloadN P6 d5_37 rfl (pc' := 38) rfl ?_
      refine G.if_eq P6 d5_38 (by decide) (pcY := 51) (by decide) (pcN := 41) rfl (fun c9 => absurd c9 (by decide)) (fun c9 => ?_)
      refine G.aloadN P6 d5_41 rfl rfl (pc' := 42) rfl ?_
      refine G.dup P6 d5_42 rfl (pc' := 43) rfl ?_
      refine G.getF P6 (host := "") (Or.inl (wk hw 24 rfl)) Via.refl FO d5_43 (pc' := 46) rfl fun T10 P10 => ?_
      refine G.iconst P10 d5_46 (z := (1 : Int32)) rfl (pc' := 47) rfl ?_
      refine G.iadd P10 d5_47 rfl (pc' := 48) rfl ?_
      refine G.putF P10 (host := "") (Or.inl (wk hw 24 rfl)) Via.refl FO E0 (Or.inl (wk hw 25 rfl)) (wk hw 6 rfl) (ty := .int) (by decide) rfl rfl d5_48 (pc' := 51) rfl fun T11 h11 P11 W11 => ?_
      have f11 := FO.same W11
      have N12 := Fr.snoc P11.st N0 g0
      have K13 := K0.wr W11 (Or.inl (List.mem_of_getElem? (i := 0) rfl))
      have e1_ : (1 : Int32) = (if (off < n ∧ (xx &&& (255 : Int32)) = (246 : Int32)) then (1 : Int32) else (0 : Int32)) := (if_pos e_).symm
      have e2_ := f11
      rw [← (if_pos e_ : (if (off < n ∧ (xx &&& (255 : Int32)) = (246 : Int32)) then (off + (1 : Int32)) else off) = (off + (1 : Int32)))] at e2_
      have f14 := (E0.wr W11)
      have f15 := (FB.other W11 (Or.inr (slot_ne (Or.inr (wk hw 16 rfl)) (Or.inl (wk hw 25 rfl)) (by decide) (t := (.array .byte)) (t' := .int) (by decide) (by decide))))
      refine G.iloadN P11 d5_51 rfl (pc' := 52) rfl ?_
      exact G.retN P11 (t := .boolean) rfl (by simp) d5_52 (by decide) (by decide) ⟨sI e1_, N12, K13, f14, f15, e2_⟩

theorem ef_rmStep (m : MethodId) (o n v0 v1 v2 : Int32) : entryFrame m #[(.int o), (.int n), (.int v0), (.int v1), (.int v2)] 6 = mkF m 0 #[.val (.int o), .val (.int n), .val (.int v0), .val (.int v1), .val (.int v2), .unset] [] := by first | (simp [entryFrame, mkF, argsToLocals, Value.category]; done) | rfl
set_option maxRecDepth 65536 in
set_option maxHeartbeats 40000000 in
theorem rmStep (l : Launch) (Z : State) (a0 : Array Value) (hw : ∀ d ∈ tables_1, d.before a0 Z = true) (o n v0 v1 v2 : Int32) (h0 : Heap) :
    OMeets l Z y6 method_4_code 6 (some .int) ({ frames := 0, cells := 0, slots := 0, locals := 0 } : Room) #[(.int o), (.int n), (.int v0), (.int v1), (.int v2)] h0 (OPure (some (.int (own_step o n v0 v1 v2))) h0) := by
  refine met (Q := OPure (some (.int (own_step o n v0 v1 v2))) h0) pf_6 (fun m => ef_rmStep m o n v0 v1 v2) fun p e s m below meth c T0 P0 => ?_
  refine G.iloadN P0 d6_0 rfl (pc' := 1) rfl ?_
  refine G.iloadN P0 d6_1 rfl (pc' := 2) rfl ?_
  refine G.icmp_lt P0 d6_2 (by decide) (pcY := 7) (by decide) (pcN := 5) rfl (fun c1 => ?_) (fun c1 => ?_)
  · --
    refine G.iloadN P0 d6_7 rfl (pc' := 8) rfl ?_
    refine Go.all (S1 := fun vv : Int32 => T0.setTop (mkF m 26 #[.val (.int o), .val (.int n), .val (.int v0), .val (.int v1), .val (.int v2), .unset] [(.int vv)])) (A := fun vv => vv = own_at v0 v1 v2 o) (fun H2 => ?_) (fun vv j2 => ?_)
    · --
      refine G.if_ne P0 d6_8 (by decide) (pcY := 15) (by decide) (pcN := 11) rfl (fun c3 => ?_) (fun c3 => ?_)
      · --
        refine G.iloadN P0 d6_15 rfl (pc' := 16) rfl ?_
        refine G.iconst P0 d6_16 (z := (1 : Int32)) rfl (pc' := 17) rfl ?_
        refine G.icmp_ne P0 d6_17 (by decide) (pcY := 24) (by decide) (pcN := 20) rfl (fun c4 => ?_) (fun c4 => ?_)
        · --
          refine G.iload P0 d6_24 rfl (pc' := 26) rfl ?_
          exact H2 (v2) (((if_neg c3).trans (if_neg c4)).symm)
        · --
          refine G.iloadN P0 d6_20 rfl (pc' := 21) rfl ?_
          refine G.goto P0 d6_21 (by decide) (pc' := 26) (by decide) ?_
          exact H2 (v1) (((if_neg c3).trans (if_pos c4)).symm)
      · --
        refine G.iloadN P0 d6_11 rfl (pc' := 12) rfl ?_
        refine G.goto P0 d6_12 (by decide) (pc' := 26) (by decide) ?_
        exact H2 (v0) ((if_pos c3).symm)
    refine G.istore P0 d6_26 (l' := #[.val (.int o), .val (.int n), .val (.int v0), .val (.int v1), .val (.int v2), .val (.int vv)]) rfl (pc' := 28) rfl ?_
    refine G.iload P0 d6_28 rfl (pc' := 30) rfl ?_
    refine G.sipush P0 d6_30 (z := (246 : Int32)) rfl (pc' := 33) rfl ?_
    refine G.icmp_ne P0 d6_33 (by decide) (pcY := 42) (by decide) (pcN := 36) rfl (fun c5 => ?_) (fun c5 => ?_)
    · --
      refine G.iloadN P0 d6_42 rfl (pc' := 43) rfl ?_
      have e_ : o = own_step o n v0 v1 v2 := by
        unfold own_step
        rw [if_pos c1, ← j2]
        exact (if_neg c5).symm
      exact G.retI P0 d6_43 (by decide) (by decide) ⟨sI e_, rfl, rfl⟩
    · --
      refine G.iloadN P0 d6_36 rfl (pc' := 37) rfl ?_
      refine G.iconst P0 d6_37 (z := (1 : Int32)) rfl (pc' := 38) rfl ?_
      refine G.iadd P0 d6_38 rfl (pc' := 39) rfl ?_
      refine G.goto P0 d6_39 (by decide) (pc' := 43) (by decide) ?_
      have e_ : (o + (1 : Int32)) = own_step o n v0 v1 v2 := by
        unfold own_step
        rw [if_pos c1, ← j2]
        exact (if_pos c5).symm
      exact G.retI P0 d6_43 (by decide) (by decide) ⟨sI e_, rfl, rfl⟩
  · --
    refine G.iloadN P0 d6_5 rfl (pc' := 6) rfl ?_
    have e_ : o = own_step o n v0 v1 v2 := by unfold own_step; exact (if_neg c1).symm
    exact G.retI P0 d6_6 (by decide) (by decide) ⟨sI e_, rfl, rfl⟩

set_option maxRecDepth 65536 in
set_option maxHeartbeats 40000000 in
theorem own_tail {p : Program} {l : Launch} {e : Env} {s : State} {m : MethodId} {args : Array Value} {below : List Frame} {meth : Method} {c : Code} {Z : State} {T0 : State} {h0 : Heap} {locs : List Loc} {n0 : Nat} (a0 : Array Value) (hw : ∀ d ∈ tables_1, d.before a0 Z = true) (x0 x1 x2 x3 x4 x5 n v0 v1 v2 q0 q1 q2 : Int32) (b : Addr) (kk : ClassId) (P0 : Pos p l e room_1 s m args below meth c Z x.cls code maxLocals ret x.name T0 h0 locs 1 3) (N0 : Fr n0 locs) (Z0 : n0 ≤ Array.size h0) (gb : n0 ≤ b) (hn : 0 ≤ n.toInt ∧ n.toInt ≤ 3) (hr : own_rel n q0 q1 q2 v0 v1 v2) (V0 : Arv Z h0 b kk .byte n [.int q0, .int q1, .int q2] (.int (0 : Int32))) :
    Go p e below (NF s room_1.cells room_1.slots (fun v h L => v = some (.int 1) ∧ Fr n0 L)) (T0.setTop (mkF m 67 #[.val (.int x0), .val (.int x1), .val (.int x2), .val (.int x3), .val (.int x4), .val (.int x5), .val (.int n), .val (.int v0), .val (.int v1), .val (.int v2), .val (.ref b), .unset, .unset, .unset, .unset] [])) := by
  refine G.newO P0 (wk hw 5 rfl) (wk hw 6 rfl) (wk hw 7 rfl) at_67 (by decide) (pc' := 70) rfl fun T1 h1 a1 g1 P1 E1 A1 D1 => ?_
  have n2 : b ≠ a1 := by rw [g1]; exact Nat.ne_of_lt V0.lt
  have g3 : n0 ≤ a1 := by rw [g1]; exact Z0
  have f4 : Fld Z h1 a1 "com/example/byteloom/byteloom/cbor/CborReader" "bytes" "[B" .null := D1 (Or.inr (wk hw 16 rfl)) (ty := (.array .byte)) (by decide)
  have f5 : Fld Z h1 a1 "com/example/byteloom/byteloom/cbor/CborReader" "maxNesting" "I" (.int (0 : Int32)) := D1 (Or.inr (wk hw 18 rfl)) (ty := .int) (by decide)
  have f6 : Fld Z h1 a1 "com/example/byteloom/byteloom/cbor/CborReader" "offset" "I" (.int (0 : Int32)) := D1 (Or.inl (wk hw 25 rfl)) (ty := .int) (by decide)
  refine G.dup P1 at_70 rfl (pc' := 71) rfl ?_
  refine G.aload P1 at_71 rfl rfl (pc' := 73) rfl ?_
  refine G.iload P1 at_73 rfl (pc' := 75) rfl ?_
  refine G.ldcI P1 (wk hw 8 rfl) at_75 (pc' := 77) rfl ?_
  obtain ⟨nest, h_nest⟩ : ∃ z : Int32, (x5 &&& (2147483647 : Int32)) = z := ⟨_, rfl⟩
  refine G.iand P1 at_77 (z := nest) h_nest (pc' := 78) rfl ?_
  have hnest : ¬ nest < (0 : Int32) := by
    rw [← h_nest, Int32.lt_iff_toInt_lt, c_mask x5 (2147483647 : Int32) 31 (by decide) (by decide)]
    have : (0 : Int32).toInt = 0 := rfl
    omega
  refine G.callI P1 (rmInit l Z a0 hw a1 b nest h1 hnest n0 g3 A1 f4 f6 f5) rfl (wk hw 9 rfl) (wk hw 10 rfl) (wk hw 7 rfl) (wk hw 11 rfl) (by decide) pd_2 (argsL := [(.ref b), (.int nest)]) (rest := [(.ref a1)]) rfl rfl rfl rfl (W := 1) (Nat.le_of_eq rfl) (by decide) at_78 (pc' := 81) rfl fun T7 L7 v7 P7 Q7 => ?_
  obtain ⟨rfl, N7, K7, B7, O7⟩ := Q7
  have N8 := Fr.app N0 N7
  show Go p e below _ (T7.setTop (mkF m 81 #[.val (.int x0), .val (.int x1), .val (.int x2), .val (.int x3), .val (.int x4), .val (.int x5), .val (.int n), .val (.int v0), .val (.int v1), .val (.int v2), .val (.ref b), .unset, .unset, .unset, .unset] [(.ref a1)]))
  refine G.astore P7 at_81 rfl (l' := #[.val (.int x0), .val (.int x1), .val (.int x2), .val (.int x3), .val (.int x4), .val (.int x5), .val (.int n), .val (.int v0), .val (.int v1), .val (.int v2), .val (.ref b), .val (.ref a1), .unset, .unset, .unset]) rfl (pc' := 83) rfl ?_
  refine G.iload P7 at_83 rfl (pc' := 85) rfl ?_
  refine G.iconst P7 at_85 (z := (3 : Int32)) rfl (pc' := 86) rfl ?_
  obtain ⟨kc, h_kc⟩ : ∃ z : Int32, (x4 &&& (3 : Int32)) = z := ⟨_, rfl⟩
  refine G.iand P7 at_86 (z := kc) h_kc (pc' := 87) rfl ?_
  refine G.istore P7 at_87 (l' := #[.val (.int x0), .val (.int x1), .val (.int x2), .val (.int x3), .val (.int x4), .val (.int x5), .val (.int n), .val (.int v0), .val (.int v1), .val (.int v2), .val (.ref b), .val (.ref a1), .val (.int kc), .unset, .unset]) rfl (pc' := 89) rfl ?_
  refine G.iconst P7 at_89 (z := (0 : Int32)) rfl (pc' := 90) rfl ?_
  refine G.istore P7 at_90 (l' := #[.val (.int x0), .val (.int x1), .val (.int x2), .val (.int x3), .val (.int x4), .val (.int x5), .val (.int n), .val (.int v0), .val (.int v1), .val (.int v2), .val (.ref b), .val (.ref a1), .val (.int kc), .val (.int (0 : Int32)), .unset]) rfl (pc' := 92) rfl ?_
  refine G.aload P7 at_92 rfl rfl (pc' := 94) rfl ?_
  have i0 : own_inv (0 : Int32) n := ⟨by decide, by have := hn.1; exact this, hn.2⟩
  have f9 := ((V0.ext E1).keep K7 (ninS n2 nin0))
  have f10 := (A1.keep K7)
  refine G.callVP P7 (rmEnd l Z a0 hw a1 b (0 : Int32) n kk _ _ T7.heap B7 O7 f9) (wk hw 19 rfl) (wk hw 20 rfl) (wk hw 22 rfl) rfl (wk hw 21 rfl) (wk hw 7 rfl) (wk hw 23 rfl) (by decide) f10 pd_4 (argsL := []) (rest := []) rfl rfl rfl rfl (W := 0) (Nat.le_of_eq rfl) (by decide) at_94 (pc' := 97) rfl fun T11 P11 => ?_
  show Go p e below _ (T11.setTop (mkF m 97 #[.val (.int x0), .val (.int x1), .val (.int x2), .val (.int x3), .val (.int x4), .val (.int x5), .val (.int n), .val (.int v0), .val (.int v1), .val (.int v2), .val (.ref b), .val (.ref a1), .val (.int kc), .val (.int (0 : Int32)), .unset] [(.int (if (0 : Int32) = n then (1 : Int32) else (0 : Int32)))]))
  refine G.iload P11 at_97 rfl (pc' := 99) rfl ?_
  refine Go.all (S1 := fun t12 : Int32 => T11.setTop (mkF m 107 #[.val (.int x0), .val (.int x1), .val (.int x2), .val (.int x3), .val (.int x4), .val (.int x5), .val (.int n), .val (.int v0), .val (.int v1), .val (.int v2), .val (.ref b), .val (.ref a1), .val (.int kc), .val (.int (0 : Int32)), .unset] [(.int t12), (.int (if (0 : Int32) = n then (1 : Int32) else (0 : Int32)))])) (A := fun t12 => t12 = (if (0 : Int32) = n then (1 : Int32) else (0 : Int32))) (fun H13 => ?_) (fun t12 j13 => ?_)
  · --
    refine G.if_ne P11 at_99 (by decide) (pcY := 106) (by decide) (pcN := 102) rfl (fun c14 => ?_) (fun c14 => ?_)
    · --
      refine G.iconst P11 at_106 (z := (0 : Int32)) rfl (pc' := 107) rfl ?_
      exact H13 ((0 : Int32)) ((if_neg (fun q => c14 q.symm) ).symm)
    · --
      refine G.iconst P11 at_102 (z := (1 : Int32)) rfl (pc' := 103) rfl ?_
      refine G.goto P11 at_103 (by decide) (pc' := 107) (by decide) ?_
      exact H13 ((1 : Int32)) ((if_pos (Eq.symm c14) ).symm)
  refine G.icmp_ne P11 at_107 (by decide) (pcY := 114) (by decide) (pcN := 110) rfl (fun cc => absurd j13.symm cc) (fun cc => ?_)
  refine G.iconst P11 at_110 (z := (1 : Int32)) rfl (pc' := 111) rfl ?_
  refine G.goto P11 at_111 (by decide) (pc' := 115) (by decide) ?_
  refine G.istore P11 at_115 (l' := #[.val (.int x0), .val (.int x1), .val (.int x2), .val (.int x3), .val (.int x4), .val (.int x5), .val (.int n), .val (.int v0), .val (.int v1), .val (.int v2), .val (.ref b), .val (.ref a1), .val (.int kc), .val (.int (0 : Int32)), .val (.int (1 : Int32))]) rfl (pc' := 117) rfl ?_
  refine G.iload P11 at_117 rfl (pc' := 119) rfl ?_
  refine G.if_le P11 at_119 (by decide) (pcY := 175) (by decide) (pcN := 122) rfl (fun c15 => ?_) (fun c15 => ?_)
  · --
    refine G.iload P11 at_175 rfl (pc' := 177) rfl ?_
    refine G.iconst P11 at_177 (z := (1 : Int32)) rfl (pc' := 178) rfl ?_
    refine G.icmp_le P11 at_178 (by decide) (pcY := 234) (by decide) (pcN := 181) rfl (fun cc => ?_) (fun cc => (own_lt2 c15 cc (by decide)).elim)
    refine G.iload P11 at_234 rfl (pc' := 236) rfl ?_
    refine G.iconst P11 at_236 (z := (2 : Int32)) rfl (pc' := 237) rfl ?_
    refine G.icmp_le P11 at_237 (by decide) (pcY := 293) (by decide) (pcN := 240) rfl (fun cc => ?_) (fun cc => (own_lt2 c15 cc (by decide)).elim)
    refine G.iload P11 at_293 rfl (pc' := 295) rfl ?_
    refine G.if_eq P11 at_295 (by decide) (pcY := 322) (by decide) (pcN := 298) rfl (fun c16 => absurd c16 (by decide)) (fun c16 => ?_)
    refine G.aload P11 at_298 rfl rfl (pc' := 300) rfl ?_
    refine G.callVP P11 (rmEnd l Z a0 hw a1 b (0 : Int32) n kk _ _ T7.heap B7 O7 f9) (wk hw 19 rfl) (wk hw 20 rfl) (wk hw 22 rfl) rfl (wk hw 21 rfl) (wk hw 7 rfl) (wk hw 23 rfl) (by decide) f10 pd_4 (argsL := []) (rest := []) rfl rfl rfl rfl (W := 0) (Nat.le_of_eq rfl) (by decide) at_300 (pc' := 303) rfl fun T17 P17 => ?_
    show Go p e below _ (T17.setTop (mkF m 303 #[.val (.int x0), .val (.int x1), .val (.int x2), .val (.int x3), .val (.int x4), .val (.int x5), .val (.int n), .val (.int v0), .val (.int v1), .val (.int v2), .val (.ref b), .val (.ref a1), .val (.int kc), .val (.int (0 : Int32)), .val (.int (1 : Int32))] [(.int (if (0 : Int32) = n then (1 : Int32) else (0 : Int32)))]))
    refine G.iload P17 at_303 rfl (pc' := 305) rfl ?_
    refine G.iload P17 at_305 rfl (pc' := 307) rfl ?_
    refine Go.all (S1 := fun t18 : Int32 => T17.setTop (mkF m 315 #[.val (.int x0), .val (.int x1), .val (.int x2), .val (.int x3), .val (.int x4), .val (.int x5), .val (.int n), .val (.int v0), .val (.int v1), .val (.int v2), .val (.ref b), .val (.ref a1), .val (.int kc), .val (.int (0 : Int32)), .val (.int (1 : Int32))] [(.int t18), (.int (if (0 : Int32) = n then (1 : Int32) else (0 : Int32)))])) (A := fun t18 => t18 = (if (0 : Int32) = n then (1 : Int32) else (0 : Int32))) (fun H19 => ?_) (fun t18 j19 => ?_)
    · --
      refine G.icmp_ne P17 at_307 (by decide) (pcY := 314) (by decide) (pcN := 310) rfl (fun c20 => ?_) (fun c20 => ?_)
      · --
        refine G.iconst P17 at_314 (z := (0 : Int32)) rfl (pc' := 315) rfl ?_
        exact H19 ((0 : Int32)) ((if_neg c20).symm)
      · --
        refine G.iconst P17 at_310 (z := (1 : Int32)) rfl (pc' := 311) rfl ?_
        refine G.goto P17 at_311 (by decide) (pc' := 315) (by decide) ?_
        exact H19 ((1 : Int32)) ((if_pos c20).symm)
    refine G.icmp_ne P17 at_315 (by decide) (pcY := 322) (by decide) (pcN := 318) rfl (fun cc => absurd j19.symm cc) (fun cc => ?_)
    refine G.iconst P17 at_318 (z := (1 : Int32)) rfl (pc' := 319) rfl ?_
    refine G.goto P17 at_319 (by decide) (pc' := 323) (by decide) ?_
    refine G.istore P17 at_323 (l' := #[.val (.int x0), .val (.int x1), .val (.int x2), .val (.int x3), .val (.int x4), .val (.int x5), .val (.int n), .val (.int v0), .val (.int v1), .val (.int v2), .val (.ref b), .val (.ref a1), .val (.int kc), .val (.int (0 : Int32)), .val (.int (1 : Int32))]) rfl (pc' := 325) rfl ?_
    refine G.iload P17 at_325 rfl (pc' := 327) rfl ?_
    exact G.retN P17 (t := .boolean) rfl (by simp) at_327 (by decide) (by decide) ⟨rfl, N8⟩
  · --
    refine G.aload P11 at_122 rfl rfl (pc' := 124) rfl ?_
    refine G.callV P11 (rmRead l Z a0 hw a1 b (0 : Int32) n (own_at q0 q1 q2 (0 : Int32)) kk _ _ T7.heap n0 g3 (Ne.symm n2) f10 B7 O7 f9 (own_pos i0) (fun q => own_read i0 q)) (wk hw 26 rfl) (wk hw 27 rfl) (wk hw 29 rfl) rfl (wk hw 28 rfl) (wk hw 7 rfl) (wk hw 30 rfl) (by decide) f10 pd_5 (argsL := []) (rest := []) rfl rfl rfl rfl (W := 0) (Nat.le_of_eq rfl) (by decide) at_124 (pc' := 127) rfl fun T21 L21 v21 P21 Q21 => ?_
    obtain ⟨rfl, N21, K21, E21, B21, O21⟩ := Q21
    have N22 := Fr.app N8 N21
    show Go p e below _ (T21.setTop (mkF m 127 #[.val (.int x0), .val (.int x1), .val (.int x2), .val (.int x3), .val (.int x4), .val (.int x5), .val (.int n), .val (.int v0), .val (.int v1), .val (.int v2), .val (.ref b), .val (.ref a1), .val (.int kc), .val (.int (0 : Int32)), .val (.int (1 : Int32))] [(.int (if ((0 : Int32) < n ∧ ((own_at q0 q1 q2 (0 : Int32)) &&& (255 : Int32)) = (246 : Int32)) then (1 : Int32) else (0 : Int32)))]))
    rw [own_nxt i0 hr] at O21
    obtain ⟨o0_, h_o0_⟩ : ∃ z : Int32, own_step (0 : Int32) n v0 v1 v2 = z := ⟨_, rfl⟩
    have io0_ : own_inv o0_ n := by rw [← h_o0_]; exact own_inv_step i0
    rw [h_o0_] at O21
    refine G.pop P21 at_127 rfl (pc' := 128) rfl ?_
    refine G.iload P21 at_128 rfl (pc' := 130) rfl ?_
    refine G.iload P21 at_130 rfl (pc' := 132) rfl ?_
    refine G.iload P21 at_132 rfl (pc' := 134) rfl ?_
    refine G.iload P21 at_134 rfl (pc' := 136) rfl ?_
    refine G.iload P21 at_136 rfl (pc' := 138) rfl ?_
    refine G.callSP P21 (rmStep l Z a0 hw (0 : Int32) n v0 v1 v2 T21.heap) (wk hw 31 rfl) (wk hw 32 rfl) (wk hw 2 rfl) (wk hw 33 rfl) (by decide) pd_6 (argsL := [(.int (0 : Int32)), (.int n), (.int v0), (.int v1), (.int v2)]) (rest := []) rfl rfl rfl rfl (W := 0) (Nat.le_of_eq rfl) (by decide) at_138 (pc' := 141) rfl fun T23 P23 => ?_
    show Go p e below _ (T23.setTop (mkF m 141 #[.val (.int x0), .val (.int x1), .val (.int x2), .val (.int x3), .val (.int x4), .val (.int x5), .val (.int n), .val (.int v0), .val (.int v1), .val (.int v2), .val (.ref b), .val (.ref a1), .val (.int kc), .val (.int (0 : Int32)), .val (.int (1 : Int32))] [(.int (own_step (0 : Int32) n v0 v1 v2))]))
    rw [h_o0_]
    refine G.istore P23 at_141 (l' := #[.val (.int x0), .val (.int x1), .val (.int x2), .val (.int x3), .val (.int x4), .val (.int x5), .val (.int n), .val (.int v0), .val (.int v1), .val (.int v2), .val (.ref b), .val (.ref a1), .val (.int kc), .val (.int o0_), .val (.int (1 : Int32))]) rfl (pc' := 143) rfl ?_
    refine G.iload P23 at_143 rfl (pc' := 145) rfl ?_
    refine G.if_eq P23 at_145 (by decide) (pcY := 172) (by decide) (pcN := 148) rfl (fun c24 => absurd c24 (by decide)) (fun c24 => ?_)
    refine G.aload P23 at_148 rfl rfl (pc' := 150) rfl ?_
    have f25 := (f9.keep K21 (ninS n2 nin0))
    refine G.callVP P23 (rmEnd l Z a0 hw a1 b o0_ n kk _ _ T21.heap B21 O21 f25) (wk hw 19 rfl) (wk hw 20 rfl) (wk hw 22 rfl) rfl (wk hw 21 rfl) (wk hw 7 rfl) (wk hw 23 rfl) (by decide) E21 pd_4 (argsL := []) (rest := []) rfl rfl rfl rfl (W := 0) (Nat.le_of_eq rfl) (by decide) at_150 (pc' := 153) rfl fun T26 P26 => ?_
    show Go p e below _ (T26.setTop (mkF m 153 #[.val (.int x0), .val (.int x1), .val (.int x2), .val (.int x3), .val (.int x4), .val (.int x5), .val (.int n), .val (.int v0), .val (.int v1), .val (.int v2), .val (.ref b), .val (.ref a1), .val (.int kc), .val (.int o0_), .val (.int (1 : Int32))] [(.int (if o0_ = n then (1 : Int32) else (0 : Int32)))]))
    refine G.iload P26 at_153 rfl (pc' := 155) rfl ?_
    refine G.iload P26 at_155 rfl (pc' := 157) rfl ?_
    refine Go.all (S1 := fun t27 : Int32 => T26.setTop (mkF m 165 #[.val (.int x0), .val (.int x1), .val (.int x2), .val (.int x3), .val (.int x4), .val (.int x5), .val (.int n), .val (.int v0), .val (.int v1), .val (.int v2), .val (.ref b), .val (.ref a1), .val (.int kc), .val (.int o0_), .val (.int (1 : Int32))] [(.int t27), (.int (if o0_ = n then (1 : Int32) else (0 : Int32)))])) (A := fun t27 => t27 = (if o0_ = n then (1 : Int32) else (0 : Int32))) (fun H28 => ?_) (fun t27 j28 => ?_)
    · --
      refine G.icmp_ne P26 at_157 (by decide) (pcY := 164) (by decide) (pcN := 160) rfl (fun c29 => ?_) (fun c29 => ?_)
      · --
        refine G.iconst P26 at_164 (z := (0 : Int32)) rfl (pc' := 165) rfl ?_
        exact H28 ((0 : Int32)) ((if_neg c29).symm)
      · --
        refine G.iconst P26 at_160 (z := (1 : Int32)) rfl (pc' := 161) rfl ?_
        refine G.goto P26 at_161 (by decide) (pc' := 165) (by decide) ?_
        exact H28 ((1 : Int32)) ((if_pos c29).symm)
    refine G.icmp_ne P26 at_165 (by decide) (pcY := 172) (by decide) (pcN := 168) rfl (fun cc => absurd j28.symm cc) (fun cc => ?_)
    refine G.iconst P26 at_168 (z := (1 : Int32)) rfl (pc' := 169) rfl ?_
    refine G.goto P26 at_169 (by decide) (pc' := 173) (by decide) ?_
    refine G.istore P26 at_173 (l' := #[.val (.int x0), .val (.int x1), .val (.int x2), .val (.int x3), .val (.int x4), .val (.int x5), .val (.int n), .val (.int v0), .val (.int v1), .val (.int v2), .val (.ref b), .val (.ref a1), .val (.int kc), .val (.int o0_), .val (.int (1 : Int32))]) rfl (pc' := 175) rfl ?_
    refine G.iload P26 at_175 rfl (pc' := 177) rfl ?_
    refine G.iconst P26 at_177 (z := (1 : Int32)) rfl (pc' := 178) rfl ?_
    refine G.icmp_le P26 at_178 (by decide) (pcY := 234) (by decide) (pcN := 181) rfl (fun c30 => ?_) (fun c30 => ?_)
    · --
      refine G.iload P26 at_234 rfl (pc' := 236) rfl ?_
      refine G.iconst P26 at_236 (z := (2 : Int32)) rfl (pc' := 237) rfl ?_
      refine G.icmp_le P26 at_237 (by decide) (pcY := 293) (by decide) (pcN := 240) rfl (fun cc => ?_) (fun cc => (own_lt2 c30 cc (by decide)).elim)
      refine G.iload P26 at_293 rfl (pc' := 295) rfl ?_
      refine G.if_eq P26 at_295 (by decide) (pcY := 322) (by decide) (pcN := 298) rfl (fun c31 => absurd c31 (by decide)) (fun c31 => ?_)
      refine G.aload P26 at_298 rfl rfl (pc' := 300) rfl ?_
      refine G.callVP P26 (rmEnd l Z a0 hw a1 b o0_ n kk _ _ T21.heap B21 O21 f25) (wk hw 19 rfl) (wk hw 20 rfl) (wk hw 22 rfl) rfl (wk hw 21 rfl) (wk hw 7 rfl) (wk hw 23 rfl) (by decide) E21 pd_4 (argsL := []) (rest := []) rfl rfl rfl rfl (W := 0) (Nat.le_of_eq rfl) (by decide) at_300 (pc' := 303) rfl fun T32 P32 => ?_
      show Go p e below _ (T32.setTop (mkF m 303 #[.val (.int x0), .val (.int x1), .val (.int x2), .val (.int x3), .val (.int x4), .val (.int x5), .val (.int n), .val (.int v0), .val (.int v1), .val (.int v2), .val (.ref b), .val (.ref a1), .val (.int kc), .val (.int o0_), .val (.int (1 : Int32))] [(.int (if o0_ = n then (1 : Int32) else (0 : Int32)))]))
      refine G.iload P32 at_303 rfl (pc' := 305) rfl ?_
      refine G.iload P32 at_305 rfl (pc' := 307) rfl ?_
      refine Go.all (S1 := fun t33 : Int32 => T32.setTop (mkF m 315 #[.val (.int x0), .val (.int x1), .val (.int x2), .val (.int x3), .val (.int x4), .val (.int x5), .val (.int n), .val (.int v0), .val (.int v1), .val (.int v2), .val (.ref b), .val (.ref a1), .val (.int kc), .val (.int o0_), .val (.int (1 : Int32))] [(.int t33), (.int (if o0_ = n then (1 : Int32) else (0 : Int32)))])) (A := fun t33 => t33 = (if o0_ = n then (1 : Int32) else (0 : Int32))) (fun H34 => ?_) (fun t33 j34 => ?_)
      · --
        refine G.icmp_ne P32 at_307 (by decide) (pcY := 314) (by decide) (pcN := 310) rfl (fun c35 => ?_) (fun c35 => ?_)
        · --
          refine G.iconst P32 at_314 (z := (0 : Int32)) rfl (pc' := 315) rfl ?_
          exact H34 ((0 : Int32)) ((if_neg c35).symm)
        · --
          refine G.iconst P32 at_310 (z := (1 : Int32)) rfl (pc' := 311) rfl ?_
          refine G.goto P32 at_311 (by decide) (pc' := 315) (by decide) ?_
          exact H34 ((1 : Int32)) ((if_pos c35).symm)
      refine G.icmp_ne P32 at_315 (by decide) (pcY := 322) (by decide) (pcN := 318) rfl (fun cc => absurd j34.symm cc) (fun cc => ?_)
      refine G.iconst P32 at_318 (z := (1 : Int32)) rfl (pc' := 319) rfl ?_
      refine G.goto P32 at_319 (by decide) (pc' := 323) (by decide) ?_
      refine G.istore P32 at_323 (l' := #[.val (.int x0), .val (.int x1), .val (.int x2), .val (.int x3), .val (.int x4), .val (.int x5), .val (.int n), .val (.int v0), .val (.int v1), .val (.int v2), .val (.ref b), .val (.ref a1), .val (.int kc), .val (.int o0_), .val (.int (1 : Int32))]) rfl (pc' := 325) rfl ?_
      refine G.iload P32 at_325 rfl (pc' := 327) rfl ?_
      exact G.retN P32 (t := .boolean) rfl (by simp) at_327 (by decide) (by decide) ⟨rfl, N22⟩
    · --
      refine G.aload P26 at_181 rfl rfl (pc' := 183) rfl ?_
      refine G.callV P26 (rmRead l Z a0 hw a1 b o0_ n (own_at q0 q1 q2 o0_) kk _ _ T21.heap n0 g3 (Ne.symm n2) E21 B21 O21 f25 (own_pos io0_) (fun q => own_read io0_ q)) (wk hw 26 rfl) (wk hw 27 rfl) (wk hw 29 rfl) rfl (wk hw 28 rfl) (wk hw 7 rfl) (wk hw 30 rfl) (by decide) E21 pd_5 (argsL := []) (rest := []) rfl rfl rfl rfl (W := 0) (Nat.le_of_eq rfl) (by decide) at_183 (pc' := 186) rfl fun T36 L36 v36 P36 Q36 => ?_
      obtain ⟨rfl, N36, K36, E36, B36, O36⟩ := Q36
      have N37 := Fr.app N22 N36
      show Go p e below _ (T36.setTop (mkF m 186 #[.val (.int x0), .val (.int x1), .val (.int x2), .val (.int x3), .val (.int x4), .val (.int x5), .val (.int n), .val (.int v0), .val (.int v1), .val (.int v2), .val (.ref b), .val (.ref a1), .val (.int kc), .val (.int o0_), .val (.int (1 : Int32))] [(.int (if (o0_ < n ∧ ((own_at q0 q1 q2 o0_) &&& (255 : Int32)) = (246 : Int32)) then (1 : Int32) else (0 : Int32)))]))
      rw [own_nxt io0_ hr] at O36
      obtain ⟨o1_, h_o1_⟩ : ∃ z : Int32, own_step o0_ n v0 v1 v2 = z := ⟨_, rfl⟩
      have io1_ : own_inv o1_ n := by rw [← h_o1_]; exact own_inv_step io0_
      rw [h_o1_] at O36
      refine G.pop P36 at_186 rfl (pc' := 187) rfl ?_
      refine G.iload P36 at_187 rfl (pc' := 189) rfl ?_
      refine G.iload P36 at_189 rfl (pc' := 191) rfl ?_
      refine G.iload P36 at_191 rfl (pc' := 193) rfl ?_
      refine G.iload P36 at_193 rfl (pc' := 195) rfl ?_
      refine G.iload P36 at_195 rfl (pc' := 197) rfl ?_
      refine G.callSP P36 (rmStep l Z a0 hw o0_ n v0 v1 v2 T36.heap) (wk hw 31 rfl) (wk hw 32 rfl) (wk hw 2 rfl) (wk hw 33 rfl) (by decide) pd_6 (argsL := [(.int o0_), (.int n), (.int v0), (.int v1), (.int v2)]) (rest := []) rfl rfl rfl rfl (W := 0) (Nat.le_of_eq rfl) (by decide) at_197 (pc' := 200) rfl fun T38 P38 => ?_
      show Go p e below _ (T38.setTop (mkF m 200 #[.val (.int x0), .val (.int x1), .val (.int x2), .val (.int x3), .val (.int x4), .val (.int x5), .val (.int n), .val (.int v0), .val (.int v1), .val (.int v2), .val (.ref b), .val (.ref a1), .val (.int kc), .val (.int o0_), .val (.int (1 : Int32))] [(.int (own_step o0_ n v0 v1 v2))]))
      rw [h_o1_]
      refine G.istore P38 at_200 (l' := #[.val (.int x0), .val (.int x1), .val (.int x2), .val (.int x3), .val (.int x4), .val (.int x5), .val (.int n), .val (.int v0), .val (.int v1), .val (.int v2), .val (.ref b), .val (.ref a1), .val (.int kc), .val (.int o1_), .val (.int (1 : Int32))]) rfl (pc' := 202) rfl ?_
      refine G.iload P38 at_202 rfl (pc' := 204) rfl ?_
      refine G.if_eq P38 at_204 (by decide) (pcY := 231) (by decide) (pcN := 207) rfl (fun c39 => absurd c39 (by decide)) (fun c39 => ?_)
      refine G.aload P38 at_207 rfl rfl (pc' := 209) rfl ?_
      have f40 := (f25.keep K36 (ninS n2 nin0))
      refine G.callVP P38 (rmEnd l Z a0 hw a1 b o1_ n kk _ _ T36.heap B36 O36 f40) (wk hw 19 rfl) (wk hw 20 rfl) (wk hw 22 rfl) rfl (wk hw 21 rfl) (wk hw 7 rfl) (wk hw 23 rfl) (by decide) E36 pd_4 (argsL := []) (rest := []) rfl rfl rfl rfl (W := 0) (Nat.le_of_eq rfl) (by decide) at_209 (pc' := 212) rfl fun T41 P41 => ?_
      show Go p e below _ (T41.setTop (mkF m 212 #[.val (.int x0), .val (.int x1), .val (.int x2), .val (.int x3), .val (.int x4), .val (.int x5), .val (.int n), .val (.int v0), .val (.int v1), .val (.int v2), .val (.ref b), .val (.ref a1), .val (.int kc), .val (.int o1_), .val (.int (1 : Int32))] [(.int (if o1_ = n then (1 : Int32) else (0 : Int32)))]))
      refine G.iload P41 at_212 rfl (pc' := 214) rfl ?_
      refine G.iload P41 at_214 rfl (pc' := 216) rfl ?_
      refine Go.all (S1 := fun t42 : Int32 => T41.setTop (mkF m 224 #[.val (.int x0), .val (.int x1), .val (.int x2), .val (.int x3), .val (.int x4), .val (.int x5), .val (.int n), .val (.int v0), .val (.int v1), .val (.int v2), .val (.ref b), .val (.ref a1), .val (.int kc), .val (.int o1_), .val (.int (1 : Int32))] [(.int t42), (.int (if o1_ = n then (1 : Int32) else (0 : Int32)))])) (A := fun t42 => t42 = (if o1_ = n then (1 : Int32) else (0 : Int32))) (fun H43 => ?_) (fun t42 j43 => ?_)
      · --
        refine G.icmp_ne P41 at_216 (by decide) (pcY := 223) (by decide) (pcN := 219) rfl (fun c44 => ?_) (fun c44 => ?_)
        · --
          refine G.iconst P41 at_223 (z := (0 : Int32)) rfl (pc' := 224) rfl ?_
          exact H43 ((0 : Int32)) ((if_neg c44).symm)
        · --
          refine G.iconst P41 at_219 (z := (1 : Int32)) rfl (pc' := 220) rfl ?_
          refine G.goto P41 at_220 (by decide) (pc' := 224) (by decide) ?_
          exact H43 ((1 : Int32)) ((if_pos c44).symm)
      refine G.icmp_ne P41 at_224 (by decide) (pcY := 231) (by decide) (pcN := 227) rfl (fun cc => absurd j43.symm cc) (fun cc => ?_)
      refine G.iconst P41 at_227 (z := (1 : Int32)) rfl (pc' := 228) rfl ?_
      refine G.goto P41 at_228 (by decide) (pc' := 232) (by decide) ?_
      refine G.istore P41 at_232 (l' := #[.val (.int x0), .val (.int x1), .val (.int x2), .val (.int x3), .val (.int x4), .val (.int x5), .val (.int n), .val (.int v0), .val (.int v1), .val (.int v2), .val (.ref b), .val (.ref a1), .val (.int kc), .val (.int o1_), .val (.int (1 : Int32))]) rfl (pc' := 234) rfl ?_
      refine G.iload P41 at_234 rfl (pc' := 236) rfl ?_
      refine G.iconst P41 at_236 (z := (2 : Int32)) rfl (pc' := 237) rfl ?_
      refine G.icmp_le P41 at_237 (by decide) (pcY := 293) (by decide) (pcN := 240) rfl (fun c45 => ?_) (fun c45 => ?_)
      · --
        refine G.iload P41 at_293 rfl (pc' := 295) rfl ?_
        refine G.if_eq P41 at_295 (by decide) (pcY := 322) (by decide) (pcN := 298) rfl (fun c46 => absurd c46 (by decide)) (fun c46 => ?_)
        refine G.aload P41 at_298 rfl rfl (pc' := 300) rfl ?_
        refine G.callVP P41 (rmEnd l Z a0 hw a1 b o1_ n kk _ _ T36.heap B36 O36 f40) (wk hw 19 rfl) (wk hw 20 rfl) (wk hw 22 rfl) rfl (wk hw 21 rfl) (wk hw 7 rfl) (wk hw 23 rfl) (by decide) E36 pd_4 (argsL := []) (rest := []) rfl rfl rfl rfl (W := 0) (Nat.le_of_eq rfl) (by decide) at_300 (pc' := 303) rfl fun T47 P47 => ?_
        show Go p e below _ (T47.setTop (mkF m 303 #[.val (.int x0), .val (.int x1), .val (.int x2), .val (.int x3), .val (.int x4), .val (.int x5), .val (.int n), .val (.int v0), .val (.int v1), .val (.int v2), .val (.ref b), .val (.ref a1), .val (.int kc), .val (.int o1_), .val (.int (1 : Int32))] [(.int (if o1_ = n then (1 : Int32) else (0 : Int32)))]))
        refine G.iload P47 at_303 rfl (pc' := 305) rfl ?_
        refine G.iload P47 at_305 rfl (pc' := 307) rfl ?_
        refine Go.all (S1 := fun t48 : Int32 => T47.setTop (mkF m 315 #[.val (.int x0), .val (.int x1), .val (.int x2), .val (.int x3), .val (.int x4), .val (.int x5), .val (.int n), .val (.int v0), .val (.int v1), .val (.int v2), .val (.ref b), .val (.ref a1), .val (.int kc), .val (.int o1_), .val (.int (1 : Int32))] [(.int t48), (.int (if o1_ = n then (1 : Int32) else (0 : Int32)))])) (A := fun t48 => t48 = (if o1_ = n then (1 : Int32) else (0 : Int32))) (fun H49 => ?_) (fun t48 j49 => ?_)
        · --
          refine G.icmp_ne P47 at_307 (by decide) (pcY := 314) (by decide) (pcN := 310) rfl (fun c50 => ?_) (fun c50 => ?_)
          · --
            refine G.iconst P47 at_314 (z := (0 : Int32)) rfl (pc' := 315) rfl ?_
            exact H49 ((0 : Int32)) ((if_neg c50).symm)
          · --
            refine G.iconst P47 at_310 (z := (1 : Int32)) rfl (pc' := 311) rfl ?_
            refine G.goto P47 at_311 (by decide) (pc' := 315) (by decide) ?_
            exact H49 ((1 : Int32)) ((if_pos c50).symm)
        refine G.icmp_ne P47 at_315 (by decide) (pcY := 322) (by decide) (pcN := 318) rfl (fun cc => absurd j49.symm cc) (fun cc => ?_)
        refine G.iconst P47 at_318 (z := (1 : Int32)) rfl (pc' := 319) rfl ?_
        refine G.goto P47 at_319 (by decide) (pc' := 323) (by decide) ?_
        refine G.istore P47 at_323 (l' := #[.val (.int x0), .val (.int x1), .val (.int x2), .val (.int x3), .val (.int x4), .val (.int x5), .val (.int n), .val (.int v0), .val (.int v1), .val (.int v2), .val (.ref b), .val (.ref a1), .val (.int kc), .val (.int o1_), .val (.int (1 : Int32))]) rfl (pc' := 325) rfl ?_
        refine G.iload P47 at_325 rfl (pc' := 327) rfl ?_
        exact G.retN P47 (t := .boolean) rfl (by simp) at_327 (by decide) (by decide) ⟨rfl, N37⟩
      · --
        refine G.aload P41 at_240 rfl rfl (pc' := 242) rfl ?_
        refine G.callV P41 (rmRead l Z a0 hw a1 b o1_ n (own_at q0 q1 q2 o1_) kk _ _ T36.heap n0 g3 (Ne.symm n2) E36 B36 O36 f40 (own_pos io1_) (fun q => own_read io1_ q)) (wk hw 26 rfl) (wk hw 27 rfl) (wk hw 29 rfl) rfl (wk hw 28 rfl) (wk hw 7 rfl) (wk hw 30 rfl) (by decide) E36 pd_5 (argsL := []) (rest := []) rfl rfl rfl rfl (W := 0) (Nat.le_of_eq rfl) (by decide) at_242 (pc' := 245) rfl fun T51 L51 v51 P51 Q51 => ?_
        obtain ⟨rfl, N51, K51, E51, B51, O51⟩ := Q51
        have N52 := Fr.app N37 N51
        show Go p e below _ (T51.setTop (mkF m 245 #[.val (.int x0), .val (.int x1), .val (.int x2), .val (.int x3), .val (.int x4), .val (.int x5), .val (.int n), .val (.int v0), .val (.int v1), .val (.int v2), .val (.ref b), .val (.ref a1), .val (.int kc), .val (.int o1_), .val (.int (1 : Int32))] [(.int (if (o1_ < n ∧ ((own_at q0 q1 q2 o1_) &&& (255 : Int32)) = (246 : Int32)) then (1 : Int32) else (0 : Int32)))]))
        rw [own_nxt io1_ hr] at O51
        obtain ⟨o2_, h_o2_⟩ : ∃ z : Int32, own_step o1_ n v0 v1 v2 = z := ⟨_, rfl⟩
        have io2_ : own_inv o2_ n := by rw [← h_o2_]; exact own_inv_step io1_
        rw [h_o2_] at O51
        refine G.pop P51 at_245 rfl (pc' := 246) rfl ?_
        refine G.iload P51 at_246 rfl (pc' := 248) rfl ?_
        refine G.iload P51 at_248 rfl (pc' := 250) rfl ?_
        refine G.iload P51 at_250 rfl (pc' := 252) rfl ?_
        refine G.iload P51 at_252 rfl (pc' := 254) rfl ?_
        refine G.iload P51 at_254 rfl (pc' := 256) rfl ?_
        refine G.callSP P51 (rmStep l Z a0 hw o1_ n v0 v1 v2 T51.heap) (wk hw 31 rfl) (wk hw 32 rfl) (wk hw 2 rfl) (wk hw 33 rfl) (by decide) pd_6 (argsL := [(.int o1_), (.int n), (.int v0), (.int v1), (.int v2)]) (rest := []) rfl rfl rfl rfl (W := 0) (Nat.le_of_eq rfl) (by decide) at_256 (pc' := 259) rfl fun T53 P53 => ?_
        show Go p e below _ (T53.setTop (mkF m 259 #[.val (.int x0), .val (.int x1), .val (.int x2), .val (.int x3), .val (.int x4), .val (.int x5), .val (.int n), .val (.int v0), .val (.int v1), .val (.int v2), .val (.ref b), .val (.ref a1), .val (.int kc), .val (.int o1_), .val (.int (1 : Int32))] [(.int (own_step o1_ n v0 v1 v2))]))
        rw [h_o2_]
        refine G.istore P53 at_259 (l' := #[.val (.int x0), .val (.int x1), .val (.int x2), .val (.int x3), .val (.int x4), .val (.int x5), .val (.int n), .val (.int v0), .val (.int v1), .val (.int v2), .val (.ref b), .val (.ref a1), .val (.int kc), .val (.int o2_), .val (.int (1 : Int32))]) rfl (pc' := 261) rfl ?_
        refine G.iload P53 at_261 rfl (pc' := 263) rfl ?_
        refine G.if_eq P53 at_263 (by decide) (pcY := 290) (by decide) (pcN := 266) rfl (fun c54 => absurd c54 (by decide)) (fun c54 => ?_)
        refine G.aload P53 at_266 rfl rfl (pc' := 268) rfl ?_
        have f55 := (f40.keep K51 (ninS n2 nin0))
        refine G.callVP P53 (rmEnd l Z a0 hw a1 b o2_ n kk _ _ T51.heap B51 O51 f55) (wk hw 19 rfl) (wk hw 20 rfl) (wk hw 22 rfl) rfl (wk hw 21 rfl) (wk hw 7 rfl) (wk hw 23 rfl) (by decide) E51 pd_4 (argsL := []) (rest := []) rfl rfl rfl rfl (W := 0) (Nat.le_of_eq rfl) (by decide) at_268 (pc' := 271) rfl fun T56 P56 => ?_
        show Go p e below _ (T56.setTop (mkF m 271 #[.val (.int x0), .val (.int x1), .val (.int x2), .val (.int x3), .val (.int x4), .val (.int x5), .val (.int n), .val (.int v0), .val (.int v1), .val (.int v2), .val (.ref b), .val (.ref a1), .val (.int kc), .val (.int o2_), .val (.int (1 : Int32))] [(.int (if o2_ = n then (1 : Int32) else (0 : Int32)))]))
        refine G.iload P56 at_271 rfl (pc' := 273) rfl ?_
        refine G.iload P56 at_273 rfl (pc' := 275) rfl ?_
        refine Go.all (S1 := fun t57 : Int32 => T56.setTop (mkF m 283 #[.val (.int x0), .val (.int x1), .val (.int x2), .val (.int x3), .val (.int x4), .val (.int x5), .val (.int n), .val (.int v0), .val (.int v1), .val (.int v2), .val (.ref b), .val (.ref a1), .val (.int kc), .val (.int o2_), .val (.int (1 : Int32))] [(.int t57), (.int (if o2_ = n then (1 : Int32) else (0 : Int32)))])) (A := fun t57 => t57 = (if o2_ = n then (1 : Int32) else (0 : Int32))) (fun H58 => ?_) (fun t57 j58 => ?_)
        · --
          refine G.icmp_ne P56 at_275 (by decide) (pcY := 282) (by decide) (pcN := 278) rfl (fun c59 => ?_) (fun c59 => ?_)
          · --
            refine G.iconst P56 at_282 (z := (0 : Int32)) rfl (pc' := 283) rfl ?_
            exact H58 ((0 : Int32)) ((if_neg c59).symm)
          · --
            refine G.iconst P56 at_278 (z := (1 : Int32)) rfl (pc' := 279) rfl ?_
            refine G.goto P56 at_279 (by decide) (pc' := 283) (by decide) ?_
            exact H58 ((1 : Int32)) ((if_pos c59).symm)
        refine G.icmp_ne P56 at_283 (by decide) (pcY := 290) (by decide) (pcN := 286) rfl (fun cc => absurd j58.symm cc) (fun cc => ?_)
        refine G.iconst P56 at_286 (z := (1 : Int32)) rfl (pc' := 287) rfl ?_
        refine G.goto P56 at_287 (by decide) (pc' := 291) (by decide) ?_
        refine G.istore P56 at_291 (l' := #[.val (.int x0), .val (.int x1), .val (.int x2), .val (.int x3), .val (.int x4), .val (.int x5), .val (.int n), .val (.int v0), .val (.int v1), .val (.int v2), .val (.ref b), .val (.ref a1), .val (.int kc), .val (.int o2_), .val (.int (1 : Int32))]) rfl (pc' := 293) rfl ?_
        refine G.iload P56 at_293 rfl (pc' := 295) rfl ?_
        refine G.if_eq P56 at_295 (by decide) (pcY := 322) (by decide) (pcN := 298) rfl (fun c60 => absurd c60 (by decide)) (fun c60 => ?_)
        refine G.aload P56 at_298 rfl rfl (pc' := 300) rfl ?_
        refine G.callVP P56 (rmEnd l Z a0 hw a1 b o2_ n kk _ _ T51.heap B51 O51 f55) (wk hw 19 rfl) (wk hw 20 rfl) (wk hw 22 rfl) rfl (wk hw 21 rfl) (wk hw 7 rfl) (wk hw 23 rfl) (by decide) E51 pd_4 (argsL := []) (rest := []) rfl rfl rfl rfl (W := 0) (Nat.le_of_eq rfl) (by decide) at_300 (pc' := 303) rfl fun T61 P61 => ?_
        show Go p e below _ (T61.setTop (mkF m 303 #[.val (.int x0), .val (.int x1), .val (.int x2), .val (.int x3), .val (.int x4), .val (.int x5), .val (.int n), .val (.int v0), .val (.int v1), .val (.int v2), .val (.ref b), .val (.ref a1), .val (.int kc), .val (.int o2_), .val (.int (1 : Int32))] [(.int (if o2_ = n then (1 : Int32) else (0 : Int32)))]))
        refine G.iload P61 at_303 rfl (pc' := 305) rfl ?_
        refine G.iload P61 at_305 rfl (pc' := 307) rfl ?_
        refine Go.all (S1 := fun t62 : Int32 => T61.setTop (mkF m 315 #[.val (.int x0), .val (.int x1), .val (.int x2), .val (.int x3), .val (.int x4), .val (.int x5), .val (.int n), .val (.int v0), .val (.int v1), .val (.int v2), .val (.ref b), .val (.ref a1), .val (.int kc), .val (.int o2_), .val (.int (1 : Int32))] [(.int t62), (.int (if o2_ = n then (1 : Int32) else (0 : Int32)))])) (A := fun t62 => t62 = (if o2_ = n then (1 : Int32) else (0 : Int32))) (fun H63 => ?_) (fun t62 j63 => ?_)
        · --
          refine G.icmp_ne P61 at_307 (by decide) (pcY := 314) (by decide) (pcN := 310) rfl (fun c64 => ?_) (fun c64 => ?_)
          · --
            refine G.iconst P61 at_314 (z := (0 : Int32)) rfl (pc' := 315) rfl ?_
            exact H63 ((0 : Int32)) ((if_neg c64).symm)
          · --
            refine G.iconst P61 at_310 (z := (1 : Int32)) rfl (pc' := 311) rfl ?_
            refine G.goto P61 at_311 (by decide) (pc' := 315) (by decide) ?_
            exact H63 ((1 : Int32)) ((if_pos c64).symm)
        refine G.icmp_ne P61 at_315 (by decide) (pcY := 322) (by decide) (pcN := 318) rfl (fun cc => absurd j63.symm cc) (fun cc => ?_)
        refine G.iconst P61 at_318 (z := (1 : Int32)) rfl (pc' := 319) rfl ?_
        refine G.goto P61 at_319 (by decide) (pc' := 323) (by decide) ?_
        refine G.istore P61 at_323 (l' := #[.val (.int x0), .val (.int x1), .val (.int x2), .val (.int x3), .val (.int x4), .val (.int x5), .val (.int n), .val (.int v0), .val (.int v1), .val (.int v2), .val (.ref b), .val (.ref a1), .val (.int kc), .val (.int o2_), .val (.int (1 : Int32))]) rfl (pc' := 325) rfl ?_
        refine G.iload P61 at_325 rfl (pc' := 327) rfl ?_
        exact G.retN P61 (t := .boolean) rfl (by simp) at_327 (by decide) (by decide) ⟨rfl, N52⟩

theorem ef_0 (m : MethodId) (x0 : Int32) (x1 : Int32) (x2 : Int32) (x3 : Int32) (x4 : Int32) (x5 : Int32) : entryFrame m #[(.int x0), (.int x1), (.int x2), (.int x3), (.int x4), (.int x5)] maxLocals = mkF m 0 #[.val (.int x0), .val (.int x1), .val (.int x2), .val (.int x3), .val (.int x4), .val (.int x5), .unset, .unset, .unset, .unset, .unset, .unset, .unset, .unset, .unset] [] := by first | (simp [entryFrame, mkF, argsToLocals, Value.category, maxLocals]; done) | rfl
set_option maxRecDepth 65536 in
set_option maxHeartbeats 40000000 in
theorem rm0 (l : Launch) (Z : State) (a0 : Array Value) (hw : ∀ d ∈ tables_1, d.before a0 Z = true) (x0 : Int32) (x1 : Int32) (x2 : Int32) (x3 : Int32) (x4 : Int32) (x5 : Int32) (h0 : Heap) (n0 : Nat) (Z0 : n0 ≤ Array.size h0) :
    MetFree l x (head1 (Jvm.Cond.code x code maxLocals ret :: tables_1) room_1) (fun a U => a = #[(.int x0), (.int x1), (.int x2), (.int x3), (.int x4), (.int x5)] ∧ Z.Warmed39 U.vm ∧ U.heap = h0) (fun _ _ _ _ _ => True) (fun _ U o U' => ∃ v L, o = .returned v ∧ (fun v h L => v = some (.int 1) ∧ Fr n0 L) v U'.heap L ∧ FrameEnd U o U' L room_1.cells room_1.slots) := by
  refine met (Q := fun v h L => v = some (.int 1) ∧ Fr n0 L) pf_0 (fun m => ef_0 m x0 x1 x2 x3 x4 x5) fun p e s m below meth c T0 P0 => ?_
  have N0 := Fr.nil n0
  refine G.iloadN P0 at_0 rfl (pc' := 1) rfl ?_
  refine G.iconst P0 at_1 (z := (3 : Int32)) rfl (pc' := 2) rfl ?_
  obtain ⟨n, h_n⟩ : ∃ z : Int32, (x0 &&& (3 : Int32)) = z := ⟨_, rfl⟩
  refine G.iand P0 at_2 (z := n) h_n (pc' := 3) rfl ?_
  refine G.istore P0 at_3 (l' := #[.val (.int x0), .val (.int x1), .val (.int x2), .val (.int x3), .val (.int x4), .val (.int x5), .val (.int n), .unset, .unset, .unset, .unset, .unset, .unset, .unset, .unset]) rfl (pc' := 5) rfl ?_
  refine G.iloadN P0 at_5 rfl (pc' := 6) rfl ?_
  have hn : 0 ≤ n.toInt ∧ n.toInt ≤ 3 := by rw [← h_n]; exact own_and3 x0
  refine G.callSP P0 (rmPick l Z a0 hw x1 h0) (wk hw 0 rfl) (wk hw 1 rfl) (wk hw 2 rfl) (wk hw 3 rfl) (by decide) pd_1 (argsL := [(.int x1)]) (rest := []) rfl rfl rfl rfl (W := 0) (Nat.le_of_eq rfl) (by decide) at_6 (pc' := 9) rfl fun T1 P1 => ?_
  show Go p e below _ (T1.setTop (mkF m 9 #[.val (.int x0), .val (.int x1), .val (.int x2), .val (.int x3), .val (.int x4), .val (.int x5), .val (.int n), .unset, .unset, .unset, .unset, .unset, .unset, .unset, .unset] [(.int (own_pick x1))]))
  obtain ⟨v0, h_v0⟩ : ∃ z : Int32, (own_pick x1) = z := ⟨_, rfl⟩
  rw [h_v0]
  have r0_ : 0 ≤ v0.toInt ∧ v0.toInt ≤ 255 := by rw [← h_v0]; exact own_pick_rng x1
  refine G.istore P1 at_9 (l' := #[.val (.int x0), .val (.int x1), .val (.int x2), .val (.int x3), .val (.int x4), .val (.int x5), .val (.int n), .val (.int v0), .unset, .unset, .unset, .unset, .unset, .unset, .unset]) rfl (pc' := 11) rfl ?_
  refine G.iloadN P1 at_11 rfl (pc' := 12) rfl ?_
  refine G.callSP P1 (rmPick l Z a0 hw x2 h0) (wk hw 0 rfl) (wk hw 1 rfl) (wk hw 2 rfl) (wk hw 3 rfl) (by decide) pd_1 (argsL := [(.int x2)]) (rest := []) rfl rfl rfl rfl (W := 0) (Nat.le_of_eq rfl) (by decide) at_12 (pc' := 15) rfl fun T2 P2 => ?_
  show Go p e below _ (T2.setTop (mkF m 15 #[.val (.int x0), .val (.int x1), .val (.int x2), .val (.int x3), .val (.int x4), .val (.int x5), .val (.int n), .val (.int v0), .unset, .unset, .unset, .unset, .unset, .unset, .unset] [(.int (own_pick x2))]))
  obtain ⟨v1, h_v1⟩ : ∃ z : Int32, (own_pick x2) = z := ⟨_, rfl⟩
  rw [h_v1]
  have r1_ : 0 ≤ v1.toInt ∧ v1.toInt ≤ 255 := by rw [← h_v1]; exact own_pick_rng x2
  refine G.istore P2 at_15 (l' := #[.val (.int x0), .val (.int x1), .val (.int x2), .val (.int x3), .val (.int x4), .val (.int x5), .val (.int n), .val (.int v0), .val (.int v1), .unset, .unset, .unset, .unset, .unset, .unset]) rfl (pc' := 17) rfl ?_
  refine G.iloadN P2 at_17 rfl (pc' := 18) rfl ?_
  refine G.callSP P2 (rmPick l Z a0 hw x3 h0) (wk hw 0 rfl) (wk hw 1 rfl) (wk hw 2 rfl) (wk hw 3 rfl) (by decide) pd_1 (argsL := [(.int x3)]) (rest := []) rfl rfl rfl rfl (W := 0) (Nat.le_of_eq rfl) (by decide) at_18 (pc' := 21) rfl fun T3 P3 => ?_
  show Go p e below _ (T3.setTop (mkF m 21 #[.val (.int x0), .val (.int x1), .val (.int x2), .val (.int x3), .val (.int x4), .val (.int x5), .val (.int n), .val (.int v0), .val (.int v1), .unset, .unset, .unset, .unset, .unset, .unset] [(.int (own_pick x3))]))
  obtain ⟨v2, h_v2⟩ : ∃ z : Int32, (own_pick x3) = z := ⟨_, rfl⟩
  rw [h_v2]
  have r2_ : 0 ≤ v2.toInt ∧ v2.toInt ≤ 255 := by rw [← h_v2]; exact own_pick_rng x3
  refine G.istore P3 at_21 (l' := #[.val (.int x0), .val (.int x1), .val (.int x2), .val (.int x3), .val (.int x4), .val (.int x5), .val (.int n), .val (.int v0), .val (.int v1), .val (.int v2), .unset, .unset, .unset, .unset, .unset]) rfl (pc' := 23) rfl ?_
  refine G.iload P3 at_23 rfl (pc' := 25) rfl ?_
  refine G.newP P3 (wk hw 4 rfl) (own_neg hn) (cap := 3) (own_cap hn) (by decide) (by decide) at_25 (pc' := 27) rfl fun T4 h4 a4 k4 g4 P4 E4 V4 => ?_
  have g5 : n0 ≤ a4 := by rw [g4]; exact Z0
  have V4p : Arv Z h4 a4 k4 .byte n [(.int (0 : Int32)), (.int (0 : Int32)), (.int (0 : Int32))] (.int (0 : Int32)) := V4.pad (pad_rep [] _ 3)
  refine G.astore P4 at_27 rfl (l' := #[.val (.int x0), .val (.int x1), .val (.int x2), .val (.int x3), .val (.int x4), .val (.int x5), .val (.int n), .val (.int v0), .val (.int v1), .val (.int v2), .val (.ref a4), .unset, .unset, .unset, .unset]) rfl (pc' := 29) rfl ?_
  refine G.iload P4 at_29 rfl (pc' := 31) rfl ?_
  refine G.if_le P4 at_31 (by decide) (pcY := 41) (by decide) (pcN := 34) rfl (fun c6 => ?_) (fun c6 => ?_)
  · --
    refine G.iload P4 at_41 rfl (pc' := 43) rfl ?_
    refine G.iconst P4 at_43 (z := (1 : Int32)) rfl (pc' := 44) rfl ?_
    refine G.icmp_le P4 at_44 (by decide) (pcY := 54) (by decide) (pcN := 47) rfl (fun c7 => ?_) (fun c7 => ?_)
    · --
      refine G.iload P4 at_54 rfl (pc' := 56) rfl ?_
      refine G.iconst P4 at_56 (z := (2 : Int32)) rfl (pc' := 57) rfl ?_
      refine G.icmp_le P4 at_57 (by decide) (pcY := 67) (by decide) (pcN := 60) rfl (fun c8 => ?_) (fun c8 => ?_)
      · --
        have z9 : n0 ≤ Array.size h4 := (Nat.le_trans Z0 E4.1)
        exact own_tail a0 hw x0 x1 x2 x3 x4 x5 n v0 v1 v2 _ _ _ a4 k4 P4 N0 z9 g5 hn ⟨fun q => absurd q c6, fun q => absurd q c7, fun q => absurd q c8⟩ V4p
      · --
        refine G.aload P4 at_60 rfl rfl (pc' := 62) rfl ?_
        refine G.iconst P4 at_62 (z := (2 : Int32)) rfl (pc' := 63) rfl ?_
        refine G.iload P4 at_63 rfl (pc' := 65) rfl ?_
        refine G.i2b P4 at_65 rfl (pc' := 66) rfl ?_
        refine G.stB P4 V4p (2) rfl ⟨by decide, c8⟩ (Nat.le_of_ble_eq_true rfl) at_66 (pc' := 67) rfl fun T10 h10 P10 W10 V10 => ?_
        have V10p : Arv Z h10 a4 k4 .byte n [(.int (0 : Int32)), (.int (0 : Int32)), (.int (nar .byte (v2.toInt8.toInt32)))] (.int (0 : Int32)) := V10
        have N11 := Fr.snoc P10.st N0 g5
        have z12 : n0 ≤ Array.size h10 := (Nat.le_trans (Nat.le_trans Z0 E4.1) (Nat.le_of_eq W10.size.symm))
        exact own_tail a0 hw x0 x1 x2 x3 x4 x5 n v0 v1 v2 _ _ _ a4 k4 P10 N11 z12 g5 hn ⟨fun q => absurd q c6, fun q => absurd q c7, fun _ => own_byte v2 r2_⟩ V10p
    · --
      refine G.aload P4 at_47 rfl rfl (pc' := 49) rfl ?_
      refine G.iconst P4 at_49 (z := (1 : Int32)) rfl (pc' := 50) rfl ?_
      refine G.iload P4 at_50 rfl (pc' := 52) rfl ?_
      refine G.i2b P4 at_52 rfl (pc' := 53) rfl ?_
      refine G.stB P4 V4p (1) rfl ⟨by decide, c7⟩ (Nat.le_of_ble_eq_true rfl) at_53 (pc' := 54) rfl fun T13 h13 P13 W13 V13 => ?_
      have V13p : Arv Z h13 a4 k4 .byte n [(.int (0 : Int32)), (.int (nar .byte (v1.toInt8.toInt32))), (.int (0 : Int32))] (.int (0 : Int32)) := V13
      have N14 := Fr.snoc P13.st N0 g5
      refine G.iload P13 at_54 rfl (pc' := 56) rfl ?_
      refine G.iconst P13 at_56 (z := (2 : Int32)) rfl (pc' := 57) rfl ?_
      refine G.icmp_le P13 at_57 (by decide) (pcY := 67) (by decide) (pcN := 60) rfl (fun c15 => ?_) (fun c15 => ?_)
      · --
        have z16 : n0 ≤ Array.size h13 := (Nat.le_trans (Nat.le_trans Z0 E4.1) (Nat.le_of_eq W13.size.symm))
        exact own_tail a0 hw x0 x1 x2 x3 x4 x5 n v0 v1 v2 _ _ _ a4 k4 P13 N14 z16 g5 hn ⟨fun q => absurd q c6, fun _ => own_byte v1 r1_, fun q => absurd q c15⟩ V13p
      · --
        refine G.aload P13 at_60 rfl rfl (pc' := 62) rfl ?_
        refine G.iconst P13 at_62 (z := (2 : Int32)) rfl (pc' := 63) rfl ?_
        refine G.iload P13 at_63 rfl (pc' := 65) rfl ?_
        refine G.i2b P13 at_65 rfl (pc' := 66) rfl ?_
        refine G.stB P13 V13p (2) rfl ⟨by decide, c15⟩ (Nat.le_of_ble_eq_true rfl) at_66 (pc' := 67) rfl fun T17 h17 P17 W17 V17 => ?_
        have V17p : Arv Z h17 a4 k4 .byte n [(.int (0 : Int32)), (.int (nar .byte (v1.toInt8.toInt32))), (.int (nar .byte (v2.toInt8.toInt32)))] (.int (0 : Int32)) := V17
        have N18 := Fr.snoc P17.st N14 g5
        have z19 : n0 ≤ Array.size h17 := (Nat.le_trans (Nat.le_trans (Nat.le_trans Z0 E4.1) (Nat.le_of_eq W13.size.symm)) (Nat.le_of_eq W17.size.symm))
        exact own_tail a0 hw x0 x1 x2 x3 x4 x5 n v0 v1 v2 _ _ _ a4 k4 P17 N18 z19 g5 hn ⟨fun q => absurd q c6, fun _ => own_byte v1 r1_, fun _ => own_byte v2 r2_⟩ V17p
  · --
    refine G.aload P4 at_34 rfl rfl (pc' := 36) rfl ?_
    refine G.iconst P4 at_36 (z := (0 : Int32)) rfl (pc' := 37) rfl ?_
    refine G.iload P4 at_37 rfl (pc' := 39) rfl ?_
    refine G.i2b P4 at_39 rfl (pc' := 40) rfl ?_
    refine G.stB P4 V4p (0) rfl ⟨by decide, c6⟩ (Nat.le_of_ble_eq_true rfl) at_40 (pc' := 41) rfl fun T20 h20 P20 W20 V20 => ?_
    have V20p : Arv Z h20 a4 k4 .byte n [(.int (nar .byte (v0.toInt8.toInt32))), (.int (0 : Int32)), (.int (0 : Int32))] (.int (0 : Int32)) := V20
    have N21 := Fr.snoc P20.st N0 g5
    refine G.iload P20 at_41 rfl (pc' := 43) rfl ?_
    refine G.iconst P20 at_43 (z := (1 : Int32)) rfl (pc' := 44) rfl ?_
    refine G.icmp_le P20 at_44 (by decide) (pcY := 54) (by decide) (pcN := 47) rfl (fun c22 => ?_) (fun c22 => ?_)
    · --
      refine G.iload P20 at_54 rfl (pc' := 56) rfl ?_
      refine G.iconst P20 at_56 (z := (2 : Int32)) rfl (pc' := 57) rfl ?_
      refine G.icmp_le P20 at_57 (by decide) (pcY := 67) (by decide) (pcN := 60) rfl (fun c23 => ?_) (fun c23 => ?_)
      · --
        have z24 : n0 ≤ Array.size h20 := (Nat.le_trans (Nat.le_trans Z0 E4.1) (Nat.le_of_eq W20.size.symm))
        exact own_tail a0 hw x0 x1 x2 x3 x4 x5 n v0 v1 v2 _ _ _ a4 k4 P20 N21 z24 g5 hn ⟨fun _ => own_byte v0 r0_, fun q => absurd q c22, fun q => absurd q c23⟩ V20p
      · --
        refine G.aload P20 at_60 rfl rfl (pc' := 62) rfl ?_
        refine G.iconst P20 at_62 (z := (2 : Int32)) rfl (pc' := 63) rfl ?_
        refine G.iload P20 at_63 rfl (pc' := 65) rfl ?_
        refine G.i2b P20 at_65 rfl (pc' := 66) rfl ?_
        refine G.stB P20 V20p (2) rfl ⟨by decide, c23⟩ (Nat.le_of_ble_eq_true rfl) at_66 (pc' := 67) rfl fun T25 h25 P25 W25 V25 => ?_
        have V25p : Arv Z h25 a4 k4 .byte n [(.int (nar .byte (v0.toInt8.toInt32))), (.int (0 : Int32)), (.int (nar .byte (v2.toInt8.toInt32)))] (.int (0 : Int32)) := V25
        have N26 := Fr.snoc P25.st N21 g5
        have z27 : n0 ≤ Array.size h25 := (Nat.le_trans (Nat.le_trans (Nat.le_trans Z0 E4.1) (Nat.le_of_eq W20.size.symm)) (Nat.le_of_eq W25.size.symm))
        exact own_tail a0 hw x0 x1 x2 x3 x4 x5 n v0 v1 v2 _ _ _ a4 k4 P25 N26 z27 g5 hn ⟨fun _ => own_byte v0 r0_, fun q => absurd q c22, fun _ => own_byte v2 r2_⟩ V25p
    · --
      refine G.aload P20 at_47 rfl rfl (pc' := 49) rfl ?_
      refine G.iconst P20 at_49 (z := (1 : Int32)) rfl (pc' := 50) rfl ?_
      refine G.iload P20 at_50 rfl (pc' := 52) rfl ?_
      refine G.i2b P20 at_52 rfl (pc' := 53) rfl ?_
      refine G.stB P20 V20p (1) rfl ⟨by decide, c22⟩ (Nat.le_of_ble_eq_true rfl) at_53 (pc' := 54) rfl fun T28 h28 P28 W28 V28 => ?_
      have V28p : Arv Z h28 a4 k4 .byte n [(.int (nar .byte (v0.toInt8.toInt32))), (.int (nar .byte (v1.toInt8.toInt32))), (.int (0 : Int32))] (.int (0 : Int32)) := V28
      have N29 := Fr.snoc P28.st N21 g5
      refine G.iload P28 at_54 rfl (pc' := 56) rfl ?_
      refine G.iconst P28 at_56 (z := (2 : Int32)) rfl (pc' := 57) rfl ?_
      refine G.icmp_le P28 at_57 (by decide) (pcY := 67) (by decide) (pcN := 60) rfl (fun c30 => ?_) (fun c30 => ?_)
      · --
        have z31 : n0 ≤ Array.size h28 := (Nat.le_trans (Nat.le_trans (Nat.le_trans Z0 E4.1) (Nat.le_of_eq W20.size.symm)) (Nat.le_of_eq W28.size.symm))
        exact own_tail a0 hw x0 x1 x2 x3 x4 x5 n v0 v1 v2 _ _ _ a4 k4 P28 N29 z31 g5 hn ⟨fun _ => own_byte v0 r0_, fun _ => own_byte v1 r1_, fun q => absurd q c30⟩ V28p
      · --
        refine G.aload P28 at_60 rfl rfl (pc' := 62) rfl ?_
        refine G.iconst P28 at_62 (z := (2 : Int32)) rfl (pc' := 63) rfl ?_
        refine G.iload P28 at_63 rfl (pc' := 65) rfl ?_
        refine G.i2b P28 at_65 rfl (pc' := 66) rfl ?_
        refine G.stB P28 V28p (2) rfl ⟨by decide, c30⟩ (Nat.le_of_ble_eq_true rfl) at_66 (pc' := 67) rfl fun T32 h32 P32 W32 V32 => ?_
        have V32p : Arv Z h32 a4 k4 .byte n [(.int (nar .byte (v0.toInt8.toInt32))), (.int (nar .byte (v1.toInt8.toInt32))), (.int (nar .byte (v2.toInt8.toInt32)))] (.int (0 : Int32)) := V32
        have N33 := Fr.snoc P32.st N29 g5
        have z34 : n0 ≤ Array.size h32 := (Nat.le_trans (Nat.le_trans (Nat.le_trans (Nat.le_trans Z0 E4.1) (Nat.le_of_eq W20.size.symm)) (Nat.le_of_eq W28.size.symm)) (Nat.le_of_eq W32.size.symm))
        exact own_tail a0 hw x0 x1 x2 x3 x4 x5 n v0 v1 v2 _ _ _ a4 k4 P32 N33 z34 g5 hn ⟨fun _ => own_byte v0 r0_, fun _ => own_byte v1 r1_, fun _ => own_byte v2 r2_⟩ V32p

set_option maxRecDepth 65536 in
set_option maxHeartbeats 40000000 in
theorem comes_1 {Post : Tables → Env → Array Value → State → Outcome → State → Prop} (hpost : ∀ tb e args s v u, (limb_1_1.after args s (.returned v) u = true ∧ limb_1_2.after args s (.returned v) u = true ∧ True) → FrameEnd s (.returned v) u (Jvm.fieldLocs frame_1_writes args s ++ Jvm.arrayLocs frame_1_arrays args s ++ Jvm.staticLocs frame_1_statics s) 16 128 → Post tb e args s (.returned v) u) :
    ArmFor flags0 classFile x code maxLocals ret World_1 tables_1 room_1 Calls_1 rest_1 Pre_1 Post := by
  intro l hfl _ _ p e ha hc hk s m args below hf hA hF happ hP
  obtain ⟨hcalls, hrest, hpre⟩ := hP
  obtain ⟨-, -, -, hnamed, -, -, -, hat⟩ := (Spec.applies_iff hf).mp happ
  obtain ⟨hg, hn⟩ := and_e (Cond.before_iff.mp (show (Jvm.Cond.and given_1 narrow_1).before args s = true from hpre))
  obtain ⟨h1, hg1⟩ := and_e hg
  obtain ⟨i0, hg2⟩ := and_e hg1
  obtain ⟨i1, hg3⟩ := and_e hg2
  obtain ⟨i2, hg4⟩ := and_e hg3
  obtain ⟨i3, hg5⟩ := and_e hg4
  obtain ⟨i4, hg6⟩ := and_e hg5
  have i5 := hg6
  obtain ⟨w0, w1, w2, w3, w4, w5, rfl⟩ : ∃ w0 w1 w2 w3 w4 w5 : Value, args = #[w0, w1, w2, w3, w4, w5] := by
    have hs : args.size = 6 := by simpa [Cond.value, given_1] using h1
    obtain ⟨L⟩ := args
    match L, hs with
    | [w0, w1, w2, w3, w4, w5], _ => exact ⟨w0, w1, w2, w3, w4, w5, rfl⟩
  have hw := fun d (hd : d ∈ tables_1) => atoms_spec (ws := Jvm.Cond.code x code maxLocals ret :: tables_1) hat d (List.mem_cons_of_mem _ hd)
  obtain ⟨x0, e0⟩ := is_v i0
  obtain rfl : w0 = (.int x0) := Option.some.inj e0
  obtain ⟨x1, e1⟩ := is_v i1
  obtain rfl : w1 = (.int x1) := Option.some.inj e1
  obtain ⟨x2, e2⟩ := is_v i2
  obtain rfl : w2 = (.int x2) := Option.some.inj e2
  obtain ⟨x3, e3⟩ := is_v i3
  obtain rfl : w3 = (.int x3) := Option.some.inj e3
  obtain ⟨x4, e4⟩ := is_v i4
  obtain rfl : w4 = (.int x4) := Option.some.inj e4
  obtain ⟨x5, e5⟩ := is_v i5
  obtain rfl : w5 = (.int x5) := Option.some.inj e5
  obtain ⟨n, o, h1, h2, h3, _, L, rfl, ⟨rfl, N⟩, hq⟩ := rm0 l s _ hw x0 x1 x2 x3 x4 x5 s.heap s.heap.size (Nat.le_refl _)  p e ha hc hk s m _ below hf ((Spec.applies_iff_loose hf).mp happ).1 ⟨rfl, State.Warmed39.refl s, rfl⟩ trivial
  refine ⟨n, _, h1, h2, h3, hpost _ _ _ _ _ _ ⟨Cond.after_iff.mpr rfl, Cond.after_iff.mpr (eq_i res_at (Term.int_eval (1)) rfl), trivial⟩ ⟨hq.1, hq.2.1, (hq.2.2.sift fun y hy => Or.inr (N y hy)).mono (by decide) (by decide)⟩⟩
theorem main_1_1 : Claimed_1_1 := comes_1 fun _ _ _ _ _ _ h hF => ⟨h.1, hF⟩
theorem main_1_2 : Claimed_1_2 := comes_1 fun _ _ _ _ _ _ h hF => ⟨h.2.1, hF⟩
end Jvm.Pilot.@@N@@
namespace Jvm.Pilot.@@N@@
open Jvm Jvm.ClassFile Sem Op Lib Jvm.Free Jvm.Stand Jvm.Pilot.@@N@@.Jvm.D
/-! MADE BY PROGRAM (witnessworld.py) out of the Statement's table words and the real class files: 9 classes; the members and pool entries that the words name. The judged class is class 1, her method 1. -/
namespace start1
open Jvm.ClassFile
def u (s : String) : CpInfo := .utf8 (stringToUtf16 s)
/-- a pool by its gaps: so many unusable entries, then the entry; so many at the end -/
def gap : Nat → List CpInfo → List CpInfo
  | 0, r => r
  | n + 1, r => .unusable :: gap n r
def poolList (es : List (Nat × CpInfo)) (last : Nat) : List CpInfo := es.foldr (fun e r => gap e.1 (e.2 :: r)) (gap last [])
def pool (es : List (Nat × CpInfo)) (last : Nat) : Array CpInfo := ⟨poolList es last⟩
def fileOf (pool : Array CpInfo) (this : Nat) (attrs : Array Attribute := #[]) (ms : Array MethodInfo := #[]) (fl : Nat := 33) (sup : Nat := 0) (ifs : Array Nat := #[]) (fds : Array FieldInfo := #[]) : ClassFile where
  minorVersion := 0
  majorVersion := 65
  constantPool := pool
  accessFlags := fl
  thisClass := this
  superClass := sup
  interfaces := ifs
  fields := fds
  methods := ms
  attributes := attrs
def plain (name : String) (sup : Option ClassId) : Class where
  name := name
  kind := .ordinary
  loader := none
  accessFlags := 33
  super := sup
  interfaces := #[]
  cf := none
  fields := #[]
  methods := #[]
  instanceTypes := #[]
  staticTypes := #[]
  resolved := #[]
  callSites := []
  init := .initialized
  statics := none
  mirror := none

def pool0 : Array CpInfo := pool [(5, u "<init>"), (0, u "()V"), (1, .class_ 10), (1, u "java/lang/Object")] 113

def k0c0 : Code := { maxStack := 0, maxLocals := 1, code := object_method_1_code, exceptionTable := #[], attributes := #[] }
def k0m0 : Method := { name := "<init>", desc := "()V", sig := { parameters := [], returnType := none }, accessFlags := 1, code := some k0c0 }
/-- java/lang/Object -/
def k0 : Class := { plain "java/lang/Object" none with
  accessFlags := 33
  interfaces := #[]
  cf := some (fileOf pool0 8 #[] #[{ accessFlags := 1, nameIndex := 5, descriptorIndex := 6, attributes := #[] }] 33 0 #[] #[])
  fields := #[]
  methods := #[k0m0]
  instanceTypes := #[]
  staticTypes := #[]
  resolved := Array.replicate 124 none
  statics := none }

def pool1 : Array CpInfo := pool [(2, .class_ 4), (1, u "java/lang/Object"), (0, u "<init>"), (0, u "()V"), (0, .methodref 8 9), (0, .class_ 10), (0, .nameAndType 11 12), (0, u "com/example/byteloom/byteloom/cbor/CborReaderAtEndPinLaw"), (0, u "pick"), (0, u "(I)I"), (0, .class_ 14), (0, u "com/example/byteloom/byteloom/cbor/CborReader"), (0, .integer 2147483647), (0, .methodref 13 17), (0, .nameAndType 5 18), (0, u "([BI)V"), (0, .methodref 13 20), (0, .nameAndType 21 22), (0, u "atEnd"), (0, u "()Z"), (0, .methodref 13 24), (0, .nameAndType 25 22), (0, u "readNull"), (0, .methodref 8 27), (0, .nameAndType 28 29), (0, u "step"), (0, u "(IIIII)I"), (2, u "law"), (0, u "(IIIIII)Z")] 5

def k1m0 : Method := { name := "<init>", desc := "()V", sig := { parameters := [], returnType := none }, accessFlags := 1, code := none }
def k1c1 : Code := { maxStack := 5, maxLocals := 15, code := code, exceptionTable := #[], attributes := #[] }
def k1m1 : Method := { name := "law", desc := "(IIIIII)Z", sig := { parameters := [.int, .int, .int, .int, .int, .int], returnType := some .boolean }, accessFlags := 9, code := some k1c1 }
def k1c2 : Code := { maxStack := 2, maxLocals := 1, code := method_3_code, exceptionTable := #[], attributes := #[] }
def k1m2 : Method := { name := "pick", desc := "(I)I", sig := { parameters := [.int], returnType := some .int }, accessFlags := 10, code := some k1c2 }
def k1c3 : Code := { maxStack := 2, maxLocals := 6, code := method_4_code, exceptionTable := #[], attributes := #[] }
def k1m3 : Method := { name := "step", desc := "(IIIII)I", sig := { parameters := [.int, .int, .int, .int, .int], returnType := some .int }, accessFlags := 10, code := some k1c3 }
/-- com/example/byteloom/byteloom/cbor/CborReaderAtEndPinLaw -/
def k1 : Class := { plain "com/example/byteloom/byteloom/cbor/CborReaderAtEndPinLaw" (some 0) with
  accessFlags := 49
  interfaces := #[]
  cf := some (fileOf pool1 8 #[] #[{ accessFlags := 1, nameIndex := 5, descriptorIndex := 6, attributes := #[] }, { accessFlags := 9, nameIndex := 32, descriptorIndex := 33, attributes := #[] }, { accessFlags := 10, nameIndex := 11, descriptorIndex := 12, attributes := #[] }, { accessFlags := 10, nameIndex := 28, descriptorIndex := 29, attributes := #[] }] 49 2 #[] #[])
  fields := #[]
  methods := #[k1m0, k1m1, k1m2, k1m3]
  instanceTypes := #[]
  staticTypes := #[]
  resolved := Array.replicate 39 none
  statics := none }

def pool2 : Array CpInfo := pool [(1, .class_ 2), (0, u "com/example/byteloom/byteloom/cbor/CborReader"), (2, u "<init>"), (0, u "([BI)V"), (0, .methodref 8 9), (0, .class_ 10), (0, .nameAndType 5 11), (0, u "java/lang/Object"), (0, u "()V"), (9, .fieldref 1 22), (0, .nameAndType 23 24), (0, u "bytes"), (0, u "[B"), (0, .fieldref 1 26), (0, .nameAndType 27 28), (0, u "maxNesting"), (0, u "I"), (28, .fieldref 1 58), (0, .nameAndType 59 28), (0, u "offset"), (87, u "IGNORE"), (0, u "Lcom/example/byteloom/byteloom/cbor/CborHandler;"), (87, u "atEnd"), (0, u "()Z"), (10, u "NOTHING_OPEN"), (0, u "[J"), (62, u "lastTruncation"), (0, u "Lcom/example/byteloom/byteloom/ByteloomException;"), (166, .class_ 481), (0, u "com/example/byteloom/byteloom/cbor/CborReader$1"), (1, u "DEFAULT_MAX_NESTING"), (2, u "MAJOR_UNSIGNED"), (1, u "MAJOR_NEGATIVE"), (1, u "MAJOR_BYTES"), (1, u "MAJOR_TEXT"), (1, u "MAJOR_ARRAY"), (1, u "MAJOR_MAP"), (1, u "MAJOR_TAG"), (1, u "MAJOR_SIMPLE"), (1, u "ONE_BYTE"), (1, u "INDEFINITE"), (1, u "BREAK"), (1, u "MAX_MEMBER_NUMBER"), (0, u "J"), (0, u "OPEN_ARRAY"), (0, u "OPEN_MAP_AT_KEY"), (0, u "OPEN_MAP_AT_VALUE"), (0, u "NONE"), (0, u "SOME"), (1, u "U8"), (0, u "U16"), (1, u "U32"), (1, u "U64"), (1, u "F16"), (1, u "F32"), (1, u "F64"), (1, u "INDEFINITE_ARRAY"), (1, u "FALSE"), (1, u "TRUE"), (1, u "NULL"), (35, u "readNull")] 98

def k2c0 : Code := { maxStack := 3, maxLocals := 3, code := prog_6_method_2_code, exceptionTable := #[], attributes := #[] }
def k2m0 : Method := { name := "<init>", desc := "([BI)V", sig := { parameters := [(.array .byte), .int], returnType := none }, accessFlags := 1, code := some k2c0 }
def k2c1 : Code := { maxStack := 3, maxLocals := 2, code := prog_6_method_27_code, exceptionTable := #[], attributes := #[] }
def k2m1 : Method := { name := "readNull", desc := "()Z", sig := { parameters := [], returnType := some .boolean }, accessFlags := 1, code := some k2c1 }
def k2c2 : Code := { maxStack := 2, maxLocals := 1, code := prog_6_method_29_code, exceptionTable := #[], attributes := #[] }
def k2m2 : Method := { name := "atEnd", desc := "()Z", sig := { parameters := [], returnType := some .boolean }, accessFlags := 1, code := some k2c2 }
/-- com/example/byteloom/byteloom/cbor/CborReader -/
def k2 : Class := { plain "com/example/byteloom/byteloom/cbor/CborReader" (some 0) with
  accessFlags := 49
  interfaces := #[]
  cf := some (fileOf pool2 1 #[.nestMembers #[480]] #[{ accessFlags := 1, nameIndex := 5, descriptorIndex := 6, attributes := #[] }, { accessFlags := 1, nameIndex := 571, descriptorIndex := 237, attributes := #[] }, { accessFlags := 1, nameIndex := 236, descriptorIndex := 237, attributes := #[] }] 49 8 #[] #[{ accessFlags := 25, nameIndex := 483, descriptorIndex := 28, attributes := #[] }, { accessFlags := 26, nameIndex := 486, descriptorIndex := 28, attributes := #[] }, { accessFlags := 26, nameIndex := 488, descriptorIndex := 28, attributes := #[] }, { accessFlags := 26, nameIndex := 490, descriptorIndex := 28, attributes := #[] }, { accessFlags := 26, nameIndex := 492, descriptorIndex := 28, attributes := #[] }, { accessFlags := 26, nameIndex := 494, descriptorIndex := 28, attributes := #[] }, { accessFlags := 26, nameIndex := 496, descriptorIndex := 28, attributes := #[] }, { accessFlags := 26, nameIndex := 498, descriptorIndex := 28, attributes := #[] }, { accessFlags := 26, nameIndex := 500, descriptorIndex := 28, attributes := #[] }, { accessFlags := 26, nameIndex := 502, descriptorIndex := 28, attributes := #[] }, { accessFlags := 26, nameIndex := 504, descriptorIndex := 28, attributes := #[] }, { accessFlags := 26, nameIndex := 506, descriptorIndex := 28, attributes := #[] }, { accessFlags := 26, nameIndex := 508, descriptorIndex := 509, attributes := #[] }, { accessFlags := 26, nameIndex := 510, descriptorIndex := 509, attributes := #[] }, { accessFlags := 26, nameIndex := 511, descriptorIndex := 509, attributes := #[] }, { accessFlags := 26, nameIndex := 512, descriptorIndex := 509, attributes := #[] }, { accessFlags := 26, nameIndex := 513, descriptorIndex := 28, attributes := #[] }, { accessFlags := 26, nameIndex := 514, descriptorIndex := 28, attributes := #[] }, { accessFlags := 26, nameIndex := 516, descriptorIndex := 28, attributes := #[] }, { accessFlags := 26, nameIndex := 517, descriptorIndex := 28, attributes := #[] }, { accessFlags := 26, nameIndex := 519, descriptorIndex := 28, attributes := #[] }, { accessFlags := 26, nameIndex := 521, descriptorIndex := 28, attributes := #[] }, { accessFlags := 26, nameIndex := 523, descriptorIndex := 28, attributes := #[] }, { accessFlags := 26, nameIndex := 525, descriptorIndex := 28, attributes := #[] }, { accessFlags := 26, nameIndex := 527, descriptorIndex := 28, attributes := #[] }, { accessFlags := 26, nameIndex := 529, descriptorIndex := 28, attributes := #[] }, { accessFlags := 26, nameIndex := 531, descriptorIndex := 28, attributes := #[] }, { accessFlags := 26, nameIndex := 533, descriptorIndex := 28, attributes := #[] }, { accessFlags := 26, nameIndex := 535, descriptorIndex := 28, attributes := #[] }, { accessFlags := 26, nameIndex := 147, descriptorIndex := 148, attributes := #[] }, { accessFlags := 26, nameIndex := 248, descriptorIndex := 249, attributes := #[] }, { accessFlags := 18, nameIndex := 23, descriptorIndex := 24, attributes := #[] }, { accessFlags := 18, nameIndex := 27, descriptorIndex := 28, attributes := #[] }, { accessFlags := 2, nameIndex := 59, descriptorIndex := 28, attributes := #[] }, { accessFlags := 2, nameIndex := 312, descriptorIndex := 313, attributes := #[] }])
  fields := #[{ name := "DEFAULT_MAX_NESTING", type := .int, accessFlags := 25, slot := 0, constantValue := 0 }, { name := "MAJOR_UNSIGNED", type := .int, accessFlags := 26, slot := 1, constantValue := 0 }, { name := "MAJOR_NEGATIVE", type := .int, accessFlags := 26, slot := 2, constantValue := 0 }, { name := "MAJOR_BYTES", type := .int, accessFlags := 26, slot := 3, constantValue := 0 }, { name := "MAJOR_TEXT", type := .int, accessFlags := 26, slot := 4, constantValue := 0 }, { name := "MAJOR_ARRAY", type := .int, accessFlags := 26, slot := 5, constantValue := 0 }, { name := "MAJOR_MAP", type := .int, accessFlags := 26, slot := 6, constantValue := 0 }, { name := "MAJOR_TAG", type := .int, accessFlags := 26, slot := 7, constantValue := 0 }, { name := "MAJOR_SIMPLE", type := .int, accessFlags := 26, slot := 8, constantValue := 0 }, { name := "ONE_BYTE", type := .int, accessFlags := 26, slot := 9, constantValue := 0 }, { name := "INDEFINITE", type := .int, accessFlags := 26, slot := 10, constantValue := 0 }, { name := "BREAK", type := .int, accessFlags := 26, slot := 11, constantValue := 0 }, { name := "MAX_MEMBER_NUMBER", type := .long, accessFlags := 26, slot := 12, constantValue := 0 }, { name := "OPEN_ARRAY", type := .long, accessFlags := 26, slot := 13, constantValue := 0 }, { name := "OPEN_MAP_AT_KEY", type := .long, accessFlags := 26, slot := 14, constantValue := 0 }, { name := "OPEN_MAP_AT_VALUE", type := .long, accessFlags := 26, slot := 15, constantValue := 0 }, { name := "NONE", type := .int, accessFlags := 26, slot := 16, constantValue := 0 }, { name := "SOME", type := .int, accessFlags := 26, slot := 17, constantValue := 0 }, { name := "U8", type := .int, accessFlags := 26, slot := 18, constantValue := 0 }, { name := "U16", type := .int, accessFlags := 26, slot := 19, constantValue := 0 }, { name := "U32", type := .int, accessFlags := 26, slot := 20, constantValue := 0 }, { name := "U64", type := .int, accessFlags := 26, slot := 21, constantValue := 0 }, { name := "F16", type := .int, accessFlags := 26, slot := 22, constantValue := 0 }, { name := "F32", type := .int, accessFlags := 26, slot := 23, constantValue := 0 }, { name := "F64", type := .int, accessFlags := 26, slot := 24, constantValue := 0 }, { name := "INDEFINITE_ARRAY", type := .int, accessFlags := 26, slot := 25, constantValue := 0 }, { name := "FALSE", type := .int, accessFlags := 26, slot := 26, constantValue := 0 }, { name := "TRUE", type := .int, accessFlags := 26, slot := 27, constantValue := 0 }, { name := "NULL", type := .int, accessFlags := 26, slot := 28, constantValue := 0 }, { name := "IGNORE", type := (.object "com/example/byteloom/byteloom/cbor/CborHandler"), accessFlags := 26, slot := 29, constantValue := 0 }, { name := "NOTHING_OPEN", type := (.array .long), accessFlags := 26, slot := 30, constantValue := 0 }, { name := "bytes", type := (.array .byte), accessFlags := 18, slot := 0, constantValue := 0 }, { name := "maxNesting", type := .int, accessFlags := 18, slot := 1, constantValue := 0 }, { name := "offset", type := .int, accessFlags := 2, slot := 2, constantValue := 0 }, { name := "lastTruncation", type := (.object "com/example/byteloom/byteloom/ByteloomException"), accessFlags := 2, slot := 3, constantValue := 0 }]
  methods := #[k2m0, k2m1, k2m2]
  instanceTypes := #[(.array .byte), .int, .int, (.object "com/example/byteloom/byteloom/ByteloomException")]
  staticTypes := #[.int, .int, .int, .int, .int, .int, .int, .int, .int, .int, .int, .int, .long, .long, .long, .long, .int, .int, .int, .int, .int, .int, .int, .int, .int, .int, .int, .int, .int, (.object "com/example/byteloom/byteloom/cbor/CborHandler"), (.array .long)]
  resolved := Array.replicate 670 none
  statics := none }

def pool3 : Array CpInfo := pool [(1, u "java/lang/Cloneable"), (0, .class_ 1), (0, u "java/lang/Object"), (0, .class_ 3)] 3

/-- java/lang/Cloneable -/
def k3 : Class := { plain "java/lang/Cloneable" (some 0) with
  accessFlags := 1537
  interfaces := #[]
  cf := some (fileOf pool3 2 #[] #[] 1537 4 #[] #[])
  fields := #[]
  methods := #[]
  instanceTypes := #[]
  staticTypes := #[]
  resolved := Array.replicate 8 none
  statics := none }

def pool4 : Array CpInfo := pool [(1, u "java/io/Serializable"), (0, .class_ 1), (0, u "java/lang/Object"), (0, .class_ 3)] 3

/-- java/io/Serializable -/
def k4 : Class := { plain "java/io/Serializable" (some 0) with
  accessFlags := 1537
  interfaces := #[]
  cf := some (fileOf pool4 2 #[] #[] 1537 4 #[] #[])
  fields := #[]
  methods := #[]
  instanceTypes := #[]
  staticTypes := #[]
  resolved := Array.replicate 8 none
  statics := none }

/-- the primitive byte -/
def k5 : Class := { plain "byte" none with kind := .primitive 'B', accessFlags := 0x411 }
/-- [B -/
def k6 : Class := { plain "[B" (some 0) with kind := .array 5 .byte, interfaces := #[3, 4], accessFlags := 1041 }

/-- the primitive int -/
def k7 : Class := { plain "int" none with kind := .primitive 'I', accessFlags := 0x411 }
/-- [I -/
def k8 : Class := { plain "[I" (some 0) with kind := .array 7 .int, interfaces := #[3, 4], accessFlags := 1041 }

def heap : Heap := #[]
def classes : Array Class := #[k0, k1, k2, k3, k4, k5, k6, k7, k8]
def interned : List (Array UInt16 × Addr) := []
def slotsUsed : Nat := 0
def theMethod : MethodId := ⟨1, 1⟩
def args0 : Array Value := #[.int 2, .int 256, .int 77, .int 5, .int 3, .int 9]
def aboutOver (below : List Frame) : State where
  vm := { classes := classes, interned := interned.toArray }
  heap := heap
  slotsUsed := slotsUsed
  threads := #[{ frames := .invoking theMethod args0 :: below }]
def below0 : List Frame := [.native { method := ⟨0, 0⟩, args := #[] }]
def about1 : State := aboutOver below0
def p0 : Program := .bare "" "" ""
def e0 : Env := launch0.env 0 0 0
theorem w_frames : about1.frames = Frame.invoking theMethod args0 :: below0 := rfl
set_option maxRecDepth 65536 in
theorem w_args : argsFit about1.vm theMethod args0 = true := by decide +kernel
set_option maxRecDepth 65536 in
theorem w_heap : heapFits about1 = true := by decide +kernel
set_option maxRecDepth 65536 in
theorem w_runnable : about1.curStatus? = some .runnable := by decide +kernel
set_option maxRecDepth 65536 in
theorem w_alone : about1.alone = true := by decide +kernel
set_option maxRecDepth 65536 in
theorem w_named : about1.methodNamed? x = some theMethod := by decide +kernel
set_option maxRecDepth 65536 in
theorem w_hears : about1.hears theMethod below0 = true := by decide +kernel
set_option maxRecDepth 65536 in
theorem w_ripe : about1.ripe theMethod args0 below0 = true := by decide +kernel
theorem w_running : about1.status = .running := rfl
set_option maxRecDepth 65536 in
theorem w_room : about1.hasRoom e0.platform room_1 = true :=
  launch0.hasRoom_least _ room_1 (by decide +kernel) (by decide +kernel) (by decide +kernel) (by decide +kernel) (by decide +kernel) (by decide +kernel)
theorem allAtoms_all (ts : List Jvm.Cond) (a : Array Jvm.Value) (st : Jvm.State) : (allAtoms ts).before a st = ts.all (fun c => c.before a st) := by
  induction ts with
  | nil => rfl
  | cons c t ih =>
    show (Jvm.Cond.and c (allAtoms t)).before a st = _
    rw [Jvm.Cond.before_and, ih, List.all_cons]
def words1 : List Jvm.Cond := Jvm.Cond.code x code maxLocals ret :: tables_1
/-- a 'code' word, met by the world's own term for the bytes: nothing is compared byte by byte -/
theorem code_word {y : MethodName} {bytes : ByteArray} {mx : Nat} {rt : Option FieldType} {a : Array Value} {s : State} {m : MethodId} {meth : Method} {c : Code} (h1 : s.methodNamed? y = some m) (h2 : s.vm.method? m = some meth) (h3 : meth.code = some c) (h4 : c.code = bytes)
    (h5 : (c.maxLocals == mx && c.exceptionTable.isEmpty && decide (c.maxStack ≤ mostOperands) && decide (meth.sig.returnType = rt) && !meth.locks && decide (parseMethodDescriptor y.desc = some meth.sig)) = true) : (Jvm.Cond.code y bytes mx rt).before a s = true := by
  simp only [Bool.and_eq_true, beq_iff_eq, Bool.not_eq_true', decide_eq_true_eq] at h5
  obtain ⟨⟨⟨⟨⟨g1, g2⟩, g3⟩, g4⟩, g5⟩, g6⟩ := h5
  simp [Cond.before, Cond.holds, Cond.value, h1, h2, h3, h4, g1, g2, g3, g4, g5, g6]
def isCode : Jvm.Cond → Bool
  | .code _ _ _ _ => true
  | _ => false
theorem all_split {L : List Jvm.Cond} {P : Jvm.Cond → Bool} (h1 : L.all (fun c => isCode c || P c) = true) (h2 : ∀ c ∈ L.filter isCode, P c = true) : L.all P = true := by
  refine List.all_eq_true.mpr fun c hc => ?_
  have h := List.all_eq_true.mp h1 c hc
  rcases Bool.eq_false_or_eq_true (isCode c) with hi | hi
  · exact h2 c (List.mem_filter.mpr ⟨hc, hi⟩)
  · simpa [hi] using h
set_option maxRecDepth 65536 in
theorem w_c0 : (Jvm.Cond.code x code maxLocals ret).before args0 about1 = true := code_word (m := ⟨1, 1⟩) (meth := k1m1) (c := k1c1) (by decide +kernel) rfl rfl rfl (by decide +kernel)
set_option maxRecDepth 65536 in
theorem w_c1 : (Jvm.Cond.code ({ cls := "com/example/byteloom/byteloom/cbor/CborReaderAtEndPinLaw", name := "pick", desc := "(I)I" } : Jvm.MethodName) method_3_code (1 : Nat) (Option.some Jvm.ClassFile.FieldType.int)).before args0 about1 = true := code_word (m := ⟨1, 2⟩) (meth := k1m2) (c := k1c2) (by decide +kernel) rfl rfl rfl (by decide +kernel)
set_option maxRecDepth 65536 in
theorem w_c2 : (Jvm.Cond.code ({ cls := "com/example/byteloom/byteloom/cbor/CborReader", name := "<init>", desc := "([BI)V" } : Jvm.MethodName) prog_6_method_2_code (3 : Nat) (Option.none : Option Jvm.ClassFile.FieldType)).before args0 about1 = true := code_word (m := ⟨2, 0⟩) (meth := k2m0) (c := k2c0) (by decide +kernel) rfl rfl rfl (by decide +kernel)
set_option maxRecDepth 65536 in
theorem w_c3 : (Jvm.Cond.code ({ cls := "java/lang/Object", name := "<init>", desc := "()V" } : Jvm.MethodName) object_method_1_code (1 : Nat) (Option.none : Option Jvm.ClassFile.FieldType)).before args0 about1 = true := code_word (m := ⟨0, 0⟩) (meth := k0m0) (c := k0c0) (by decide +kernel) rfl rfl rfl (by decide +kernel)
set_option maxRecDepth 65536 in
theorem w_c4 : (Jvm.Cond.code ({ cls := "com/example/byteloom/byteloom/cbor/CborReader", name := "atEnd", desc := "()Z" } : Jvm.MethodName) prog_6_method_29_code (1 : Nat) (Option.some Jvm.ClassFile.FieldType.boolean)).before args0 about1 = true := code_word (m := ⟨2, 2⟩) (meth := k2m2) (c := k2c2) (by decide +kernel) rfl rfl rfl (by decide +kernel)
set_option maxRecDepth 65536 in
theorem w_c5 : (Jvm.Cond.code ({ cls := "com/example/byteloom/byteloom/cbor/CborReader", name := "readNull", desc := "()Z" } : Jvm.MethodName) prog_6_method_27_code (2 : Nat) (Option.some Jvm.ClassFile.FieldType.boolean)).before args0 about1 = true := code_word (m := ⟨2, 1⟩) (meth := k2m1) (c := k2c1) (by decide +kernel) rfl rfl rfl (by decide +kernel)
set_option maxRecDepth 65536 in
theorem w_c6 : (Jvm.Cond.code ({ cls := "com/example/byteloom/byteloom/cbor/CborReaderAtEndPinLaw", name := "step", desc := "(IIIII)I" } : Jvm.MethodName) method_4_code (6 : Nat) (Option.some Jvm.ClassFile.FieldType.int)).before args0 about1 = true := code_word (m := ⟨1, 3⟩) (meth := k1m3) (c := k1c3) (by decide +kernel) rfl rfl rfl (by decide +kernel)
def codes1 : List Jvm.Cond := [Jvm.Cond.code x code maxLocals ret, Jvm.Cond.code ({ cls := "com/example/byteloom/byteloom/cbor/CborReaderAtEndPinLaw", name := "pick", desc := "(I)I" } : Jvm.MethodName) method_3_code (1 : Nat) (Option.some Jvm.ClassFile.FieldType.int), Jvm.Cond.code ({ cls := "com/example/byteloom/byteloom/cbor/CborReader", name := "<init>", desc := "([BI)V" } : Jvm.MethodName) prog_6_method_2_code (3 : Nat) (Option.none : Option Jvm.ClassFile.FieldType), Jvm.Cond.code ({ cls := "java/lang/Object", name := "<init>", desc := "()V" } : Jvm.MethodName) object_method_1_code (1 : Nat) (Option.none : Option Jvm.ClassFile.FieldType), Jvm.Cond.code ({ cls := "com/example/byteloom/byteloom/cbor/CborReader", name := "atEnd", desc := "()Z" } : Jvm.MethodName) prog_6_method_29_code (1 : Nat) (Option.some Jvm.ClassFile.FieldType.boolean), Jvm.Cond.code ({ cls := "com/example/byteloom/byteloom/cbor/CborReader", name := "readNull", desc := "()Z" } : Jvm.MethodName) prog_6_method_27_code (2 : Nat) (Option.some Jvm.ClassFile.FieldType.boolean), Jvm.Cond.code ({ cls := "com/example/byteloom/byteloom/cbor/CborReaderAtEndPinLaw", name := "step", desc := "(IIIII)I" } : Jvm.MethodName) method_4_code (6 : Nat) (Option.some Jvm.ClassFile.FieldType.int)]
set_option maxRecDepth 65536 in
theorem codes_eq : words1.filter isCode = codes1 := rfl
theorem w_codes : ∀ c ∈ words1.filter isCode, c.before args0 about1 = true := by
  rw [codes_eq]
  intro c hc
  simp only [codes1, List.mem_cons, List.not_mem_nil, or_false] at hc
  rcases hc with rfl | rfl | rfl | rfl | rfl | rfl | rfl
  · exact w_c0
  · exact w_c1
  · exact w_c2
  · exact w_c3
  · exact w_c4
  · exact w_c5
  · exact w_c6
set_option maxRecDepth 65536 in
theorem w_t1 : (words1.take 24).all (fun c => isCode c || c.before args0 about1) = true := by decide +kernel
set_option maxRecDepth 65536 in
theorem w_t2 : (words1.drop 24).all (fun c => isCode c || c.before args0 about1) = true := by decide +kernel
theorem w_tables : (allAtoms (Jvm.Cond.code x code maxLocals ret :: tables_1)).before args0 about1 = true := by
  rw [allAtoms_all]
  show words1.all (fun c => c.before args0 about1) = true
  refine all_split ?_ w_codes
  rw [← List.take_append_drop 24 words1, List.all_append, w_t1, w_t2]
  rfl
set_option maxRecDepth 65536 in
theorem w_case : (Jvm.Cond.and given_1 narrow_1).before args0 about1 = true := by decide +kernel
theorem w_applies : (headSpec (Jvm.Cond.code x code maxLocals ret :: tables_1) room_1).applies x e0.platform about1 = true :=
  (Spec.applies_iff w_frames).mpr ⟨w_running, w_runnable, w_alone, w_named, w_hears, w_ripe, w_room, w_tables⟩
theorem atStart : AtStart classFile x code maxLocals ret World_1 tables_1 room_1 Calls_1 rest_1 Pre_1 launch0 p0 e0 about1 theMethod args0 below0 :=
  ⟨lists_1, trivial, launch0.admits_env _ _ _, launch0.least_env, fairChoices_fair.cas, fairChoices_fair.clock, w_frames, w_args, w_heap, w_applies, trivial, trivial, w_case⟩
end start1
theorem witness_1 : WitnessClaimed_1 := ⟨start1.p0, start1.e0, start1.about1, start1.theMethod, start1.args0, start1.below0, start1.atStart⟩
end Jvm.Pilot.@@N@@
