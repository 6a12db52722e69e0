import JvmDerived
import JvmDerived.Pilot.@@N@@Statement
import JvmDerived.Pilot.@@N@@Code
set_option linter.unusedVariables false
set_option linter.unusedSimpArgs false
namespace Jvm.RoadKit
open Sem ClassFile Op Lib Jvm.Stand Jvm.Free Jvm.LawKit
section New
variable {p : Program} {l : Launch} {e : Env} {R : Room} {s : State} {m : MethodId} {args : Array Value} {below : List Frame} {meth : Method} {c : Code} {T : State} {locs : List Loc} {cells slots : Nat}
theorem retI (X : Stand p l e R s m args below meth c T locs cells slots) (hx : p.tables.exec = Jvm.exec) {pc : Nat} {Ls : Array Slot} {z : Int32} {rest : List Value} (hret : meth.sig.returnType = some .int) (hd : decode c.code pc = .ok (.ireturn, 1)) {fs : List Frame}
    (hl : ∀ (f : JFrame) (acts : List Action), f.method = m → f.locked = none → f.entered = [] → (doReturn e (T.setTop f) acts (some (.int z))).1 = T.setFrames fs) : Steps p.tables e below (T.setTop (mkF m pc Ls (.int z :: rest))) (T.setFrames fs) := by
  have hm' : T.vm.method? m = some meth := X.method'
  have hn : narrow .int (.int z) = .int z := rfl
  show Steps p.tables e below (T.setTop { method := m, pc := pc, locals := Ls, stack := _ :: rest, locked := none }) _
  jvm_step X.here [X.here.top, hx, hd, hm', hret, hn]
  first | (intro acts; rw [hl _ acts rfl rfl rfl]) | rw [hl _ _ rfl rfl rfl]
  exact Steps.refl _
end New
end Jvm.RoadKit
namespace Jvm.OwnKit
open Jvm Jvm.ClassFile Sem Op Lib Jvm.Free Jvm.Stand Jvm.LawKit Jvm.RoadKit
/-- the walk comes to an end as Q says -/
def Go (p : Program) (e : Env) (below : List Frame) (F : Option Value → State → Prop) (S0 : State) : Prop :=
  ∃ (t : State) (o : Outcome), Steps p.tables e below S0 t ∧ t.status = .running ∧ Ended t below o ∧ ∃ v, o = .returned v ∧ F v t
/-- the end as a contract says it -/
def NF (s : State) (cs ss : Nat) (Q : Option Value → Heap → List Loc → Prop) : Option Value → State → Prop := fun v t => ∃ L, Q v t.heap L ∧ FrameEnd s (.returned v) t L cs ss
/-- where the walk stands: what is fixed for the whole body, the Stand, the heap -/
def Pos (p : Program) (l : Launch) (e : Env) (R : Room) (s : State) (m : MethodId) (args : Array Value) (below : List Frame) (meth : Method) (c : Code) (Z : State) (own : String) (bytes : ByteArray) (ml : Nat) (ret : Option FieldType) (nm : String) (T : State) (h : Heap) (locs : List Loc) (cells slots : Nat) : Prop :=
  (p.tables.exec = Jvm.exec ∧ Z.Warmed39 s.vm ∧ s.vm.findClass own = some m.cls ∧ c.code = bytes ∧ c.maxLocals = ml ∧ meth.sig.returnType = ret ∧ meth.locks = false ∧ meth.name = nm) ∧ Stand p l e R s m args below meth c T locs cells slots ∧ T.heap = h
def ushr (x y : Int32) : Int32 := (x.toUInt32 >>> (y &&& 31).toUInt32).toInt32
def ushrJ (x : Int64) (y : Int32) : Int64 := (x.toUInt64 >>> (y &&& 0x3f).toInt64.toUInt64).toInt64
def lcmpO (x y : Int64) : Int32 := if x > y then 1 else if x = y then 0 else -1
/-- a callee's contract, at one heap, for one list of arguments -/
abbrev OMeets (l : Launch) (Z : State) (y : MethodName) (bytes : ByteArray) (ml : Nat) (ret : Option FieldType) (rm : Room) (as' : Array Value) (h0 : Heap) (Q : Option Value → Heap → List Loc → Prop) : Prop :=
  MetFree l y (head1 [Jvm.Cond.code y bytes ml ret] rm) (fun a U => a = as' ∧ Z.Warmed39 U.vm ∧ U.heap = h0) (fun _ _ _ _ _ => True) (fun _ U o U' => ∃ v L, o = .returned v ∧ Q v U'.heap L ∧ FrameEnd U o U' L rm.cells rm.slots)
/-- it returns v and has moved nothing -/
def OPure (v0 : Option Value) (h0 : Heap) (v : Option Value) (h : Heap) (L : List Loc) : Prop := v = v0 ∧ h = h0 ∧ L = []
theorem wk {ws : List Jvm.Cond} {a0 : Array Value} {Z : State} (hw : ∀ d ∈ ws, d.before a0 Z = true) (i : Nat) {d : Jvm.Cond} (h : ws[i]? = some d) : d.before a0 Z = true := hw _ (List.mem_of_getElem? h)
section Own
variable {p : Program} {l : Launch} {e : Env} {R : Room} {s : State} {m : MethodId} {args : Array Value} {below : List Frame} {meth : Method} {c : Code} {Z : State} {own : String} {bytes : ByteArray} {ml : Nat} {ret : Option FieldType} {nm : String} {T : State} {h : Heap} {locs : List Loc} {cells slots : Nat} {cs ss : Nat} {Q : Option Value → Heap → List Loc → Prop} {FF : Option Value → State → Prop} {a0 : Array Value} {pc pc' : Nat} {Ls : Array Slot} {St : List Value}
theorem Pos.x (P : Pos p l e R s m args below meth c Z own bytes ml ret nm T h locs cells slots) : p.tables.exec = Jvm.exec := P.1.1
theorem Pos.z (P : Pos p l e R s m args below meth c Z own bytes ml ret nm T h locs cells slots) : Z.Warmed39 s.vm := P.1.2.1
theorem Pos.ow (P : Pos p l e R s m args below meth c Z own bytes ml ret nm T h locs cells slots) : s.vm.findClass own = some m.cls := P.1.2.2.1
theorem Pos.bt (P : Pos p l e R s m args below meth c Z own bytes ml ret nm T h locs cells slots) : c.code = bytes := P.1.2.2.2.1
theorem Pos.mx (P : Pos p l e R s m args below meth c Z own bytes ml ret nm T h locs cells slots) : c.maxLocals = ml := P.1.2.2.2.2.1
theorem Pos.rt (P : Pos p l e R s m args below meth c Z own bytes ml ret nm T h locs cells slots) : meth.sig.returnType = ret := P.1.2.2.2.2.2.1
theorem Pos.lk (P : Pos p l e R s m args below meth c Z own bytes ml ret nm T h locs cells slots) : meth.locks = false := P.1.2.2.2.2.2.2.1
theorem Pos.mn (P : Pos p l e R s m args below meth c Z own bytes ml ret nm T h locs cells slots) : meth.name = nm := P.1.2.2.2.2.2.2.2
theorem Pos.st (P : Pos p l e R s m args below meth c Z own bytes ml ret nm T h locs cells slots) : Stand p l e R s m args below meth c T locs cells slots := P.2.1
theorem Pos.eh (P : Pos p l e R s m args below meth c Z own bytes ml ret nm T h locs cells slots) : T.heap = h := P.2.2
theorem Pos.here (P : Pos p l e R s m args below meth c Z own bytes ml ret nm T h locs cells slots) : At T m c below := P.2.1.here
theorem Go.via {S0 S1 : State} (st : ∀ target, Steps p.tables e below S1 target → Steps p.tables e below S0 target) (k : Go p e below FF S1) : Go p e below FF S0 := by
  obtain ⟨t, o, h1, r⟩ := k
  exact ⟨t, o, st t h1, r⟩
theorem Go.come {S0 S1 : State} (st : Steps p.tables e below S0 S1) (k : Go p e below FF S1) : Go p e below FF S0 := by
  obtain ⟨t, o, h1, r⟩ := k
  exact ⟨t, o, st.trans h1, r⟩
theorem Go.dia {S0 S1 : State} (hh : Go p e below FF S1 → Go p e below FF S0) (kk : Go p e below FF S1) : Go p e below FF S0 := hh kk
theorem Go.all {ι : Type} {S0 : State} {A : ι → Prop} {S1 : ι → State} (hh : (∀ i, A i → Go p e below FF (S1 i)) → Go p e below FF S0) (kk : ∀ i, A i → Go p e below FF (S1 i)) : Go p e below FF S0 := hh kk
theorem sI {a b : Int32} (q : a = b) : some (Value.int a) = some (Value.int b) := by rw [q]
theorem sJ {a b : Int64} (q : a = b) : some (Value.long a) = some (Value.long b) := by rw [q]
theorem sR {a b : Addr} (q : a = b) : some (Value.ref a) = some (Value.ref b) := by rw [q]
theorem met {l : Launch} {Z : State} {y : MethodName} {bytes : ByteArray} {ml : Nat} {ret : Option FieldType} {ws : List Jvm.Cond} {rm : Room} {as' : Array Value} {h0 : Heap} {Ls : Array Slot} {Q : Option Value → Heap → List Loc → Prop} (hn : plainFor y = true) (hf : ∀ m, entryFrame m as' ml = mkF m 0 Ls [])
    (body : ∀ p e s m below meth c T, Pos p l e rm s m as' below meth c Z y.cls bytes ml ret y.name T h0 [] 0 0 → Go p e below (NF s rm.cells rm.slots Q) (T.setTop (mkF m 0 Ls []))) :
    MetFree l y (head1 (Jvm.Cond.code y bytes ml ret :: ws) rm) (fun a U => a = as' ∧ Z.Warmed39 U.vm ∧ U.heap = h0) (fun _ _ _ _ _ => True) (fun _ U o U' => ∃ v L, o = .returned v ∧ Q v U'.heap L ∧ FrameEnd U o U' L rm.cells rm.slots) := by
  refine MetFree.of_bodySF hn hisR ?_
  intro p e s m args below meth c s₁ Bd hml0 hP hK
  obtain ⟨rfl, hZ, hh⟩ := hP
  have X0 : Stand p l e rm s m args below meth c s₁ [] 0 0 := Stand.of_body Bd
  have e0 : s₁.heap = h0 := by rw [← hh, Bd.state]; rfl
  have hlk : meth.locks = false := by first | exact BodyLoose.notSynchronized Bd | exact Bd.locks
  have P : Pos p l e rm s m args below meth c Z y.cls bytes ml ret y.name s₁ h0 [] 0 0 := ⟨⟨Bd.exec, hZ, findClass_of_methodNamed Bd.named, Bd.bytes, hml0, Bd.returns, hlk, (name_of_methodNamed Bd.named Bd.method).1⟩, X0, e0⟩
  obtain ⟨t, o, h1, h2, h3, v, rfl, L, hQ, hF⟩ := body p e s m below meth c s₁ P
  exact ⟨t, _, castTop (hf m) h1, h2, h3, v, L, rfl, hQ, hF⟩
/-! ### plain steps -/
theorem G.aloadN (P : Pos p l e R s m args below meth c Z own bytes ml ret nm T h locs cells slots) {k : Fin 4} {v : Value} (hd : decode bytes pc = .ok (.aload_n k, 1)) (hl : Ls[k.val]? = some (.val v)) (hv : v.isRef = true) (hp : pc + 1 = pc') (kk : Go p e below FF (T.setTop (mkF m pc' Ls (v :: St)))) : Go p e below FF (T.setTop (mkF m pc Ls St)) := by
  subst hp; exact Go.via (fun _ => XS.aloadN P.here P.x rfl (hb P.bt hd) hl hv) kk
theorem G.iloadN (P : Pos p l e R s m args below meth c Z own bytes ml ret nm T h locs cells slots) {k : Fin 4} {v : Int32} (hd : decode bytes pc = .ok (.iload_n k, 1)) (hl : Ls[k.val]? = some (.val (.int v))) (hp : pc + 1 = pc') (kk : Go p e below FF (T.setTop (mkF m pc' Ls (.int v :: St)))) : Go p e below FF (T.setTop (mkF m pc Ls St)) := by
  subst hp; exact Go.via (fun _ => XS.iloadN P.here P.x rfl (hb P.bt hd) hl) kk
theorem G.lloadN (P : Pos p l e R s m args below meth c Z own bytes ml ret nm T h locs cells slots) {k : Fin 4} {v : Int64} (hd : decode bytes pc = .ok (.lload_n k, 1)) (hl : Ls[k.val]? = some (.val (.long v))) (hp : pc + 1 = pc') (kk : Go p e below FF (T.setTop (mkF m pc' Ls (.long v :: St)))) : Go p e below FF (T.setTop (mkF m pc Ls St)) := by
  subst hp; exact Go.via (fun _ => XS.lloadN P.here P.x rfl (hb P.bt hd) hl) kk
theorem G.istoreN (P : Pos p l e R s m args below meth c Z own bytes ml ret nm T h locs cells slots) {k : Fin 4} {x : Int32} {l' : Array Slot} (hd : decode bytes pc = .ok (.istore_n k, 1)) (hl : storeLocals Ls k.val (.int x) = some l') (hp : pc + 1 = pc') (kk : Go p e below FF (T.setTop (mkF m pc' l' St))) : Go p e below FF (T.setTop (mkF m pc Ls (.int x :: St))) := by
  subst hp; exact Go.via (fun _ => XS.istoreN P.here P.x rfl (hb P.bt hd) rfl hl) kk
theorem G.lstoreN (P : Pos p l e R s m args below meth c Z own bytes ml ret nm T h locs cells slots) {k : Fin 4} {x : Int64} {l' : Array Slot} (hd : decode bytes pc = .ok (.lstore_n k, 1)) (hl : storeLocals Ls k.val (.long x) = some l') (hp : pc + 1 = pc') (kk : Go p e below FF (T.setTop (mkF m pc' l' St))) : Go p e below FF (T.setTop (mkF m pc Ls (.long x :: St))) := by
  subst hp; exact Go.via (fun _ => XS.lstoreN P.here P.x rfl (hb P.bt hd) rfl hl) kk
theorem G.astoreN (P : Pos p l e R s m args below meth c Z own bytes ml ret nm T h locs cells slots) {k : Fin 4} {x : Value} {l' : Array Slot} (hd : decode bytes pc = .ok (.astore_n k, 1)) (hv : x.isRef = true) (hl : storeLocals Ls k.val x = some l') (hp : pc + 1 = pc') (kk : Go p e below FF (T.setTop (mkF m pc' l' St))) : Go p e below FF (T.setTop (mkF m pc Ls (x :: St))) := by
  subst hp; exact Go.via (fun _ => XS.astoreN P.here P.x rfl (hb P.bt hd) rfl hv hl) kk
theorem G.aload (P : Pos p l e R s m args below meth c Z own bytes ml ret nm T h locs cells slots) {k : Nat} {v : Value} (hd : decode bytes pc = .ok (.aload k, 2)) (hl : Ls[k]? = some (.val v)) (hv : v.isRef = true) (hp : pc + 2 = pc') (kk : Go p e below FF (T.setTop (mkF m pc' Ls (v :: St)))) : Go p e below FF (T.setTop (mkF m pc Ls St)) := by
  subst hp; exact Go.via (fun _ => XS.aload P.here P.x rfl (hb P.bt hd) hl hv) kk
theorem G.iload (P : Pos p l e R s m args below meth c Z own bytes ml ret nm T h locs cells slots) {k : Nat} {v : Int32} (hd : decode bytes pc = .ok (.iload k, 2)) (hl : Ls[k]? = some (.val (.int v))) (hp : pc + 2 = pc') (kk : Go p e below FF (T.setTop (mkF m pc' Ls (.int v :: St)))) : Go p e below FF (T.setTop (mkF m pc Ls St)) := by
  subst hp; exact Go.via (fun _ => XS.iload P.here P.x rfl (hb P.bt hd) hl) kk
theorem G.lload (P : Pos p l e R s m args below meth c Z own bytes ml ret nm T h locs cells slots) {k : Nat} {v : Int64} (hd : decode bytes pc = .ok (.lload k, 2)) (hl : Ls[k]? = some (.val (.long v))) (hp : pc + 2 = pc') (kk : Go p e below FF (T.setTop (mkF m pc' Ls (.long v :: St)))) : Go p e below FF (T.setTop (mkF m pc Ls St)) := by
  subst hp; exact Go.via (fun _ => XS.lload P.here P.x rfl (hb P.bt hd) hl) kk
theorem G.istore (P : Pos p l e R s m args below meth c Z own bytes ml ret nm T h locs cells slots) {k : Nat} {x : Int32} {l' : Array Slot} (hd : decode bytes pc = .ok (.istore k, 2)) (hl : storeLocals Ls k (.int x) = some l') (hp : pc + 2 = pc') (kk : Go p e below FF (T.setTop (mkF m pc' l' St))) : Go p e below FF (T.setTop (mkF m pc Ls (.int x :: St))) := by
  subst hp; exact Go.via (fun _ => XS.istore P.here P.x rfl (hb P.bt hd) rfl hl) kk
theorem G.lstore (P : Pos p l e R s m args below meth c Z own bytes ml ret nm T h locs cells slots) {k : Nat} {x : Int64} {l' : Array Slot} (hd : decode bytes pc = .ok (.lstore k, 2)) (hl : storeLocals Ls k (.long x) = some l') (hp : pc + 2 = pc') (kk : Go p e below FF (T.setTop (mkF m pc' l' St))) : Go p e below FF (T.setTop (mkF m pc Ls (.long x :: St))) := by
  subst hp; exact Go.via (fun _ => XS.lstore P.here P.x rfl (hb P.bt hd) rfl hl) kk
theorem G.astore (P : Pos p l e R s m args below meth c Z own bytes ml ret nm T h locs cells slots) {k : Nat} {x : Value} {l' : Array Slot} (hd : decode bytes pc = .ok (.astore k, 2)) (hv : x.isRef = true) (hl : storeLocals Ls k x = some l') (hp : pc + 2 = pc') (kk : Go p e below FF (T.setTop (mkF m pc' l' St))) : Go p e below FF (T.setTop (mkF m pc Ls (x :: St))) := by
  subst hp; exact Go.via (fun _ => XS.astore P.here P.x rfl (hb P.bt hd) rfl hv hl) kk
theorem G.iconst (P : Pos p l e R s m args below meth c Z own bytes ml ret nm T h locs cells slots) {i : Int} {z : Int32} (hd : decode bytes pc = .ok (.iconst i, 1)) (hz : Int32.ofInt i = z) (hp : pc + 1 = pc') (kk : Go p e below FF (T.setTop (mkF m pc' Ls (.int z :: St)))) : Go p e below FF (T.setTop (mkF m pc Ls St)) := by
  subst hp hz; exact Go.via (fun _ => XS.iconst P.here P.x rfl (hb P.bt hd) ) kk
theorem G.bipush (P : Pos p l e R s m args below meth c Z own bytes ml ret nm T h locs cells slots) {i : Int} {z : Int32} (hd : decode bytes pc = .ok (.bipush i, 2)) (hz : (Int8.ofInt i).toInt32 = z) (hp : pc + 2 = pc') (kk : Go p e below FF (T.setTop (mkF m pc' Ls (.int z :: St)))) : Go p e below FF (T.setTop (mkF m pc Ls St)) := by
  subst hp hz; exact Go.via (fun _ => XS.bipush P.here P.x rfl (hb P.bt hd) ) kk
theorem G.sipush (P : Pos p l e R s m args below meth c Z own bytes ml ret nm T h locs cells slots) {i : Int} {z : Int32} (hd : decode bytes pc = .ok (.sipush i, 3)) (hz : (Int16.ofInt i).toInt32 = z) (hp : pc + 3 = pc') (kk : Go p e below FF (T.setTop (mkF m pc' Ls (.int z :: St)))) : Go p e below FF (T.setTop (mkF m pc Ls St)) := by
  subst hp hz; exact Go.via (fun _ => XS.sipush P.here P.x rfl (hb P.bt hd) ) kk
theorem G.lconst (P : Pos p l e R s m args below meth c Z own bytes ml ret nm T h locs cells slots) {k : Fin 2} {z : Int64} (hd : decode bytes pc = .ok (.lconst k, 1)) (hz : Int64.ofNat k = z) (hp : pc + 1 = pc') (kk : Go p e below FF (T.setTop (mkF m pc' Ls (.long z :: St)))) : Go p e below FF (T.setTop (mkF m pc Ls St)) := by
  subst hp hz; exact Go.via (fun _ => XS.lconst P.here P.x rfl (hb P.bt hd) ) kk
theorem G.aconstNull (P : Pos p l e R s m args below meth c Z own bytes ml ret nm T h locs cells slots)  (hd : decode bytes pc = .ok (.aconst_null, 1))  (hp : pc + 1 = pc') (kk : Go p e below FF (T.setTop (mkF m pc' Ls (.null :: St)))) : Go p e below FF (T.setTop (mkF m pc Ls St)) := by
  subst hp; exact Go.via (fun _ => XS.aconstNull P.here P.x rfl (hb P.bt hd) ) kk
theorem G.iadd (P : Pos p l e R s m args below meth c Z own bytes ml ret nm T h locs cells slots) {x y z : Int32} (hd : decode bytes pc = .ok (.iadd, 1)) (hz : x + y = z) (hp : pc + 1 = pc') (kk : Go p e below FF (T.setTop (mkF m pc' Ls (.int z :: St)))) : Go p e below FF (T.setTop (mkF m pc Ls (.int y :: .int x :: St))) := by
  subst hp hz; exact Go.via (fun _ => XS.iadd P.here P.x rfl (hb P.bt hd) rfl) kk
theorem G.isub (P : Pos p l e R s m args below meth c Z own bytes ml ret nm T h locs cells slots) {x y z : Int32} (hd : decode bytes pc = .ok (.isub, 1)) (hz : x - y = z) (hp : pc + 1 = pc') (kk : Go p e below FF (T.setTop (mkF m pc' Ls (.int z :: St)))) : Go p e below FF (T.setTop (mkF m pc Ls (.int y :: .int x :: St))) := by
  subst hp hz; exact Go.via (fun _ => XS.isub P.here P.x rfl (hb P.bt hd) rfl) kk
theorem G.imul (P : Pos p l e R s m args below meth c Z own bytes ml ret nm T h locs cells slots) {x y z : Int32} (hd : decode bytes pc = .ok (.imul, 1)) (hz : x * y = z) (hp : pc + 1 = pc') (kk : Go p e below FF (T.setTop (mkF m pc' Ls (.int z :: St)))) : Go p e below FF (T.setTop (mkF m pc Ls (.int y :: .int x :: St))) := by
  subst hp hz; exact Go.via (fun _ => XS.imul P.here P.x rfl (hb P.bt hd) rfl) kk
theorem G.iand (P : Pos p l e R s m args below meth c Z own bytes ml ret nm T h locs cells slots) {x y z : Int32} (hd : decode bytes pc = .ok (.iand, 1)) (hz : x &&& y = z) (hp : pc + 1 = pc') (kk : Go p e below FF (T.setTop (mkF m pc' Ls (.int z :: St)))) : Go p e below FF (T.setTop (mkF m pc Ls (.int y :: .int x :: St))) := by
  subst hp hz; exact Go.via (fun _ => XS.iand P.here P.x rfl (hb P.bt hd) rfl) kk
theorem G.ior (P : Pos p l e R s m args below meth c Z own bytes ml ret nm T h locs cells slots) {x y z : Int32} (hd : decode bytes pc = .ok (.ior, 1)) (hz : x ||| y = z) (hp : pc + 1 = pc') (kk : Go p e below FF (T.setTop (mkF m pc' Ls (.int z :: St)))) : Go p e below FF (T.setTop (mkF m pc Ls (.int y :: .int x :: St))) := by
  subst hp hz; exact Go.via (fun _ => XS.ior P.here P.x rfl (hb P.bt hd) rfl) kk
theorem G.ixor (P : Pos p l e R s m args below meth c Z own bytes ml ret nm T h locs cells slots) {x y z : Int32} (hd : decode bytes pc = .ok (.ixor, 1)) (hz : x ^^^ y = z) (hp : pc + 1 = pc') (kk : Go p e below FF (T.setTop (mkF m pc' Ls (.int z :: St)))) : Go p e below FF (T.setTop (mkF m pc Ls (.int y :: .int x :: St))) := by
  subst hp hz; exact Go.via (fun _ => XS.ixor P.here P.x rfl (hb P.bt hd) rfl) kk
theorem G.ishl (P : Pos p l e R s m args below meth c Z own bytes ml ret nm T h locs cells slots) {x y z : Int32} (hd : decode bytes pc = .ok (.ishl, 1)) (hz : x <<< (y &&& 31) = z) (hp : pc + 1 = pc') (kk : Go p e below FF (T.setTop (mkF m pc' Ls (.int z :: St)))) : Go p e below FF (T.setTop (mkF m pc Ls (.int y :: .int x :: St))) := by
  subst hp hz; exact Go.via (fun _ => XS.ishl P.here P.x rfl (hb P.bt hd) rfl) kk
theorem G.ishr (P : Pos p l e R s m args below meth c Z own bytes ml ret nm T h locs cells slots) {x y z : Int32} (hd : decode bytes pc = .ok (.ishr, 1)) (hz : x >>> (y &&& 31) = z) (hp : pc + 1 = pc') (kk : Go p e below FF (T.setTop (mkF m pc' Ls (.int z :: St)))) : Go p e below FF (T.setTop (mkF m pc Ls (.int y :: .int x :: St))) := by
  subst hp hz; exact Go.via (fun _ => XS.ishr P.here P.x rfl (hb P.bt hd) rfl) kk
theorem G.iushr (P : Pos p l e R s m args below meth c Z own bytes ml ret nm T h locs cells slots) {x y z : Int32} (hd : decode bytes pc = .ok (.iushr, 1)) (hz : ushr x y = z) (hp : pc + 1 = pc') (kk : Go p e below FF (T.setTop (mkF m pc' Ls (.int z :: St)))) : Go p e below FF (T.setTop (mkF m pc Ls (.int y :: .int x :: St))) := by
  subst hp hz; exact Go.via (fun _ => XS.iushr P.here P.x rfl (hb P.bt hd) rfl) kk
theorem G.idiv (P : Pos p l e R s m args below meth c Z own bytes ml ret nm T h locs cells slots) {x y z : Int32} (hd : decode bytes pc = .ok (.idiv, 1)) (hy : y ≠ 0) (hz : x / y = z) (hp : pc + 1 = pc') (kk : Go p e below FF (T.setTop (mkF m pc' Ls (.int z :: St)))) : Go p e below FF (T.setTop (mkF m pc Ls (.int y :: .int x :: St))) := by
  subst hp hz; exact Go.via (fun _ => XS.idiv P.here P.x rfl (hb P.bt hd) rfl hy) kk
theorem G.ladd (P : Pos p l e R s m args below meth c Z own bytes ml ret nm T h locs cells slots) {x y z : Int64} (hd : decode bytes pc = .ok (.ladd, 1)) (hz : x + y = z) (hp : pc + 1 = pc') (kk : Go p e below FF (T.setTop (mkF m pc' Ls (.long z :: St)))) : Go p e below FF (T.setTop (mkF m pc Ls (.long y :: .long x :: St))) := by
  subst hp hz; exact Go.via (fun _ => XS.ladd P.here P.x rfl (hb P.bt hd) rfl) kk
theorem G.lsub (P : Pos p l e R s m args below meth c Z own bytes ml ret nm T h locs cells slots) {x y z : Int64} (hd : decode bytes pc = .ok (.lsub, 1)) (hz : x - y = z) (hp : pc + 1 = pc') (kk : Go p e below FF (T.setTop (mkF m pc' Ls (.long z :: St)))) : Go p e below FF (T.setTop (mkF m pc Ls (.long y :: .long x :: St))) := by
  subst hp hz; exact Go.via (fun _ => XS.lsub P.here P.x rfl (hb P.bt hd) rfl) kk
theorem G.lmul (P : Pos p l e R s m args below meth c Z own bytes ml ret nm T h locs cells slots) {x y z : Int64} (hd : decode bytes pc = .ok (.lmul, 1)) (hz : x * y = z) (hp : pc + 1 = pc') (kk : Go p e below FF (T.setTop (mkF m pc' Ls (.long z :: St)))) : Go p e below FF (T.setTop (mkF m pc Ls (.long y :: .long x :: St))) := by
  subst hp hz; exact Go.via (fun _ => XS.lmul P.here P.x rfl (hb P.bt hd) rfl) kk
theorem G.land (P : Pos p l e R s m args below meth c Z own bytes ml ret nm T h locs cells slots) {x y z : Int64} (hd : decode bytes pc = .ok (.land, 1)) (hz : x &&& y = z) (hp : pc + 1 = pc') (kk : Go p e below FF (T.setTop (mkF m pc' Ls (.long z :: St)))) : Go p e below FF (T.setTop (mkF m pc Ls (.long y :: .long x :: St))) := by
  subst hp hz; exact Go.via (fun _ => XS.land P.here P.x rfl (hb P.bt hd) rfl) kk
theorem G.lor (P : Pos p l e R s m args below meth c Z own bytes ml ret nm T h locs cells slots) {x y z : Int64} (hd : decode bytes pc = .ok (.lor, 1)) (hz : x ||| y = z) (hp : pc + 1 = pc') (kk : Go p e below FF (T.setTop (mkF m pc' Ls (.long z :: St)))) : Go p e below FF (T.setTop (mkF m pc Ls (.long y :: .long x :: St))) := by
  subst hp hz; exact Go.via (fun _ => XS.lor P.here P.x rfl (hb P.bt hd) rfl) kk
theorem G.lxor (P : Pos p l e R s m args below meth c Z own bytes ml ret nm T h locs cells slots) {x y z : Int64} (hd : decode bytes pc = .ok (.lxor, 1)) (hz : x ^^^ y = z) (hp : pc + 1 = pc') (kk : Go p e below FF (T.setTop (mkF m pc' Ls (.long z :: St)))) : Go p e below FF (T.setTop (mkF m pc Ls (.long y :: .long x :: St))) := by
  subst hp hz; exact Go.via (fun _ => XS.lxor P.here P.x rfl (hb P.bt hd) rfl) kk
theorem G.ldiv (P : Pos p l e R s m args below meth c Z own bytes ml ret nm T h locs cells slots) {x y z : Int64} (hd : decode bytes pc = .ok (.ldiv, 1)) (hy : y ≠ 0) (hz : x / y = z) (hp : pc + 1 = pc') (kk : Go p e below FF (T.setTop (mkF m pc' Ls (.long z :: St)))) : Go p e below FF (T.setTop (mkF m pc Ls (.long y :: .long x :: St))) := by
  subst hp hz; exact Go.via (fun _ => XS.ldiv P.here P.x rfl (hb P.bt hd) rfl hy) kk
theorem G.lushr (P : Pos p l e R s m args below meth c Z own bytes ml ret nm T h locs cells slots) {x z : Int64} {y : Int32} (hd : decode bytes pc = .ok (.lushr, 1)) (hz : ushrJ x y = z) (hp : pc + 1 = pc') (kk : Go p e below FF (T.setTop (mkF m pc' Ls (.long z :: St)))) : Go p e below FF (T.setTop (mkF m pc Ls (.int y :: .long x :: St))) := by
  subst hp hz; exact Go.via (fun _ => XS.lushr P.here P.x rfl (hb P.bt hd) rfl) kk
theorem G.lcmp (P : Pos p l e R s m args below meth c Z own bytes ml ret nm T h locs cells slots) {x y : Int64} {z : Int32} (hd : decode bytes pc = .ok (.lcmp, 1)) (hz : lcmpO x y = z) (hp : pc + 1 = pc') (kk : Go p e below FF (T.setTop (mkF m pc' Ls (.int z :: St)))) : Go p e below FF (T.setTop (mkF m pc Ls (.long y :: .long x :: St))) := by
  subst hp hz; exact Go.via (fun _ => XS.lcmp P.here P.x rfl (hb P.bt hd) rfl) kk
theorem G.ineg (P : Pos p l e R s m args below meth c Z own bytes ml ret nm T h locs cells slots) {x : Int32} {z : Int32} (hd : decode bytes pc = .ok (.ineg, 1)) (hz : -x = z) (hp : pc + 1 = pc') (kk : Go p e below FF (T.setTop (mkF m pc' Ls (.int z :: St)))) : Go p e below FF (T.setTop (mkF m pc Ls (.int x :: St))) := by
  subst hp hz; exact Go.via (fun _ => XS.ineg P.here P.x rfl (hb P.bt hd) rfl) kk
theorem G.i2b (P : Pos p l e R s m args below meth c Z own bytes ml ret nm T h locs cells slots) {x : Int32} {z : Int32} (hd : decode bytes pc = .ok (.i2b, 1)) (hz : x.toInt8.toInt32 = z) (hp : pc + 1 = pc') (kk : Go p e below FF (T.setTop (mkF m pc' Ls (.int z :: St)))) : Go p e below FF (T.setTop (mkF m pc Ls (.int x :: St))) := by
  subst hp hz; exact Go.via (fun _ => XS.i2b P.here P.x rfl (hb P.bt hd) rfl) kk
theorem G.i2c (P : Pos p l e R s m args below meth c Z own bytes ml ret nm T h locs cells slots) {x : Int32} {z : Int32} (hd : decode bytes pc = .ok (.i2c, 1)) (hz : x.toUInt32.toUInt16.toUInt32.toInt32 = z) (hp : pc + 1 = pc') (kk : Go p e below FF (T.setTop (mkF m pc' Ls (.int z :: St)))) : Go p e below FF (T.setTop (mkF m pc Ls (.int x :: St))) := by
  subst hp hz; exact Go.via (fun _ => XS.i2c P.here P.x rfl (hb P.bt hd) rfl) kk
theorem G.i2s (P : Pos p l e R s m args below meth c Z own bytes ml ret nm T h locs cells slots) {x : Int32} {z : Int32} (hd : decode bytes pc = .ok (.i2s, 1)) (hz : x.toInt16.toInt32 = z) (hp : pc + 1 = pc') (kk : Go p e below FF (T.setTop (mkF m pc' Ls (.int z :: St)))) : Go p e below FF (T.setTop (mkF m pc Ls (.int x :: St))) := by
  subst hp hz; exact Go.via (fun _ => XS.i2s P.here P.x rfl (hb P.bt hd) rfl) kk
theorem G.i2l (P : Pos p l e R s m args below meth c Z own bytes ml ret nm T h locs cells slots) {x : Int32} {z : Int64} (hd : decode bytes pc = .ok (.i2l, 1)) (hz : x.toInt64 = z) (hp : pc + 1 = pc') (kk : Go p e below FF (T.setTop (mkF m pc' Ls (.long z :: St)))) : Go p e below FF (T.setTop (mkF m pc Ls (.int x :: St))) := by
  subst hp hz; exact Go.via (fun _ => XS.i2l P.here P.x rfl (hb P.bt hd) rfl) kk
theorem G.l2i (P : Pos p l e R s m args below meth c Z own bytes ml ret nm T h locs cells slots) {x : Int64} {z : Int32} (hd : decode bytes pc = .ok (.l2i, 1)) (hz : x.toInt32 = z) (hp : pc + 1 = pc') (kk : Go p e below FF (T.setTop (mkF m pc' Ls (.int z :: St)))) : Go p e below FF (T.setTop (mkF m pc Ls (.long x :: St))) := by
  subst hp hz; exact Go.via (fun _ => XS.l2i P.here P.x rfl (hb P.bt hd) rfl) kk
theorem G.lneg (P : Pos p l e R s m args below meth c Z own bytes ml ret nm T h locs cells slots) {x : Int64} {z : Int64} (hd : decode bytes pc = .ok (.lneg, 1)) (hz : -x = z) (hp : pc + 1 = pc') (kk : Go p e below FF (T.setTop (mkF m pc' Ls (.long z :: St)))) : Go p e below FF (T.setTop (mkF m pc Ls (.long x :: St))) := by
  subst hp hz; exact Go.via (fun _ => XS.lneg P.here P.x rfl (hb P.bt hd) rfl) kk
theorem G.pop (P : Pos p l e R s m args below meth c Z own bytes ml ret nm T h locs cells slots) {x : Value} (hd : decode bytes pc = .ok (.pop, 1)) (hc : x.category = 1) (hp : pc + 1 = pc') (kk : Go p e below FF (T.setTop (mkF m pc' Ls St))) : Go p e below FF (T.setTop (mkF m pc Ls (x :: St))) := by
  subst hp; exact Go.via (fun _ => XS.pop P.here P.x rfl (hb P.bt hd) rfl hc) kk
theorem G.dup (P : Pos p l e R s m args below meth c Z own bytes ml ret nm T h locs cells slots) {x : Value} (hd : decode bytes pc = .ok (.dup, 1)) (hc : x.category = 1) (hp : pc + 1 = pc') (kk : Go p e below FF (T.setTop (mkF m pc' Ls (x :: x :: St)))) : Go p e below FF (T.setTop (mkF m pc Ls (x :: St))) := by
  subst hp; exact Go.via (fun _ => XS.dup P.here P.x rfl (hb P.bt hd) rfl hc) kk
theorem G.dupX1 (P : Pos p l e R s m args below meth c Z own bytes ml ret nm T h locs cells slots) {x y : Value} (hd : decode bytes pc = .ok (.dup_x1, 1)) (hc : x.category = 1) (hc2 : y.category = 1) (hp : pc + 1 = pc') (kk : Go p e below FF (T.setTop (mkF m pc' Ls (x :: y :: x :: St)))) : Go p e below FF (T.setTop (mkF m pc Ls (x :: y :: St))) := by
  subst hp; exact Go.via (fun _ => XS.dupX1 P.here P.x rfl (hb P.bt hd) rfl hc hc2) kk
theorem G.iinc (P : Pos p l e R s m args below meth c Z own bytes ml ret nm T h locs cells slots) {k : Nat} {cst : Int} {x z : Int32} {l' : Array Slot} (hd : decode bytes pc = .ok (.iinc k cst, 3)) (hl : Ls[k]? = some (.val (.int x))) (hz : x + Int32.ofInt cst = z) (hl' : storeLocals Ls k (.int z) = some l') (hp : pc + 3 = pc') (kk : Go p e below FF (T.setTop (mkF m pc' l' St))) : Go p e below FF (T.setTop (mkF m pc Ls St)) := by
  subst hp hz; exact Go.via (fun _ => XS.iinc P.here P.x rfl (hb P.bt hd) hl hl') kk
theorem G.dup2 (P : Pos p l e R s m args below meth c Z own bytes ml ret nm T h locs cells slots) {x y : Value} (hd : decode bytes pc = .ok (.dup2, 1)) (hc : x.category = 1) (hc2 : y.category = 1) (hp : pc + 1 = pc') (kk : Go p e below FF (T.setTop (mkF m pc' Ls (x :: y :: x :: y :: St)))) : Go p e below FF (T.setTop (mkF m pc Ls (x :: y :: St))) := by
  subst hp; exact Go.via (fun _ => XT.dup2 P.here P.x rfl (hb P.bt hd) rfl hc hc2) kk
theorem G.dupX2 (P : Pos p l e R s m args below meth c Z own bytes ml ret nm T h locs cells slots) {x y w : Value} (hd : decode bytes pc = .ok (.dup_x2, 1)) (hc : x.category = 1) (hc2 : y.category = 1) (hc3 : w.category = 1) (hp : pc + 1 = pc') (kk : Go p e below FF (T.setTop (mkF m pc' Ls (x :: y :: w :: x :: St)))) : Go p e below FF (T.setTop (mkF m pc Ls (x :: y :: w :: St))) := by
  subst hp
  refine Go.via (S1 := T.setTop (mkF m (pc + 1) Ls (x :: y :: w :: x :: St))) (fun target hr => ?_) kk
  have hd' := hb P.bt hd
  have hx := P.x
  show Steps p.tables e below (T.setTop { method := m, pc := pc, locals := Ls, stack := x :: y :: w :: St, locked := none }) _
  jvm_step P.here [P.here.top, hx, hd', hc, hc2, hc3]
  exact hr
theorem G.goto (P : Pos p l e R s m args below meth c Z own bytes ml ret nm T h locs cells slots) {o : Int} (hd : decode bytes pc = .ok (.goto o, 3)) (ho : 0 ≤ (pc : Int) + o) (hp : ((pc : Int) + o).toNat = pc') (kk : Go p e below FF (T.setTop (mkF m pc' Ls St))) : Go p e below FF (T.setTop (mkF m pc Ls St)) :=
  Go.via (fun _ => XS.goto P.here P.x rfl (pc0 := pc) rfl (hb P.bt hd) ho hp) kk
theorem G.irem (P : Pos p l e R s m args below meth c Z own bytes ml ret nm T h locs cells slots) {x y z : Int32} (hd : decode bytes pc = .ok (.irem, 1)) (hy : y ≠ 0) (hz : x % y = z) (hp : pc + 1 = pc') (kk : Go p e below FF (T.setTop (mkF m pc' Ls (.int z :: St)))) : Go p e below FF (T.setTop (mkF m pc Ls (.int y :: .int x :: St))) := by
  subst hp hz; exact Go.via (fun _ => iremM (g := mkF m pc Ls (.int y :: .int x :: St)) P.st P.x rfl (hb P.bt hd) rfl hy) kk
theorem G.ldcI (P : Pos p l e R s m args below meth c Z own bytes ml ret nm T h locs cells slots) {i : Nat} {v : Int32} (w : (Jvm.Cond.constant own i v).before a0 Z = true) (hd : decode bytes pc = .ok (.ldc i, 2)) (hp : pc + 2 = pc') (kk : Go p e below FF (T.setTop (mkF m pc' Ls (.int v :: St)))) : Go p e below FF (T.setTop (mkF m pc Ls St)) := by
  subst hp; exact Go.via (P.st.ldcInt P.x P.ow (mvT P.z w) (g := mkF m pc Ls St) rfl (hb P.bt hd)) kk
theorem G.ldcJ (P : Pos p l e R s m args below meth c Z own bytes ml ret nm T h locs cells slots) {i : Nat} {v : Int64} (w : (Jvm.Cond.constantLong own i v).before a0 Z = true) (hd : decode bytes pc = .ok (.ldc2_w i, 3)) (hp : pc + 3 = pc') (kk : Go p e below FF (T.setTop (mkF m pc' Ls (.long v :: St)))) : Go p e below FF (T.setTop (mkF m pc Ls St)) := by
  subst hp; exact Go.via (P.st.ldc2Long P.x P.ow (mvT P.z w) (g := mkF m pc Ls St) rfl (hb P.bt hd)) kk
/-! ### branches -/
theorem G.icmp (P : Pos p l e R s m args below meth c Z own bytes ml ret nm T h locs cells slots) {cd : ClassFile.Cond} {x y : Int32} {o : Int} {pcY pcN : Nat} (hd : decode bytes pc = .ok (.if_icmp cd o, 3)) (ho : 0 ≤ (pc : Int) + o) (hp : ((pc : Int) + o).toNat = pcY) (hn : pc + 3 = pcN)
    (hY : if_icmp.holds cd x y = true → Go p e below FF (T.setTop (mkF m pcY Ls St))) (hN : if_icmp.holds cd x y = false → Go p e below FF (T.setTop (mkF m pcN Ls St))) : Go p e below FF (T.setTop (mkF m pc Ls (.int y :: .int x :: St))) := by
  subst hn
  cases hc : if_icmp.holds cd x y
  · exact Go.via (fun _ => XS.icmpNo P.here P.x rfl (hb P.bt hd) rfl hc) (hN hc)
  · exact Go.via (fun _ => XS.icmpYes P.here P.x rfl (pc0 := pc) rfl (hb P.bt hd) rfl hc ho hp) (hY hc)
theorem G.if0 (P : Pos p l e R s m args below meth c Z own bytes ml ret nm T h locs cells slots) {cd : ClassFile.Cond} {x : Int32} {o : Int} {pcY pcN : Nat} (hd : decode bytes pc = .ok (.ifCond cd o, 3)) (ho : 0 ≤ (pc : Int) + o) (hp : ((pc : Int) + o).toNat = pcY) (hn : pc + 3 = pcN)
    (hY : if_icmp.holds cd x 0 = true → Go p e below FF (T.setTop (mkF m pcY Ls St))) (hN : if_icmp.holds cd x 0 = false → Go p e below FF (T.setTop (mkF m pcN Ls St))) : Go p e below FF (T.setTop (mkF m pc Ls (.int x :: St))) := by
  subst hn
  cases hc : if_icmp.holds cd x 0
  · exact Go.via (fun _ => XS.ifNo P.here P.x rfl (hb P.bt hd) rfl ((Jvm.RoadKit.if0 _ _).trans hc)) (hN hc)
  · exact Go.via (fun _ => XS.ifYes P.here P.x rfl (pc0 := pc) rfl (hb P.bt hd) rfl ((Jvm.RoadKit.if0 _ _).trans hc) ho hp) (hY hc)
theorem h_eq {x y : Int32} : (if_icmp.holds .eq x y = true → x = y) ∧ (if_icmp.holds .eq x y = false → ¬ x = y) := ⟨fun h => Classical.byContradiction fun q => (by rw [(feq q).1] at h; cases h), fun h q => (by rw [(teq q).1] at h; cases h)⟩
theorem h_ne {x y : Int32} : (if_icmp.holds .ne x y = true → ¬ x = y) ∧ (if_icmp.holds .ne x y = false → x = y) := ⟨fun h q => (by rw [(teq q).2] at h; cases h), fun h => Classical.byContradiction fun q => (by rw [(feq q).2] at h; cases h)⟩
theorem h_lt {x y : Int32} : (if_icmp.holds .lt x y = true → x < y) ∧ (if_icmp.holds .lt x y = false → ¬ x < y) := ⟨fun h => Classical.byContradiction fun q => (by rw [(flt q).1] at h; cases h), fun h q => (by rw [(tlt q).1] at h; cases h)⟩
theorem h_ge {x y : Int32} : (if_icmp.holds .ge x y = true → ¬ x < y) ∧ (if_icmp.holds .ge x y = false → x < y) := ⟨fun h q => (by rw [(tlt q).2.1] at h; cases h), fun h => Classical.byContradiction fun q => (by rw [(flt q).2.1] at h; cases h)⟩
theorem h_gt {x y : Int32} : (if_icmp.holds .gt x y = true → y < x) ∧ (if_icmp.holds .gt x y = false → ¬ y < x) := ⟨fun h => Classical.byContradiction fun q => (by rw [(flt q).2.2.1] at h; cases h), fun h q => (by rw [(tlt q).2.2.1] at h; cases h)⟩
theorem h_le {x y : Int32} : (if_icmp.holds .le x y = true → ¬ y < x) ∧ (if_icmp.holds .le x y = false → y < x) := ⟨fun h q => (by rw [(tlt q).2.2.2] at h; cases h), fun h => Classical.byContradiction fun q => (by rw [(flt q).2.2.2] at h; cases h)⟩
theorem G.icmp_eq (P : Pos p l e R s m args below meth c Z own bytes ml ret nm T h locs cells slots) {x y : Int32} {o : Int} {pcY pcN : Nat} (hd : decode bytes pc = .ok (.if_icmp .eq o, 3)) (ho : 0 ≤ (pc : Int) + o) (hp : ((pc : Int) + o).toNat = pcY) (hn : pc + 3 = pcN) (hY : x = y → Go p e below FF (T.setTop (mkF m pcY Ls St))) (hN : ¬ x = y → Go p e below FF (T.setTop (mkF m pcN Ls St))) : Go p e below FF (T.setTop (mkF m pc Ls (.int y :: .int x :: St))) :=
  G.icmp P hd ho hp hn (fun q => hY (h_eq.1 q)) (fun q => hN (h_eq.2 q))
theorem G.if_eq (P : Pos p l e R s m args below meth c Z own bytes ml ret nm T h locs cells slots) {x : Int32} {o : Int} {pcY pcN : Nat} (hd : decode bytes pc = .ok (.ifCond .eq o, 3)) (ho : 0 ≤ (pc : Int) + o) (hp : ((pc : Int) + o).toNat = pcY) (hn : pc + 3 = pcN) (hY : x = 0 → Go p e below FF (T.setTop (mkF m pcY Ls St))) (hN : ¬ x = 0 → Go p e below FF (T.setTop (mkF m pcN Ls St))) : Go p e below FF (T.setTop (mkF m pc Ls (.int x :: St))) :=
  G.if0 P hd ho hp hn (fun q => hY (h_eq.1 q)) (fun q => hN (h_eq.2 q))
theorem G.icmp_ne (P : Pos p l e R s m args below meth c Z own bytes ml ret nm T h locs cells slots) {x y : Int32} {o : Int} {pcY pcN : Nat} (hd : decode bytes pc = .ok (.if_icmp .ne o, 3)) (ho : 0 ≤ (pc : Int) + o) (hp : ((pc : Int) + o).toNat = pcY) (hn : pc + 3 = pcN) (hY : ¬ x = y → Go p e below FF (T.setTop (mkF m pcY Ls St))) (hN : x = y → Go p e below FF (T.setTop (mkF m pcN Ls St))) : Go p e below FF (T.setTop (mkF m pc Ls (.int y :: .int x :: St))) :=
  G.icmp P hd ho hp hn (fun q => hY (h_ne.1 q)) (fun q => hN (h_ne.2 q))
theorem G.if_ne (P : Pos p l e R s m args below meth c Z own bytes ml ret nm T h locs cells slots) {x : Int32} {o : Int} {pcY pcN : Nat} (hd : decode bytes pc = .ok (.ifCond .ne o, 3)) (ho : 0 ≤ (pc : Int) + o) (hp : ((pc : Int) + o).toNat = pcY) (hn : pc + 3 = pcN) (hY : ¬ x = 0 → Go p e below FF (T.setTop (mkF m pcY Ls St))) (hN : x = 0 → Go p e below FF (T.setTop (mkF m pcN Ls St))) : Go p e below FF (T.setTop (mkF m pc Ls (.int x :: St))) :=
  G.if0 P hd ho hp hn (fun q => hY (h_ne.1 q)) (fun q => hN (h_ne.2 q))
theorem G.icmp_lt (P : Pos p l e R s m args below meth c Z own bytes ml ret nm T h locs cells slots) {x y : Int32} {o : Int} {pcY pcN : Nat} (hd : decode bytes pc = .ok (.if_icmp .lt o, 3)) (ho : 0 ≤ (pc : Int) + o) (hp : ((pc : Int) + o).toNat = pcY) (hn : pc + 3 = pcN) (hY : x < y → Go p e below FF (T.setTop (mkF m pcY Ls St))) (hN : ¬ x < y → Go p e below FF (T.setTop (mkF m pcN Ls St))) : Go p e below FF (T.setTop (mkF m pc Ls (.int y :: .int x :: St))) :=
  G.icmp P hd ho hp hn (fun q => hY (h_lt.1 q)) (fun q => hN (h_lt.2 q))
theorem G.if_lt (P : Pos p l e R s m args below meth c Z own bytes ml ret nm T h locs cells slots) {x : Int32} {o : Int} {pcY pcN : Nat} (hd : decode bytes pc = .ok (.ifCond .lt o, 3)) (ho : 0 ≤ (pc : Int) + o) (hp : ((pc : Int) + o).toNat = pcY) (hn : pc + 3 = pcN) (hY : x < 0 → Go p e below FF (T.setTop (mkF m pcY Ls St))) (hN : ¬ x < 0 → Go p e below FF (T.setTop (mkF m pcN Ls St))) : Go p e below FF (T.setTop (mkF m pc Ls (.int x :: St))) :=
  G.if0 P hd ho hp hn (fun q => hY (h_lt.1 q)) (fun q => hN (h_lt.2 q))
theorem G.icmp_ge (P : Pos p l e R s m args below meth c Z own bytes ml ret nm T h locs cells slots) {x y : Int32} {o : Int} {pcY pcN : Nat} (hd : decode bytes pc = .ok (.if_icmp .ge o, 3)) (ho : 0 ≤ (pc : Int) + o) (hp : ((pc : Int) + o).toNat = pcY) (hn : pc + 3 = pcN) (hY : ¬ x < y → Go p e below FF (T.setTop (mkF m pcY Ls St))) (hN : x < y → Go p e below FF (T.setTop (mkF m pcN Ls St))) : Go p e below FF (T.setTop (mkF m pc Ls (.int y :: .int x :: St))) :=
  G.icmp P hd ho hp hn (fun q => hY (h_ge.1 q)) (fun q => hN (h_ge.2 q))
theorem G.if_ge (P : Pos p l e R s m args below meth c Z own bytes ml ret nm T h locs cells slots) {x : Int32} {o : Int} {pcY pcN : Nat} (hd : decode bytes pc = .ok (.ifCond .ge o, 3)) (ho : 0 ≤ (pc : Int) + o) (hp : ((pc : Int) + o).toNat = pcY) (hn : pc + 3 = pcN) (hY : ¬ x < 0 → Go p e below FF (T.setTop (mkF m pcY Ls St))) (hN : x < 0 → Go p e below FF (T.setTop (mkF m pcN Ls St))) : Go p e below FF (T.setTop (mkF m pc Ls (.int x :: St))) :=
  G.if0 P hd ho hp hn (fun q => hY (h_ge.1 q)) (fun q => hN (h_ge.2 q))
theorem G.icmp_gt (P : Pos p l e R s m args below meth c Z own bytes ml ret nm T h locs cells slots) {x y : Int32} {o : Int} {pcY pcN : Nat} (hd : decode bytes pc = .ok (.if_icmp .gt o, 3)) (ho : 0 ≤ (pc : Int) + o) (hp : ((pc : Int) + o).toNat = pcY) (hn : pc + 3 = pcN) (hY : y < x → Go p e below FF (T.setTop (mkF m pcY Ls St))) (hN : ¬ y < x → Go p e below FF (T.setTop (mkF m pcN Ls St))) : Go p e below FF (T.setTop (mkF m pc Ls (.int y :: .int x :: St))) :=
  G.icmp P hd ho hp hn (fun q => hY (h_gt.1 q)) (fun q => hN (h_gt.2 q))
theorem G.if_gt (P : Pos p l e R s m args below meth c Z own bytes ml ret nm T h locs cells slots) {x : Int32} {o : Int} {pcY pcN : Nat} (hd : decode bytes pc = .ok (.ifCond .gt o, 3)) (ho : 0 ≤ (pc : Int) + o) (hp : ((pc : Int) + o).toNat = pcY) (hn : pc + 3 = pcN) (hY : 0 < x → Go p e below FF (T.setTop (mkF m pcY Ls St))) (hN : ¬ 0 < x → Go p e below FF (T.setTop (mkF m pcN Ls St))) : Go p e below FF (T.setTop (mkF m pc Ls (.int x :: St))) :=
  G.if0 P hd ho hp hn (fun q => hY (h_gt.1 q)) (fun q => hN (h_gt.2 q))
theorem G.icmp_le (P : Pos p l e R s m args below meth c Z own bytes ml ret nm T h locs cells slots) {x y : Int32} {o : Int} {pcY pcN : Nat} (hd : decode bytes pc = .ok (.if_icmp .le o, 3)) (ho : 0 ≤ (pc : Int) + o) (hp : ((pc : Int) + o).toNat = pcY) (hn : pc + 3 = pcN) (hY : ¬ y < x → Go p e below FF (T.setTop (mkF m pcY Ls St))) (hN : y < x → Go p e below FF (T.setTop (mkF m pcN Ls St))) : Go p e below FF (T.setTop (mkF m pc Ls (.int y :: .int x :: St))) :=
  G.icmp P hd ho hp hn (fun q => hY (h_le.1 q)) (fun q => hN (h_le.2 q))
theorem G.if_le (P : Pos p l e R s m args below meth c Z own bytes ml ret nm T h locs cells slots) {x : Int32} {o : Int} {pcY pcN : Nat} (hd : decode bytes pc = .ok (.ifCond .le o, 3)) (ho : 0 ≤ (pc : Int) + o) (hp : ((pc : Int) + o).toNat = pcY) (hn : pc + 3 = pcN) (hY : ¬ 0 < x → Go p e below FF (T.setTop (mkF m pcY Ls St))) (hN : 0 < x → Go p e below FF (T.setTop (mkF m pcN Ls St))) : Go p e below FF (T.setTop (mkF m pc Ls (.int x :: St))) :=
  G.if0 P hd ho hp hn (fun q => hY (h_le.1 q)) (fun q => hN (h_le.2 q))
theorem G.acmp_eq (P : Pos p l e R s m args below meth c Z own bytes ml ret nm T h locs cells slots) {a b : Addr} {o : Int} {pcY pcN : Nat} (hd : decode bytes pc = .ok (.if_acmp .eq o, 3)) (ho : 0 ≤ (pc : Int) + o) (hp : ((pc : Int) + o).toNat = pcY) (hn : pc + 3 = pcN)
    (hY : a = b → Go p e below FF (T.setTop (mkF m pcY Ls St))) (hN : ¬ a = b → Go p e below FF (T.setTop (mkF m pcN Ls St))) : Go p e below FF (T.setTop (mkF m pc Ls (.ref b :: .ref a :: St))) := by
  subst hn
  by_cases hc : a = b
  · refine Go.via (fun _ => XS.acmpYes P.here P.x rfl (pc0 := pc) rfl (hb P.bt hd) rfl ?_ ho hp) (hY hc)
    simp [if_acmp.holds, hc]
  · refine Go.via (fun _ => XS.acmpNo P.here P.x rfl (hb P.bt hd) rfl ?_) (hN hc)
    simp [if_acmp.holds, hc]
theorem G.acmp_ne (P : Pos p l e R s m args below meth c Z own bytes ml ret nm T h locs cells slots) {a b : Addr} {o : Int} {pcY pcN : Nat} (hd : decode bytes pc = .ok (.if_acmp .ne o, 3)) (ho : 0 ≤ (pc : Int) + o) (hp : ((pc : Int) + o).toNat = pcY) (hn : pc + 3 = pcN)
    (hY : ¬ a = b → Go p e below FF (T.setTop (mkF m pcY Ls St))) (hN : a = b → Go p e below FF (T.setTop (mkF m pcN Ls St))) : Go p e below FF (T.setTop (mkF m pc Ls (.ref b :: .ref a :: St))) := by
  subst hn
  by_cases hc : a = b
  · refine Go.via (fun _ => XS.acmpNo P.here P.x rfl (hb P.bt hd) rfl ?_) (hN hc)
    simp [if_acmp.holds, hc]
  · refine Go.via (fun _ => XS.acmpYes P.here P.x rfl (pc0 := pc) rfl (hb P.bt hd) rfl ?_ ho hp) (hY hc)
    simp [if_acmp.holds, hc]
theorem G.acmpNe (P : Pos p l e R s m args below meth c Z own bytes ml ret nm T h locs cells slots) {cd : ACond} {x y : Value} (h1 : x.isRef = true) (h2 : y.isRef = true) (hq : ¬ x = y) {o : Int} {pcT : Nat} (hd : decode bytes pc = .ok (.if_acmp cd o, 3)) (ho : 0 ≤ (pc : Int) + o) (hp : pcT = if acV cd false = true then ((pc : Int) + o).toNat else pc + 3)
    (kk : Go p e below FF (T.setTop (mkF m pcT Ls St))) : Go p e below FF (T.setTop (mkF m pc Ls (y :: x :: St))) :=
  Go.via (fun _ => Jvm.RoadKit.acmp (g := mkF m pc Ls (y :: x :: St)) P.st P.x rfl h1 h2 (pc0 := pc) rfl (hb P.bt hd) rfl (decide_eq_false hq) ho hp) kk
theorem G.acmpEq (P : Pos p l e R s m args below meth c Z own bytes ml ret nm T h locs cells slots) {cd : ACond} {x y : Value} (h1 : x.isRef = true) (h2 : y.isRef = true) (hq : x = y) {o : Int} {pcT : Nat} (hd : decode bytes pc = .ok (.if_acmp cd o, 3)) (ho : 0 ≤ (pc : Int) + o) (hp : pcT = if acV cd true = true then ((pc : Int) + o).toNat else pc + 3)
    (kk : Go p e below FF (T.setTop (mkF m pcT Ls St))) : Go p e below FF (T.setTop (mkF m pc Ls (y :: x :: St))) :=
  Go.via (fun _ => Jvm.RoadKit.acmp (g := mkF m pc Ls (y :: x :: St)) P.st P.x rfl h1 h2 (pc0 := pc) rfl (hb P.bt hd) rfl (decide_eq_true hq) ho hp) kk
theorem G.ifnullY (P : Pos p l e R s m args below meth c Z own bytes ml ret nm T h locs cells slots) {o : Int} (hd : decode bytes pc = .ok (.ifnull o, 3)) (ho : 0 ≤ (pc : Int) + o) (hp : ((pc : Int) + o).toNat = pc') (kk : Go p e below FF (T.setTop (mkF m pc' Ls St))) : Go p e below FF (T.setTop (mkF m pc Ls (.null :: St))) :=
  Go.via (fun _ => XS.ifnullYes P.here P.x rfl (pc0 := pc) rfl (hb P.bt hd) rfl ho hp) kk
theorem G.ifnullN (P : Pos p l e R s m args below meth c Z own bytes ml ret nm T h locs cells slots) {o : Int} {b : Addr} (hd : decode bytes pc = .ok (.ifnull o, 3)) (hp : pc + 3 = pc') (kk : Go p e below FF (T.setTop (mkF m pc' Ls St))) : Go p e below FF (T.setTop (mkF m pc Ls (.ref b :: St))) := by
  subst hp; exact Go.via (fun _ => XS.ifnullNo P.here P.x rfl (hb P.bt hd) rfl) kk
theorem G.ifnonnullY (P : Pos p l e R s m args below meth c Z own bytes ml ret nm T h locs cells slots) {o : Int} {b : Addr} (hd : decode bytes pc = .ok (.ifnonnull o, 3)) (ho : 0 ≤ (pc : Int) + o) (hp : ((pc : Int) + o).toNat = pc') (kk : Go p e below FF (T.setTop (mkF m pc' Ls St))) : Go p e below FF (T.setTop (mkF m pc Ls (.ref b :: St))) :=
  Go.via (fun _ => XS.ifnonnullYes P.here P.x rfl (pc0 := pc) rfl (hb P.bt hd) rfl ho hp) kk
theorem G.ifnonnullN (P : Pos p l e R s m args below meth c Z own bytes ml ret nm T h locs cells slots) {o : Int} (hd : decode bytes pc = .ok (.ifnonnull o, 3)) (hp : pc + 3 = pc') (kk : Go p e below FF (T.setTop (mkF m pc' Ls St))) : Go p e below FF (T.setTop (mkF m pc Ls (.null :: St))) := by
  subst hp; exact Go.via (fun _ => XS.ifnonnullNo P.here P.x rfl (hb P.bt hd) rfl) kk
/-! ### the heap -/
theorem G.getF (P : Pos p l e R s m args below meth c Z own bytes ml ret nm T h locs cells slots) {R0 O n d host : String} {i : Nat} (w : (Jvm.Cond.fieldLink own i R0 n d).before a0 Z = true ∨ (Jvm.Cond.fieldLinkNest own i R0 n d host).before a0 Z = true) (via : Via Z R0 O n d) {a : Addr} {v : Value} (F : Fld Z h a O n d v) (hd : decode bytes pc = .ok (.getfield i, 3)) (hp : pc + 3 = pc')
    (kk : ∀ T', Pos p l e R s m args below meth c Z own bytes ml ret nm T' h locs cells slots → Go p e below FF (T'.setTop (mkF m pc' Ls (v :: St)))) : Go p e below FF (T.setTop (mkF m pc Ls (.ref a :: St))) := by
  subst hp
  obtain ⟨T', X', e', st⟩ := Jvm.RoadKit.getF P.st P.x P.z P.ow w via P.eh F (g := mkF m pc Ls (.ref a :: St)) rfl rfl (hb P.bt hd)
  exact Go.via st (kk T' ⟨P.1, X', e'⟩)
theorem G.putF (P : Pos p l e R s m args below meth c Z own bytes ml ret nm T h locs cells slots) {R0 O n d host C : String} {i kn : Nat} {ty : FieldType} (w : (Jvm.Cond.fieldLink own i R0 n d).before a0 Z = true ∨ (Jvm.Cond.fieldLinkNest own i R0 n d host).before a0 Z = true) (via : Via Z R0 O n d) {a : Addr} {v old : Value} (F : Fld Z h a O n d old) (E : Exa Z h a C)
    (L : (Jvm.Cond.lays C O n d).before a0 Z = true ∨ ((Jvm.Cond.laysFinal C O n d).before a0 Z = true ∧ own = O ∧ nm = "<init>")) (wi : (Jvm.Cond.instantiable C kn).before a0 Z = true) (hty : parseFieldDescriptor d = some ty) (hn : narrow ty v = v) (hf : fits ty v = true) (hd : decode bytes pc = .ok (.putfield i, 3)) (hp : pc + 3 = pc')
    (kk : ∀ T' h', Pos p l e R s m args below meth c Z own bytes ml ret nm T' h' (locs ++ [⟨a, Jvm.RoadKit.slotOf Z O n d⟩]) cells slots → Wr h h' a (Jvm.RoadKit.slotOf Z O n d) v → Go p e below FF (T'.setTop (mkF m pc' Ls St))) : Go p e below FF (T.setTop (mkF m pc Ls (v :: .ref a :: St))) := by
  subst hp
  obtain ⟨T', h', X', e', W, st⟩ := Jvm.RoadKit.putF P.st P.x P.z P.ow w via P.eh F E (L.imp id fun q => ⟨q.1, q.2.1, P.mn.trans q.2.2⟩) wi hty hn hf (g := mkF m pc Ls (v :: .ref a :: St)) rfl rfl (hb P.bt hd)
  exact Go.via st (kk T' h' ⟨P.1, X', e'⟩ W)
theorem G.putFN (P : Pos p l e R s m args below meth c Z own bytes ml ret nm T h locs cells slots) {R0 O n d C : String} {i kn : Nat} {ty : FieldType} (w : (Jvm.Cond.fieldLink own i R0 n d).before a0 Z = true) (via : Via Z R0 O n d) {a : Addr} {v v' old : Value} (F : Fld Z h a O n d old) (E : Exa Z h a C)
    (L : (Jvm.Cond.lays C O n d).before a0 Z = true ∨ ((Jvm.Cond.laysFinal C O n d).before a0 Z = true ∧ own = O ∧ nm = "<init>")) (wi : (Jvm.Cond.instantiable C kn).before a0 Z = true) (hty : parseFieldDescriptor d = some ty) (hn : narrow ty v = v') (hf : fits ty v' = true) (hd : decode bytes pc = .ok (.putfield i, 3)) (hp : pc + 3 = pc')
    (kk : ∀ T' h', Pos p l e R s m args below meth c Z own bytes ml ret nm T' h' (locs ++ [⟨a, Jvm.RoadKit.slotOf Z O n d⟩]) cells slots → Wr h h' a (Jvm.RoadKit.slotOf Z O n d) v' → Go p e below FF (T'.setTop (mkF m pc' Ls St))) : Go p e below FF (T.setTop (mkF m pc Ls (v :: .ref a :: St))) := by
  subst hp
  obtain ⟨T', h', X', e', W, st⟩ := Jvm.RoadKit.putFN P.st P.x P.z P.ow w via P.eh F E (L.imp id fun q => ⟨q.1, q.2.1, P.mn.trans q.2.2⟩) wi hty hn hf (g := mkF m pc Ls (v :: .ref a :: St)) rfl rfl (hb P.bt hd)
  exact Go.via st (kk T' h' ⟨P.1, X', e'⟩ W)
theorem G.getS (P : Pos p l e R s m args below meth c Z own bytes ml ret nm T h locs cells slots) {R0 O n d host : String} {i : Nat} (w : (Jvm.Cond.fieldLink own i R0 n d).before a0 Z = true ∨ (Jvm.Cond.fieldLinkNest own i R0 n d host).before a0 Z = true) (via : Via Z R0 O n d) {v : Value} (F : Sta Z h O n d v) (hd : decode bytes pc = .ok (.getstatic i, 3)) (hp : pc + 3 = pc')
    (kk : ∀ T', Pos p l e R s m args below meth c Z own bytes ml ret nm T' h locs cells slots → Go p e below FF (T'.setTop (mkF m pc' Ls (v :: St)))) : Go p e below FF (T.setTop (mkF m pc Ls St)) := by
  subst hp
  obtain ⟨T', X', e', st⟩ := getS2 P.st P.x P.z P.ow w via P.eh F (g := mkF m pc Ls St) rfl (hb P.bt hd)
  exact Go.via st (kk T' ⟨P.1, X', e'⟩)
theorem G.newO (P : Pos p l e R s m args below meth c Z own bytes ml ret nm T h locs cells slots) {C : String} {i n : Nat} (w : (Jvm.Cond.classLink own i C).before a0 Z = true) (wi : (Jvm.Cond.instantiable C n).before a0 Z = true) (wz : (Jvm.Cond.initialized C).before a0 Z = true) (hd : decode bytes pc = .ok (.new i, 3)) (hro : cells + 1 ≤ R.cells ∧ slots + n ≤ R.slots) (hp : pc + 3 = pc')
    (kk : ∀ T' h' a, a = h.size → Pos p l e R s m args below meth c Z own bytes ml ret nm T' h' locs (cells + 1) (slots + n) → Ext h h' → Exa Z h' a C → (∀ {O fn d : String} {ty : FieldType}, Laid Z a0 C O fn d → parseFieldDescriptor d = some ty → Fld Z h' a O fn d (defaultValue ty)) → Go p e below FF (T'.setTop (mkF m pc' Ls (.ref a :: St)))) : Go p e below FF (T.setTop (mkF m pc Ls St)) := by
  subst hp
  obtain ⟨T', h', X', e', E, A, D, -, st⟩ := Jvm.RoadKit.newO P.st P.x P.z P.ow w wi wz P.eh (g := mkF m pc Ls St) rfl (hb P.bt hd) hro.1 hro.2
  exact Go.via st (kk T' h' h.size rfl ⟨P.1, X', e'⟩ E A D)
theorem G.newP (P : Pos p l e R s m args below meth c Z own bytes ml ret nm T h locs cells slots) {aty : ArrayType} (w : (Jvm.Cond.arrayClass (newarray.typeOf aty)).before a0 Z = true) {n : Int32} (hn : ¬ n < 0) {cap : Nat} (hcap : n.toNatClampNeg ≤ cap) (hbb : cap * 8 ≤ 536870912) (hro : cells + 1 ≤ R.cells ∧ slots + cap ≤ R.slots) (hd : decode bytes pc = .ok (.newarray aty, 2)) (hp : pc + 2 = pc')
    (kk : ∀ T' h' a k, a = h.size → Pos p l e R s m args below meth c Z own bytes ml ret nm T' h' locs (cells + 1) (slots + cap) → Ext h h' → Arv Z h' a k (newarray.typeOf aty) n [] (defaultValue (newarray.typeOf aty)) → Go p e below FF (T'.setTop (mkF m pc' Ls (.ref a :: St)))) : Go p e below FF (T.setTop (mkF m pc Ls (.int n :: St))) := by
  subst hp
  obtain ⟨T', h', k, X', e', E, A, st⟩ := Jvm.RoadKit.newP P.st P.x P.z w P.eh (g := mkF m pc Ls (.int n :: St)) rfl (hb P.bt hd) rfl hn hcap hbb hro.1 hro.2
  exact Go.via st (kk T' h' h.size k rfl ⟨P.1, X', e'⟩ E (Arv.new A hn))
theorem G.alen (P : Pos p l e R s m args below meth c Z own bytes ml ret nm T h locs cells slots) {a : Addr} {k : ClassId} {ty : FieldType} {z : Int32} {vs : List Value} {dv : Value} (V : Arv Z h a k ty z vs dv) (hd : decode bytes pc = .ok (.arraylength, 1)) (hp : pc + 1 = pc')
    (kk : Go p e below FF (T.setTop (mkF m pc' Ls (.int z :: St)))) : Go p e below FF (T.setTop (mkF m pc Ls (.ref a :: St))) := by
  subst hp
  obtain ⟨cl, A, -, S, N, -⟩ := V
  refine Go.via (fun t => P.st.arraylength P.x (cell := cl) (by rw [P.eh]; exact A.1) (State.isArrayOf_alike P.z.alike A.2.1) (g := mkF m pc Ls (.ref a :: St)) rfl rfl (hb P.bt hd) t) ?_
  rw [len_of S N]; exact kk
theorem G.stI (P : Pos p l e R s m args below meth c Z own bytes ml ret nm T h locs cells slots) {a : Addr} {k : ClassId} {z : Int32} {vs : List Value} {dv : Value} (V : Arv Z h a k .int z vs dv) {j x : Int32} (i : Nat) (hi : j.toNatClampNeg = i) (hin : ¬ j < 0 ∧ j < z) (hl : i < vs.length) (hd : decode bytes pc = .ok (.iastore, 1)) (hp : pc + 1 = pc')
    (kk : ∀ T' h', Pos p l e R s m args below meth c Z own bytes ml ret nm T' h' (locs ++ [⟨a, i⟩]) cells slots → Wr h h' a i (.int x) → Arv Z h' a k .int z (vs.set i (.int x)) dv → Go p e below FF (T'.setTop (mkF m pc' Ls St))) : Go p e below FF (T.setTop (mkF m pc Ls (.int x :: .int j :: .ref a :: St))) := by
  subst hp hi
  obtain ⟨cl, A, q1, S, N, H, Gf⟩ := V
  obtain ⟨T', h', X', e', W, st⟩ := Jvm.RoadKit.stI P.st P.x P.z P.eh A (inb_of S hin) (g := mkF m pc Ls (.int x :: .int j :: .ref a :: St)) rfl rfl (hb P.bt hd)
  exact Go.via st (kk T' h' ⟨P.1, X', e'⟩ W (Arv.set A q1 S N H Gf rfl W _ rfl hl))
theorem G.stB (P : Pos p l e R s m args below meth c Z own bytes ml ret nm T h locs cells slots) {a : Addr} {k : ClassId} {z : Int32} {vs : List Value} {dv : Value} (V : Arv Z h a k .byte z vs dv) {j x : Int32} (i : Nat) (hi : j.toNatClampNeg = i) (hin : ¬ j < 0 ∧ j < z) (hl : i < vs.length) (hd : decode bytes pc = .ok (.bastore, 1)) (hp : pc + 1 = pc')
    (kk : ∀ T' h', Pos p l e R s m args below meth c Z own bytes ml ret nm T' h' (locs ++ [⟨a, i⟩]) cells slots → Wr h h' a i (.int (nar .byte x)) → Arv Z h' a k .byte z (vs.set i (.int (nar .byte x))) dv → Go p e below FF (T'.setTop (mkF m pc' Ls St))) : Go p e below FF (T.setTop (mkF m pc Ls (.int x :: .int j :: .ref a :: St))) := by
  subst hp hi
  obtain ⟨cl, A, q1, S, N, H, Gf⟩ := V
  obtain ⟨T', h', X', e', W, st⟩ := Jvm.RoadKit.stB P.st P.x P.z P.eh A (inb_of S hin) (g := mkF m pc Ls (.int x :: .int j :: .ref a :: St)) rfl rfl (hb P.bt hd)
  exact Go.via st (kk T' h' ⟨P.1, X', e'⟩ W (Arv.set A q1 S N H Gf (fits_nar_byte _) W _ rfl hl))
theorem G.stZ (P : Pos p l e R s m args below meth c Z own bytes ml ret nm T h locs cells slots) {a : Addr} {k : ClassId} {z : Int32} {vs : List Value} {dv : Value} (V : Arv Z h a k .boolean z vs dv) {j x : Int32} (i : Nat) (hi : j.toNatClampNeg = i) (hin : ¬ j < 0 ∧ j < z) (hl : i < vs.length) (hd : decode bytes pc = .ok (.bastore, 1)) (hp : pc + 1 = pc')
    (kk : ∀ T' h', Pos p l e R s m args below meth c Z own bytes ml ret nm T' h' (locs ++ [⟨a, i⟩]) cells slots → Wr h h' a i (.int (nar .boolean x)) → Arv Z h' a k .boolean z (vs.set i (.int (nar .boolean x))) dv → Go p e below FF (T'.setTop (mkF m pc' Ls St))) : Go p e below FF (T.setTop (mkF m pc Ls (.int x :: .int j :: .ref a :: St))) := by
  subst hp hi
  obtain ⟨cl, A, q1, S, N, H, Gf⟩ := V
  obtain ⟨T', h', X', e', W, st⟩ := Jvm.RoadKit.stZ P.st P.x P.z P.eh A (inb_of S hin) (g := mkF m pc Ls (.int x :: .int j :: .ref a :: St)) rfl rfl (hb P.bt hd)
  exact Go.via st (kk T' h' ⟨P.1, X', e'⟩ W (Arv.set A q1 S N H Gf (fits_nar_bool _) W _ rfl hl))
theorem G.stC (P : Pos p l e R s m args below meth c Z own bytes ml ret nm T h locs cells slots) {a : Addr} {k : ClassId} {z : Int32} {vs : List Value} {dv : Value} (V : Arv Z h a k .char z vs dv) {j x : Int32} (i : Nat) (hi : j.toNatClampNeg = i) (hin : ¬ j < 0 ∧ j < z) (hl : i < vs.length) (hd : decode bytes pc = .ok (.castore, 1)) (hp : pc + 1 = pc')
    (kk : ∀ T' h', Pos p l e R s m args below meth c Z own bytes ml ret nm T' h' (locs ++ [⟨a, i⟩]) cells slots → Wr h h' a i (.int (nar .char x)) → Arv Z h' a k .char z (vs.set i (.int (nar .char x))) dv → Go p e below FF (T'.setTop (mkF m pc' Ls St))) : Go p e below FF (T.setTop (mkF m pc Ls (.int x :: .int j :: .ref a :: St))) := by
  subst hp hi
  obtain ⟨cl, A, q1, S, N, H, Gf⟩ := V
  obtain ⟨T', h', X', e', W, st⟩ := Jvm.RoadKit.stC P.st P.x P.z P.eh A (inb_of S hin) (g := mkF m pc Ls (.int x :: .int j :: .ref a :: St)) rfl rfl (hb P.bt hd)
  exact Go.via st (kk T' h' ⟨P.1, X', e'⟩ W (Arv.set A q1 S N H Gf (fits_nar_char _) W _ rfl hl))
theorem G.iaload (P : Pos p l e R s m args below meth c Z own bytes ml ret nm T h locs cells slots) {a : Addr} {k : ClassId} {z : Int32} {vs : List Value} {dv : Value} (V : Arv Z h a k .int z vs dv) {j : Int32} {v : Value} (hin : ¬ j < 0 ∧ j < z) (hv : vs.getD j.toNatClampNeg dv = v) (hd : decode bytes pc = .ok (.iaload, 1)) (hp : pc + 1 = pc')
    (kk : Go p e below FF (T.setTop (mkF m pc' Ls (v :: St)))) : Go p e below FF (T.setTop (mkF m pc Ls (.int j :: .ref a :: St))) := by
  subst hp
  obtain ⟨cl, A, q1, S, N, H, Gf⟩ := V
  have hb' := inb_of S hin
  exact Go.via (fun t => P.st.iaload P.x (by rw [P.eh]; exact A.1) (State.isArrayOf_alike P.z.alike A.2.1) A.2.2 hb' (Has.at H hb' hv) (g := mkF m pc Ls (.int j :: .ref a :: St)) rfl rfl (hb P.bt hd) t) kk
theorem G.baloadB (P : Pos p l e R s m args below meth c Z own bytes ml ret nm T h locs cells slots) {a : Addr} {k : ClassId} {z : Int32} {vs : List Value} {dv : Value} (V : Arv Z h a k .byte z vs dv) {j : Int32} {v : Value} (hin : ¬ j < 0 ∧ j < z) (hv : vs.getD j.toNatClampNeg dv = v) (hd : decode bytes pc = .ok (.baload, 1)) (hp : pc + 1 = pc')
    (kk : Go p e below FF (T.setTop (mkF m pc' Ls (v :: St)))) : Go p e below FF (T.setTop (mkF m pc Ls (.int j :: .ref a :: St))) := by
  subst hp
  obtain ⟨cl, A, q1, S, N, H, Gf⟩ := V
  have hb' := inb_of S hin
  exact Go.via (fun t => P.st.baloadBytes P.x (by rw [P.eh]; exact A.1) (State.isArrayOf_alike P.z.alike A.2.1) A.2.2 hb' (Has.at H hb' hv) (g := mkF m pc Ls (.int j :: .ref a :: St)) rfl rfl (hb P.bt hd) t) kk
theorem G.baloadZ (P : Pos p l e R s m args below meth c Z own bytes ml ret nm T h locs cells slots) {a : Addr} {k : ClassId} {z : Int32} {vs : List Value} {dv : Value} (V : Arv Z h a k .boolean z vs dv) {j : Int32} {v : Value} (hin : ¬ j < 0 ∧ j < z) (hv : vs.getD j.toNatClampNeg dv = v) (hd : decode bytes pc = .ok (.baload, 1)) (hp : pc + 1 = pc')
    (kk : Go p e below FF (T.setTop (mkF m pc' Ls (v :: St)))) : Go p e below FF (T.setTop (mkF m pc Ls (.int j :: .ref a :: St))) := by
  subst hp
  obtain ⟨cl, A, q1, S, N, H, Gf⟩ := V
  have hb' := inb_of S hin
  exact Go.via (fun t => P.st.baloadBooleans P.x (by rw [P.eh]; exact A.1) (State.isArrayOf_alike P.z.alike A.2.1) A.2.2 hb' (Has.at H hb' hv) (g := mkF m pc Ls (.int j :: .ref a :: St)) rfl rfl (hb P.bt hd) t) kk
theorem G.aaload (P : Pos p l e R s m args below meth c Z own bytes ml ret nm T h locs cells slots) {a : Addr} {k : ClassId} {ty : FieldType} {z : Int32} {vs : List Value} {dv : Value} (V : Arv Z h a k ty z vs dv) (hty : ty.isReference = true) {j : Int32} {v : Value} (hin : ¬ j < 0 ∧ j < z) (hv : vs.getD j.toNatClampNeg dv = v) (hd : decode bytes pc = .ok (.aaload, 1)) (hp : pc + 1 = pc')
    (kk : Go p e below FF (T.setTop (mkF m pc' Ls (v :: St)))) : Go p e below FF (T.setTop (mkF m pc Ls (.int j :: .ref a :: St))) := by
  subst hp
  obtain ⟨cl, A, q1, S, N, H, Gf⟩ := V
  have hb' := inb_of S hin
  exact Go.via (fun t => P.st.aaload P.x (by rw [P.eh]; exact A.1) (State.isArrayOf_alike P.z.alike A.2.1) hty A.2.2 hb' (Has.at H hb' hv) (g := mkF m pc Ls (.int j :: .ref a :: St)) rfl rfl (hb P.bt hd) t) kk
/-! ### returns -/
theorem Go.end_ {S0 : State} (P : Pos p l e R s m args below meth c Z own bytes ml ret nm T h locs cells slots) {v : Option Value} (hv : ret = none → v = none) (hc : cells ≤ cs) (hs : slots ≤ ss) (hq : Q v h locs)
    (st : ∀ fs, (∀ (f : JFrame) (acts : List Action), f.method = m → f.locked = none → f.entered = [] → (doReturn e (T.setTop f) acts v).1 = T.setFrames fs) → Steps p.tables e below S0 (T.setFrames fs)) : Go p e below (NF s cs ss Q) S0 := by
  have hlk := P.lk
  obtain ⟨fs, hr, hrun, hended, hW, hsame⟩ := P.st.leave (v := v) (fun q => hv (P.rt.symm.trans q)) hlk
  refine ⟨_, _, st fs hr, hrun, hended, _, rfl, _, ?_, ⟨_, rfl⟩, hW, hsame.mono hc hs⟩
  have q : (T.setFrames fs).heap = h := P.eh
  rw [q]; exact hq
theorem G.retI (P : Pos p l e R s m args below meth c Z own bytes ml (some .int) nm T h locs cells slots) {z : Int32} (hd : decode bytes pc = .ok (.ireturn, 1)) (hc : cells ≤ cs) (hs : slots ≤ ss) (hq : Q (some (.int z)) h locs) : Go p e below (NF s cs ss Q) (T.setTop (mkF m pc Ls (.int z :: St))) :=
  Go.end_ P (fun q => by cases q) hc hs hq (fun fs hr => Jvm.RoadKit.retI P.st P.x P.rt (hb P.bt hd) hr)
theorem G.retN (P : Pos p l e R s m args below meth c Z own bytes ml ret nm T h locs cells slots) {z : Int32} {t : FieldType} (ht : ret = some t) (ht2 : t = .boolean ∨ t = .byte ∨ t = .char ∨ t = .short) (hd : decode bytes pc = .ok (.ireturn, 1)) (hc : cells ≤ cs) (hs : slots ≤ ss) (hq : Q (some (.int (nar t z))) h locs) : Go p e below (NF s cs ss Q) (T.setTop (mkF m pc Ls (.int z :: St))) :=
  Go.end_ P (fun q => by rw [ht] at q; cases q) hc hs hq (fun fs hr => Jvm.RoadKit.retN P.st P.x (P.rt.trans ht) ht2 (hb P.bt hd) hr)
theorem G.retV (P : Pos p l e R s m args below meth c Z own bytes ml none nm T h locs cells slots) (hd : decode bytes pc = .ok (.return_, 1)) (hc : cells ≤ cs) (hs : slots ≤ ss) (hq : Q none h locs) : Go p e below (NF s cs ss Q) (T.setTop (mkF m pc Ls [])) :=
  Go.end_ P (fun _ => rfl) hc hs hq (fun fs hr => P.st.returnOut P.x P.rt (hb P.bt hd) hr)
theorem G.retA (P : Pos p l e R s m args below meth c Z own bytes ml ret nm T h locs cells slots) {w : Value} {t : FieldType} (ht : ret = some t) (ht2 : t.isReference = true) (hw : w.isRef = true) (hd : decode bytes pc = .ok (.areturn, 1)) (hc : cells ≤ cs) (hs : slots ≤ ss) (hq : Q (some w) h locs) : Go p e below (NF s cs ss Q) (T.setTop (mkF m pc Ls [w])) :=
  Go.end_ P (fun q => by rw [ht] at q; cases q) hc hs hq (fun fs hr => P.st.areturnOut P.x hw (P.rt.trans ht) ht2 (hb P.bt hd) hr)
theorem G.retJ (P : Pos p l e R s m args below meth c Z own bytes ml (some .long) nm T h locs cells slots) {w : Int64} (hd : decode bytes pc = .ok (.lreturn, 1)) (hc : cells ≤ cs) (hs : slots ≤ ss) (hq : Q (some (.long w)) h locs) : Go p e below (NF s cs ss Q) (T.setTop (mkF m pc Ls [.long w])) :=
  Go.end_ P (fun q => by cases q) hc hs hq (fun fs hr => P.st.lreturnOut P.x P.rt (hb P.bt hd) hr)
/-! ### calls -/
theorem Pos.re (P : Pos p l e R s m args below meth c Z own bytes ml ret nm T h locs cells slots) {T' : State} {h' : Heap} {locs' : List Loc} {cells' slots' : Nat} (X' : Stand p l e R s m args below meth c T' locs' cells' slots') (e' : T'.heap = h') : Pos p l e R s m args below meth c Z own bytes ml ret nm T' h' locs' cells' slots' := ⟨P.1, X', e'⟩
theorem G.callS (P : Pos p l e R s m args below meth c Z own bytes ml ret nm T h locs cells slots) {y : MethodName} {by' : ByteArray} {ml' : Nat} {ret' : Option FieldType} {i : Nat} {rm : Room} {as' : Array Value} {Qc : Option Value → Heap → List Loc → Prop} (hM : OMeets l Z y by' ml' ret' rm as' h Qc)
    (w1 : (Jvm.Cond.methodLink own i y).before a0 Z = true) (w2 : (Jvm.Cond.static y).before a0 Z = true) (w3 : (Jvm.Cond.initialized y.cls).before a0 Z = true) (w4 : (Jvm.Cond.code y by' ml' ret').before a0 Z = true)
    (hy : y.cls ≠ "java/lang/invoke/MethodHandle" ∧ y.cls ≠ "java/lang/invoke/VarHandle") {ps : List FieldType} {r : Option FieldType} (hds : parseMethodDescriptor y.desc = some ⟨ps, r⟩) {argsL rest : List Value} (hal : argsL.length = ps.length) (hst : argsL.reverse ++ rest = St) (has : argsL.toArray = as') (hsz : Ls.size = ml)
    {W : Nat} (hW : (rest.map fun v => v.category).sum ≤ W) (hro : rm.frames + 1 ≤ R.frames ∧ W + (ml' + 11) + rm.locals ≤ R.locals ∧ cells + rm.cells ≤ R.cells ∧ slots + rm.slots ≤ R.slots)
    (hd : decode bytes pc = .ok (.invokestatic i, 3)) (hp : pc + 3 = pc')
    (kk : ∀ T' L v, Pos p l e R s m args below meth c Z own bytes ml ret nm T' T'.heap (locs ++ L) (cells + rm.cells) (slots + rm.slots) → Qc v T'.heap L → Go p e below FF (T'.setTop (mkF m pc' Ls (v.toList ++ rest)))) : Go p e below FF (T.setTop (mkF m pc Ls St)) := by
  subst hp hst has
  obtain ⟨v, _, ⟨T', L', k', n'⟩, -, X', ⟨Lc, hQ, l1, l2, l3⟩, st⟩ := Jvm.LawKit.callS P.st P.x (y := y) P.ow (mvT P.z w1) (mvT P.z w2) (mvT P.z w3) (mvT P.z w4) hy (backOf (W := W) hM P.z w4 w3 hro.1 hro.2.1) (g := mkF m pc Ls (argsL.reverse ++ rest)) rfl (by rw [P.mx]; exact hsz) (argsL := argsL) (rest := rest) (lenOf hds hal) rfl (by show 2 * 0 + _ ≤ _; omega) (hb P.bt hd) (fun _ _ => ⟨rfl, P.eh, hro.2.2.1, hro.2.2.2⟩)
  dsimp only [Pt.U, Pt.locs, Pt.cells, Pt.slots] at X' l1 l2 l3 st hQ
  subst l1 l2 l3
  exact Go.via st (kk T' Lc v ⟨P.1, X', rfl⟩ hQ)
theorem G.callSP (P : Pos p l e R s m args below meth c Z own bytes ml ret nm T h locs cells slots) {y : MethodName} {by' : ByteArray} {ml' : Nat} {ret' : Option FieldType} {i fr lo : Nat} {as' : Array Value} {v0 : Option Value} (hM : OMeets l Z y by' ml' ret' ⟨fr, 0, 0, lo⟩ as' h (OPure v0 h))
    (w1 : (Jvm.Cond.methodLink own i y).before a0 Z = true) (w2 : (Jvm.Cond.static y).before a0 Z = true) (w3 : (Jvm.Cond.initialized y.cls).before a0 Z = true) (w4 : (Jvm.Cond.code y by' ml' ret').before a0 Z = true)
    (hy : y.cls ≠ "java/lang/invoke/MethodHandle" ∧ y.cls ≠ "java/lang/invoke/VarHandle") {ps : List FieldType} {r : Option FieldType} (hds : parseMethodDescriptor y.desc = some ⟨ps, r⟩) {argsL rest : List Value} (hal : argsL.length = ps.length) (hst : argsL.reverse ++ rest = St) (has : argsL.toArray = as') (hsz : Ls.size = ml)
    {W : Nat} (hW : (rest.map fun v => v.category).sum ≤ W) (hro : fr + 1 ≤ R.frames ∧ W + (ml' + 11) + lo ≤ R.locals ∧ cells ≤ R.cells ∧ slots ≤ R.slots)
    (hd : decode bytes pc = .ok (.invokestatic i, 3)) (hp : pc + 3 = pc')
    (kk : ∀ T', Pos p l e R s m args below meth c Z own bytes ml ret nm T' h locs cells slots → Go p e below FF (T'.setTop (mkF m pc' Ls (v0.toList ++ rest)))) : Go p e below FF (T.setTop (mkF m pc Ls St)) := by
  refine G.callS P hM w1 w2 w3 w4 hy hds hal hst has hsz hW hro hd hp fun T' L v P' hQ => ?_
  obtain ⟨rfl, e, rfl⟩ := hQ
  rw [List.append_nil] at P'
  exact kk T' ⟨P'.1, P'.2.1, e⟩
theorem G.callV (P : Pos p l e R s m args below meth c Z own bytes ml ret nm T h locs cells slots) {C : String} {y z : MethodName} {by' : ByteArray} {ml' : Nat} {ret' : Option FieldType} {i : Nat} {rm : Room} {as' : Array Value} {Qc : Option Value → Heap → List Loc → Prop} (hM : OMeets l Z z by' ml' ret' rm as' h Qc)
    (w1 : (Jvm.Cond.methodLink own i y).before a0 Z = true) (w2 : (Jvm.Cond.declares y).before a0 Z = true) (w3 : (Jvm.Cond.selects C y z).before a0 Z = true) (hyz : y = z) (w4 : (Jvm.Cond.instanceMethod z).before a0 Z = true) (w5 : (Jvm.Cond.initialized z.cls).before a0 Z = true) (w6 : (Jvm.Cond.code z by' ml' ret').before a0 Z = true)
    (hy : y.cls ≠ "java/lang/invoke/MethodHandle" ∧ y.cls ≠ "java/lang/invoke/VarHandle") {b : Addr} (E : Exa Z h b C) {ps : List FieldType} {r : Option FieldType} (hds : parseMethodDescriptor y.desc = some ⟨ps, r⟩) {argsL rest : List Value} (hal : argsL.length = ps.length) (hst : argsL.reverse ++ .ref b :: rest = St) (has : (.ref b :: argsL).toArray = as') (hsz : Ls.size = ml)
    {W : Nat} (hW : (rest.map fun v => v.category).sum ≤ W) (hro : rm.frames + 1 ≤ R.frames ∧ W + (ml' + 11) + rm.locals ≤ R.locals ∧ cells + rm.cells ≤ R.cells ∧ slots + rm.slots ≤ R.slots)
    (hd : decode bytes pc = .ok (.invokevirtual i, 3)) (hp : pc + 3 = pc')
    (kk : ∀ T' L v, Pos p l e R s m args below meth c Z own bytes ml ret nm T' T'.heap (locs ++ L) (cells + rm.cells) (slots + rm.slots) → Qc v T'.heap L → Go p e below FF (T'.setTop (mkF m pc' Ls (v.toList ++ rest)))) : Go p e below FF (T.setTop (mkF m pc Ls St)) := by
  subst hp hst has hyz
  obtain ⟨cB, kB, q1, q2, q3⟩ := isOf P.z P.eh E
  obtain ⟨v, _, ⟨T', L', k', n'⟩, -, X', ⟨Lc, hQ, l1, l2, l3⟩, st⟩ := P.st.virtualBack P.x (y := y) (z := y) P.ow (mvT P.z w1) (mvT P.z w2) (notFace_of_selects (args := #[]) (mvT P.z w3)) (mvT P.z w3) (mvT P.z w4) hy (backOf (W := W) hM P.z w6 w5 hro.1 hro.2.1) q1 q3 (g := mkF m pc Ls (argsL.reverse ++ .ref b :: rest)) rfl (by rw [P.mx]; exact hsz) (Steps.refl _) (argsL := argsL) (rest := rest) (lenOf hds hal) rfl (by show 2 * 0 + _ ≤ _; omega) (hb P.bt hd) (fun _ _ => ⟨rfl, P.eh, hro.2.2.1, hro.2.2.2⟩)
  dsimp only [Pt.U, Pt.locs, Pt.cells, Pt.slots] at X' l1 l2 l3 st hQ
  subst l1 l2 l3
  exact Go.come st (kk T' Lc v ⟨P.1, X', rfl⟩ hQ)
theorem G.callVP (P : Pos p l e R s m args below meth c Z own bytes ml ret nm T h locs cells slots) {C : String} {y z : MethodName} {by' : ByteArray} {ml' : Nat} {ret' : Option FieldType} {i fr lo : Nat} {as' : Array Value} {v0 : Option Value} (hM : OMeets l Z z by' ml' ret' ⟨fr, 0, 0, lo⟩ as' h (OPure v0 h))
    (w1 : (Jvm.Cond.methodLink own i y).before a0 Z = true) (w2 : (Jvm.Cond.declares y).before a0 Z = true) (w3 : (Jvm.Cond.selects C y z).before a0 Z = true) (hyz : y = z) (w4 : (Jvm.Cond.instanceMethod z).before a0 Z = true) (w5 : (Jvm.Cond.initialized z.cls).before a0 Z = true) (w6 : (Jvm.Cond.code z by' ml' ret').before a0 Z = true)
    (hy : y.cls ≠ "java/lang/invoke/MethodHandle" ∧ y.cls ≠ "java/lang/invoke/VarHandle") {b : Addr} (E : Exa Z h b C) {ps : List FieldType} {r : Option FieldType} (hds : parseMethodDescriptor y.desc = some ⟨ps, r⟩) {argsL rest : List Value} (hal : argsL.length = ps.length) (hst : argsL.reverse ++ .ref b :: rest = St) (has : (.ref b :: argsL).toArray = as') (hsz : Ls.size = ml)
    {W : Nat} (hW : (rest.map fun v => v.category).sum ≤ W) (hro : fr + 1 ≤ R.frames ∧ W + (ml' + 11) + lo ≤ R.locals ∧ cells ≤ R.cells ∧ slots ≤ R.slots)
    (hd : decode bytes pc = .ok (.invokevirtual i, 3)) (hp : pc + 3 = pc')
    (kk : ∀ T', Pos p l e R s m args below meth c Z own bytes ml ret nm T' h locs cells slots → Go p e below FF (T'.setTop (mkF m pc' Ls (v0.toList ++ rest)))) : Go p e below FF (T.setTop (mkF m pc Ls St)) := by
  refine G.callV P hM w1 w2 w3 hyz w4 w5 w6 hy E hds hal hst has hsz hW hro hd hp fun T' L v P' hQ => ?_
  obtain ⟨rfl, e, rfl⟩ := hQ
  rw [List.append_nil] at P'
  exact kk T' ⟨P'.1, P'.2.1, e⟩
theorem G.callI (P : Pos p l e R s m args below meth c Z own bytes ml ret nm T h locs cells slots) {y : MethodName} {by' : ByteArray} {ml' : Nat} {i : Nat} {rm : Room} {as' : Array Value} {Qc : Option Value → Heap → List Loc → Prop} (hM : OMeets l Z y by' ml' none rm as' h Qc) (hyn : y.name = "<init>")
    (w1 : (Jvm.Cond.methodLink own i y).before a0 Z = true) (w2 : (Jvm.Cond.instanceMethod y).before a0 Z = true) (w3 : (Jvm.Cond.initialized y.cls).before a0 Z = true) (w4 : (Jvm.Cond.code y by' ml' none).before a0 Z = true)
    (hy : y.cls ≠ "java/lang/invoke/MethodHandle" ∧ y.cls ≠ "java/lang/invoke/VarHandle") {b : Addr} {ps : List FieldType} {r : Option FieldType} (hds : parseMethodDescriptor y.desc = some ⟨ps, r⟩) {argsL rest : List Value} (hal : argsL.length = ps.length) (hst : argsL.reverse ++ .ref b :: rest = St) (has : (.ref b :: argsL).toArray = as') (hsz : Ls.size = ml)
    {W : Nat} (hW : (rest.map fun v => v.category).sum ≤ W) (hro : rm.frames + 1 ≤ R.frames ∧ W + (ml' + 11) + rm.locals ≤ R.locals ∧ cells + rm.cells ≤ R.cells ∧ slots + rm.slots ≤ R.slots)
    (hd : decode bytes pc = .ok (.invokespecial i, 3)) (hp : pc + 3 = pc')
    (kk : ∀ T' L v, Pos p l e R s m args below meth c Z own bytes ml ret nm T' T'.heap (locs ++ L) (cells + rm.cells) (slots + rm.slots) → Qc v T'.heap L → Go p e below FF (T'.setTop (mkF m pc' Ls (v.toList ++ rest)))) : Go p e below FF (T.setTop (mkF m pc Ls St)) := by
  subst hp hst has
  obtain ⟨v, _, ⟨T', L', k', n'⟩, -, X', ⟨Lc, hQ, l1, l2, l3⟩, st⟩ := P.st.specialBack P.x (y := y) hyn P.ow (mvT P.z w1) (mvT P.z w2) (mvT P.z w4) hy (backOf (W := W) hM P.z w4 w3 hro.1 hro.2.1) (g := mkF m pc Ls (argsL.reverse ++ .ref b :: rest)) rfl (by rw [P.mx]; exact hsz) (Steps.refl _) (a := b) (argsL := argsL) (rest := rest) (lenOf hds hal) rfl (by show 2 * 0 + _ ≤ _; omega) (hb P.bt hd) (fun _ _ => ⟨rfl, P.eh, hro.2.2.1, hro.2.2.2⟩)
  dsimp only [Pt.U, Pt.locs, Pt.cells, Pt.slots] at X' l1 l2 l3 st hQ
  subst l1 l2 l3
  exact Go.come st (kk T' Lc v ⟨P.1, X', rfl⟩ hQ)
theorem G.callIP (P : Pos p l e R s m args below meth c Z own bytes ml ret nm T h locs cells slots) {y : MethodName} {by' : ByteArray} {ml' : Nat} {i fr lo : Nat} {as' : Array Value} {v0 : Option Value} (hM : OMeets l Z y by' ml' none ⟨fr, 0, 0, lo⟩ as' h (OPure v0 h)) (hyn : y.name = "<init>")
    (w1 : (Jvm.Cond.methodLink own i y).before a0 Z = true) (w2 : (Jvm.Cond.instanceMethod y).before a0 Z = true) (w3 : (Jvm.Cond.initialized y.cls).before a0 Z = true) (w4 : (Jvm.Cond.code y by' ml' none).before a0 Z = true)
    (hy : y.cls ≠ "java/lang/invoke/MethodHandle" ∧ y.cls ≠ "java/lang/invoke/VarHandle") {b : Addr} {ps : List FieldType} {r : Option FieldType} (hds : parseMethodDescriptor y.desc = some ⟨ps, r⟩) {argsL rest : List Value} (hal : argsL.length = ps.length) (hst : argsL.reverse ++ .ref b :: rest = St) (has : (.ref b :: argsL).toArray = as') (hsz : Ls.size = ml)
    {W : Nat} (hW : (rest.map fun v => v.category).sum ≤ W) (hro : fr + 1 ≤ R.frames ∧ W + (ml' + 11) + lo ≤ R.locals ∧ cells ≤ R.cells ∧ slots ≤ R.slots)
    (hd : decode bytes pc = .ok (.invokespecial i, 3)) (hp : pc + 3 = pc')
    (kk : ∀ T', Pos p l e R s m args below meth c Z own bytes ml ret nm T' h locs cells slots → Go p e below FF (T'.setTop (mkF m pc' Ls (v0.toList ++ rest)))) : Go p e below FF (T.setTop (mkF m pc Ls St)) := by
  refine G.callI P hM hyn w1 w2 w3 w4 hy hds hal hst has hsz hW hro hd hp fun T' L v P' hQ => ?_
  obtain ⟨rfl, e, rfl⟩ := hQ
  rw [List.append_nil] at P'
  exact kk T' ⟨P'.1, P'.2.1, e⟩
theorem Pos.more (P : Pos p l e R s m args below meth c Z own bytes ml ret nm T h locs cells slots) {cells' slots' : Nat} (hc : cells ≤ cells') (hs : slots ≤ slots') : Pos p l e R s m args below meth c Z own bytes ml ret nm T h locs cells' slots' :=
  ⟨P.1, P.st.more hc hs, P.2.2⟩
theorem G.callF (P : Pos p l e R s m args below meth c Z own bytes ml ret nm T h locs cells slots) {C : String} {xi y : MethodName} {by' : ByteArray} {ml' : Nat} {ret' : Option FieldType} {i cnt : Nat} {rm : Room} {as' : Array Value} {Qc : Option Value → Heap → List Loc → Prop} (hM : OMeets l Z y by' ml' ret' rm as' h Qc)
    (w1 : (Jvm.Cond.methodLink own i xi).before a0 Z = true) (w2 : (Jvm.Cond.declares xi).before a0 Z = true) (w3 : (Jvm.Cond.interfaceMethod xi.cls xi.cls xi.name xi.desc).before a0 Z = true) (w4 : (Jvm.Cond.selects C xi y).before a0 Z = true) (w5 : (Jvm.Cond.instanceMethod y).before a0 Z = true)
    (w6 : (Jvm.Cond.publicMethod y).before a0 Z = true) (w7 : (Jvm.Cond.unhidden C xi.name xi.desc).before a0 Z = true) (w8 : (Jvm.Cond.castable C xi.cls).before a0 Z = true) (w9 : (Jvm.Cond.initialized y.cls).before a0 Z = true) (w10 : (Jvm.Cond.code y by' ml' ret').before a0 Z = true)
    (hy : xi.cls ≠ "java/lang/invoke/MethodHandle" ∧ xi.cls ≠ "java/lang/invoke/VarHandle") {b : Addr} (E : Exa Z h b C) {ps : List FieldType} {r : Option FieldType} (hds : parseMethodDescriptor xi.desc = some ⟨ps, r⟩) {argsL rest : List Value} (hal : argsL.length = ps.length) (hst : argsL.reverse ++ .ref b :: rest = St) (has : (.ref b :: argsL).toArray = as') (hsz : Ls.size = ml)
    {W : Nat} (hW : (rest.map fun v => v.category).sum ≤ W) (hro : rm.frames + 1 ≤ R.frames ∧ W + (ml' + 11) + rm.locals ≤ R.locals ∧ cells + rm.cells ≤ R.cells ∧ slots + rm.slots ≤ R.slots)
    (hd : decode bytes pc = .ok (.invokeinterface i cnt, 5)) (hp : pc + 5 = pc')
    (kk : ∀ T' L v, Pos p l e R s m args below meth c Z own bytes ml ret nm T' T'.heap (locs ++ L) (cells + rm.cells) (slots + rm.slots) → Qc v T'.heap L → Go p e below FF (T'.setTop (mkF m pc' Ls (v.toList ++ rest)))) : Go p e below FF (T.setTop (mkF m pc Ls St)) := by
  subst hp hst has
  obtain ⟨cB, kB, q1, q2, q3⟩ := isOf P.z P.eh E
  obtain ⟨v, _, ⟨T', L', k', n'⟩, -, X', ⟨Lc, hQ, l1, l2, l3⟩, st⟩ := P.st.interfaceBack P.x (xi := xi) (y := y) P.ow (mvT P.z w1) (mvT P.z w2) (mvT P.z w3 (by simp [Cond.onTables, Cond.keepsFace, Cond.keeps, Cond.steady, Cond.faceAtom, hy.1, hy.2])) (mvT P.z w4) (mvT P.z w5) (mvT P.z w6) (mvT P.z w7) (mvT P.z w8) hy (backOf (W := W) hM P.z w10 w9 hro.1 hro.2.1) q1 q2 q3 (g := mkF m pc Ls (argsL.reverse ++ .ref b :: rest)) rfl (by rw [P.mx]; exact hsz) (Steps.refl _) (argsL := argsL) (rest := rest) (lenOf hds hal) rfl (by show 2 * 0 + _ ≤ _; omega) (hb P.bt hd) (fun _ _ => ⟨rfl, P.eh, hro.2.2.1, hro.2.2.2⟩)
  dsimp only [Pt.U, Pt.locs, Pt.cells, Pt.slots] at X' l1 l2 l3 st hQ
  subst l1 l2 l3
  exact Go.come st (kk T' Lc v ⟨P.1, X', rfl⟩ hQ)
theorem G.callQ (P : Pos p l e R s m args below meth c Z own bytes ml ret nm T h locs cells slots) {y x0 z0 : MethodName} {C C0 : String} {by' : ByteArray} {ml' : Nat} {ret' : Option FieldType} {i : Nat} {rm : Room} {as' : Array Value} {Qc : Option Value → Heap → List Loc → Prop} (hM : OMeets l Z y by' ml' ret' rm as' h Qc)
    (w1 : (Jvm.Cond.methodLink own i y).before a0 Z = true) (w2 : (Jvm.Cond.instanceMethod y).before a0 Z = true) (w3 : (Jvm.Cond.selects C0 x0 z0).before a0 Z = true) (hz0 : z0.cls = y.cls) (w4 : (Jvm.Cond.privateMethod y).before a0 Z = true) (w5 : (Jvm.Cond.initialized y.cls).before a0 Z = true) (w6 : (Jvm.Cond.code y by' ml' ret').before a0 Z = true)
    (hy : y.cls ≠ "java/lang/invoke/MethodHandle" ∧ y.cls ≠ "java/lang/invoke/VarHandle") {b : Addr} (E : Exa Z h b C) {ps : List FieldType} {r : Option FieldType} (hds : parseMethodDescriptor y.desc = some ⟨ps, r⟩) {argsL rest : List Value} (hal : argsL.length = ps.length) (hst : argsL.reverse ++ .ref b :: rest = St) (has : (.ref b :: argsL).toArray = as') (hsz : Ls.size = ml)
    {W : Nat} (hW : (rest.map fun v => v.category).sum ≤ W) (hro : rm.frames + 1 ≤ R.frames ∧ W + (ml' + 11) + rm.locals ≤ R.locals ∧ cells + rm.cells ≤ R.cells ∧ slots + rm.slots ≤ R.slots)
    (hd : decode bytes pc = .ok (.invokevirtual i, 3)) (hp : pc + 3 = pc')
    (kk : ∀ T' L v, Pos p l e R s m args below meth c Z own bytes ml ret nm T' T'.heap (locs ++ L) (cells + rm.cells) (slots + rm.slots) → Qc v T'.heap L → Go p e below FF (T'.setTop (mkF m pc' Ls (v.toList ++ rest)))) : Go p e below FF (T.setTop (mkF m pc Ls St)) := by
  subst hp hst has
  obtain ⟨cq, q1, q2⟩ := E.cell
  obtain ⟨mk, mM, hn, hmM, hsM, haM⟩ := Cond.instanceMethod_spec (mvT (args := args) P.z w2)
  obtain ⟨mM', cM, hmM', -, -, -, -, -, -, hsg⟩ := Cond.code_spec hn (mvT (args := args) P.z w6)
  cases hmM.symm.trans hmM'
  obtain ⟨-, -, m2, -, -, q3, -, kP, hkP, hkI⟩ := Cond.selects_spec (mvT (args := args) P.z w3)
  have e1 := findClass_of_methodNamed q3
  rw [hz0] at e1
  have hcl : m2.cls = mk.cls := Option.some.inj (e1.symm.trans (findClass_of_methodNamed hn))
  rw [hcl] at hkP
  have hs0 : selectMethod e.platform s.vm cq.cls mk = .method mk := selectMethod_private hmM (Cond.privateMethod_at (mvP P.z w4 (args := #[])) mk mM hn hmM)
  obtain ⟨vm₁, X₁, st₁⟩ := P.st.invokevirtual P.x P.ow (mvT P.z w1) hn hmM hsM hkP hkI hy (a := b) (cell := cq) (by rw [P.eh]; exact q1) q2 hs0 hmM haM hkP hkI (g := mkF m pc Ls (argsL.reverse ++ .ref b :: rest)) rfl (argsL := argsL) (rest := rest) (lenOf hds hal _ hsg) rfl (hb P.bt hd)
  obtain ⟨v, ⟨T', L', k', n'⟩, X', ⟨Lc, hQ, l1, l2, l3⟩, st₂⟩ := (backOf (W := W) (len := 3) (R := R) (p := p) (e := e) (below := below) (args := args) hM P.z w6 w5 hro.1 hro.2.1) m meth c ⟨T.setVm vm₁, locs, cells, slots⟩ (mkF m pc Ls rest) (.invokevirtual i) mk (.ref b :: argsL).toArray X₁ rfl (by rw [P.mx]; exact hsz) (hb P.bt hd) (by show 2 * 0 + (rest.map fun v => v.category).sum ≤ _; omega) (X₁.named hn) ⟨rfl, P.eh, hro.2.2.1, hro.2.2.2⟩
  dsimp only [Pt.U, Pt.locs, Pt.cells, Pt.slots] at X' l1 l2 l3 st₂ hQ
  subst l1 l2 l3
  exact Go.come ((st₁ _ fun acts => by rw [doInvoke_state]; exact Steps.refl _).trans st₂) (kk T' Lc v ⟨P.1, X', rfl⟩ hQ)
theorem pureK {v0 : Option Value} (kk : ∀ T', Pos p l e R s m args below meth c Z own bytes ml ret nm T' h locs cells slots → Go p e below FF (T'.setTop (mkF m pc' Ls (v0.toList ++ St)))) : ∀ T' L v, Pos p l e R s m args below meth c Z own bytes ml ret nm T' T'.heap (locs ++ L) (cells + 0) (slots + 0) → OPure v0 h v T'.heap L → Go p e below FF (T'.setTop (mkF m pc' Ls (v.toList ++ St))) := by
  intro T' L v P' hQ
  obtain ⟨rfl, e, rfl⟩ := hQ
  rw [List.append_nil] at P'
  exact kk T' ⟨P'.1, P'.2.1, e⟩
theorem hacw {W n : Nat} (q : W + 18 ≤ n) : W + (nativeFrameWords "java/lang/System" "arraycopy" 5 + 11) ≤ n := by
  have e : nativeFrameWords "java/lang/System" "arraycopy" 5 = 7 := by decide
  rw [e]; omega
theorem G.acopy (P : Pos p l e R s m args below meth c Z own bytes ml ret nm T h locs cells slots) {i : Nat} (w1 : (Jvm.Cond.methodLink own i Jvm.Stand.acN).before a0 Z = true) (w2 : (Jvm.Cond.native Jvm.Stand.acN).before a0 Z = true) (w3 : (Jvm.Cond.static Jvm.Stand.acN).before a0 Z = true) (w4 : (Jvm.Cond.initialized "java/lang/System").before a0 Z = true)
    {a b : Addr} {k k' : ClassId} {ty ty' : FieldType} {z z' sp dp nn : Int32} {vs vd us : List Value} {dv dd : Value} (A : Arv Z h a k ty z vs dv) (B : Arv Z h b k' ty' z' vd dd) (hty : (ty = ty' ∧ refKind ty = false) ∨ (refKind ty = true ∧ refKind ty' = true ∧ StoL Z h b us))
    (h1 : ¬ sp < 0) (h2 : ¬ dp < 0) (h3 : ¬ nn < 0) (h4 : sp.toNatClampNeg + nn.toNatClampNeg ≤ z.toNatClampNeg) (h5 : dp.toNatClampNeg + nn.toNatClampNeg ≤ z'.toNatClampNeg)
    (hus : us = (List.range nn.toNatClampNeg).map fun i => vs.getD (sp.toNatClampNeg + i) dv) (hl : dp.toNatClampNeg + nn.toNatClampNeg ≤ vd.length) {n0 : Nat} (N : Fr n0 locs) (ge : n0 ≤ b) (hsz : Ls.size = ml)
    {W : Nat} (hW : (St.map fun v => v.category).sum ≤ W) (hro : 1 ≤ R.frames ∧ W + 18 ≤ R.locals) (hd : decode bytes pc = .ok (.invokestatic i, 3)) (hp : pc + 3 = pc')
    (kk : ∀ T' h' L, Pos p l e R s m args below meth c Z own bytes ml ret nm T' h' L cells slots → Fr n0 L → Keep h h' [b] → Arv Z h' b k' ty' z' (vd.take dp.toNatClampNeg ++ us ++ vd.drop (dp.toNatClampNeg + nn.toNatClampNeg)) dd → Go p e below FF (T'.setTop (mkF m pc' Ls St))) :
    Go p e below FF (T.setTop (mkF m pc Ls (.int nn :: .int dp :: .ref b :: .int sp :: .ref a :: St))) := by
  subst hp
  obtain ⟨T', h', L, X', e', N', K, V, st⟩ := cpA P.st P.x P.z P.ow w1 w2 w3 w4 P.eh A B hty h1 h2 h3 h4 h5 hus hl N ge (g := mkF m pc Ls (.int nn :: .int dp :: .ref b :: .int sp :: .ref a :: St)) rfl (by rw [P.mx]; exact hsz) rfl (hb P.bt hd) hro.1 (W := W) (by show 2 * 0 + _ ≤ _; omega) (hacw hro.2)
  exact Go.via st (kk T' h' L ⟨P.1, X', e'⟩ N' K V)
theorem G.newR (P : Pos p l e R s m args below meth c Z own bytes ml ret nm T h locs cells slots) {C : String} {i : Nat} (w1 : (Jvm.Cond.classLink own i C).before a0 Z = true) (w2 : (Jvm.Cond.arrayOver (.object C)).before a0 Z = true) {n : Int32} (hn : ¬ n < 0) {cap : Nat} (hcap : n.toNatClampNeg ≤ cap) (hbb : cap * 8 ≤ 536870912) (hro : cells + 1 ≤ R.cells ∧ slots + cap ≤ R.slots) (hd : decode bytes pc = .ok (.anewarray i, 3)) (hp : pc + 3 = pc')
    (kk : ∀ T' h' a k, a = h.size → Pos p l e R s m args below meth c Z own bytes ml ret nm T' h' locs (cells + 1) (slots + cap) → Ext h h' → Arv Z h' a k (.object C) n [] .null → Ovr Z k C → Go p e below FF (T'.setTop (mkF m pc' Ls (.ref a :: St)))) : Go p e below FF (T.setTop (mkF m pc Ls (.int n :: St))) := by
  subst hp
  obtain ⟨T', h', k, X', e', E, A, O, st⟩ := Jvm.RoadKit.newR P.st P.x P.z P.ow w1 w2 P.eh (g := mkF m pc Ls (.int n :: St)) rfl (hb P.bt hd) rfl hn hcap hbb hro.1 hro.2
  exact Go.via st (kk T' h' h.size k rfl ⟨P.1, X', e'⟩ E (Arv.new A hn) O)
theorem G.stR (P : Pos p l e R s m args below meth c Z own bytes ml ret nm T h locs cells slots) {a : Addr} {k : ClassId} {ty : FieldType} {z : Int32} {vs : List Value} {dv : Value} (V : Arv Z h a k ty z vs dv) (hty : ty.isReference = true) {j : Int32} {y : Addr} {C : String} (O : Ovr Z k C) (I : Ins Z h y C true) (hft : fits ty (.ref y) = true) (i : Nat) (hi : j.toNatClampNeg = i) (hin : ¬ j < 0 ∧ j < z) (hl : i < vs.length) (hd : decode bytes pc = .ok (.aastore, 1)) (hp : pc + 1 = pc')
    (kk : ∀ T' h', Pos p l e R s m args below meth c Z own bytes ml ret nm T' h' (locs ++ [⟨a, i⟩]) cells slots → Wr h h' a i (.ref y) → Arv Z h' a k ty z (vs.set i (.ref y)) dv → Go p e below FF (T'.setTop (mkF m pc' Ls St))) : Go p e below FF (T.setTop (mkF m pc Ls (.ref y :: .int j :: .ref a :: St))) := by
  subst hp hi
  obtain ⟨cl, A, q1, S, N, H, Gf⟩ := V
  obtain ⟨T', h', X', e', W, st⟩ := Jvm.RoadKit.stR P.st P.x P.z P.eh A (inb_of S hin) hty (Sto.ofV A q1 O I) (g := mkF m pc Ls (.ref y :: .int j :: .ref a :: St)) rfl rfl (hb P.bt hd)
  exact Go.via st (kk T' h' ⟨P.1, X', e'⟩ W (Arv.set A q1 S N H Gf hft W _ rfl hl))
theorem G.cast (P : Pos p l e R s m args below meth c Z own bytes ml ret nm T h locs cells slots) {K : String} {i : Nat} (w : (Jvm.Cond.classLink own i K).before a0 Z = true) {a : Addr} (I : Ins Z h a K true) (hd : decode bytes pc = .ok (.checkcast i, 3)) (hp : pc + 3 = pc')
    (kk : ∀ T', Pos p l e R s m args below meth c Z own bytes ml ret nm T' h locs cells slots → Go p e below FF (T'.setTop (mkF m pc' Ls (.ref a :: St)))) : Go p e below FF (T.setTop (mkF m pc Ls (.ref a :: St))) := by
  subst hp
  obtain ⟨T', X', e', st⟩ := castY P.st P.x P.z P.ow w P.eh I (g := mkF m pc Ls (.ref a :: St)) rfl rfl (hb P.bt hd)
  exact Go.via st (kk T' ⟨P.1, X', e'⟩)
theorem G.instY (P : Pos p l e R s m args below meth c Z own bytes ml ret nm T h locs cells slots) {K : String} {i : Nat} (w : (Jvm.Cond.classLink own i K).before a0 Z = true) {a : Addr} (I : Ins Z h a K true) (hd : decode bytes pc = .ok (.instanceof i, 3)) (hp : pc + 3 = pc')
    (kk : ∀ T', Pos p l e R s m args below meth c Z own bytes ml ret nm T' h locs cells slots → Go p e below FF (T'.setTop (mkF m pc' Ls (.int 1 :: St)))) : Go p e below FF (T.setTop (mkF m pc Ls (.ref a :: St))) := by
  subst hp
  obtain ⟨T', X', e', st⟩ := Jvm.RoadKit.instY P.st P.x P.z P.ow w P.eh I (g := mkF m pc Ls (.ref a :: St)) rfl rfl (hb P.bt hd)
  exact Go.via st (kk T' ⟨P.1, X', e'⟩)
theorem G.newPE (P : Pos p l e R s m args below meth c Z own bytes ml ret nm T h locs cells slots) {aty : ArrayType} (w : (Jvm.Cond.arrayClass (newarray.typeOf aty)).before a0 Z = true) {n : Int32} (hn : ¬ n < 0) {cap : Nat} (hcap : n.toNatClampNeg ≤ cap) (hbb : cap * 8 ≤ 536870912) (hro : cells + 1 ≤ R.cells ∧ slots + cap ≤ R.slots) {ad : String} (had : "[" ++ (newarray.typeOf aty).toString = ad) (hd : decode bytes pc = .ok (.newarray aty, 2)) (hp : pc + 2 = pc')
    (kk : ∀ T' h' a k, a = h.size → Pos p l e R s m args below meth c Z own bytes ml ret nm T' h' locs (cells + 1) (slots + cap) → Ext h h' → Arv Z h' a k (newarray.typeOf aty) n [] (defaultValue (newarray.typeOf aty)) → Exa Z h' a ad → Go p e below FF (T'.setTop (mkF m pc' Ls (.ref a :: St)))) : Go p e below FF (T.setTop (mkF m pc Ls (.int n :: St))) := by
  subst hp
  obtain ⟨T', h', k, X', e', E, A, B, st⟩ := Jvm.RoadKit.newPE P.st P.x P.z w P.eh (g := mkF m pc Ls (.int n :: St)) rfl (hb P.bt hd) rfl hn hcap hbb hro.1 hro.2 had
  exact Go.via st (kk T' h' h.size k rfl ⟨P.1, X', e'⟩ E (Arv.new A hn) B)
theorem G.clone (P : Pos p l e R s m args below meth c Z own bytes ml ret nm T h locs cells slots) {ad : String} {i : Nat} (w1 : (Jvm.Cond.methodLink own i ⟨ad, "clone", "()Ljava/lang/Object;"⟩).before a0 Z = true) (w2 : (Jvm.Cond.sameMethod ad "java/lang/Object" "clone" "()Ljava/lang/Object;").before a0 Z = true) (w3 : (Jvm.Cond.native ⟨"java/lang/Object", "clone", "()Ljava/lang/Object;"⟩).before a0 Z = true)
    (w4 : (Jvm.Cond.instanceMethod ⟨"java/lang/Object", "clone", "()Ljava/lang/Object;"⟩).before a0 Z = true) (w5 : (Jvm.Cond.selects ad ⟨ad, "clone", "()Ljava/lang/Object;"⟩ ⟨"java/lang/Object", "clone", "()Ljava/lang/Object;"⟩).before a0 Z = true) (w6 : (Jvm.Cond.castable ad "java/lang/Cloneable").before a0 Z = true)
    {a : Addr} {k : ClassId} {ty : FieldType} {z : Int32} {vs : List Value} {dv : Value} (V : Arv Z h a k ty z vs dv) (E : Exa Z h a ad) (hsz : Ls.size = ml) {W cap : Nat} (hW : (St.map fun v => v.category).sum ≤ W) (hcap : z.toNatClampNeg ≤ cap) (hro : 1 ≤ R.frames ∧ W + 14 ≤ R.locals ∧ cells + 1 ≤ R.cells ∧ slots + cap ≤ R.slots)
    (hd : decode bytes pc = .ok (.invokevirtual i, 3)) (hp : pc + 3 = pc')
    (kk : ∀ T' h' a', a' = h.size → Pos p l e R s m args below meth c Z own bytes ml ret nm T' h' locs (cells + 1) (slots + cap) → Ext h h' → Arv Z h' a' k ty z vs dv → Exa Z h' a' ad → Go p e below FF (T'.setTop (mkF m pc' Ls (.ref a' :: St)))) : Go p e below FF (T.setTop (mkF m pc Ls (.ref a :: St))) := by
  subst hp
  obtain ⟨T', h', X', e', ex, A, B, st⟩ := cloneH P.st P.x P.z P.ow w1 w2 w3 w4 w5 w6 P.eh V.arh E (g := mkF m pc Ls (.ref a :: St)) rfl (by rw [P.mx]; exact hsz) rfl (hb P.bt hd) hro.1 (W := W) (by show 2 * 0 + _ ≤ _; omega) hro.2.1 hcap hro.2.2.1 hro.2.2.2
  exact Go.via st (kk T' h' h.size rfl ⟨P.1, X', e'⟩ ex A B)
theorem G.tsw (P : Pos p l e R s m args below meth c Z own bytes ml ret nm T h locs cells slots) {dflt low high o : Int} {offs : Array Int} {len : Nat} {x : Int32} (hd : decode bytes pc = .ok (.tableswitch dflt low high offs, len)) (hin : ¬ (x.toInt < low ∨ x.toInt > high)) (hoff : offs[(x.toInt - low).toNat]? = some o) (ho : 0 ≤ (pc : Int) + o) (hp : ((pc : Int) + o).toNat = pc')
    (kk : Go p e below FF (T.setTop (mkF m pc' Ls St))) : Go p e below FF (T.setTop (mkF m pc Ls (.int x :: St))) :=
  Go.via (fun _ => XS.tswIn (g := mkF m pc Ls (.int x :: St)) P.here P.x rfl (pc0 := pc) rfl (hb P.bt hd) rfl hin hoff ho hp) kk
theorem G.callU (P : Pos p l e R s m args below meth c Z own bytes ml ret nm T h locs cells slots) {C owner : String} {x y : MethodName} {by' : ByteArray} {ml' : Nat} {ret' : Option FieldType} {i : Nat} {rm : Room} {as' : Array Value} {Qc : Option Value → Heap → List Loc → Prop} (hM : OMeets l Z y by' ml' ret' rm as' h Qc)
    (w1 : (Jvm.Cond.methodLink own i x).before a0 Z = true) (w2 : (Jvm.Cond.sameMethod x.cls owner x.name x.desc).before a0 Z = true) (w3 : (Jvm.Cond.declares ⟨owner, x.name, x.desc⟩).before a0 Z = true) (hy : owner ≠ "java/lang/invoke/MethodHandle" ∧ owner ≠ "java/lang/invoke/VarHandle") (w4 : (Jvm.Cond.selects C x y).before a0 Z = true) (w5 : (Jvm.Cond.instanceMethod y).before a0 Z = true) (w6 : (Jvm.Cond.initialized y.cls).before a0 Z = true) (w7 : (Jvm.Cond.code y by' ml' ret').before a0 Z = true)
    {b : Addr} (E : Exa Z h b C) {ps : List FieldType} {r : Option FieldType} (hds : parseMethodDescriptor x.desc = some ⟨ps, r⟩) {argsL rest : List Value} (hal : argsL.length = ps.length) (hst : argsL.reverse ++ .ref b :: rest = St) (has : (.ref b :: argsL).toArray = as') (hsz : Ls.size = ml)
    {W : Nat} (hW : (rest.map fun v => v.category).sum ≤ W) (hro : rm.frames + 1 ≤ R.frames ∧ W + (ml' + 11) + rm.locals ≤ R.locals ∧ cells + rm.cells ≤ R.cells ∧ slots + rm.slots ≤ R.slots)
    (hd : decode bytes pc = .ok (.invokevirtual i, 3)) (hp : pc + 3 = pc')
    (kk : ∀ T' L v, Pos p l e R s m args below meth c Z own bytes ml ret nm T' T'.heap (locs ++ L) (cells + rm.cells) (slots + rm.slots) → Qc v T'.heap L → Go p e below FF (T'.setTop (mkF m pc' Ls (v.toList ++ rest)))) : Go p e below FF (T.setTop (mkF m pc Ls St)) := by
  subst hp hst has
  obtain ⟨cB, kB, q1, q2, q3⟩ := isOf P.z P.eh E
  obtain ⟨v, _, ⟨T', L', k', n'⟩, -, X', ⟨Lc, hQ, l1, l2, l3⟩, st⟩ := P.st.virtualBackUp P.x (x := x) (y := y) P.ow (mvT P.z w1) (mvT P.z w2) (mvT P.z w3) hy (mvT P.z w4) (mvT P.z w5) (backOf (W := W) hM P.z w7 w6 hro.1 hro.2.1) q1 q3 (g := mkF m pc Ls (argsL.reverse ++ .ref b :: rest)) rfl (by rw [P.mx]; exact hsz) (Steps.refl _) (argsL := argsL) (rest := rest) (lenOf hds hal) rfl (by show 2 * 0 + _ ≤ _; omega) (hb P.bt hd) (fun _ _ => ⟨rfl, P.eh, hro.2.2.1, hro.2.2.2⟩)
  dsimp only [Pt.U, Pt.locs, Pt.cells, Pt.slots] at X' l1 l2 l3 st hQ
  subst l1 l2 l3
  exact Go.come st (kk T' Lc v ⟨P.1, X', rfl⟩ hQ)
end Own
end Jvm.OwnKit
namespace Jvm.Pilot.@@N@@
open Jvm Jvm.ClassFile Sem Op Lib Jvm.Free Jvm.Stand Jvm.LawKit Jvm.RoadKit Jvm.OwnKit Bundle Jvm.Pilot.@@N@@.Jvm.D
abbrev y1 : MethodName := ⟨"com/example/byteloom/byteloom/schema/TokenIsPinLaw", "kindOf", "(I)Lcom/example/byteloom/byteloom/schema/Token$Kind;"⟩
theorem d1_0 : decode method_2_code 0 = .ok (.iload_n 0, 1) := by decide +kernel
theorem d1_1 : decode method_2_code 1 = .ok (.ifCond .ne 7, 3) := by decide +kernel
theorem d1_4 : decode method_2_code 4 = .ok (.getstatic 7, 3) := by decide +kernel
theorem d1_7 : decode method_2_code 7 = .ok (.areturn, 1) := by decide +kernel
theorem d1_8 : decode method_2_code 8 = .ok (.iload_n 0, 1) := by decide +kernel
theorem d1_9 : decode method_2_code 9 = .ok (.iconst 1, 1) := by decide +kernel
theorem d1_10 : decode method_2_code 10 = .ok (.if_icmp .ne 7, 3) := by decide +kernel
theorem d1_13 : decode method_2_code 13 = .ok (.getstatic 13, 3) := by decide +kernel
theorem d1_16 : decode method_2_code 16 = .ok (.areturn, 1) := by decide +kernel
theorem d1_17 : decode method_2_code 17 = .ok (.iload_n 0, 1) := by decide +kernel
theorem d1_18 : decode method_2_code 18 = .ok (.iconst 2, 1) := by decide +kernel
theorem d1_19 : decode method_2_code 19 = .ok (.if_icmp .ne 7, 3) := by decide +kernel
theorem d1_22 : decode method_2_code 22 = .ok (.getstatic 16, 3) := by decide +kernel
theorem d1_25 : decode method_2_code 25 = .ok (.areturn, 1) := by decide +kernel
theorem d1_26 : decode method_2_code 26 = .ok (.iload_n 0, 1) := by decide +kernel
theorem d1_27 : decode method_2_code 27 = .ok (.iconst 3, 1) := by decide +kernel
theorem d1_28 : decode method_2_code 28 = .ok (.if_icmp .ne 7, 3) := by decide +kernel
theorem d1_31 : decode method_2_code 31 = .ok (.getstatic 19, 3) := by decide +kernel
theorem d1_34 : decode method_2_code 34 = .ok (.areturn, 1) := by decide +kernel
theorem d1_35 : decode method_2_code 35 = .ok (.iload_n 0, 1) := by decide +kernel
theorem d1_36 : decode method_2_code 36 = .ok (.iconst 4, 1) := by decide +kernel
theorem d1_37 : decode method_2_code 37 = .ok (.if_icmp .ne 7, 3) := by decide +kernel
theorem d1_40 : decode method_2_code 40 = .ok (.getstatic 22, 3) := by decide +kernel
theorem d1_43 : decode method_2_code 43 = .ok (.areturn, 1) := by decide +kernel
theorem d1_44 : decode method_2_code 44 = .ok (.iload_n 0, 1) := by decide +kernel
theorem d1_45 : decode method_2_code 45 = .ok (.iconst 5, 1) := by decide +kernel
theorem d1_46 : decode method_2_code 46 = .ok (.if_icmp .ne 7, 3) := by decide +kernel
theorem d1_49 : decode method_2_code 49 = .ok (.getstatic 25, 3) := by decide +kernel
theorem d1_52 : decode method_2_code 52 = .ok (.areturn, 1) := by decide +kernel
theorem d1_53 : decode method_2_code 53 = .ok (.iload_n 0, 1) := by decide +kernel
theorem d1_54 : decode method_2_code 54 = .ok (.bipush 6, 2) := by decide +kernel
theorem d1_56 : decode method_2_code 56 = .ok (.if_icmp .ne 7, 3) := by decide +kernel
theorem d1_59 : decode method_2_code 59 = .ok (.getstatic 28, 3) := by decide +kernel
theorem d1_62 : decode method_2_code 62 = .ok (.areturn, 1) := by decide +kernel
theorem d1_63 : decode method_2_code 63 = .ok (.iload_n 0, 1) := by decide +kernel
theorem d1_64 : decode method_2_code 64 = .ok (.bipush 7, 2) := by decide +kernel
theorem d1_66 : decode method_2_code 66 = .ok (.if_icmp .ne 7, 3) := by decide +kernel
theorem d1_69 : decode method_2_code 69 = .ok (.getstatic 31, 3) := by decide +kernel
theorem d1_72 : decode method_2_code 72 = .ok (.areturn, 1) := by decide +kernel
theorem d1_73 : decode method_2_code 73 = .ok (.iload_n 0, 1) := by decide +kernel
theorem d1_74 : decode method_2_code 74 = .ok (.bipush 8, 2) := by decide +kernel
theorem d1_76 : decode method_2_code 76 = .ok (.if_icmp .ne 7, 3) := by decide +kernel
theorem d1_79 : decode method_2_code 79 = .ok (.getstatic 34, 3) := by decide +kernel
theorem d1_82 : decode method_2_code 82 = .ok (.areturn, 1) := by decide +kernel
theorem d1_83 : decode method_2_code 83 = .ok (.iload_n 0, 1) := by decide +kernel
theorem d1_84 : decode method_2_code 84 = .ok (.bipush 9, 2) := by decide +kernel
theorem d1_86 : decode method_2_code 86 = .ok (.if_icmp .ne 7, 3) := by decide +kernel
theorem d1_89 : decode method_2_code 89 = .ok (.getstatic 37, 3) := by decide +kernel
theorem d1_92 : decode method_2_code 92 = .ok (.areturn, 1) := by decide +kernel
theorem d1_93 : decode method_2_code 93 = .ok (.iload_n 0, 1) := by decide +kernel
theorem d1_94 : decode method_2_code 94 = .ok (.bipush 10, 2) := by decide +kernel
theorem d1_96 : decode method_2_code 96 = .ok (.if_icmp .ne 7, 3) := by decide +kernel
theorem d1_99 : decode method_2_code 99 = .ok (.getstatic 40, 3) := by decide +kernel
theorem d1_102 : decode method_2_code 102 = .ok (.areturn, 1) := by decide +kernel
theorem d1_103 : decode method_2_code 103 = .ok (.iload_n 0, 1) := by decide +kernel
theorem d1_104 : decode method_2_code 104 = .ok (.bipush 11, 2) := by decide +kernel
theorem d1_106 : decode method_2_code 106 = .ok (.if_icmp .ne 7, 3) := by decide +kernel
theorem d1_109 : decode method_2_code 109 = .ok (.getstatic 43, 3) := by decide +kernel
theorem d1_112 : decode method_2_code 112 = .ok (.areturn, 1) := by decide +kernel
theorem d1_113 : decode method_2_code 113 = .ok (.iload_n 0, 1) := by decide +kernel
theorem d1_114 : decode method_2_code 114 = .ok (.bipush 12, 2) := by decide +kernel
theorem d1_116 : decode method_2_code 116 = .ok (.if_icmp .ne 7, 3) := by decide +kernel
theorem d1_119 : decode method_2_code 119 = .ok (.getstatic 46, 3) := by decide +kernel
theorem d1_122 : decode method_2_code 122 = .ok (.areturn, 1) := by decide +kernel
theorem d1_123 : decode method_2_code 123 = .ok (.aconst_null, 1) := by decide +kernel
theorem d1_124 : decode method_2_code 124 = .ok (.areturn, 1) := by decide +kernel
abbrev y2 : MethodName := ⟨"java/lang/String", "valueOf", "(C)Ljava/lang/String;"⟩
theorem d2_0 : decode jdk_42_method_139_code 0 = .ok (.getstatic 38, 3) := by decide +kernel
theorem d2_3 : decode jdk_42_method_139_code 3 = .ok (.ifCond .eq 23, 3) := by decide +kernel
theorem d2_6 : decode jdk_42_method_139_code 6 = .ok (.iload_n 0, 1) := by decide +kernel
theorem d2_7 : decode jdk_42_method_139_code 7 = .ok (.invokestatic 1015, 3) := by decide +kernel
theorem d2_10 : decode jdk_42_method_139_code 10 = .ok (.ifCond .eq 16, 3) := by decide +kernel
theorem d2_13 : decode jdk_42_method_139_code 13 = .ok (.new 10, 3) := by decide +kernel
theorem d2_16 : decode jdk_42_method_139_code 16 = .ok (.dup, 1) := by decide +kernel
theorem d2_17 : decode jdk_42_method_139_code 17 = .ok (.iload_n 0, 1) := by decide +kernel
theorem d2_18 : decode jdk_42_method_139_code 18 = .ok (.invokestatic 1018, 3) := by decide +kernel
theorem d2_21 : decode jdk_42_method_139_code 21 = .ok (.iconst 0, 1) := by decide +kernel
theorem d2_22 : decode jdk_42_method_139_code 22 = .ok (.invokespecial 209, 3) := by decide +kernel
theorem d2_25 : decode jdk_42_method_139_code 25 = .ok (.areturn, 1) := by decide +kernel
theorem d2_26 : decode jdk_42_method_139_code 26 = .ok (.new 10, 3) := by decide +kernel
theorem d2_29 : decode jdk_42_method_139_code 29 = .ok (.dup, 1) := by decide +kernel
theorem d2_30 : decode jdk_42_method_139_code 30 = .ok (.iload_n 0, 1) := by decide +kernel
theorem d2_31 : decode jdk_42_method_139_code 31 = .ok (.invokestatic 1021, 3) := by decide +kernel
theorem d2_34 : decode jdk_42_method_139_code 34 = .ok (.iconst 1, 1) := by decide +kernel
theorem d2_35 : decode jdk_42_method_139_code 35 = .ok (.invokespecial 209, 3) := by decide +kernel
theorem d2_38 : decode jdk_42_method_139_code 38 = .ok (.areturn, 1) := by decide +kernel
abbrev y3 : MethodName := ⟨"java/lang/StringLatin1", "canEncode", "(C)Z"⟩
theorem d3_0 : decode jdk_43_method_3_code 0 = .ok (.iload_n 0, 1) := by decide +kernel
theorem d3_1 : decode jdk_43_method_3_code 1 = .ok (.sipush 255, 3) := by decide +kernel
theorem d3_4 : decode jdk_43_method_3_code 4 = .ok (.if_icmp .gt 7, 3) := by decide +kernel
theorem d3_7 : decode jdk_43_method_3_code 7 = .ok (.iconst 1, 1) := by decide +kernel
theorem d3_8 : decode jdk_43_method_3_code 8 = .ok (.goto 4, 3) := by decide +kernel
theorem d3_11 : decode jdk_43_method_3_code 11 = .ok (.iconst 0, 1) := by decide +kernel
theorem d3_12 : decode jdk_43_method_3_code 12 = .ok (.ireturn, 1) := by decide +kernel
abbrev y4 : MethodName := ⟨"java/lang/StringLatin1", "toBytes", "(C)[B"⟩
theorem d4_0 : decode jdk_43_method_46_code 0 = .ok (.iconst 1, 1) := by decide +kernel
theorem d4_1 : decode jdk_43_method_46_code 1 = .ok (.newarray .byte, 2) := by decide +kernel
theorem d4_3 : decode jdk_43_method_46_code 3 = .ok (.dup, 1) := by decide +kernel
theorem d4_4 : decode jdk_43_method_46_code 4 = .ok (.iconst 0, 1) := by decide +kernel
theorem d4_5 : decode jdk_43_method_46_code 5 = .ok (.iload_n 0, 1) := by decide +kernel
theorem d4_6 : decode jdk_43_method_46_code 6 = .ok (.i2b, 1) := by decide +kernel
theorem d4_7 : decode jdk_43_method_46_code 7 = .ok (.bastore, 1) := by decide +kernel
theorem d4_8 : decode jdk_43_method_46_code 8 = .ok (.areturn, 1) := by decide +kernel
abbrev y5 : MethodName := ⟨"java/lang/String", "<init>", "([BB)V"⟩
theorem d5_0 : decode jdk_42_method_151_code 0 = .ok (.aload_n 0, 1) := by decide +kernel
theorem d5_1 : decode jdk_42_method_151_code 1 = .ok (.invokespecial 1, 3) := by decide +kernel
theorem d5_4 : decode jdk_42_method_151_code 4 = .ok (.aload_n 0, 1) := by decide +kernel
theorem d5_5 : decode jdk_42_method_151_code 5 = .ok (.aload_n 1, 1) := by decide +kernel
theorem d5_6 : decode jdk_42_method_151_code 6 = .ok (.putfield 9, 3) := by decide +kernel
theorem d5_9 : decode jdk_42_method_151_code 9 = .ok (.aload_n 0, 1) := by decide +kernel
theorem d5_10 : decode jdk_42_method_151_code 10 = .ok (.iload_n 2, 1) := by decide +kernel
theorem d5_11 : decode jdk_42_method_151_code 11 = .ok (.putfield 15, 3) := by decide +kernel
theorem d5_14 : decode jdk_42_method_151_code 14 = .ok (.return_, 1) := by decide +kernel
abbrev y6 : MethodName := ⟨"java/lang/Object", "<init>", "()V"⟩
abbrev y7 : MethodName := ⟨"com/example/byteloom/byteloom/schema/Position", "<init>", "(II)V"⟩
theorem d7_0 : decode prog_46_method_1_code 0 = .ok (.aload_n 0, 1) := by decide +kernel
theorem d7_1 : decode prog_46_method_1_code 1 = .ok (.invokespecial 1, 3) := by decide +kernel
theorem d7_4 : decode prog_46_method_1_code 4 = .ok (.aload_n 0, 1) := by decide +kernel
theorem d7_5 : decode prog_46_method_1_code 5 = .ok (.iload_n 1, 1) := by decide +kernel
theorem d7_6 : decode prog_46_method_1_code 6 = .ok (.putfield 7, 3) := by decide +kernel
theorem d7_9 : decode prog_46_method_1_code 9 = .ok (.aload_n 0, 1) := by decide +kernel
theorem d7_10 : decode prog_46_method_1_code 10 = .ok (.iload_n 2, 1) := by decide +kernel
theorem d7_11 : decode prog_46_method_1_code 11 = .ok (.putfield 13, 3) := by decide +kernel
theorem d7_14 : decode prog_46_method_1_code 14 = .ok (.return_, 1) := by decide +kernel
abbrev y8 : MethodName := ⟨"com/example/byteloom/byteloom/schema/Token", "<init>", "(Lcom/example/byteloom/byteloom/schema/Token$Kind;Ljava/lang/String;Lcom/example/byteloom/byteloom/schema/Position;)V"⟩
theorem d8_0 : decode prog_53_method_1_code 0 = .ok (.aload_n 0, 1) := by decide +kernel
theorem d8_1 : decode prog_53_method_1_code 1 = .ok (.invokespecial 1, 3) := by decide +kernel
theorem d8_4 : decode prog_53_method_1_code 4 = .ok (.aload_n 0, 1) := by decide +kernel
theorem d8_5 : decode prog_53_method_1_code 5 = .ok (.aload_n 1, 1) := by decide +kernel
theorem d8_6 : decode prog_53_method_1_code 6 = .ok (.putfield 7, 3) := by decide +kernel
theorem d8_9 : decode prog_53_method_1_code 9 = .ok (.aload_n 0, 1) := by decide +kernel
theorem d8_10 : decode prog_53_method_1_code 10 = .ok (.aload_n 2, 1) := by decide +kernel
theorem d8_11 : decode prog_53_method_1_code 11 = .ok (.putfield 13, 3) := by decide +kernel
theorem d8_14 : decode prog_53_method_1_code 14 = .ok (.aload_n 0, 1) := by decide +kernel
theorem d8_15 : decode prog_53_method_1_code 15 = .ok (.aload_n 3, 1) := by decide +kernel
theorem d8_16 : decode prog_53_method_1_code 16 = .ok (.putfield 17, 3) := by decide +kernel
theorem d8_19 : decode prog_53_method_1_code 19 = .ok (.return_, 1) := by decide +kernel
abbrev y9 : MethodName := ⟨"com/example/byteloom/byteloom/schema/Token", "is", "(Lcom/example/byteloom/byteloom/schema/Token$Kind;)Z"⟩
theorem d9_0 : decode prog_53_method_5_code 0 = .ok (.aload_n 0, 1) := by decide +kernel
theorem d9_1 : decode prog_53_method_5_code 1 = .ok (.getfield 7, 3) := by decide +kernel
theorem d9_4 : decode prog_53_method_5_code 4 = .ok (.aload_n 1, 1) := by decide +kernel
theorem d9_5 : decode prog_53_method_5_code 5 = .ok (.if_acmp .ne 7, 3) := by decide +kernel
theorem d9_8 : decode prog_53_method_5_code 8 = .ok (.iconst 1, 1) := by decide +kernel
theorem d9_9 : decode prog_53_method_5_code 9 = .ok (.goto 4, 3) := by decide +kernel
theorem d9_12 : decode prog_53_method_5_code 12 = .ok (.iconst 0, 1) := by decide +kernel
theorem d9_13 : decode prog_53_method_5_code 13 = .ok (.ireturn, 1) := by decide +kernel
theorem pf_0 : plainFor x = true := by first | exact plainFor_of_name (by first | (simp [plainName, overriddenIn, x]; done) | decide +kernel) | decide +kernel
theorem pd_0 : parseMethodDescriptor "(IIIII)Z" = some ⟨[.int, .int, .int, .int, .int], some .boolean⟩ := by decide +kernel
theorem pf_1 : plainFor y1 = true := by first | exact plainFor_of_name (by first | (simp [plainName, overriddenIn, y1]; done) | decide +kernel) | decide +kernel
theorem pd_1 : parseMethodDescriptor "(I)Lcom/example/byteloom/byteloom/schema/Token$Kind;" = some ⟨[.int], some (.object "com/example/byteloom/byteloom/schema/Token$Kind")⟩ := by decide +kernel
theorem pf_2 : plainFor y2 = true := by first | exact plainFor_of_name (by first | (simp [plainName, overriddenIn, y2]; done) | decide +kernel) | decide +kernel
theorem pd_2 : parseMethodDescriptor "(C)Ljava/lang/String;" = some ⟨[.char], some (.object "java/lang/String")⟩ := by decide +kernel
theorem pf_3 : plainFor y3 = true := by first | exact plainFor_of_name (by first | (simp [plainName, overriddenIn, y3]; done) | decide +kernel) | decide +kernel
theorem pd_3 : parseMethodDescriptor "(C)Z" = some ⟨[.char], some .boolean⟩ := by decide +kernel
theorem pf_4 : plainFor y4 = true := by first | exact plainFor_of_name (by first | (simp [plainName, overriddenIn, y4]; done) | decide +kernel) | decide +kernel
theorem pd_4 : parseMethodDescriptor "(C)[B" = some ⟨[.char], some (.array .byte)⟩ := by decide +kernel
theorem pf_5 : plainFor y5 = true := by first | exact plainFor_of_name (by first | (simp [plainName, overriddenIn, y5]; done) | decide +kernel) | decide +kernel
theorem pd_5 : parseMethodDescriptor "([BB)V" = some ⟨[(.array .byte), .byte], none⟩ := by decide +kernel
theorem pf_7 : plainFor y7 = true := by first | exact plainFor_of_name (by first | (simp [plainName, overriddenIn, y7]; done) | decide +kernel) | decide +kernel
theorem pd_7 : parseMethodDescriptor "(II)V" = some ⟨[.int, .int], none⟩ := by decide +kernel
theorem pf_8 : plainFor y8 = true := by first | exact plainFor_of_name (by first | (simp [plainName, overriddenIn, y8]; done) | decide +kernel) | decide +kernel
theorem pd_8 : parseMethodDescriptor "(Lcom/example/byteloom/byteloom/schema/Token$Kind;Ljava/lang/String;Lcom/example/byteloom/byteloom/schema/Position;)V" = some ⟨[(.object "com/example/byteloom/byteloom/schema/Token$Kind"), (.object "java/lang/String"), (.object "com/example/byteloom/byteloom/schema/Position")], none⟩ := by decide +kernel
theorem pf_9 : plainFor y9 = true := by first | exact plainFor_of_name (by first | (simp [plainName, overriddenIn, y9]; done) | decide +kernel) | decide +kernel
theorem pd_9 : parseMethodDescriptor "(Lcom/example/byteloom/byteloom/schema/Token$Kind;)Z" = some ⟨[(.object "com/example/byteloom/byteloom/schema/Token$Kind")], some .boolean⟩ := by decide +kernel
theorem own_eqv {t : Term} {k : Int32} {args : Array Value} {s : State} (h : (Jvm.Cond.eq t (Term.int k)).value args s none s [] = some true) : t.eval args s none [] s = some (.int k) := by
  simp only [Jvm.Cond.value, Term.eval] at h
  cases ht : t.eval args s none [] s with
  | none => simp [ht] at h
  | some y => cases y <;> simp [ht] at h ⊢ <;> exact h
theorem own_cases (k : Int32) (h : 0 ≤ k.toInt ∧ k.toInt ≤ 12) : k = (0 : Int32) ∨ k = (1 : Int32) ∨ k = (2 : Int32) ∨ k = (3 : Int32) ∨ k = (4 : Int32) ∨ k = (5 : Int32) ∨ k = (6 : Int32) ∨ k = (7 : Int32) ∨ k = (8 : Int32) ∨ k = (9 : Int32) ∨ k = (10 : Int32) ∨ k = (11 : Int32) ∨ k = (12 : Int32) := by
  have k0 : (0 : Int32).toInt = 0 := by decide
  have k1 : (1 : Int32).toInt = 1 := by decide
  have k2 : (2 : Int32).toInt = 2 := by decide
  have k3 : (3 : Int32).toInt = 3 := by decide
  have k4 : (4 : Int32).toInt = 4 := by decide
  have k5 : (5 : Int32).toInt = 5 := by decide
  have k6 : (6 : Int32).toInt = 6 := by decide
  have k7 : (7 : Int32).toInt = 7 := by decide
  have k8 : (8 : Int32).toInt = 8 := by decide
  have k9 : (9 : Int32).toInt = 9 := by decide
  have k10 : (10 : Int32).toInt = 10 := by decide
  have k11 : (11 : Int32).toInt = 11 := by decide
  have k12 : (12 : Int32).toInt = 12 := by decide
  simp only [← Int32.toInt_inj, k0, k1, k2, k3, k4, k5, k6, k7, k8, k9, k10, k11, k12]; omega
theorem own_inj {Z : State} {h : Heap} {ad : Int32 → Addr} (hE : ∀ k : Int32, 0 ≤ k.toInt ∧ k.toInt ≤ 12 → Exa Z h (ad k) "com/example/byteloom/byteloom/schema/Token$Kind" ∧ Fld Z h (ad k) "java/lang/Enum" "ordinal" "I" (.int k)) {i j : Int32} (hi : 0 ≤ i.toInt ∧ i.toInt ≤ 12) (hj : 0 ≤ j.toInt ∧ j.toInt ≤ 12) : ad i = ad j ↔ i = j := by
  constructor
  · intro q
    exact Classical.byContradiction fun r => Fld.ne (hE i hi).2 (hE j hj).2 (fun z => r (Value.int.inj z)) q
  · intro q; rw [q]

theorem own_nev {t : Term} {k z : Int32} {args : Array Value} {s : State} (h : (Jvm.Cond.not (Jvm.Cond.eq t (Term.int k))).value args s none s [] = some true) (ht : t.eval args s none [] s = some (.int z)) : ¬ z = k := by
  have q := not_v h
  intro e
  subst e
  simp [Jvm.Cond.value, Term.eval, ht] at q
theorem own_255 (x : Int32) : ¬ (255 : Int32) < (x &&& (255 : Int32)) := by
  have a := c_mask x (255 : Int32) 8 (by decide) (by decide)
  rw [Int32.lt_iff_toInt_lt, a]
  have : (255 : Int32).toInt = 255 := by decide
  omega

theorem ef_rmKind (m : MethodId) (x0 : Int32) : entryFrame m #[(.int x0)] 1 = mkF m 0 #[.val (.int x0)] [] := by first | (simp [entryFrame, mkF, argsToLocals, Value.category]; done) | rfl
set_option maxRecDepth 65536 in
set_option maxHeartbeats 40000000 in
theorem rmKind (l : Launch) (Z : State) (a0 : Array Value) (hw : ∀ d ∈ tables_1, d.before a0 Z = true) (x0 : Int32) (h0 : Heap) (ad : Int32 → Addr) (S_NAME : Sta Z h0 "com/example/byteloom/byteloom/schema/Token$Kind" "NAME" "Lcom/example/byteloom/byteloom/schema/Token$Kind;" (.ref (ad (0 : Int32)))) (S_NUMBER : Sta Z h0 "com/example/byteloom/byteloom/schema/Token$Kind" "NUMBER" "Lcom/example/byteloom/byteloom/schema/Token$Kind;" (.ref (ad (1 : Int32)))) (S_EQUALS : Sta Z h0 "com/example/byteloom/byteloom/schema/Token$Kind" "EQUALS" "Lcom/example/byteloom/byteloom/schema/Token$Kind;" (.ref (ad (2 : Int32)))) (S_LEFT_BRACE : Sta Z h0 "com/example/byteloom/byteloom/schema/Token$Kind" "LEFT_BRACE" "Lcom/example/byteloom/byteloom/schema/Token$Kind;" (.ref (ad (3 : Int32)))) (S_RIGHT_BRACE : Sta Z h0 "com/example/byteloom/byteloom/schema/Token$Kind" "RIGHT_BRACE" "Lcom/example/byteloom/byteloom/schema/Token$Kind;" (.ref (ad (4 : Int32)))) (S_COLON : Sta Z h0 "com/example/byteloom/byteloom/schema/Token$Kind" "COLON" "Lcom/example/byteloom/byteloom/schema/Token$Kind;" (.ref (ad (5 : Int32)))) (S_COMMA : Sta Z h0 "com/example/byteloom/byteloom/schema/Token$Kind" "COMMA" "Lcom/example/byteloom/byteloom/schema/Token$Kind;" (.ref (ad (6 : Int32)))) (S_QUESTION_MARK : Sta Z h0 "com/example/byteloom/byteloom/schema/Token$Kind" "QUESTION_MARK" "Lcom/example/byteloom/byteloom/schema/Token$Kind;" (.ref (ad (7 : Int32)))) (S_LEFT_BRACKET : Sta Z h0 "com/example/byteloom/byteloom/schema/Token$Kind" "LEFT_BRACKET" "Lcom/example/byteloom/byteloom/schema/Token$Kind;" (.ref (ad (8 : Int32)))) (S_RIGHT_BRACKET : Sta Z h0 "com/example/byteloom/byteloom/schema/Token$Kind" "RIGHT_BRACKET" "Lcom/example/byteloom/byteloom/schema/Token$Kind;" (.ref (ad (9 : Int32)))) (S_DOT : Sta Z h0 "com/example/byteloom/byteloom/schema/Token$Kind" "DOT" "Lcom/example/byteloom/byteloom/schema/Token$Kind;" (.ref (ad (10 : Int32)))) (S_LINE_BREAK : Sta Z h0 "com/example/byteloom/byteloom/schema/Token$Kind" "LINE_BREAK" "Lcom/example/byteloom/byteloom/schema/Token$Kind;" (.ref (ad (11 : Int32)))) (S_END : Sta Z h0 "com/example/byteloom/byteloom/schema/Token$Kind" "END" "Lcom/example/byteloom/byteloom/schema/Token$Kind;" (.ref (ad (12 : Int32)))) (hx : 0 ≤ x0.toInt ∧ x0.toInt ≤ 12) :
    OMeets l Z y1 method_2_code 1 (some (.object "com/example/byteloom/byteloom/schema/Token$Kind")) ({ frames := 0, cells := 0, slots := 0, locals := 0 } : Room) #[(.int x0)] h0 (OPure (some (.ref (ad x0))) h0) := by
  refine met (Q := OPure (some (.ref (ad x0))) h0) pf_1 (fun m => ef_rmKind m x0) fun p e s m below meth c T0 P0 => ?_
  refine G.iloadN P0 d1_0 rfl (pc' := 1) rfl ?_
  refine G.if_ne P0 d1_1 (by decide) (pcY := 8) (by decide) (pcN := 4) rfl (fun c1 => ?_) (fun c1 => ?_)
  · --
    refine G.iloadN P0 d1_8 rfl (pc' := 9) rfl ?_
    refine G.iconst P0 d1_9 (z := (1 : Int32)) rfl (pc' := 10) rfl ?_
    refine G.icmp_ne P0 d1_10 (by decide) (pcY := 17) (by decide) (pcN := 13) rfl (fun c2 => ?_) (fun c2 => ?_)
    · --
      refine G.iloadN P0 d1_17 rfl (pc' := 18) rfl ?_
      refine G.iconst P0 d1_18 (z := (2 : Int32)) rfl (pc' := 19) rfl ?_
      refine G.icmp_ne P0 d1_19 (by decide) (pcY := 26) (by decide) (pcN := 22) rfl (fun c3 => ?_) (fun c3 => ?_)
      · --
        refine G.iloadN P0 d1_26 rfl (pc' := 27) rfl ?_
        refine G.iconst P0 d1_27 (z := (3 : Int32)) rfl (pc' := 28) rfl ?_
        refine G.icmp_ne P0 d1_28 (by decide) (pcY := 35) (by decide) (pcN := 31) rfl (fun c4 => ?_) (fun c4 => ?_)
        · --
          refine G.iloadN P0 d1_35 rfl (pc' := 36) rfl ?_
          refine G.iconst P0 d1_36 (z := (4 : Int32)) rfl (pc' := 37) rfl ?_
          refine G.icmp_ne P0 d1_37 (by decide) (pcY := 44) (by decide) (pcN := 40) rfl (fun c5 => ?_) (fun c5 => ?_)
          · --
            refine G.iloadN P0 d1_44 rfl (pc' := 45) rfl ?_
            refine G.iconst P0 d1_45 (z := (5 : Int32)) rfl (pc' := 46) rfl ?_
            refine G.icmp_ne P0 d1_46 (by decide) (pcY := 53) (by decide) (pcN := 49) rfl (fun c6 => ?_) (fun c6 => ?_)
            · --
              refine G.iloadN P0 d1_53 rfl (pc' := 54) rfl ?_
              refine G.bipush P0 d1_54 (z := (6 : Int32)) rfl (pc' := 56) rfl ?_
              refine G.icmp_ne P0 d1_56 (by decide) (pcY := 63) (by decide) (pcN := 59) rfl (fun c7 => ?_) (fun c7 => ?_)
              · --
                refine G.iloadN P0 d1_63 rfl (pc' := 64) rfl ?_
                refine G.bipush P0 d1_64 (z := (7 : Int32)) rfl (pc' := 66) rfl ?_
                refine G.icmp_ne P0 d1_66 (by decide) (pcY := 73) (by decide) (pcN := 69) rfl (fun c8 => ?_) (fun c8 => ?_)
                · --
                  refine G.iloadN P0 d1_73 rfl (pc' := 74) rfl ?_
                  refine G.bipush P0 d1_74 (z := (8 : Int32)) rfl (pc' := 76) rfl ?_
                  refine G.icmp_ne P0 d1_76 (by decide) (pcY := 83) (by decide) (pcN := 79) rfl (fun c9 => ?_) (fun c9 => ?_)
                  · --
                    refine G.iloadN P0 d1_83 rfl (pc' := 84) rfl ?_
                    refine G.bipush P0 d1_84 (z := (9 : Int32)) rfl (pc' := 86) rfl ?_
                    refine G.icmp_ne P0 d1_86 (by decide) (pcY := 93) (by decide) (pcN := 89) rfl (fun c10 => ?_) (fun c10 => ?_)
                    · --
                      refine G.iloadN P0 d1_93 rfl (pc' := 94) rfl ?_
                      refine G.bipush P0 d1_94 (z := (10 : Int32)) rfl (pc' := 96) rfl ?_
                      refine G.icmp_ne P0 d1_96 (by decide) (pcY := 103) (by decide) (pcN := 99) rfl (fun c11 => ?_) (fun c11 => ?_)
                      · --
                        refine G.iloadN P0 d1_103 rfl (pc' := 104) rfl ?_
                        refine G.bipush P0 d1_104 (z := (11 : Int32)) rfl (pc' := 106) rfl ?_
                        refine G.icmp_ne P0 d1_106 (by decide) (pcY := 113) (by decide) (pcN := 109) rfl (fun c12 => ?_) (fun c12 => ?_)
                        · --
                          refine G.iloadN P0 d1_113 rfl (pc' := 114) rfl ?_
                          refine G.bipush P0 d1_114 (z := (12 : Int32)) rfl (pc' := 116) rfl ?_
                          refine G.icmp_ne P0 d1_116 (by decide) (pcY := 123) (by decide) (pcN := 119) rfl (fun c13 => ?_) (fun c13 => ?_)
                          · --
                            refine G.aconstNull P0 d1_123 (pc' := 124) rfl ?_
                            exact absurd hx (fun hx => by
                              rcases own_cases x0 hx with q | q | q | q | q | q | q | q | q | q | q | q | q
                              · exact absurd q c1
                              · exact absurd q c2
                              · exact absurd q c3
                              · exact absurd q c4
                              · exact absurd q c5
                              · exact absurd q c6
                              · exact absurd q c7
                              · exact absurd q c8
                              · exact absurd q c9
                              · exact absurd q c10
                              · exact absurd q c11
                              · exact absurd q c12
                              · exact absurd q c13)
                          · --
                            refine G.getS P0 (host := "") (Or.inl (wk hw 85 rfl)) Via.refl S_END d1_119 (pc' := 122) rfl fun T14 P14 => ?_
                            exact G.retA P14 rfl rfl rfl d1_122 (by decide) (by decide) ⟨sR (congrArg ad c13.symm), rfl, rfl⟩
                        · --
                          refine G.getS P0 (host := "") (Or.inl (wk hw 79 rfl)) Via.refl S_LINE_BREAK d1_109 (pc' := 112) rfl fun T15 P15 => ?_
                          exact G.retA P15 rfl rfl rfl d1_112 (by decide) (by decide) ⟨sR (congrArg ad c12.symm), rfl, rfl⟩
                      · --
                        refine G.getS P0 (host := "") (Or.inl (wk hw 75 rfl)) Via.refl S_DOT d1_99 (pc' := 102) rfl fun T16 P16 => ?_
                        exact G.retA P16 rfl rfl rfl d1_102 (by decide) (by decide) ⟨sR (congrArg ad c11.symm), rfl, rfl⟩
                    · --
                      refine G.getS P0 (host := "") (Or.inl (wk hw 67 rfl)) Via.refl S_RIGHT_BRACKET d1_89 (pc' := 92) rfl fun T17 P17 => ?_
                      exact G.retA P17 rfl rfl rfl d1_92 (by decide) (by decide) ⟨sR (congrArg ad c10.symm), rfl, rfl⟩
                  · --
                    refine G.getS P0 (host := "") (Or.inl (wk hw 83 rfl)) Via.refl S_LEFT_BRACKET d1_79 (pc' := 82) rfl fun T18 P18 => ?_
                    exact G.retA P18 rfl rfl rfl d1_82 (by decide) (by decide) ⟨sR (congrArg ad c9.symm), rfl, rfl⟩
                · --
                  refine G.getS P0 (host := "") (Or.inl (wk hw 73 rfl)) Via.refl S_QUESTION_MARK d1_69 (pc' := 72) rfl fun T19 P19 => ?_
                  exact G.retA P19 rfl rfl rfl d1_72 (by decide) (by decide) ⟨sR (congrArg ad c8.symm), rfl, rfl⟩
              · --
                refine G.getS P0 (host := "") (Or.inl (wk hw 81 rfl)) Via.refl S_COMMA d1_59 (pc' := 62) rfl fun T20 P20 => ?_
                exact G.retA P20 rfl rfl rfl d1_62 (by decide) (by decide) ⟨sR (congrArg ad c7.symm), rfl, rfl⟩
            · --
              refine G.getS P0 (host := "") (Or.inl (wk hw 77 rfl)) Via.refl S_COLON d1_49 (pc' := 52) rfl fun T21 P21 => ?_
              exact G.retA P21 rfl rfl rfl d1_52 (by decide) (by decide) ⟨sR (congrArg ad c6.symm), rfl, rfl⟩
          · --
            refine G.getS P0 (host := "") (Or.inl (wk hw 65 rfl)) Via.refl S_RIGHT_BRACE d1_40 (pc' := 43) rfl fun T22 P22 => ?_
            exact G.retA P22 rfl rfl rfl d1_43 (by decide) (by decide) ⟨sR (congrArg ad c5.symm), rfl, rfl⟩
        · --
          refine G.getS P0 (host := "") (Or.inl (wk hw 8 rfl)) Via.refl S_LEFT_BRACE d1_31 (pc' := 34) rfl fun T23 P23 => ?_
          exact G.retA P23 rfl rfl rfl d1_34 (by decide) (by decide) ⟨sR (congrArg ad c4.symm), rfl, rfl⟩
      · --
        refine G.getS P0 (host := "") (Or.inl (wk hw 69 rfl)) Via.refl S_EQUALS d1_22 (pc' := 25) rfl fun T24 P24 => ?_
        exact G.retA P24 rfl rfl rfl d1_25 (by decide) (by decide) ⟨sR (congrArg ad c3.symm), rfl, rfl⟩
    · --
      refine G.getS P0 (host := "") (Or.inl (wk hw 71 rfl)) Via.refl S_NUMBER d1_13 (pc' := 16) rfl fun T25 P25 => ?_
      exact G.retA P25 rfl rfl rfl d1_16 (by decide) (by decide) ⟨sR (congrArg ad c2.symm), rfl, rfl⟩
  · --
    refine G.getS P0 (host := "") (Or.inl (wk hw 5 rfl)) Via.refl S_NAME d1_4 (pc' := 7) rfl fun T26 P26 => ?_
    exact G.retA P26 rfl rfl rfl d1_7 (by decide) (by decide) ⟨sR (congrArg ad c1.symm), rfl, rfl⟩

theorem ef_rmKindN (m : MethodId)  : entryFrame m #[(.int (13 : Int32))] 1 = mkF m 0 #[.val (.int (13 : Int32))] [] := by first | (simp [entryFrame, mkF, argsToLocals, Value.category]; done) | rfl
set_option maxRecDepth 65536 in
set_option maxHeartbeats 40000000 in
theorem rmKindN (l : Launch) (Z : State) (a0 : Array Value) (hw : ∀ d ∈ tables_1, d.before a0 Z = true)  (h0 : Heap) :
    OMeets l Z y1 method_2_code 1 (some (.object "com/example/byteloom/byteloom/schema/Token$Kind")) ({ frames := 0, cells := 0, slots := 0, locals := 0 } : Room) #[(.int (13 : Int32))] h0 (OPure (some .null) h0) := by
  refine met (Q := OPure (some .null) h0) pf_1 (fun m => ef_rmKindN m ) fun p e s m below meth c T0 P0 => ?_
  refine G.iloadN P0 d1_0 rfl (pc' := 1) rfl ?_
  refine G.if_ne P0 d1_1 (by decide) (pcY := 8) (by decide) (pcN := 4) rfl (fun c1 => ?_) (fun c1 => absurd c1 (by decide))
  refine G.iloadN P0 d1_8 rfl (pc' := 9) rfl ?_
  refine G.iconst P0 d1_9 (z := (1 : Int32)) rfl (pc' := 10) rfl ?_
  refine G.icmp_ne P0 d1_10 (by decide) (pcY := 17) (by decide) (pcN := 13) rfl (fun c2 => ?_) (fun c2 => absurd c2 (by decide))
  refine G.iloadN P0 d1_17 rfl (pc' := 18) rfl ?_
  refine G.iconst P0 d1_18 (z := (2 : Int32)) rfl (pc' := 19) rfl ?_
  refine G.icmp_ne P0 d1_19 (by decide) (pcY := 26) (by decide) (pcN := 22) rfl (fun c3 => ?_) (fun c3 => absurd c3 (by decide))
  refine G.iloadN P0 d1_26 rfl (pc' := 27) rfl ?_
  refine G.iconst P0 d1_27 (z := (3 : Int32)) rfl (pc' := 28) rfl ?_
  refine G.icmp_ne P0 d1_28 (by decide) (pcY := 35) (by decide) (pcN := 31) rfl (fun c4 => ?_) (fun c4 => absurd c4 (by decide))
  refine G.iloadN P0 d1_35 rfl (pc' := 36) rfl ?_
  refine G.iconst P0 d1_36 (z := (4 : Int32)) rfl (pc' := 37) rfl ?_
  refine G.icmp_ne P0 d1_37 (by decide) (pcY := 44) (by decide) (pcN := 40) rfl (fun c5 => ?_) (fun c5 => absurd c5 (by decide))
  refine G.iloadN P0 d1_44 rfl (pc' := 45) rfl ?_
  refine G.iconst P0 d1_45 (z := (5 : Int32)) rfl (pc' := 46) rfl ?_
  refine G.icmp_ne P0 d1_46 (by decide) (pcY := 53) (by decide) (pcN := 49) rfl (fun c6 => ?_) (fun c6 => absurd c6 (by decide))
  refine G.iloadN P0 d1_53 rfl (pc' := 54) rfl ?_
  refine G.bipush P0 d1_54 (z := (6 : Int32)) rfl (pc' := 56) rfl ?_
  refine G.icmp_ne P0 d1_56 (by decide) (pcY := 63) (by decide) (pcN := 59) rfl (fun c7 => ?_) (fun c7 => absurd c7 (by decide))
  refine G.iloadN P0 d1_63 rfl (pc' := 64) rfl ?_
  refine G.bipush P0 d1_64 (z := (7 : Int32)) rfl (pc' := 66) rfl ?_
  refine G.icmp_ne P0 d1_66 (by decide) (pcY := 73) (by decide) (pcN := 69) rfl (fun c8 => ?_) (fun c8 => absurd c8 (by decide))
  refine G.iloadN P0 d1_73 rfl (pc' := 74) rfl ?_
  refine G.bipush P0 d1_74 (z := (8 : Int32)) rfl (pc' := 76) rfl ?_
  refine G.icmp_ne P0 d1_76 (by decide) (pcY := 83) (by decide) (pcN := 79) rfl (fun c9 => ?_) (fun c9 => absurd c9 (by decide))
  refine G.iloadN P0 d1_83 rfl (pc' := 84) rfl ?_
  refine G.bipush P0 d1_84 (z := (9 : Int32)) rfl (pc' := 86) rfl ?_
  refine G.icmp_ne P0 d1_86 (by decide) (pcY := 93) (by decide) (pcN := 89) rfl (fun c10 => ?_) (fun c10 => absurd c10 (by decide))
  refine G.iloadN P0 d1_93 rfl (pc' := 94) rfl ?_
  refine G.bipush P0 d1_94 (z := (10 : Int32)) rfl (pc' := 96) rfl ?_
  refine G.icmp_ne P0 d1_96 (by decide) (pcY := 103) (by decide) (pcN := 99) rfl (fun c11 => ?_) (fun c11 => absurd c11 (by decide))
  refine G.iloadN P0 d1_103 rfl (pc' := 104) rfl ?_
  refine G.bipush P0 d1_104 (z := (11 : Int32)) rfl (pc' := 106) rfl ?_
  refine G.icmp_ne P0 d1_106 (by decide) (pcY := 113) (by decide) (pcN := 109) rfl (fun c12 => ?_) (fun c12 => absurd c12 (by decide))
  refine G.iloadN P0 d1_113 rfl (pc' := 114) rfl ?_
  refine G.bipush P0 d1_114 (z := (12 : Int32)) rfl (pc' := 116) rfl ?_
  refine G.icmp_ne P0 d1_116 (by decide) (pcY := 123) (by decide) (pcN := 119) rfl (fun c13 => ?_) (fun c13 => absurd c13 (by decide))
  refine G.aconstNull P0 d1_123 (pc' := 124) rfl ?_
  exact G.retA P0 rfl rfl rfl d1_124 (by decide) (by decide) ⟨rfl, rfl, rfl⟩

theorem ef_rmCan (m : MethodId) (x0 : Int32) : entryFrame m #[(.int x0)] 1 = mkF m 0 #[.val (.int x0)] [] := by first | (simp [entryFrame, mkF, argsToLocals, Value.category]; done) | rfl
set_option maxRecDepth 65536 in
set_option maxHeartbeats 40000000 in
theorem rmCan (l : Launch) (Z : State) (a0 : Array Value) (hw : ∀ d ∈ tables_1, d.before a0 Z = true) (x0 : Int32) (h0 : Heap) :
    OMeets l Z y3 jdk_43_method_3_code 1 (some .boolean) ({ frames := 0, cells := 0, slots := 0, locals := 0 } : Room) #[(.int x0)] h0 (OPure (some (.int (if (255 : Int32) < x0 then (0 : Int32) else (1 : Int32)))) h0) := by
  refine met (Q := OPure (some (.int (if (255 : Int32) < x0 then (0 : Int32) else (1 : Int32)))) h0) pf_3 (fun m => ef_rmCan m x0) fun p e s m below meth c T0 P0 => ?_
  refine G.iloadN P0 d3_0 rfl (pc' := 1) rfl ?_
  refine G.sipush P0 d3_1 (z := (255 : Int32)) rfl (pc' := 4) rfl ?_
  refine G.icmp_gt P0 d3_4 (by decide) (pcY := 11) (by decide) (pcN := 7) rfl (fun c1 => ?_) (fun c1 => ?_)
  · --
    refine G.iconst P0 d3_11 (z := (0 : Int32)) rfl (pc' := 12) rfl ?_
    have e_ : (0 : Int32) = (if (255 : Int32) < x0 then (0 : Int32) else (1 : Int32)) := (if_pos c1).symm
    exact G.retN P0 (t := .boolean) rfl (by simp) d3_12 (by decide) (by decide) ⟨sI e_, rfl, rfl⟩
  · --
    refine G.iconst P0 d3_7 (z := (1 : Int32)) rfl (pc' := 8) rfl ?_
    refine G.goto P0 d3_8 (by decide) (pc' := 12) (by decide) ?_
    have e_ : (1 : Int32) = (if (255 : Int32) < x0 then (0 : Int32) else (1 : Int32)) := (if_neg c1).symm
    exact G.retN P0 (t := .boolean) rfl (by simp) d3_12 (by decide) (by decide) ⟨sI e_, rfl, rfl⟩

theorem ef_rmToB (m : MethodId) (x0 : Int32) : entryFrame m #[(.int x0)] 1 = mkF m 0 #[.val (.int x0)] [] := by first | (simp [entryFrame, mkF, argsToLocals, Value.category]; done) | rfl
set_option maxRecDepth 65536 in
set_option maxHeartbeats 40000000 in
theorem rmToB (l : Launch) (Z : State) (a0 : Array Value) (hw : ∀ d ∈ tables_1, d.before a0 Z = true) (x0 : Int32) (h0 : Heap) (n0 : Nat) (Z0 : n0 ≤ Array.size h0) :
    OMeets l Z y4 jdk_43_method_46_code 1 (some (.array .byte)) ({ frames := 0, cells := 1, slots := 1, locals := 0 } : Room) #[(.int x0)] h0 (fun v h L => ∃ b, v = some (.ref b) ∧ Fr n0 L ∧ Keep h0 h []) := by
  refine met (Q := fun v h L => ∃ b, v = some (.ref b) ∧ Fr n0 L ∧ Keep h0 h []) pf_4 (fun m => ef_rmToB m x0) fun p e s m below meth c T0 P0 => ?_
  have N0 := Fr.nil n0
  have K0 := Keep.refl h0 []
  refine G.iconst P0 d4_0 (z := (1 : Int32)) rfl (pc' := 1) rfl ?_
  refine G.newP P0 (wk hw 24 rfl) (by decide) (cap := 1) (by decide) (by decide) (by decide) d4_1 (pc' := 3) rfl fun T1 h1 a1 k1 g1 P1 E1 V1 => ?_
  have g2 : n0 ≤ a1 := by rw [g1]; exact Z0
  have q1 := (Nat.le_trans K0.1 (Nat.le_of_eq g1.symm))
  have K3 := K0.ext E1
  have V1p : Arv Z h1 a1 k1 .byte (1 : Int32) [(.int (0 : Int32))] (.int (0 : Int32)) := V1.pad (pad_rep [] _ 1)
  refine G.dup P1 d4_3 rfl (pc' := 4) rfl ?_
  refine G.iconst P1 d4_4 (z := (0 : Int32)) rfl (pc' := 5) rfl ?_
  refine G.iloadN P1 d4_5 rfl (pc' := 6) rfl ?_
  refine G.i2b P1 d4_6 rfl (pc' := 7) rfl ?_
  refine G.stB P1 V1p (0) rfl (by decide) (Nat.le_of_ble_eq_true rfl) d4_7 (pc' := 8) rfl fun T4 h4 P4 W4 V4 => ?_
  have V4p : Arv Z h4 a1 k1 .byte (1 : Int32) [(.int (nar .byte (x0.toInt8.toInt32)))] (.int (0 : Int32)) := V4
  have N5 := Fr.snoc P4.st N0 g2
  have K6 := K3.wr W4 (Or.inr q1)
  exact G.retA P4 rfl rfl rfl d4_8 (by decide) (by decide) ⟨_, rfl, N5, K6⟩

theorem ef_rmSInit (m : MethodId) (a b : Addr) : entryFrame m #[(.ref a), (.ref b), (.int (0 : Int32))] 3 = mkF m 0 #[.val (.ref a), .val (.ref b), .val (.int (0 : Int32))] [] := by first | (simp [entryFrame, mkF, argsToLocals, Value.category]; done) | rfl
set_option maxRecDepth 65536 in
set_option maxHeartbeats 40000000 in
theorem rmSInit (l : Launch) (Z : State) (a0 : Array Value) (hw : ∀ d ∈ tables_1, d.before a0 Z = true) (a b : Addr) (h0 : Heap) (n0 : Nat) (g0 : n0 ≤ a) (E0 : Exa Z h0 a "java/lang/String") (FV : Fld Z h0 a "java/lang/String" "value" "[B" .null) (FC : Fld Z h0 a "java/lang/String" "coder" "B" (.int (0 : Int32))) :
    OMeets l Z y5 jdk_42_method_151_code 3 none ({ frames := 1, cells := 0, slots := 0, locals := 12 } : Room) #[(.ref a), (.ref b), (.int (0 : Int32))] h0 (fun v h L => v = none ∧ Fr n0 L ∧ Keep h0 h [a]) := by
  refine met (Q := fun v h L => v = none ∧ Fr n0 L ∧ Keep h0 h [a]) pf_5 (fun m => ef_rmSInit m a b) fun p e s m below meth c T0 P0 => ?_
  have N0 := Fr.nil n0
  have K0 := Keep.refl h0 [a]
  refine G.aloadN P0 d5_0 rfl rfl (pc' := 1) rfl ?_
  obtain ⟨T1, X1, e1, s1⟩ := Jvm.RoadKit.initO P0.st P0.x P0.z P0.ow (wk hw 29 rfl) (wk hw 30 rfl) (wk hw 31 rfl) P0.eh (g := (mkF m 1 #[.val (.ref a), .val (.ref b), .val (.int (0 : Int32))] [(.ref a)])) rfl (by rw [P0.mx]; rfl) rfl (hb P0.bt d5_1) (by decide) (W := 0) (by show 2 * 0 + _ ≤ _; exact Nat.le_of_eq rfl) (by decide)
  have P1 := Pos.re P0 X1 e1
  refine Go.via s1 ?_
  show Go p e below _ (T1.setTop (mkF m 4 #[.val (.ref a), .val (.ref b), .val (.int (0 : Int32))] []))
  refine G.aloadN P1 d5_4 rfl rfl (pc' := 5) rfl ?_
  refine G.aloadN P1 d5_5 rfl rfl (pc' := 6) rfl ?_
  refine G.putF P1 (host := "") (Or.inl (wk hw 32 rfl)) Via.refl FV E0 (Or.inr ⟨(wk hw 33 rfl), rfl, rfl⟩) (wk hw 20 rfl) (ty := (.array .byte)) (by decide) rfl rfl d5_6 (pc' := 9) rfl fun T2 h2 P2 W2 => ?_
  have f2 := FV.same W2
  have N3 := Fr.snoc P2.st N0 g0
  have K4 := K0.wr W2 (Or.inl (List.mem_of_getElem? (i := 0) rfl))
  refine G.aloadN P2 d5_9 rfl rfl (pc' := 10) rfl ?_
  refine G.iloadN P2 d5_10 rfl (pc' := 11) rfl ?_
  have f5 := (FC.other W2 (Or.inr (slot_ne (Or.inr (wk hw 35 rfl)) (Or.inr (wk hw 33 rfl)) (by decide) (t := .byte) (t' := (.array .byte)) (by decide) (by decide))))
  have f6 := (E0.wr W2)
  refine G.putFN P2 (wk hw 34 rfl) Via.refl f5 f6 (Or.inr ⟨(wk hw 35 rfl), rfl, rfl⟩) (wk hw 20 rfl) (ty := .byte) (v' := (.int (nar .byte (0 : Int32)))) (by decide) rfl (fits_nar_byte _) d5_11 (pc' := 14) rfl fun T7 h7 P7 W7 => ?_
  have f7 := f5.same W7
  have N8 := Fr.snoc P7.st N3 g0
  have K9 := K4.wr W7 (Or.inl (List.mem_of_getElem? (i := 0) rfl))
  exact G.retV P7 d5_14 (by decide) (by decide) ⟨rfl, N8, K9⟩

theorem ef_rmVal (m : MethodId) (x0 : Int32) : entryFrame m #[(.int x0)] 1 = mkF m 0 #[.val (.int x0)] [] := by first | (simp [entryFrame, mkF, argsToLocals, Value.category]; done) | rfl
set_option maxRecDepth 65536 in
set_option maxHeartbeats 40000000 in
theorem rmVal (l : Launch) (Z : State) (a0 : Array Value) (hw : ∀ d ∈ tables_1, d.before a0 Z = true) (x0 cst : Int32) (h0 : Heap) (n0 : Nat) (Z0 : n0 ≤ Array.size h0) (hx0 : ¬ (255 : Int32) < x0) (hcs : ¬ cst = (0 : Int32)) (SC : Sta Z h0 "java/lang/String" "COMPACT_STRINGS" "Z" (.int cst)) :
    OMeets l Z y2 jdk_42_method_139_code 1 (some (.object "java/lang/String")) ({ frames := 2, cells := 2, slots := 5, locals := 27 } : Room) #[(.int x0)] h0 (fun v h L => ∃ b, v = some (.ref b) ∧ Fr n0 L ∧ Keep h0 h []) := by
  refine met (Q := fun v h L => ∃ b, v = some (.ref b) ∧ Fr n0 L ∧ Keep h0 h []) pf_2 (fun m => ef_rmVal m x0) fun p e s m below meth c T0 P0 => ?_
  have N0 := Fr.nil n0
  have K0 := Keep.refl h0 []
  refine G.getS P0 (host := "") (Or.inl (wk hw 14 rfl)) Via.refl SC d2_0 (pc' := 3) rfl fun T1 P1 => ?_
  refine G.if_eq P1 d2_3 (by decide) (pcY := 26) (by decide) (pcN := 6) rfl (fun cc => absurd cc hcs) (fun cc => ?_)
  refine G.iloadN P1 d2_6 rfl (pc' := 7) rfl ?_
  refine G.callSP P1 (rmCan l Z a0 hw x0 h0) (wk hw 15 rfl) (wk hw 16 rfl) (wk hw 17 rfl) (wk hw 18 rfl) (by decide) pd_3 (argsL := [(.int x0)]) (rest := []) rfl rfl rfl rfl (W := 0) (Nat.le_of_eq rfl) (by decide) d2_7 (pc' := 10) rfl fun T2 P2 => ?_
  show Go p e below _ (T2.setTop (mkF m 10 #[.val (.int x0)] [(.int (if (255 : Int32) < x0 then (0 : Int32) else (1 : Int32)))]))
  rw [if_neg hx0]
  refine G.if_eq P2 d2_10 (by decide) (pcY := 26) (by decide) (pcN := 13) rfl (fun c3 => absurd c3 (by decide)) (fun c3 => ?_)
  refine G.newO P2 (wk hw 19 rfl) (wk hw 20 rfl) (wk hw 12 rfl) d2_13 (by decide) (pc' := 16) rfl fun T4 h4 a4 g4 P4 E4 A4 D4 => ?_
  have g5 : n0 ≤ a4 := by rw [g4]; exact Z0
  have q4 := (Nat.le_trans K0.1 (Nat.le_of_eq g4.symm))
  have K6 := K0.ext E4
  have f7 : Fld Z h4 a4 "java/lang/String" "value" "[B" .null := D4 (Or.inr (wk hw 33 rfl)) (ty := (.array .byte)) (by decide)
  have f8 : Fld Z h4 a4 "java/lang/String" "coder" "B" (.int (0 : Int32)) := D4 (Or.inr (wk hw 35 rfl)) (ty := .byte) (by decide)
  refine G.dup P4 d2_16 rfl (pc' := 17) rfl ?_
  refine G.iloadN P4 d2_17 rfl (pc' := 18) rfl ?_
  have z9 : n0 ≤ Array.size h4 := (Nat.le_trans Z0 E4.1)
  refine G.callS P4 (rmToB l Z a0 hw x0 h4 n0 z9) (wk hw 21 rfl) (wk hw 22 rfl) (wk hw 17 rfl) (wk hw 23 rfl) (by decide) pd_4 (argsL := [(.int x0)]) (rest := [(.ref a4), (.ref a4)]) rfl rfl rfl rfl (W := 2) (Nat.le_of_eq rfl) (by decide) d2_18 (pc' := 21) rfl fun T10 L10 v10 P10 Q10 => ?_
  obtain ⟨b10, rfl, N10, K10⟩ := Q10
  have N11 := Fr.app N0 N10
  have K12 := K6.trans K10 all0
  show Go p e below _ (T10.setTop (mkF m 21 #[.val (.int x0)] [(.ref b10), (.ref a4), (.ref a4)]))
  refine G.iconst P10 d2_21 (z := (0 : Int32)) rfl (pc' := 22) rfl ?_
  have f13 := (A4.keep K10)
  have f14 := (f7.keep K10 nin0)
  have f15 := (f8.keep K10 nin0)
  refine G.callI P10 (rmSInit l Z a0 hw a4 b10 T10.heap n0 g5 f13 f14 f15) rfl (wk hw 25 rfl) (wk hw 26 rfl) (wk hw 12 rfl) (wk hw 28 rfl) (by decide) pd_5 (argsL := [(.ref b10), (.int (0 : Int32))]) (rest := [(.ref a4)]) rfl rfl rfl rfl (W := 1) (Nat.le_of_eq rfl) (by decide) d2_22 (pc' := 25) rfl fun T16 L16 v16 P16 Q16 => ?_
  obtain ⟨rfl, N16, K16⟩ := Q16
  have N17 := Fr.app N11 N16
  have K18 := K12.trans K16 (allS (Or.inr q4) all0)
  show Go p e below _ (T16.setTop (mkF m 25 #[.val (.int x0)] [(.ref a4)]))
  exact G.retA P16 rfl rfl rfl d2_25 (by decide) (by decide) ⟨_, rfl, N17, K18⟩

theorem ef_rmPos (m : MethodId) (a : Addr) (x1 x2 : Int32) : entryFrame m #[(.ref a), (.int x1), (.int x2)] 3 = mkF m 0 #[.val (.ref a), .val (.int x1), .val (.int x2)] [] := by first | (simp [entryFrame, mkF, argsToLocals, Value.category]; done) | rfl
set_option maxRecDepth 65536 in
set_option maxHeartbeats 40000000 in
theorem rmPos (l : Launch) (Z : State) (a0 : Array Value) (hw : ∀ d ∈ tables_1, d.before a0 Z = true) (a : Addr) (x1 x2 : Int32) (h0 : Heap) (n0 : Nat) (g0 : n0 ≤ a) (E0 : Exa Z h0 a "com/example/byteloom/byteloom/schema/Position") (F_line : Fld Z h0 a "com/example/byteloom/byteloom/schema/Position" "line" "I" (.int (0 : Int32))) (F_column : Fld Z h0 a "com/example/byteloom/byteloom/schema/Position" "column" "I" (.int (0 : Int32))) :
    OMeets l Z y7 prog_46_method_1_code 3 none ({ frames := 1, cells := 0, slots := 0, locals := 12 } : Room) #[(.ref a), (.int x1), (.int x2)] h0 (fun v h L => v = none ∧ Fr n0 L ∧ Keep h0 h [a]) := by
  refine met (Q := fun v h L => v = none ∧ Fr n0 L ∧ Keep h0 h [a]) pf_7 (fun m => ef_rmPos m a x1 x2) fun p e s m below meth c T0 P0 => ?_
  have N0 := Fr.nil n0
  have K0 := Keep.refl h0 [a]
  refine G.aloadN P0 d7_0 rfl rfl (pc' := 1) rfl ?_
  obtain ⟨T1, X1, e1, s1⟩ := Jvm.RoadKit.initO P0.st P0.x P0.z P0.ow (wk hw 45 rfl) (wk hw 30 rfl) (wk hw 31 rfl) P0.eh (g := (mkF m 1 #[.val (.ref a), .val (.int x1), .val (.int x2)] [(.ref a)])) rfl (by rw [P0.mx]; rfl) rfl (hb P0.bt d7_1) (by decide) (W := 0) (by show 2 * 0 + _ ≤ _; exact Nat.le_of_eq rfl) (by decide)
  have P1 := Pos.re P0 X1 e1
  refine Go.via s1 ?_
  show Go p e below _ (T1.setTop (mkF m 4 #[.val (.ref a), .val (.int x1), .val (.int x2)] []))
  refine G.aloadN P1 d7_4 rfl rfl (pc' := 5) rfl ?_
  refine G.iloadN P1 d7_5 rfl (pc' := 6) rfl ?_
  refine G.putF P1 (host := "") (Or.inl (wk hw 46 rfl)) Via.refl F_line E0 (Or.inr ⟨(wk hw 47 rfl), rfl, rfl⟩) (wk hw 40 rfl) (ty := .int) (by decide) rfl rfl d7_6 (pc' := 9) rfl fun T2 h2 P2 W2 => ?_
  have f2 := F_line.same W2
  have N3 := Fr.snoc P2.st N0 g0
  have K4 := K0.wr W2 (Or.inl (List.mem_of_getElem? (i := 0) rfl))
  refine G.aloadN P2 d7_9 rfl rfl (pc' := 10) rfl ?_
  refine G.iloadN P2 d7_10 rfl (pc' := 11) rfl ?_
  have f5 := (F_column.other W2 (Or.inr (slot_ne (Or.inr (wk hw 49 rfl)) (Or.inr (wk hw 47 rfl)) (by decide) (t := .int) (t' := .int) (by decide) (by decide))))
  have f6 := (E0.wr W2)
  refine G.putF P2 (host := "") (Or.inl (wk hw 48 rfl)) Via.refl f5 f6 (Or.inr ⟨(wk hw 49 rfl), rfl, rfl⟩) (wk hw 40 rfl) (ty := .int) (by decide) rfl rfl d7_11 (pc' := 14) rfl fun T7 h7 P7 W7 => ?_
  have f7 := f5.same W7
  have N8 := Fr.snoc P7.st N3 g0
  have K9 := K4.wr W7 (Or.inl (List.mem_of_getElem? (i := 0) rfl))
  exact G.retV P7 d7_14 (by decide) (by decide) ⟨rfl, N8, K9⟩

theorem ef_rmTok (m : MethodId) (a : Addr) (b1 b2 b3 : Addr) : entryFrame m #[(.ref a), (.ref b1), (.ref b2), (.ref b3)] 4 = mkF m 0 #[.val (.ref a), .val (.ref b1), .val (.ref b2), .val (.ref b3)] [] := by first | (simp [entryFrame, mkF, argsToLocals, Value.category]; done) | rfl
set_option maxRecDepth 65536 in
set_option maxHeartbeats 40000000 in
theorem rmTok (l : Launch) (Z : State) (a0 : Array Value) (hw : ∀ d ∈ tables_1, d.before a0 Z = true) (a : Addr) (b1 b2 b3 : Addr) (h0 : Heap) (n0 : Nat) (g0 : n0 ≤ a) (E0 : Exa Z h0 a "com/example/byteloom/byteloom/schema/Token") (F_kind : Fld Z h0 a "com/example/byteloom/byteloom/schema/Token" "kind" "Lcom/example/byteloom/byteloom/schema/Token$Kind;" .null) (F_text : Fld Z h0 a "com/example/byteloom/byteloom/schema/Token" "text" "Ljava/lang/String;" .null) (F_position : Fld Z h0 a "com/example/byteloom/byteloom/schema/Token" "position" "Lcom/example/byteloom/byteloom/schema/Position;" .null) :
    OMeets l Z y8 prog_53_method_1_code 4 none ({ frames := 1, cells := 0, slots := 0, locals := 12 } : Room) #[(.ref a), (.ref b1), (.ref b2), (.ref b3)] h0 (fun v h L => v = none ∧ Fr n0 L ∧ Keep h0 h [a] ∧ Fld Z h a "com/example/byteloom/byteloom/schema/Token" "kind" "Lcom/example/byteloom/byteloom/schema/Token$Kind;" (.ref b1)) := by
  refine met (Q := fun v h L => v = none ∧ Fr n0 L ∧ Keep h0 h [a] ∧ Fld Z h a "com/example/byteloom/byteloom/schema/Token" "kind" "Lcom/example/byteloom/byteloom/schema/Token$Kind;" (.ref b1)) pf_8 (fun m => ef_rmTok m a b1 b2 b3) fun p e s m below meth c T0 P0 => ?_
  have N0 := Fr.nil n0
  have K0 := Keep.refl h0 [a]
  refine G.aloadN P0 d8_0 rfl rfl (pc' := 1) rfl ?_
  obtain ⟨T1, X1, e1, s1⟩ := Jvm.RoadKit.initO P0.st P0.x P0.z P0.ow (wk hw 53 rfl) (wk hw 30 rfl) (wk hw 31 rfl) P0.eh (g := (mkF m 1 #[.val (.ref a), .val (.ref b1), .val (.ref b2), .val (.ref b3)] [(.ref a)])) rfl (by rw [P0.mx]; rfl) rfl (hb P0.bt d8_1) (by decide) (W := 0) (by show 2 * 0 + _ ≤ _; exact Nat.le_of_eq rfl) (by decide)
  have P1 := Pos.re P0 X1 e1
  refine Go.via s1 ?_
  show Go p e below _ (T1.setTop (mkF m 4 #[.val (.ref a), .val (.ref b1), .val (.ref b2), .val (.ref b3)] []))
  refine G.aloadN P1 d8_4 rfl rfl (pc' := 5) rfl ?_
  refine G.aloadN P1 d8_5 rfl rfl (pc' := 6) rfl ?_
  refine G.putF P1 (host := "") (Or.inl (wk hw 54 rfl)) Via.refl F_kind E0 (Or.inr ⟨(wk hw 55 rfl), rfl, rfl⟩) (wk hw 37 rfl) (ty := (.object "com/example/byteloom/byteloom/schema/Token$Kind")) (by decide) rfl rfl d8_6 (pc' := 9) rfl fun T2 h2 P2 W2 => ?_
  have f2 := F_kind.same W2
  have N3 := Fr.snoc P2.st N0 g0
  have K4 := K0.wr W2 (Or.inl (List.mem_of_getElem? (i := 0) rfl))
  refine G.aloadN P2 d8_9 rfl rfl (pc' := 10) rfl ?_
  refine G.aloadN P2 d8_10 rfl rfl (pc' := 11) rfl ?_
  have f5 := (F_text.other W2 (Or.inr (slot_ne (Or.inr (wk hw 57 rfl)) (Or.inr (wk hw 55 rfl)) (by decide) (t := (.object "java/lang/String")) (t' := (.object "com/example/byteloom/byteloom/schema/Token$Kind")) (by decide) (by decide))))
  have f6 := (E0.wr W2)
  refine G.putF P2 (host := "") (Or.inl (wk hw 56 rfl)) Via.refl f5 f6 (Or.inr ⟨(wk hw 57 rfl), rfl, rfl⟩) (wk hw 37 rfl) (ty := (.object "java/lang/String")) (by decide) rfl rfl d8_11 (pc' := 14) rfl fun T7 h7 P7 W7 => ?_
  have f7 := f5.same W7
  have N8 := Fr.snoc P7.st N3 g0
  have K9 := K4.wr W7 (Or.inl (List.mem_of_getElem? (i := 0) rfl))
  refine G.aloadN P7 d8_14 rfl rfl (pc' := 15) rfl ?_
  refine G.aloadN P7 d8_15 rfl rfl (pc' := 16) rfl ?_
  have f10 := ((F_position.other W2 (Or.inr (slot_ne (Or.inr (wk hw 59 rfl)) (Or.inr (wk hw 55 rfl)) (by decide) (t := (.object "com/example/byteloom/byteloom/schema/Position")) (t' := (.object "com/example/byteloom/byteloom/schema/Token$Kind")) (by decide) (by decide)))).other W7 (Or.inr (slot_ne (Or.inr (wk hw 59 rfl)) (Or.inr (wk hw 57 rfl)) (by decide) (t := (.object "com/example/byteloom/byteloom/schema/Position")) (t' := (.object "java/lang/String")) (by decide) (by decide))))
  have f11 := (f6.wr W7)
  refine G.putF P7 (host := "") (Or.inl (wk hw 58 rfl)) Via.refl f10 f11 (Or.inr ⟨(wk hw 59 rfl), rfl, rfl⟩) (wk hw 37 rfl) (ty := (.object "com/example/byteloom/byteloom/schema/Position")) (by decide) rfl rfl d8_16 (pc' := 19) rfl fun T12 h12 P12 W12 => ?_
  have f12 := f10.same W12
  have N13 := Fr.snoc P12.st N8 g0
  have K14 := K9.wr W12 (Or.inl (List.mem_of_getElem? (i := 0) rfl))
  have f15 := ((f2.other W7 (Or.inr (slot_ne (Or.inr (wk hw 55 rfl)) (Or.inr (wk hw 57 rfl)) (by decide) (t := (.object "com/example/byteloom/byteloom/schema/Token$Kind")) (t' := (.object "java/lang/String")) (by decide) (by decide)))).other W12 (Or.inr (slot_ne (Or.inr (wk hw 55 rfl)) (Or.inr (wk hw 59 rfl)) (by decide) (t := (.object "com/example/byteloom/byteloom/schema/Token$Kind")) (t' := (.object "com/example/byteloom/byteloom/schema/Position")) (by decide) (by decide))))
  exact G.retV P12 d8_19 (by decide) (by decide) ⟨rfl, N13, K14, f15⟩

theorem ef_rmIs (m : MethodId) (a b2 : Addr) : entryFrame m #[(.ref a), (.ref b2)] 2 = mkF m 0 #[.val (.ref a), .val (.ref b2)] [] := by first | (simp [entryFrame, mkF, argsToLocals, Value.category]; done) | rfl
set_option maxRecDepth 65536 in
set_option maxHeartbeats 40000000 in
theorem rmIs (l : Launch) (Z : State) (a0 : Array Value) (hw : ∀ d ∈ tables_1, d.before a0 Z = true) (a b1 b2 : Addr) (h0 : Heap) (FK : Fld Z h0 a "com/example/byteloom/byteloom/schema/Token" "kind" "Lcom/example/byteloom/byteloom/schema/Token$Kind;" (.ref b1)) :
    OMeets l Z y9 prog_53_method_5_code 2 (some .boolean) ({ frames := 0, cells := 0, slots := 0, locals := 0 } : Room) #[(.ref a), (.ref b2)] h0 (OPure (some (.int (if b1 = b2 then (1 : Int32) else (0 : Int32)))) h0) := by
  refine met (Q := OPure (some (.int (if b1 = b2 then (1 : Int32) else (0 : Int32)))) h0) pf_9 (fun m => ef_rmIs m a b2) fun p e s m below meth c T0 P0 => ?_
  refine G.aloadN P0 d9_0 rfl rfl (pc' := 1) rfl ?_
  refine G.getF P0 (host := "") (Or.inl (wk hw 54 rfl)) Via.refl FK d9_1 (pc' := 4) rfl fun T1 P1 => ?_
  refine G.aloadN P1 d9_4 rfl rfl (pc' := 5) rfl ?_
  refine G.acmp_ne P1 d9_5 (by decide) (pcY := 12) (by decide) (pcN := 8) rfl (fun c2 => ?_) (fun c2 => ?_)
  · --
    refine G.iconst P1 d9_12 (z := (0 : Int32)) rfl (pc' := 13) rfl ?_
    have e_ : (0 : Int32) = (if b1 = b2 then (1 : Int32) else (0 : Int32)) := (if_neg c2).symm
    exact G.retN P1 (t := .boolean) rfl (by simp) d9_13 (by decide) (by decide) ⟨sI e_, rfl, rfl⟩
  · --
    refine G.iconst P1 d9_8 (z := (1 : Int32)) rfl (pc' := 9) rfl ?_
    refine G.goto P1 d9_9 (by decide) (pc' := 13) (by decide) ?_
    have e_ : (1 : Int32) = (if b1 = b2 then (1 : Int32) else (0 : Int32)) := (if_pos c2).symm
    exact G.retN P1 (t := .boolean) rfl (by simp) d9_13 (by decide) (by decide) ⟨sI e_, rfl, rfl⟩

theorem ef_rmIs0 (m : MethodId) (a : Addr) : entryFrame m #[(.ref a), .null] 2 = mkF m 0 #[.val (.ref a), .val .null] [] := by first | (simp [entryFrame, mkF, argsToLocals, Value.category]; done) | rfl
set_option maxRecDepth 65536 in
set_option maxHeartbeats 40000000 in
theorem rmIs0 (l : Launch) (Z : State) (a0 : Array Value) (hw : ∀ d ∈ tables_1, d.before a0 Z = true) (a b1 : Addr) (h0 : Heap) (FK : Fld Z h0 a "com/example/byteloom/byteloom/schema/Token" "kind" "Lcom/example/byteloom/byteloom/schema/Token$Kind;" (.ref b1)) :
    OMeets l Z y9 prog_53_method_5_code 2 (some .boolean) ({ frames := 0, cells := 0, slots := 0, locals := 0 } : Room) #[(.ref a), .null] h0 (OPure (some (.int (0 : Int32))) h0) := by
  refine met (Q := OPure (some (.int (0 : Int32))) h0) pf_9 (fun m => ef_rmIs0 m a) fun p e s m below meth c T0 P0 => ?_
  refine G.aloadN P0 d9_0 rfl rfl (pc' := 1) rfl ?_
  refine G.getF P0 (host := "") (Or.inl (wk hw 54 rfl)) Via.refl FK d9_1 (pc' := 4) rfl fun T1 P1 => ?_
  refine G.aloadN P1 d9_4 rfl rfl (pc' := 5) rfl ?_
  refine G.acmpNe P1 (x := .ref b1) (y := .null) rfl rfl (fun q => nomatch q) d9_5 (by decide) (pcT := 12) (by decide) ?_
  refine G.iconst P1 d9_12 (z := (0 : Int32)) rfl (pc' := 13) rfl ?_
  exact G.retN P1 (t := .boolean) rfl (by simp) d9_13 (by decide) (by decide) ⟨rfl, rfl, rfl⟩

theorem own_rng (y : Int32) : 0 ≤ ((y &&& (2147483647 : Int32)) % (13 : Int32)).toInt ∧ ((y &&& (2147483647 : Int32)) % (13 : Int32)).toInt ≤ 12 := by
  have a1 := c_mask y (2147483647 : Int32) 31 (by decide) (by decide)
  have a2 := c_irem (y &&& (2147483647 : Int32)) 13 13 rfl
  omega
theorem own_rng14 (y : Int32) : 0 ≤ ((y &&& (2147483647 : Int32)) % (14 : Int32)).toInt ∧ ((y &&& (2147483647 : Int32)) % (14 : Int32)).toInt ≤ 13 := by
  have a1 := c_mask y (2147483647 : Int32) 31 (by decide) (by decide)
  have a2 := c_irem (y &&& (2147483647 : Int32)) 14 14 rfl
  omega
theorem own_12 {j : Int32} (h : 0 ≤ j.toInt ∧ j.toInt ≤ 13) (q : ¬ j = (13 : Int32)) : 0 ≤ j.toInt ∧ j.toInt ≤ 12 := by
  have k : (13 : Int32).toInt = 13 := by decide
  have r : j.toInt ≠ 13 := fun e => q (Int32.toInt_inj.mp (e.trans k.symm))
  omega
theorem own_no13 {i : Int32} (h : 0 ≤ i.toInt ∧ i.toInt ≤ 12) : ¬ i = (13 : Int32) := fun q => by rw [q] at h; revert h; decide

theorem ef_0 (m : MethodId) (x0 : Int32) (x1 : Int32) (x2 : Int32) (x3 : Int32) (x4 : Int32) : entryFrame m #[(.int x0), (.int x1), (.int x2), (.int x3), (.int x4)] maxLocals = mkF m 0 #[.val (.int x0), .val (.int x1), .val (.int x2), .val (.int x3), .val (.int x4), .unset, .unset, .unset, .unset, .unset, .unset] [] := by first | (simp [entryFrame, mkF, argsToLocals, Value.category, maxLocals]; done) | rfl
set_option maxRecDepth 65536 in
set_option maxHeartbeats 40000000 in
theorem rm0 (l : Launch) (Z : State) (a0 : Array Value) (hw : ∀ d ∈ tables_1, d.before a0 Z = true) (x0 : Int32) (x1 : Int32) (x2 : Int32) (x3 : Int32) (x4 : Int32) (h0 : Heap) (n0 : Nat) (Z0 : n0 ≤ Array.size h0) (O0 : Old Z n0 h0) (cst : Int32) (hcs : ¬ cst = (0 : Int32)) (SC : Sta Z h0 "java/lang/String" "COMPACT_STRINGS" "Z" (.int cst)) (ad : Int32 → Addr) (S_NAME : Sta Z h0 "com/example/byteloom/byteloom/schema/Token$Kind" "NAME" "Lcom/example/byteloom/byteloom/schema/Token$Kind;" (.ref (ad (0 : Int32)))) (S_NUMBER : Sta Z h0 "com/example/byteloom/byteloom/schema/Token$Kind" "NUMBER" "Lcom/example/byteloom/byteloom/schema/Token$Kind;" (.ref (ad (1 : Int32)))) (S_EQUALS : Sta Z h0 "com/example/byteloom/byteloom/schema/Token$Kind" "EQUALS" "Lcom/example/byteloom/byteloom/schema/Token$Kind;" (.ref (ad (2 : Int32)))) (S_LEFT_BRACE : Sta Z h0 "com/example/byteloom/byteloom/schema/Token$Kind" "LEFT_BRACE" "Lcom/example/byteloom/byteloom/schema/Token$Kind;" (.ref (ad (3 : Int32)))) (S_RIGHT_BRACE : Sta Z h0 "com/example/byteloom/byteloom/schema/Token$Kind" "RIGHT_BRACE" "Lcom/example/byteloom/byteloom/schema/Token$Kind;" (.ref (ad (4 : Int32)))) (S_COLON : Sta Z h0 "com/example/byteloom/byteloom/schema/Token$Kind" "COLON" "Lcom/example/byteloom/byteloom/schema/Token$Kind;" (.ref (ad (5 : Int32)))) (S_COMMA : Sta Z h0 "com/example/byteloom/byteloom/schema/Token$Kind" "COMMA" "Lcom/example/byteloom/byteloom/schema/Token$Kind;" (.ref (ad (6 : Int32)))) (S_QUESTION_MARK : Sta Z h0 "com/example/byteloom/byteloom/schema/Token$Kind" "QUESTION_MARK" "Lcom/example/byteloom/byteloom/schema/Token$Kind;" (.ref (ad (7 : Int32)))) (S_LEFT_BRACKET : Sta Z h0 "com/example/byteloom/byteloom/schema/Token$Kind" "LEFT_BRACKET" "Lcom/example/byteloom/byteloom/schema/Token$Kind;" (.ref (ad (8 : Int32)))) (S_RIGHT_BRACKET : Sta Z h0 "com/example/byteloom/byteloom/schema/Token$Kind" "RIGHT_BRACKET" "Lcom/example/byteloom/byteloom/schema/Token$Kind;" (.ref (ad (9 : Int32)))) (S_DOT : Sta Z h0 "com/example/byteloom/byteloom/schema/Token$Kind" "DOT" "Lcom/example/byteloom/byteloom/schema/Token$Kind;" (.ref (ad (10 : Int32)))) (S_LINE_BREAK : Sta Z h0 "com/example/byteloom/byteloom/schema/Token$Kind" "LINE_BREAK" "Lcom/example/byteloom/byteloom/schema/Token$Kind;" (.ref (ad (11 : Int32)))) (S_END : Sta Z h0 "com/example/byteloom/byteloom/schema/Token$Kind" "END" "Lcom/example/byteloom/byteloom/schema/Token$Kind;" (.ref (ad (12 : Int32)))) (hE : ∀ k : Int32, 0 ≤ k.toInt ∧ k.toInt ≤ 12 → Exa Z h0 (ad k) "com/example/byteloom/byteloom/schema/Token$Kind" ∧ Fld Z h0 (ad k) "java/lang/Enum" "ordinal" "I" (.int k)) :
    MetFree l x (head1 (Jvm.Cond.code x code maxLocals ret :: tables_1) room_1) (fun a U => a = #[(.int x0), (.int x1), (.int x2), (.int x3), (.int x4)] ∧ Z.Warmed39 U.vm ∧ U.heap = h0) (fun _ _ _ _ _ => True) (fun _ U o U' => ∃ v L, o = .returned v ∧ (fun v h L => v = some (.int 1) ∧ Fr n0 L) v U'.heap L ∧ FrameEnd U o U' L room_1.cells room_1.slots) := by
  refine met (Q := fun v h L => v = some (.int 1) ∧ Fr n0 L) pf_0 (fun m => ef_0 m x0 x1 x2 x3 x4) fun p e s m below meth c T0 P0 => ?_
  have N0 := Fr.nil n0
  refine G.iloadN P0 at_0 rfl (pc' := 1) rfl ?_
  refine G.ldcI P0 (wk hw 0 rfl) at_1 (pc' := 3) rfl ?_
  refine G.iand P0 at_3 rfl (pc' := 4) rfl ?_
  refine G.bipush P0 at_4 (z := (13 : Int32)) rfl (pc' := 6) rfl ?_
  obtain ⟨i, h_i⟩ : ∃ z : Int32, ((x0 &&& (2147483647 : Int32)) % (13 : Int32)) = z := ⟨_, rfl⟩
  refine G.irem P0 at_6 (by decide) (z := i) h_i (pc' := 7) rfl ?_
  refine G.istore P0 at_7 (l' := #[.val (.int x0), .val (.int x1), .val (.int x2), .val (.int x3), .val (.int x4), .val (.int i), .unset, .unset, .unset, .unset, .unset]) rfl (pc' := 9) rfl ?_
  have hi : 0 ≤ i.toInt ∧ i.toInt ≤ 12 := by rw [← h_i]; exact own_rng x0
  refine G.iloadN P0 at_9 rfl (pc' := 10) rfl ?_
  refine G.ldcI P0 (wk hw 0 rfl) at_10 (pc' := 12) rfl ?_
  refine G.iand P0 at_12 rfl (pc' := 13) rfl ?_
  refine G.bipush P0 at_13 (z := (14 : Int32)) rfl (pc' := 15) rfl ?_
  obtain ⟨j, h_j⟩ : ∃ z : Int32, ((x1 &&& (2147483647 : Int32)) % (14 : Int32)) = z := ⟨_, rfl⟩
  refine G.irem P0 at_15 (by decide) (z := j) h_j (pc' := 16) rfl ?_
  refine G.istore P0 at_16 (l' := #[.val (.int x0), .val (.int x1), .val (.int x2), .val (.int x3), .val (.int x4), .val (.int i), .val (.int j), .unset, .unset, .unset, .unset]) rfl (pc' := 18) rfl ?_
  have hj0 : 0 ≤ j.toInt ∧ j.toInt ≤ 13 := by rw [← h_j]; exact own_rng14 x1
  refine G.iload P0 at_18 rfl (pc' := 20) rfl ?_
  refine G.callSP P0 (rmKind l Z a0 hw i h0 ad S_NAME S_NUMBER S_EQUALS S_LEFT_BRACE S_RIGHT_BRACE S_COLON S_COMMA S_QUESTION_MARK S_LEFT_BRACKET S_RIGHT_BRACKET S_DOT S_LINE_BREAK S_END hi) (wk hw 1 rfl) (wk hw 2 rfl) (wk hw 3 rfl) (wk hw 4 rfl) (by decide) pd_1 (argsL := [(.int i)]) (rest := []) rfl rfl rfl rfl (W := 0) (Nat.le_of_eq rfl) (by decide) at_20 (pc' := 23) rfl fun T1 P1 => ?_
  show Go p e below _ (T1.setTop (mkF m 23 #[.val (.int x0), .val (.int x1), .val (.int x2), .val (.int x3), .val (.int x4), .val (.int i), .val (.int j), .unset, .unset, .unset, .unset] [(.ref (ad i))]))
  refine G.astore P1 at_23 rfl (l' := #[.val (.int x0), .val (.int x1), .val (.int x2), .val (.int x3), .val (.int x4), .val (.int i), .val (.int j), .val (.ref (ad i)), .unset, .unset, .unset]) rfl (pc' := 25) rfl ?_
  refine G.iload P1 at_25 rfl (pc' := 27) rfl ?_
  by_cases hj : j = (13 : Int32)
  · --
    subst hj
    refine G.callSP P1 (rmKindN l Z a0 hw h0) (wk hw 1 rfl) (wk hw 2 rfl) (wk hw 3 rfl) (wk hw 4 rfl) (by decide) pd_1 (argsL := [(.int (13 : Int32))]) (rest := []) rfl rfl rfl rfl (W := 0) (Nat.le_of_eq rfl) (by decide) at_27 (pc' := 30) rfl fun T2 P2 => ?_
    show Go p e below _ (T2.setTop (mkF m 30 #[.val (.int x0), .val (.int x1), .val (.int x2), .val (.int x3), .val (.int x4), .val (.int i), .val (.int (13 : Int32)), .val (.ref (ad i)), .unset, .unset, .unset] [.null]))
    refine G.astore P2 at_30 rfl (l' := #[.val (.int x0), .val (.int x1), .val (.int x2), .val (.int x3), .val (.int x4), .val (.int i), .val (.int (13 : Int32)), .val (.ref (ad i)), .val .null, .unset, .unset]) rfl (pc' := 32) rfl ?_
    refine G.iloadN P2 at_32 rfl (pc' := 33) rfl ?_
    refine G.sipush P2 at_33 (z := (255 : Int32)) rfl (pc' := 36) rfl ?_
    refine G.iand P2 at_36 rfl (pc' := 37) rfl ?_
    refine G.i2c P2 at_37 (z := (x2 &&& (255 : Int32))) (i2c_mask x2) (pc' := 38) rfl ?_
    refine G.callS P2 (rmVal l Z a0 hw (x2 &&& (255 : Int32)) cst h0 n0 Z0 (own_255 x2) hcs SC) (wk hw 10 rfl) (wk hw 11 rfl) (wk hw 12 rfl) (wk hw 13 rfl) (by decide) pd_2 (argsL := [(.int (x2 &&& (255 : Int32)))]) (rest := []) rfl rfl rfl rfl (W := 0) (Nat.le_of_eq rfl) (by decide) at_38 (pc' := 41) rfl fun T3 L3 v3 P3 Q3 => ?_
    obtain ⟨s3, rfl, N3, K3⟩ := Q3
    have N4 := Fr.app N0 N3
    show Go p e below _ (T3.setTop (mkF m 41 #[.val (.int x0), .val (.int x1), .val (.int x2), .val (.int x3), .val (.int x4), .val (.int i), .val (.int (13 : Int32)), .val (.ref (ad i)), .val .null, .unset, .unset] [(.ref s3)]))
    refine G.astore P3 at_41 rfl (l' := #[.val (.int x0), .val (.int x1), .val (.int x2), .val (.int x3), .val (.int x4), .val (.int i), .val (.int (13 : Int32)), .val (.ref (ad i)), .val .null, .val (.ref s3), .unset]) rfl (pc' := 43) rfl ?_
    have z5 : n0 ≤ Array.size T3.heap := (Nat.le_trans Z0 K3.1)
    refine G.newO P3 (wk hw 36 rfl) (wk hw 37 rfl) (wk hw 38 rfl) at_43 (by decide) (pc' := 46) rfl fun T6 h6 a6 g6 P6 E6 A6 D6 => ?_
    have g7 : n0 ≤ a6 := by rw [g6]; exact z5
    have f8 : Fld Z h6 a6 "com/example/byteloom/byteloom/schema/Token" "kind" "Lcom/example/byteloom/byteloom/schema/Token$Kind;" .null := D6 (Or.inr (wk hw 55 rfl)) (ty := (.object "com/example/byteloom/byteloom/schema/Token$Kind")) (by decide)
    have f9 : Fld Z h6 a6 "com/example/byteloom/byteloom/schema/Token" "text" "Ljava/lang/String;" .null := D6 (Or.inr (wk hw 57 rfl)) (ty := (.object "java/lang/String")) (by decide)
    have f10 : Fld Z h6 a6 "com/example/byteloom/byteloom/schema/Token" "position" "Lcom/example/byteloom/byteloom/schema/Position;" .null := D6 (Or.inr (wk hw 59 rfl)) (ty := (.object "com/example/byteloom/byteloom/schema/Position")) (by decide)
    refine G.dup P6 at_46 rfl (pc' := 47) rfl ?_
    refine G.aload P6 at_47 rfl rfl (pc' := 49) rfl ?_
    refine G.aload P6 at_49 rfl rfl (pc' := 51) rfl ?_
    have z11 : n0 ≤ Array.size h6 := (Nat.le_trans z5 E6.1)
    refine G.newO P6 (wk hw 39 rfl) (wk hw 40 rfl) (wk hw 41 rfl) at_51 (by decide) (pc' := 54) rfl fun T12 h12 a12 g12 P12 E12 A12 D12 => ?_
    have n13 : a6 ≠ a12 := by rw [g12]; exact Nat.ne_of_lt A6.lt
    have g14 : n0 ≤ a12 := by rw [g12]; exact z11
    have f15 : Fld Z h12 a12 "com/example/byteloom/byteloom/schema/Position" "line" "I" (.int (0 : Int32)) := D12 (Or.inr (wk hw 47 rfl)) (ty := .int) (by decide)
    have f16 : Fld Z h12 a12 "com/example/byteloom/byteloom/schema/Position" "column" "I" (.int (0 : Int32)) := D12 (Or.inr (wk hw 49 rfl)) (ty := .int) (by decide)
    refine G.dup P12 at_54 rfl (pc' := 55) rfl ?_
    refine G.iloadN P12 at_55 rfl (pc' := 56) rfl ?_
    refine G.iload P12 at_56 rfl (pc' := 58) rfl ?_
    refine G.callI P12 (rmPos l Z a0 hw a12 x3 x4 h12 n0 g14 A12 f15 f16) rfl (wk hw 42 rfl) (wk hw 43 rfl) (wk hw 41 rfl) (wk hw 44 rfl) (by decide) pd_7 (argsL := [(.int x3), (.int x4)]) (rest := [(.ref a12), (.ref s3), (.ref (ad i)), (.ref a6), (.ref a6)]) rfl rfl rfl rfl (W := 5) (Nat.le_of_eq rfl) (by decide) at_58 (pc' := 61) rfl fun T17 L17 v17 P17 Q17 => ?_
    obtain ⟨rfl, N17, K17⟩ := Q17
    have N18 := Fr.app N4 N17
    show Go p e below _ (T17.setTop (mkF m 61 #[.val (.int x0), .val (.int x1), .val (.int x2), .val (.int x3), .val (.int x4), .val (.int i), .val (.int (13 : Int32)), .val (.ref (ad i)), .val .null, .val (.ref s3), .unset] [(.ref a12), (.ref s3), (.ref (ad i)), (.ref a6), (.ref a6)]))
    have f19 := ((A6.ext E12).keep K17)
    have f20 := ((f8.ext E12).keep K17 (ninS n13 nin0))
    have f21 := ((f9.ext E12).keep K17 (ninS n13 nin0))
    have f22 := ((f10.ext E12).keep K17 (ninS n13 nin0))
    refine G.callI P17 (rmTok l Z a0 hw a6 (ad i) s3 a12 T17.heap n0 g7 f19 f20 f21 f22) rfl (wk hw 50 rfl) (wk hw 51 rfl) (wk hw 38 rfl) (wk hw 52 rfl) (by decide) pd_8 (argsL := [(.ref (ad i)), (.ref s3), (.ref a12)]) (rest := [(.ref a6)]) rfl rfl rfl rfl (W := 1) (Nat.le_of_eq rfl) (by decide) at_61 (pc' := 64) rfl fun T23 L23 v23 P23 Q23 => ?_
    obtain ⟨rfl, N23, K23, FK23⟩ := Q23
    have N24 := Fr.app N18 N23
    show Go p e below _ (T23.setTop (mkF m 64 #[.val (.int x0), .val (.int x1), .val (.int x2), .val (.int x3), .val (.int x4), .val (.int i), .val (.int (13 : Int32)), .val (.ref (ad i)), .val .null, .val (.ref s3), .unset] [(.ref a6)]))
    refine G.astore P23 at_64 rfl (l' := #[.val (.int x0), .val (.int x1), .val (.int x2), .val (.int x3), .val (.int x4), .val (.int i), .val (.int (13 : Int32)), .val (.ref (ad i)), .val .null, .val (.ref s3), .val (.ref a6)]) rfl (pc' := 66) rfl ?_
    refine G.aload P23 at_66 rfl rfl (pc' := 68) rfl ?_
    refine G.aload P23 at_68 rfl rfl (pc' := 70) rfl ?_
    have f25 := (f19.keep K23)
    refine G.callVP P23 (rmIs0 l Z a0 hw a6 (ad i) T23.heap FK23) (wk hw 60 rfl) (wk hw 61 rfl) (wk hw 63 rfl) rfl (wk hw 62 rfl) (wk hw 38 rfl) (wk hw 64 rfl) (by decide) f25 pd_9 (argsL := [.null]) (rest := []) rfl rfl rfl rfl (W := 0) (Nat.le_of_eq rfl) (by decide) at_70 (pc' := 73) rfl fun T26 P26 => ?_
    show Go p e below _ (T26.setTop (mkF m 73 #[.val (.int x0), .val (.int x1), .val (.int x2), .val (.int x3), .val (.int x4), .val (.int i), .val (.int (13 : Int32)), .val (.ref (ad i)), .val .null, .val (.ref s3), .val (.ref a6)] [(.int (0 : Int32))]))
    refine G.iload P26 at_73 rfl (pc' := 75) rfl ?_
    refine G.iload P26 at_75 rfl (pc' := 77) rfl ?_
    refine Go.all (S1 := fun ee : Int32 => T26.setTop (mkF m 85 #[.val (.int x0), .val (.int x1), .val (.int x2), .val (.int x3), .val (.int x4), .val (.int i), .val (.int (13 : Int32)), .val (.ref (ad i)), .val .null, .val (.ref s3), .val (.ref a6)] [(.int ee), (.int (0 : Int32))])) (A := fun ee => ee = (if i = (13 : Int32) then (1 : Int32) else (0 : Int32))) (fun H27 => ?_) (fun ee j27 => ?_)
    · --
      refine G.icmp_ne P26 at_77 (by decide) (pcY := 84) (by decide) (pcN := 80) rfl (fun c28 => ?_) (fun c28 => ?_)
      · --
        refine G.iconst P26 at_84 (z := (0 : Int32)) rfl (pc' := 85) rfl ?_
        exact H27 ((0 : Int32)) ((if_neg c28).symm)
      · --
        refine G.iconst P26 at_80 (z := (1 : Int32)) rfl (pc' := 81) rfl ?_
        refine G.goto P26 at_81 (by decide) (pc' := 85) (by decide) ?_
        exact H27 ((1 : Int32)) ((if_pos c28).symm)
    refine G.icmp_ne P26 at_85 (by decide) (pcY := 92) (by decide) (pcN := 88) rfl (fun cc => absurd ((if_neg (own_no13 hi)).symm.trans j27.symm) cc) (fun cc => ?_)
    refine G.iconst P26 at_88 (z := (1 : Int32)) rfl (pc' := 89) rfl ?_
    refine G.goto P26 at_89 (by decide) (pc' := 93) (by decide) ?_
    exact G.retN P26 (t := .boolean) rfl (by simp) at_93 (by decide) (by decide) ⟨rfl, N24⟩
  · --
    have hj1 := own_12 hj0 hj
    refine G.callSP P1 (rmKind l Z a0 hw j h0 ad S_NAME S_NUMBER S_EQUALS S_LEFT_BRACE S_RIGHT_BRACE S_COLON S_COMMA S_QUESTION_MARK S_LEFT_BRACKET S_RIGHT_BRACKET S_DOT S_LINE_BREAK S_END hj1) (wk hw 1 rfl) (wk hw 2 rfl) (wk hw 3 rfl) (wk hw 4 rfl) (by decide) pd_1 (argsL := [(.int j)]) (rest := []) rfl rfl rfl rfl (W := 0) (Nat.le_of_eq rfl) (by decide) at_27 (pc' := 30) rfl fun T29 P29 => ?_
    show Go p e below _ (T29.setTop (mkF m 30 #[.val (.int x0), .val (.int x1), .val (.int x2), .val (.int x3), .val (.int x4), .val (.int i), .val (.int j), .val (.ref (ad i)), .unset, .unset, .unset] [(.ref (ad j))]))
    refine G.astore P29 at_30 rfl (l' := #[.val (.int x0), .val (.int x1), .val (.int x2), .val (.int x3), .val (.int x4), .val (.int i), .val (.int j), .val (.ref (ad i)), .val (.ref (ad j)), .unset, .unset]) rfl (pc' := 32) rfl ?_
    refine G.iloadN P29 at_32 rfl (pc' := 33) rfl ?_
    refine G.sipush P29 at_33 (z := (255 : Int32)) rfl (pc' := 36) rfl ?_
    refine G.iand P29 at_36 rfl (pc' := 37) rfl ?_
    refine G.i2c P29 at_37 (z := (x2 &&& (255 : Int32))) (i2c_mask x2) (pc' := 38) rfl ?_
    refine G.callS P29 (rmVal l Z a0 hw (x2 &&& (255 : Int32)) cst h0 n0 Z0 (own_255 x2) hcs SC) (wk hw 10 rfl) (wk hw 11 rfl) (wk hw 12 rfl) (wk hw 13 rfl) (by decide) pd_2 (argsL := [(.int (x2 &&& (255 : Int32)))]) (rest := []) rfl rfl rfl rfl (W := 0) (Nat.le_of_eq rfl) (by decide) at_38 (pc' := 41) rfl fun T30 L30 v30 P30 Q30 => ?_
    obtain ⟨s30, rfl, N30, K30⟩ := Q30
    have N31 := Fr.app N0 N30
    show Go p e below _ (T30.setTop (mkF m 41 #[.val (.int x0), .val (.int x1), .val (.int x2), .val (.int x3), .val (.int x4), .val (.int i), .val (.int j), .val (.ref (ad i)), .val (.ref (ad j)), .unset, .unset] [(.ref s30)]))
    refine G.astore P30 at_41 rfl (l' := #[.val (.int x0), .val (.int x1), .val (.int x2), .val (.int x3), .val (.int x4), .val (.int i), .val (.int j), .val (.ref (ad i)), .val (.ref (ad j)), .val (.ref s30), .unset]) rfl (pc' := 43) rfl ?_
    have z32 : n0 ≤ Array.size T30.heap := (Nat.le_trans Z0 K30.1)
    refine G.newO P30 (wk hw 36 rfl) (wk hw 37 rfl) (wk hw 38 rfl) at_43 (by decide) (pc' := 46) rfl fun T33 h33 a33 g33 P33 E33 A33 D33 => ?_
    have g34 : n0 ≤ a33 := by rw [g33]; exact z32
    have f35 : Fld Z h33 a33 "com/example/byteloom/byteloom/schema/Token" "kind" "Lcom/example/byteloom/byteloom/schema/Token$Kind;" .null := D33 (Or.inr (wk hw 55 rfl)) (ty := (.object "com/example/byteloom/byteloom/schema/Token$Kind")) (by decide)
    have f36 : Fld Z h33 a33 "com/example/byteloom/byteloom/schema/Token" "text" "Ljava/lang/String;" .null := D33 (Or.inr (wk hw 57 rfl)) (ty := (.object "java/lang/String")) (by decide)
    have f37 : Fld Z h33 a33 "com/example/byteloom/byteloom/schema/Token" "position" "Lcom/example/byteloom/byteloom/schema/Position;" .null := D33 (Or.inr (wk hw 59 rfl)) (ty := (.object "com/example/byteloom/byteloom/schema/Position")) (by decide)
    refine G.dup P33 at_46 rfl (pc' := 47) rfl ?_
    refine G.aload P33 at_47 rfl rfl (pc' := 49) rfl ?_
    refine G.aload P33 at_49 rfl rfl (pc' := 51) rfl ?_
    have z38 : n0 ≤ Array.size h33 := (Nat.le_trans z32 E33.1)
    refine G.newO P33 (wk hw 39 rfl) (wk hw 40 rfl) (wk hw 41 rfl) at_51 (by decide) (pc' := 54) rfl fun T39 h39 a39 g39 P39 E39 A39 D39 => ?_
    have n40 : a33 ≠ a39 := by rw [g39]; exact Nat.ne_of_lt A33.lt
    have g41 : n0 ≤ a39 := by rw [g39]; exact z38
    have f42 : Fld Z h39 a39 "com/example/byteloom/byteloom/schema/Position" "line" "I" (.int (0 : Int32)) := D39 (Or.inr (wk hw 47 rfl)) (ty := .int) (by decide)
    have f43 : Fld Z h39 a39 "com/example/byteloom/byteloom/schema/Position" "column" "I" (.int (0 : Int32)) := D39 (Or.inr (wk hw 49 rfl)) (ty := .int) (by decide)
    refine G.dup P39 at_54 rfl (pc' := 55) rfl ?_
    refine G.iloadN P39 at_55 rfl (pc' := 56) rfl ?_
    refine G.iload P39 at_56 rfl (pc' := 58) rfl ?_
    refine G.callI P39 (rmPos l Z a0 hw a39 x3 x4 h39 n0 g41 A39 f42 f43) rfl (wk hw 42 rfl) (wk hw 43 rfl) (wk hw 41 rfl) (wk hw 44 rfl) (by decide) pd_7 (argsL := [(.int x3), (.int x4)]) (rest := [(.ref a39), (.ref s30), (.ref (ad i)), (.ref a33), (.ref a33)]) rfl rfl rfl rfl (W := 5) (Nat.le_of_eq rfl) (by decide) at_58 (pc' := 61) rfl fun T44 L44 v44 P44 Q44 => ?_
    obtain ⟨rfl, N44, K44⟩ := Q44
    have N45 := Fr.app N31 N44
    show Go p e below _ (T44.setTop (mkF m 61 #[.val (.int x0), .val (.int x1), .val (.int x2), .val (.int x3), .val (.int x4), .val (.int i), .val (.int j), .val (.ref (ad i)), .val (.ref (ad j)), .val (.ref s30), .unset] [(.ref a39), (.ref s30), (.ref (ad i)), (.ref a33), (.ref a33)]))
    have f46 := ((A33.ext E39).keep K44)
    have f47 := ((f35.ext E39).keep K44 (ninS n40 nin0))
    have f48 := ((f36.ext E39).keep K44 (ninS n40 nin0))
    have f49 := ((f37.ext E39).keep K44 (ninS n40 nin0))
    refine G.callI P44 (rmTok l Z a0 hw a33 (ad i) s30 a39 T44.heap n0 g34 f46 f47 f48 f49) rfl (wk hw 50 rfl) (wk hw 51 rfl) (wk hw 38 rfl) (wk hw 52 rfl) (by decide) pd_8 (argsL := [(.ref (ad i)), (.ref s30), (.ref a39)]) (rest := [(.ref a33)]) rfl rfl rfl rfl (W := 1) (Nat.le_of_eq rfl) (by decide) at_61 (pc' := 64) rfl fun T50 L50 v50 P50 Q50 => ?_
    obtain ⟨rfl, N50, K50, FK50⟩ := Q50
    have N51 := Fr.app N45 N50
    show Go p e below _ (T50.setTop (mkF m 64 #[.val (.int x0), .val (.int x1), .val (.int x2), .val (.int x3), .val (.int x4), .val (.int i), .val (.int j), .val (.ref (ad i)), .val (.ref (ad j)), .val (.ref s30), .unset] [(.ref a33)]))
    refine G.astore P50 at_64 rfl (l' := #[.val (.int x0), .val (.int x1), .val (.int x2), .val (.int x3), .val (.int x4), .val (.int i), .val (.int j), .val (.ref (ad i)), .val (.ref (ad j)), .val (.ref s30), .val (.ref a33)]) rfl (pc' := 66) rfl ?_
    refine G.aload P50 at_66 rfl rfl (pc' := 68) rfl ?_
    refine G.aload P50 at_68 rfl rfl (pc' := 70) rfl ?_
    have f52 := (f46.keep K50)
    refine G.callVP P50 (rmIs l Z a0 hw a33 (ad i) (ad j) T50.heap FK50) (wk hw 60 rfl) (wk hw 61 rfl) (wk hw 63 rfl) rfl (wk hw 62 rfl) (wk hw 38 rfl) (wk hw 64 rfl) (by decide) f52 pd_9 (argsL := [(.ref (ad j))]) (rest := []) rfl rfl rfl rfl (W := 0) (Nat.le_of_eq rfl) (by decide) at_70 (pc' := 73) rfl fun T53 P53 => ?_
    show Go p e below _ (T53.setTop (mkF m 73 #[.val (.int x0), .val (.int x1), .val (.int x2), .val (.int x3), .val (.int x4), .val (.int i), .val (.int j), .val (.ref (ad i)), .val (.ref (ad j)), .val (.ref s30), .val (.ref a33)] [(.int (if ad i = ad j then (1 : Int32) else (0 : Int32)))]))
    refine G.iload P53 at_73 rfl (pc' := 75) rfl ?_
    refine G.iload P53 at_75 rfl (pc' := 77) rfl ?_
    refine Go.all (S1 := fun ee : Int32 => T53.setTop (mkF m 85 #[.val (.int x0), .val (.int x1), .val (.int x2), .val (.int x3), .val (.int x4), .val (.int i), .val (.int j), .val (.ref (ad i)), .val (.ref (ad j)), .val (.ref s30), .val (.ref a33)] [(.int ee), (.int (if ad i = ad j then (1 : Int32) else (0 : Int32)))])) (A := fun ee => ee = (if i = j then (1 : Int32) else (0 : Int32))) (fun H54 => ?_) (fun ee j54 => ?_)
    · --
      refine G.icmp_ne P53 at_77 (by decide) (pcY := 84) (by decide) (pcN := 80) rfl (fun c55 => ?_) (fun c55 => ?_)
      · --
        refine G.iconst P53 at_84 (z := (0 : Int32)) rfl (pc' := 85) rfl ?_
        exact H54 ((0 : Int32)) ((if_neg c55).symm)
      · --
        refine G.iconst P53 at_80 (z := (1 : Int32)) rfl (pc' := 81) rfl ?_
        refine G.goto P53 at_81 (by decide) (pc' := 85) (by decide) ?_
        exact H54 ((1 : Int32)) ((if_pos c55).symm)
    refine G.icmp_ne P53 at_85 (by decide) (pcY := 92) (by decide) (pcN := 88) rfl (fun cc => absurd ((by simp only [own_inj hE hi hj1] : (if ad i = ad j then (1 : Int32) else (0 : Int32)) = (if i = j then (1 : Int32) else (0 : Int32))).trans j54.symm) cc) (fun cc => ?_)
    refine G.iconst P53 at_88 (z := (1 : Int32)) rfl (pc' := 89) rfl ?_
    refine G.goto P53 at_89 (by decide) (pc' := 93) (by decide) ?_
    exact G.retN P53 (t := .boolean) rfl (by simp) at_93 (by decide) (by decide) ⟨rfl, N51⟩

set_option maxRecDepth 65536 in
set_option maxHeartbeats 40000000 in
theorem comes_1 {Post : Tables → Env → Array Value → State → Outcome → State → Prop} (hpost : ∀ tb e args s v u, (limb_1_1.after args s (.returned v) u = true ∧ limb_1_2.after args s (.returned v) u = true ∧ True) → FrameEnd s (.returned v) u (Jvm.fieldLocs frame_1_writes args s ++ Jvm.arrayLocs frame_1_arrays args s ++ Jvm.staticLocs frame_1_statics s) 16 128 → Post tb e args s (.returned v) u) :
    ArmFor flags0 classFile x code maxLocals ret World_1 tables_1 room_1 Calls_1 rest_1 Pre_1 Post := by
  intro l hfl _ _ p e ha hc hk s m args below hf hA hF happ hP
  obtain ⟨hcalls, hrest, hpre⟩ := hP
  obtain ⟨-, -, -, hnamed, -, -, -, hat⟩ := (Spec.applies_iff hf).mp happ
  obtain ⟨hg, hn⟩ := and_e (Cond.before_iff.mp (show (Jvm.Cond.and given_1 narrow_1).before args s = true from hpre))
  obtain ⟨h1, hg1⟩ := and_e hg
  obtain ⟨i0, hg2⟩ := and_e hg1
  obtain ⟨i1, hg3⟩ := and_e hg2
  obtain ⟨i2, hg4⟩ := and_e hg3
  obtain ⟨i3, hg5⟩ := and_e hg4
  have i4 := hg5
  obtain ⟨w0, w1, w2, w3, w4, rfl⟩ : ∃ w0 w1 w2 w3 w4 : Value, args = #[w0, w1, w2, w3, w4] := by
    have hs : args.size = 5 := by simpa [Cond.value, given_1] using h1
    obtain ⟨L⟩ := args
    match L, hs with
    | [w0, w1, w2, w3, w4], _ => exact ⟨w0, w1, w2, w3, w4, rfl⟩
  have hw := fun d (hd : d ∈ tables_1) => atoms_spec (ws := Jvm.Cond.code x code maxLocals ret :: tables_1) hat d (List.mem_cons_of_mem _ hd)
  obtain ⟨x0, e0⟩ := is_v i0
  obtain rfl : w0 = (.int x0) := Option.some.inj e0
  obtain ⟨x1, e1⟩ := is_v i1
  obtain rfl : w1 = (.int x1) := Option.some.inj e1
  obtain ⟨x2, e2⟩ := is_v i2
  obtain rfl : w2 = (.int x2) := Option.some.inj e2
  obtain ⟨x3, e3⟩ := is_v i3
  obtain rfl : w3 = (.int x3) := Option.some.inj e3
  obtain ⟨x4, e4⟩ := is_v i4
  obtain rfl : w4 = (.int x4) := Option.some.inj e4
  have hsets := (atoms_of jdkStatics_1 (show (jdkStatics_1.foldr Jvm.Cond.and restOwn_1).before _ s = true from by rw [← rest_1_c_eq]; exact hrest)).1
  obtain ⟨cst, ecst⟩ := is_v (Cond.before_iff.mp (hsets _ (List.mem_of_getElem? (i := 1) rfl)))
  have hcs := own_nev (Cond.before_iff.mp (hsets _ (List.mem_of_getElem? (i := 2) rfl))) ecst
  have SC : Sta s s.heap "java/lang/String" "COMPACT_STRINGS" "Z" (.int cst) := Sta.start ecst (Or.inl (hsets _ (List.mem_of_getElem? (i := 0) rfl)))
  obtain ⟨q0, hn0⟩ := and_e hn
  obtain ⟨q1, hn1⟩ := and_e hn0
  obtain ⟨q2, hn2⟩ := and_e hn1
  obtain ⟨q3, hn3⟩ := and_e hn2
  obtain ⟨q4, hn4⟩ := and_e hn3
  obtain ⟨q5, hn5⟩ := and_e hn4
  obtain ⟨q6, hn6⟩ := and_e hn5
  obtain ⟨q7, hn7⟩ := and_e hn6
  obtain ⟨q8, hn8⟩ := and_e hn7
  obtain ⟨q9, hn9⟩ := and_e hn8
  obtain ⟨q10, hn10⟩ := and_e hn9
  obtain ⟨q11, hn11⟩ := and_e hn10
  obtain ⟨q12, hn12⟩ := and_e hn11
  obtain ⟨q13, hn13⟩ := and_e hn12
  obtain ⟨q14, hn14⟩ := and_e hn13
  obtain ⟨q15, hn15⟩ := and_e hn14
  obtain ⟨q16, hn16⟩ := and_e hn15
  obtain ⟨q17, hn17⟩ := and_e hn16
  obtain ⟨q18, hn18⟩ := and_e hn17
  obtain ⟨q19, hn19⟩ := and_e hn18
  obtain ⟨q20, hn20⟩ := and_e hn19
  obtain ⟨q21, hn21⟩ := and_e hn20
  obtain ⟨q22, hn22⟩ := and_e hn21
  obtain ⟨q23, hn23⟩ := and_e hn22
  obtain ⟨q24, hn24⟩ := and_e hn23
  have q25 := hn24
  obtain ⟨e_NAME, v_NAME⟩ := exa_v q0
  have S_NAME : Sta s s.heap "com/example/byteloom/byteloom/schema/Token$Kind" "NAME" "Lcom/example/byteloom/byteloom/schema/Token$Kind;" (.ref e_NAME) := Sta.start v_NAME (Or.inr ⟨(wk hw 6 rfl), (wk hw 7 rfl)⟩)
  have X_NAME : Exa s s.heap e_NAME "com/example/byteloom/byteloom/schema/Token$Kind" := Exa.start v_NAME q0
  obtain ⟨e_LEFT_BRACE, v_LEFT_BRACE⟩ := exa_v q1
  have S_LEFT_BRACE : Sta s s.heap "com/example/byteloom/byteloom/schema/Token$Kind" "LEFT_BRACE" "Lcom/example/byteloom/byteloom/schema/Token$Kind;" (.ref e_LEFT_BRACE) := Sta.start v_LEFT_BRACE (Or.inr ⟨(wk hw 6 rfl), (wk hw 9 rfl)⟩)
  have X_LEFT_BRACE : Exa s s.heap e_LEFT_BRACE "com/example/byteloom/byteloom/schema/Token$Kind" := Exa.start v_LEFT_BRACE q1
  obtain ⟨e_RIGHT_BRACE, v_RIGHT_BRACE⟩ := exa_v q4
  have S_RIGHT_BRACE : Sta s s.heap "com/example/byteloom/byteloom/schema/Token$Kind" "RIGHT_BRACE" "Lcom/example/byteloom/byteloom/schema/Token$Kind;" (.ref e_RIGHT_BRACE) := Sta.start v_RIGHT_BRACE (Or.inr ⟨(wk hw 6 rfl), (wk hw 66 rfl)⟩)
  have X_RIGHT_BRACE : Exa s s.heap e_RIGHT_BRACE "com/example/byteloom/byteloom/schema/Token$Kind" := Exa.start v_RIGHT_BRACE q4
  obtain ⟨e_RIGHT_BRACKET, v_RIGHT_BRACKET⟩ := exa_v q6
  have S_RIGHT_BRACKET : Sta s s.heap "com/example/byteloom/byteloom/schema/Token$Kind" "RIGHT_BRACKET" "Lcom/example/byteloom/byteloom/schema/Token$Kind;" (.ref e_RIGHT_BRACKET) := Sta.start v_RIGHT_BRACKET (Or.inr ⟨(wk hw 6 rfl), (wk hw 68 rfl)⟩)
  have X_RIGHT_BRACKET : Exa s s.heap e_RIGHT_BRACKET "com/example/byteloom/byteloom/schema/Token$Kind" := Exa.start v_RIGHT_BRACKET q6
  obtain ⟨e_EQUALS, v_EQUALS⟩ := exa_v q7
  have S_EQUALS : Sta s s.heap "com/example/byteloom/byteloom/schema/Token$Kind" "EQUALS" "Lcom/example/byteloom/byteloom/schema/Token$Kind;" (.ref e_EQUALS) := Sta.start v_EQUALS (Or.inr ⟨(wk hw 6 rfl), (wk hw 70 rfl)⟩)
  have X_EQUALS : Exa s s.heap e_EQUALS "com/example/byteloom/byteloom/schema/Token$Kind" := Exa.start v_EQUALS q7
  obtain ⟨e_NUMBER, v_NUMBER⟩ := exa_v q10
  have S_NUMBER : Sta s s.heap "com/example/byteloom/byteloom/schema/Token$Kind" "NUMBER" "Lcom/example/byteloom/byteloom/schema/Token$Kind;" (.ref e_NUMBER) := Sta.start v_NUMBER (Or.inr ⟨(wk hw 6 rfl), (wk hw 72 rfl)⟩)
  have X_NUMBER : Exa s s.heap e_NUMBER "com/example/byteloom/byteloom/schema/Token$Kind" := Exa.start v_NUMBER q10
  obtain ⟨e_QUESTION_MARK, v_QUESTION_MARK⟩ := exa_v q11
  have S_QUESTION_MARK : Sta s s.heap "com/example/byteloom/byteloom/schema/Token$Kind" "QUESTION_MARK" "Lcom/example/byteloom/byteloom/schema/Token$Kind;" (.ref e_QUESTION_MARK) := Sta.start v_QUESTION_MARK (Or.inr ⟨(wk hw 6 rfl), (wk hw 74 rfl)⟩)
  have X_QUESTION_MARK : Exa s s.heap e_QUESTION_MARK "com/example/byteloom/byteloom/schema/Token$Kind" := Exa.start v_QUESTION_MARK q11
  obtain ⟨e_DOT, v_DOT⟩ := exa_v q14
  have S_DOT : Sta s s.heap "com/example/byteloom/byteloom/schema/Token$Kind" "DOT" "Lcom/example/byteloom/byteloom/schema/Token$Kind;" (.ref e_DOT) := Sta.start v_DOT (Or.inr ⟨(wk hw 6 rfl), (wk hw 76 rfl)⟩)
  have X_DOT : Exa s s.heap e_DOT "com/example/byteloom/byteloom/schema/Token$Kind" := Exa.start v_DOT q14
  obtain ⟨e_COLON, v_COLON⟩ := exa_v q15
  have S_COLON : Sta s s.heap "com/example/byteloom/byteloom/schema/Token$Kind" "COLON" "Lcom/example/byteloom/byteloom/schema/Token$Kind;" (.ref e_COLON) := Sta.start v_COLON (Or.inr ⟨(wk hw 6 rfl), (wk hw 78 rfl)⟩)
  have X_COLON : Exa s s.heap e_COLON "com/example/byteloom/byteloom/schema/Token$Kind" := Exa.start v_COLON q15
  obtain ⟨e_LINE_BREAK, v_LINE_BREAK⟩ := exa_v q18
  have S_LINE_BREAK : Sta s s.heap "com/example/byteloom/byteloom/schema/Token$Kind" "LINE_BREAK" "Lcom/example/byteloom/byteloom/schema/Token$Kind;" (.ref e_LINE_BREAK) := Sta.start v_LINE_BREAK (Or.inr ⟨(wk hw 6 rfl), (wk hw 80 rfl)⟩)
  have X_LINE_BREAK : Exa s s.heap e_LINE_BREAK "com/example/byteloom/byteloom/schema/Token$Kind" := Exa.start v_LINE_BREAK q18
  obtain ⟨e_COMMA, v_COMMA⟩ := exa_v q19
  have S_COMMA : Sta s s.heap "com/example/byteloom/byteloom/schema/Token$Kind" "COMMA" "Lcom/example/byteloom/byteloom/schema/Token$Kind;" (.ref e_COMMA) := Sta.start v_COMMA (Or.inr ⟨(wk hw 6 rfl), (wk hw 82 rfl)⟩)
  have X_COMMA : Exa s s.heap e_COMMA "com/example/byteloom/byteloom/schema/Token$Kind" := Exa.start v_COMMA q19
  obtain ⟨e_LEFT_BRACKET, v_LEFT_BRACKET⟩ := exa_v q22
  have S_LEFT_BRACKET : Sta s s.heap "com/example/byteloom/byteloom/schema/Token$Kind" "LEFT_BRACKET" "Lcom/example/byteloom/byteloom/schema/Token$Kind;" (.ref e_LEFT_BRACKET) := Sta.start v_LEFT_BRACKET (Or.inr ⟨(wk hw 6 rfl), (wk hw 84 rfl)⟩)
  have X_LEFT_BRACKET : Exa s s.heap e_LEFT_BRACKET "com/example/byteloom/byteloom/schema/Token$Kind" := Exa.start v_LEFT_BRACKET q22
  obtain ⟨e_END, v_END⟩ := exa_v q24
  have S_END : Sta s s.heap "com/example/byteloom/byteloom/schema/Token$Kind" "END" "Lcom/example/byteloom/byteloom/schema/Token$Kind;" (.ref e_END) := Sta.start v_END (Or.inr ⟨(wk hw 6 rfl), (wk hw 86 rfl)⟩)
  have X_END : Exa s s.heap e_END "com/example/byteloom/byteloom/schema/Token$Kind" := Exa.start v_END q24
  have F_NAME_ordinal : Fld s s.heap e_NAME "java/lang/Enum" "ordinal" "I" (.int (0 : Int32)) := Fld.start ((fld_at v_NAME).symm.trans (own_eqv q2))
  have F_LEFT_BRACE_ordinal : Fld s s.heap e_LEFT_BRACE "java/lang/Enum" "ordinal" "I" (.int (3 : Int32)) := Fld.start ((fld_at v_LEFT_BRACE).symm.trans (own_eqv q3))
  have F_RIGHT_BRACE_ordinal : Fld s s.heap e_RIGHT_BRACE "java/lang/Enum" "ordinal" "I" (.int (4 : Int32)) := Fld.start ((fld_at v_RIGHT_BRACE).symm.trans (own_eqv q5))
  have F_RIGHT_BRACKET_ordinal : Fld s s.heap e_RIGHT_BRACKET "java/lang/Enum" "ordinal" "I" (.int (9 : Int32)) := Fld.start ((fld_at v_RIGHT_BRACKET).symm.trans (own_eqv q8))
  have F_EQUALS_ordinal : Fld s s.heap e_EQUALS "java/lang/Enum" "ordinal" "I" (.int (2 : Int32)) := Fld.start ((fld_at v_EQUALS).symm.trans (own_eqv q9))
  have F_NUMBER_ordinal : Fld s s.heap e_NUMBER "java/lang/Enum" "ordinal" "I" (.int (1 : Int32)) := Fld.start ((fld_at v_NUMBER).symm.trans (own_eqv q12))
  have F_QUESTION_MARK_ordinal : Fld s s.heap e_QUESTION_MARK "java/lang/Enum" "ordinal" "I" (.int (7 : Int32)) := Fld.start ((fld_at v_QUESTION_MARK).symm.trans (own_eqv q13))
  have F_DOT_ordinal : Fld s s.heap e_DOT "java/lang/Enum" "ordinal" "I" (.int (10 : Int32)) := Fld.start ((fld_at v_DOT).symm.trans (own_eqv q16))
  have F_COLON_ordinal : Fld s s.heap e_COLON "java/lang/Enum" "ordinal" "I" (.int (5 : Int32)) := Fld.start ((fld_at v_COLON).symm.trans (own_eqv q17))
  have F_COMMA_ordinal : Fld s s.heap e_COMMA "java/lang/Enum" "ordinal" "I" (.int (6 : Int32)) := Fld.start ((fld_at v_COMMA).symm.trans (own_eqv q20))
  have F_LINE_BREAK_ordinal : Fld s s.heap e_LINE_BREAK "java/lang/Enum" "ordinal" "I" (.int (11 : Int32)) := Fld.start ((fld_at v_LINE_BREAK).symm.trans (own_eqv q21))
  have F_LEFT_BRACKET_ordinal : Fld s s.heap e_LEFT_BRACKET "java/lang/Enum" "ordinal" "I" (.int (8 : Int32)) := Fld.start ((fld_at v_LEFT_BRACKET).symm.trans (own_eqv q23))
  have F_END_ordinal : Fld s s.heap e_END "java/lang/Enum" "ordinal" "I" (.int (12 : Int32)) := Fld.start ((fld_at v_END).symm.trans (own_eqv q25))
  let ad : Int32 → Addr := fun z => if z = (0 : Int32) then e_NAME else if z = (1 : Int32) then e_NUMBER else if z = (2 : Int32) then e_EQUALS else if z = (3 : Int32) then e_LEFT_BRACE else if z = (4 : Int32) then e_RIGHT_BRACE else if z = (5 : Int32) then e_COLON else if z = (6 : Int32) then e_COMMA else if z = (7 : Int32) then e_QUESTION_MARK else if z = (8 : Int32) then e_LEFT_BRACKET else if z = (9 : Int32) then e_RIGHT_BRACKET else if z = (10 : Int32) then e_DOT else if z = (11 : Int32) then e_LINE_BREAK else e_END
  have hE : ∀ k : Int32, 0 ≤ k.toInt ∧ k.toInt ≤ 12 → Exa s s.heap (ad k) "com/example/byteloom/byteloom/schema/Token$Kind" ∧ Fld s s.heap (ad k) "java/lang/Enum" "ordinal" "I" (.int k) := by
    intro k hk
    rcases own_cases k hk with rfl | rfl | rfl | rfl | rfl | rfl | rfl | rfl | rfl | rfl | rfl | rfl | rfl
    · exact ⟨X_NAME, F_NAME_ordinal⟩
    · exact ⟨X_NUMBER, F_NUMBER_ordinal⟩
    · exact ⟨X_EQUALS, F_EQUALS_ordinal⟩
    · exact ⟨X_LEFT_BRACE, F_LEFT_BRACE_ordinal⟩
    · exact ⟨X_RIGHT_BRACE, F_RIGHT_BRACE_ordinal⟩
    · exact ⟨X_COLON, F_COLON_ordinal⟩
    · exact ⟨X_COMMA, F_COMMA_ordinal⟩
    · exact ⟨X_QUESTION_MARK, F_QUESTION_MARK_ordinal⟩
    · exact ⟨X_LEFT_BRACKET, F_LEFT_BRACKET_ordinal⟩
    · exact ⟨X_RIGHT_BRACKET, F_RIGHT_BRACKET_ordinal⟩
    · exact ⟨X_DOT, F_DOT_ordinal⟩
    · exact ⟨X_LINE_BREAK, F_LINE_BREAK_ordinal⟩
    · exact ⟨X_END, F_END_ordinal⟩
  obtain ⟨n, o, h1, h2, h3, _, L, rfl, ⟨rfl, N⟩, hq⟩ := rm0 l s _ hw x0 x1 x2 x3 x4 s.heap s.heap.size (Nat.le_refl _) (Old.start s) cst hcs SC ad S_NAME S_NUMBER S_EQUALS S_LEFT_BRACE S_RIGHT_BRACE S_COLON S_COMMA S_QUESTION_MARK S_LEFT_BRACKET S_RIGHT_BRACKET S_DOT S_LINE_BREAK S_END hE p e ha hc hk s m _ below hf ((Spec.applies_iff_loose hf).mp happ).1 ⟨rfl, State.Warmed39.refl s, rfl⟩ trivial
  refine ⟨n, _, h1, h2, h3, hpost _ _ _ _ _ _ ⟨Cond.after_iff.mpr rfl, Cond.after_iff.mpr (eq_i res_at (Term.int_eval (1)) rfl), trivial⟩ ⟨hq.1, hq.2.1, (hq.2.2.sift fun y hy => Or.inr (N y hy)).mono (by decide) (by decide)⟩⟩
theorem main_1_1 : Claimed_1_1 := comes_1 fun _ _ _ _ _ _ h hF => ⟨h.1, hF⟩
theorem main_1_2 : Claimed_1_2 := comes_1 fun _ _ _ _ _ _ h hF => ⟨h.2.1, hF⟩
end Jvm.Pilot.@@N@@
namespace Jvm.Pilot.@@N@@
open Jvm Jvm.ClassFile Sem Op Lib Jvm.Free Jvm.Stand Jvm.Pilot.@@N@@.Jvm.D
/-! MADE BY PROGRAM (witnessworld.py) out of the Statement's table words and the real class files: 20 classes; the members and pool entries that the words name. The judged class is class 1, her method 2. -/
namespace start1
open Jvm.ClassFile
def u (s : String) : CpInfo := .utf8 (stringToUtf16 s)
/-- a pool by its gaps: so many unusable entries, then the entry; so many at the end -/
def gap : Nat → List CpInfo → List CpInfo
  | 0, r => r
  | n + 1, r => .unusable :: gap n r
def poolList (es : List (Nat × CpInfo)) (last : Nat) : List CpInfo := es.foldr (fun e r => gap e.1 (e.2 :: r)) (gap last [])
def pool (es : List (Nat × CpInfo)) (last : Nat) : Array CpInfo := ⟨poolList es last⟩
def fileOf (pool : Array CpInfo) (this : Nat) (attrs : Array Attribute := #[]) (ms : Array MethodInfo := #[]) (fl : Nat := 33) (sup : Nat := 0) (ifs : Array Nat := #[]) (fds : Array FieldInfo := #[]) : ClassFile where
  minorVersion := 0
  majorVersion := 65
  constantPool := pool
  accessFlags := fl
  thisClass := this
  superClass := sup
  interfaces := ifs
  fields := fds
  methods := ms
  attributes := attrs
def plain (name : String) (sup : Option ClassId) : Class where
  name := name
  kind := .ordinary
  loader := none
  accessFlags := 33
  super := sup
  interfaces := #[]
  cf := none
  fields := #[]
  methods := #[]
  instanceTypes := #[]
  staticTypes := #[]
  resolved := #[]
  callSites := []
  init := .initialized
  statics := none
  mirror := none

def pool0 : Array CpInfo := pool [(5, u "<init>"), (0, u "()V"), (1, .class_ 10), (1, u "java/lang/Object")] 113

def k0c0 : Code := { maxStack := 0, maxLocals := 1, code := object_method_1_code, exceptionTable := #[], attributes := #[] }
def k0m0 : Method := { name := "<init>", desc := "()V", sig := { parameters := [], returnType := none }, accessFlags := 1, code := some k0c0 }
/-- java/lang/Object -/
def k0 : Class := { plain "java/lang/Object" none with
  accessFlags := 33
  interfaces := #[]
  cf := some (fileOf pool0 8 #[] #[{ accessFlags := 1, nameIndex := 5, descriptorIndex := 6, attributes := #[] }] 33 0 #[] #[])
  fields := #[]
  methods := #[k0m0]
  instanceTypes := #[]
  staticTypes := #[]
  resolved := Array.replicate 124 none
  statics := none }

def pool1 : Array CpInfo := pool [(2, .class_ 4), (1, u "java/lang/Object"), (0, u "<init>"), (0, u "()V"), (0, .fieldref 8 9), (0, .class_ 10), (0, .nameAndType 11 12), (0, u "com/example/byteloom/byteloom/schema/Token$Kind"), (0, u "NAME"), (0, u "Lcom/example/byteloom/byteloom/schema/Token$Kind;"), (0, .fieldref 8 14), (0, .nameAndType 15 12), (0, u "NUMBER"), (0, .fieldref 8 17), (0, .nameAndType 18 12), (0, u "EQUALS"), (0, .fieldref 8 20), (0, .nameAndType 21 12), (0, u "LEFT_BRACE"), (0, .fieldref 8 23), (0, .nameAndType 24 12), (0, u "RIGHT_BRACE"), (0, .fieldref 8 26), (0, .nameAndType 27 12), (0, u "COLON"), (0, .fieldref 8 29), (0, .nameAndType 30 12), (0, u "COMMA"), (0, .fieldref 8 32), (0, .nameAndType 33 12), (0, u "QUESTION_MARK"), (0, .fieldref 8 35), (0, .nameAndType 36 12), (0, u "LEFT_BRACKET"), (0, .fieldref 8 38), (0, .nameAndType 39 12), (0, u "RIGHT_BRACKET"), (0, .fieldref 8 41), (0, .nameAndType 42 12), (0, u "DOT"), (0, .fieldref 8 44), (0, .nameAndType 45 12), (0, u "LINE_BREAK"), (0, .fieldref 8 47), (0, .nameAndType 48 12), (0, u "END"), (0, .integer 2147483647), (0, .methodref 51 52), (0, .class_ 53), (0, .nameAndType 54 55), (0, u "com/example/byteloom/byteloom/schema/TokenIsPinLaw"), (0, u "kindOf"), (0, u "(I)Lcom/example/byteloom/byteloom/schema/Token$Kind;"), (0, .methodref 57 58), (0, .class_ 59), (0, .nameAndType 60 61), (0, u "java/lang/String"), (0, u "valueOf"), (0, u "(C)Ljava/lang/String;"), (0, .class_ 63), (0, u "com/example/byteloom/byteloom/schema/Token"), (0, .class_ 65), (0, u "com/example/byteloom/byteloom/schema/Position"), (0, .methodref 64 67), (0, .nameAndType 5 68), (0, u "(II)V"), (0, .methodref 62 70), (0, .nameAndType 5 71), (0, u "(Lcom/example/byteloom/byteloom/schema/Token$Kind;Ljava/lang/String;Lcom/example/byteloom/byteloom/schema/Position;)V"), (0, .methodref 62 73), (0, .nameAndType 74 75), (0, u "is"), (0, u "(Lcom/example/byteloom/byteloom/schema/Token$Kind;)Z"), (3, u "law"), (0, u "(IIIII)Z")] 4

def k1m0 : Method := { name := "<init>", desc := "()V", sig := { parameters := [], returnType := none }, accessFlags := 1, code := none }
def k1c1 : Code := { maxStack := 2, maxLocals := 1, code := method_2_code, exceptionTable := #[], attributes := #[] }
def k1m1 : Method := { name := "kindOf", desc := "(I)Lcom/example/byteloom/byteloom/schema/Token$Kind;", sig := { parameters := [.int], returnType := some (.object "com/example/byteloom/byteloom/schema/Token$Kind") }, accessFlags := 10, code := some k1c1 }
def k1c2 : Code := { maxStack := 8, maxLocals := 11, code := code, exceptionTable := #[], attributes := #[] }
def k1m2 : Method := { name := "law", desc := "(IIIII)Z", sig := { parameters := [.int, .int, .int, .int, .int], returnType := some .boolean }, accessFlags := 9, code := some k1c2 }
/-- com/example/byteloom/byteloom/schema/TokenIsPinLaw -/
def k1 : Class := { plain "com/example/byteloom/byteloom/schema/TokenIsPinLaw" (some 0) with
  accessFlags := 49
  interfaces := #[]
  cf := some (fileOf pool1 51 #[] #[{ accessFlags := 1, nameIndex := 5, descriptorIndex := 6, attributes := #[] }, { accessFlags := 10, nameIndex := 54, descriptorIndex := 55, attributes := #[] }, { accessFlags := 9, nameIndex := 79, descriptorIndex := 80, attributes := #[] }] 49 2 #[] #[])
  fields := #[]
  methods := #[k1m0, k1m1, k1m2]
  instanceTypes := #[]
  staticTypes := #[]
  resolved := Array.replicate 85 none
  statics := none }

def pool2 : Array CpInfo := pool [(1, .class_ 2), (0, u "java/lang/constant/Constable"), (0, .class_ 4), (0, u "java/lang/Object")] 6

/-- java/lang/constant/Constable -/
def k2 : Class := { plain "java/lang/constant/Constable" (some 0) with
  accessFlags := 1537
  interfaces := #[]
  cf := some (fileOf pool2 1 #[] #[] 1537 3 #[] #[])
  fields := #[]
  methods := #[]
  instanceTypes := #[]
  staticTypes := #[]
  resolved := Array.replicate 11 none
  statics := none }

def pool3 : Array CpInfo := pool [(1, .class_ 2), (0, u "java/lang/Comparable"), (0, .class_ 4), (0, u "java/lang/Object")] 7

/-- java/lang/Comparable -/
def k3 : Class := { plain "java/lang/Comparable" (some 0) with
  accessFlags := 1537
  interfaces := #[]
  cf := some (fileOf pool3 1 #[] #[] 1537 3 #[] #[])
  fields := #[]
  methods := #[]
  instanceTypes := #[]
  staticTypes := #[]
  resolved := Array.replicate 12 none
  statics := none }

def pool4 : Array CpInfo := pool [(1, .class_ 2), (0, u "java/io/Serializable"), (0, .class_ 4), (0, u "java/lang/Object")] 2

/-- java/io/Serializable -/
def k4 : Class := { plain "java/io/Serializable" (some 0) with
  accessFlags := 1537
  interfaces := #[]
  cf := some (fileOf pool4 1 #[] #[] 1537 3 #[] #[])
  fields := #[]
  methods := #[]
  instanceTypes := #[]
  staticTypes := #[]
  resolved := Array.replicate 7 none
  statics := none }

def pool5 : Array CpInfo := pool [(2, .class_ 4), (1, u "java/lang/Enum"), (0, u "name"), (0, u "Ljava/lang/String;"), (2, u "ordinal"), (0, u "I"), (1, .class_ 14), (1, u "java/lang/Object"), (4, u "hash"), (86, .class_ 108), (1, u "java/lang/Enum$EnumDesc"), (2, .class_ 112), (0, u "java/lang/constant/Constable"), (0, .class_ 114), (0, u "java/lang/Comparable"), (0, .class_ 116), (0, u "java/io/Serializable")] 87

/-- java/lang/Enum -/
def k5 : Class := { plain "java/lang/Enum" (some 0) with
  accessFlags := 1057
  interfaces := #[2, 3, 4]
  cf := some (fileOf pool5 2 #[.nestMembers #[106]] #[] 1057 12 #[111, 113, 115] #[{ accessFlags := 18, nameIndex := 5, descriptorIndex := 6, attributes := #[] }, { accessFlags := 18, nameIndex := 9, descriptorIndex := 10, attributes := #[] }, { accessFlags := 2, nameIndex := 19, descriptorIndex := 10, attributes := #[] }])
  fields := #[{ name := "name", type := (.object "java/lang/String"), accessFlags := 18, slot := 0, constantValue := 0 }, { name := "ordinal", type := .int, accessFlags := 18, slot := 1, constantValue := 0 }, { name := "hash", type := .int, accessFlags := 2, slot := 2, constantValue := 0 }]
  methods := #[]
  instanceTypes := #[(.object "java/lang/String"), .int, .int]
  staticTypes := #[]
  resolved := Array.replicate 204 none
  statics := none }

def pool6 : Array CpInfo := pool [(1, .class_ 2), (0, u "com/example/byteloom/byteloom/schema/Token$Kind"), (2, u "NAME"), (0, u "Lcom/example/byteloom/byteloom/schema/Token$Kind;"), (2, u "NUMBER"), (2, u "EQUALS"), (2, u "LEFT_BRACE"), (2, u "RIGHT_BRACE"), (2, u "COLON"), (2, u "COMMA"), (2, u "QUESTION_MARK"), (2, u "LEFT_BRACKET"), (2, u "RIGHT_BRACKET"), (2, u "DOT"), (2, u "LINE_BREAK"), (2, u "END"), (2, u "$VALUES"), (0, u "[Lcom/example/byteloom/byteloom/schema/Token$Kind;"), (6, .class_ 55), (1, u "java/lang/Enum"), (36, .class_ 93), (0, u "com/example/byteloom/byteloom/schema/Token")] 2

/-- com/example/byteloom/byteloom/schema/Token$Kind -/
def k6 : Class := { plain "com/example/byteloom/byteloom/schema/Token$Kind" (some 5) with
  accessFlags := 16432
  interfaces := #[]
  cf := some (fileOf pool6 1 #[.nestHost 92] #[] 16432 53 #[] #[{ accessFlags := 16409, nameIndex := 5, descriptorIndex := 6, attributes := #[] }, { accessFlags := 16409, nameIndex := 9, descriptorIndex := 6, attributes := #[] }, { accessFlags := 16409, nameIndex := 12, descriptorIndex := 6, attributes := #[] }, { accessFlags := 16409, nameIndex := 15, descriptorIndex := 6, attributes := #[] }, { accessFlags := 16409, nameIndex := 18, descriptorIndex := 6, attributes := #[] }, { accessFlags := 16409, nameIndex := 21, descriptorIndex := 6, attributes := #[] }, { accessFlags := 16409, nameIndex := 24, descriptorIndex := 6, attributes := #[] }, { accessFlags := 16409, nameIndex := 27, descriptorIndex := 6, attributes := #[] }, { accessFlags := 16409, nameIndex := 30, descriptorIndex := 6, attributes := #[] }, { accessFlags := 16409, nameIndex := 33, descriptorIndex := 6, attributes := #[] }, { accessFlags := 16409, nameIndex := 36, descriptorIndex := 6, attributes := #[] }, { accessFlags := 16409, nameIndex := 39, descriptorIndex := 6, attributes := #[] }, { accessFlags := 16409, nameIndex := 42, descriptorIndex := 6, attributes := #[] }, { accessFlags := 4122, nameIndex := 45, descriptorIndex := 46, attributes := #[] }])
  fields := #[{ name := "NAME", type := (.object "com/example/byteloom/byteloom/schema/Token$Kind"), accessFlags := 16409, slot := 0, constantValue := 0 }, { name := "NUMBER", type := (.object "com/example/byteloom/byteloom/schema/Token$Kind"), accessFlags := 16409, slot := 1, constantValue := 0 }, { name := "EQUALS", type := (.object "com/example/byteloom/byteloom/schema/Token$Kind"), accessFlags := 16409, slot := 2, constantValue := 0 }, { name := "LEFT_BRACE", type := (.object "com/example/byteloom/byteloom/schema/Token$Kind"), accessFlags := 16409, slot := 3, constantValue := 0 }, { name := "RIGHT_BRACE", type := (.object "com/example/byteloom/byteloom/schema/Token$Kind"), accessFlags := 16409, slot := 4, constantValue := 0 }, { name := "COLON", type := (.object "com/example/byteloom/byteloom/schema/Token$Kind"), accessFlags := 16409, slot := 5, constantValue := 0 }, { name := "COMMA", type := (.object "com/example/byteloom/byteloom/schema/Token$Kind"), accessFlags := 16409, slot := 6, constantValue := 0 }, { name := "QUESTION_MARK", type := (.object "com/example/byteloom/byteloom/schema/Token$Kind"), accessFlags := 16409, slot := 7, constantValue := 0 }, { name := "LEFT_BRACKET", type := (.object "com/example/byteloom/byteloom/schema/Token$Kind"), accessFlags := 16409, slot := 8, constantValue := 0 }, { name := "RIGHT_BRACKET", type := (.object "com/example/byteloom/byteloom/schema/Token$Kind"), accessFlags := 16409, slot := 9, constantValue := 0 }, { name := "DOT", type := (.object "com/example/byteloom/byteloom/schema/Token$Kind"), accessFlags := 16409, slot := 10, constantValue := 0 }, { name := "LINE_BREAK", type := (.object "com/example/byteloom/byteloom/schema/Token$Kind"), accessFlags := 16409, slot := 11, constantValue := 0 }, { name := "END", type := (.object "com/example/byteloom/byteloom/schema/Token$Kind"), accessFlags := 16409, slot := 12, constantValue := 0 }, { name := "$VALUES", type := (.array (.object "com/example/byteloom/byteloom/schema/Token$Kind")), accessFlags := 4122, slot := 13, constantValue := 0 }]
  methods := #[]
  instanceTypes := #[(.object "java/lang/String"), .int, .int]
  staticTypes := #[(.object "com/example/byteloom/byteloom/schema/Token$Kind"), (.object "com/example/byteloom/byteloom/schema/Token$Kind"), (.object "com/example/byteloom/byteloom/schema/Token$Kind"), (.object "com/example/byteloom/byteloom/schema/Token$Kind"), (.object "com/example/byteloom/byteloom/schema/Token$Kind"), (.object "com/example/byteloom/byteloom/schema/Token$Kind"), (.object "com/example/byteloom/byteloom/schema/Token$Kind"), (.object "com/example/byteloom/byteloom/schema/Token$Kind"), (.object "com/example/byteloom/byteloom/schema/Token$Kind"), (.object "com/example/byteloom/byteloom/schema/Token$Kind"), (.object "com/example/byteloom/byteloom/schema/Token$Kind"), (.object "com/example/byteloom/byteloom/schema/Token$Kind"), (.object "com/example/byteloom/byteloom/schema/Token$Kind"), (.array (.object "com/example/byteloom/byteloom/schema/Token$Kind"))]
  resolved := Array.replicate 96 none
  statics := some 0 }

def pool7 : Array CpInfo := pool [(2, .class_ 4), (1, u "java/lang/CharSequence"), (42, .class_ 48), (0, u "java/lang/CharSequence$1CodePointIterator"), (10, .class_ 60), (0, u "java/lang/CharSequence$1CharIterator"), (5, .class_ 67), (0, u "java/lang/Object")] 63

/-- java/lang/CharSequence -/
def k7 : Class := { plain "java/lang/CharSequence" (some 0) with
  accessFlags := 1537
  interfaces := #[]
  cf := some (fileOf pool7 2 #[.nestMembers #[47, 59]] #[] 1537 66 #[] #[])
  fields := #[]
  methods := #[]
  instanceTypes := #[]
  staticTypes := #[]
  resolved := Array.replicate 131 none
  statics := none }

def pool8 : Array CpInfo := pool [(1, .class_ 2), (0, u "java/lang/constant/ConstantDesc"), (0, .class_ 4), (0, u "java/lang/Object")] 32

/-- java/lang/constant/ConstantDesc -/
def k8 : Class := { plain "java/lang/constant/ConstantDesc" (some 0) with
  accessFlags := 1537
  interfaces := #[]
  cf := some (fileOf pool8 1 #[] #[] 1537 3 #[] #[])
  fields := #[]
  methods := #[]
  instanceTypes := #[]
  staticTypes := #[]
  resolved := Array.replicate 37 none
  statics := none }

def pool9 : Array CpInfo := pool [(1, .methodref 2 3), (0, .class_ 4), (0, .nameAndType 5 6), (0, u "java/lang/Object"), (0, u "<init>"), (0, u "()V"), (2, .fieldref 10 11), (0, .class_ 12), (0, .nameAndType 13 14), (0, u "java/lang/String"), (0, u "value"), (0, u "[B"), (0, .fieldref 10 16), (0, .nameAndType 17 18), (0, u "coder"), (0, u "B"), (2, u "hash"), (0, u "I"), (2, u "hashIsZero"), (0, u "Z"), (11, .fieldref 10 39), (0, .nameAndType 40 26), (0, u "COMPACT_STRINGS"), (12, u "toBytes"), (53, .class_ 109), (1, u "java/lang/StringLatin1"), (99, .methodref 10 210), (0, .nameAndType 5 211), (0, u "([BB)V"), (157, u "(C)Z"), (205, .class_ 576), (0, u "java/lang/CharSequence"), (22, u "CASE_INSENSITIVE_ORDER"), (0, u "Ljava/util/Comparator;"), (181, u "valueOf"), (0, u "(C)Ljava/lang/String;"), (231, .methodref 107 1016), (0, .nameAndType 1017 369), (0, u "canEncode"), (0, .methodref 107 1019), (0, .nameAndType 53 1020), (0, u "(C)[B"), (80, u "serialPersistentFields"), (0, u "[Ljava/io/ObjectStreamField;"), (0, .class_ 1104), (0, u "java/lang/String$CaseInsensitiveComparator"), (1, .class_ 1107), (0, u "java/io/Serializable"), (0, .class_ 1109), (0, u "java/lang/Comparable"), (0, .class_ 1111), (0, u "java/lang/constant/Constable"), (0, .class_ 1113), (0, u "java/lang/constant/ConstantDesc"), (2, u "serialVersionUID"), (0, u "J"), (3, u "REPL"), (0, u "C"), (2, u "LATIN1"), (1, u "UTF16")] 323

def k9m0 : Method := { name := "<init>", desc := "()V", sig := { parameters := [], returnType := none }, accessFlags := 1, code := none }
def k9c1 : Code := { maxStack := 4, maxLocals := 1, code := jdk_42_method_139_code, exceptionTable := #[], attributes := #[] }
def k9m1 : Method := { name := "valueOf", desc := "(C)Ljava/lang/String;", sig := { parameters := [.char], returnType := some (.object "java/lang/String") }, accessFlags := 9, code := some k9c1 }
def k9c2 : Code := { maxStack := 2, maxLocals := 3, code := jdk_42_method_151_code, exceptionTable := #[], attributes := #[] }
def k9m2 : Method := { name := "<init>", desc := "([BB)V", sig := { parameters := [(.array .byte), .byte], returnType := none }, accessFlags := 0, code := some k9c2 }
/-- java/lang/String -/
def k9 : Class := { plain "java/lang/String" (some 0) with
  accessFlags := 49
  interfaces := #[4, 3, 7, 2, 8]
  cf := some (fileOf pool9 10 #[.nestMembers #[1103]] #[{ accessFlags := 1, nameIndex := 5, descriptorIndex := 6, attributes := #[] }, { accessFlags := 9, nameIndex := 782, descriptorIndex := 783, attributes := #[] }, { accessFlags := 0, nameIndex := 5, descriptorIndex := 211, attributes := #[] }] 49 2 #[1106, 1108, 575, 1110, 1112] #[{ accessFlags := 18, nameIndex := 13, descriptorIndex := 14, attributes := #[] }, { accessFlags := 18, nameIndex := 17, descriptorIndex := 18, attributes := #[] }, { accessFlags := 2, nameIndex := 21, descriptorIndex := 22, attributes := #[] }, { accessFlags := 2, nameIndex := 25, descriptorIndex := 26, attributes := #[] }, { accessFlags := 26, nameIndex := 1116, descriptorIndex := 1117, attributes := #[] }, { accessFlags := 24, nameIndex := 40, descriptorIndex := 26, attributes := #[] }, { accessFlags := 26, nameIndex := 1101, descriptorIndex := 1102, attributes := #[] }, { accessFlags := 26, nameIndex := 1121, descriptorIndex := 1122, attributes := #[] }, { accessFlags := 25, nameIndex := 599, descriptorIndex := 600, attributes := #[] }, { accessFlags := 24, nameIndex := 1125, descriptorIndex := 18, attributes := #[] }, { accessFlags := 24, nameIndex := 1127, descriptorIndex := 18, attributes := #[] }])
  fields := #[{ name := "value", type := (.array .byte), accessFlags := 18, slot := 0, constantValue := 0 }, { name := "coder", type := .byte, accessFlags := 18, slot := 1, constantValue := 0 }, { name := "hash", type := .int, accessFlags := 2, slot := 2, constantValue := 0 }, { name := "hashIsZero", type := .boolean, accessFlags := 2, slot := 3, constantValue := 0 }, { name := "serialVersionUID", type := .long, accessFlags := 26, slot := 0, constantValue := 0 }, { name := "COMPACT_STRINGS", type := .boolean, accessFlags := 24, slot := 1, constantValue := 0 }, { name := "serialPersistentFields", type := (.array (.object "java/io/ObjectStreamField")), accessFlags := 26, slot := 2, constantValue := 0 }, { name := "REPL", type := .char, accessFlags := 26, slot := 3, constantValue := 0 }, { name := "CASE_INSENSITIVE_ORDER", type := (.object "java/util/Comparator"), accessFlags := 25, slot := 4, constantValue := 0 }, { name := "LATIN1", type := .byte, accessFlags := 24, slot := 5, constantValue := 0 }, { name := "UTF16", type := .byte, accessFlags := 24, slot := 6, constantValue := 0 }]
  methods := #[k9m0, k9m1, k9m2]
  instanceTypes := #[(.array .byte), .byte, .int, .boolean]
  staticTypes := #[.long, .boolean, (.array (.object "java/io/ObjectStreamField")), .char, (.object "java/util/Comparator"), .byte, .byte]
  resolved := Array.replicate 1451 none
  statics := some 1 }

def pool10 : Array CpInfo := pool [(4, .class_ 6), (1, u "java/lang/Object"), (0, u "<init>"), (0, u "()V"), (5, .class_ 16), (1, u "java/lang/StringLatin1"), (73, u "canEncode"), (14, u "(C)Z"), (15, u "$assertionsDisabled"), (0, u "Z"), (98, .class_ 223), (1, u "java/lang/StringLatin1$LinesSpliterator"), (156, u "toBytes"), (1, u "(C)[B"), (7, .class_ 391), (0, u "java/lang/StringLatin1$CharsSpliterator")] 3

def k10m0 : Method := { name := "<init>", desc := "()V", sig := { parameters := [], returnType := none }, accessFlags := 0, code := none }
def k10c1 : Code := { maxStack := 2, maxLocals := 1, code := jdk_43_method_3_code, exceptionTable := #[], attributes := #[] }
def k10m1 : Method := { name := "canEncode", desc := "(C)Z", sig := { parameters := [.char], returnType := some .boolean }, accessFlags := 9, code := some k10c1 }
def k10c2 : Code := { maxStack := 4, maxLocals := 1, code := jdk_43_method_46_code, exceptionTable := #[], attributes := #[] }
def k10m2 : Method := { name := "toBytes", desc := "(C)[B", sig := { parameters := [.char], returnType := some (.array .byte) }, accessFlags := 9, code := some k10c2 }
/-- java/lang/StringLatin1 -/
def k10 : Class := { plain "java/lang/StringLatin1" (some 0) with
  accessFlags := 48
  interfaces := #[]
  cf := some (fileOf pool10 14 #[.nestMembers #[390, 221]] #[{ accessFlags := 0, nameIndex := 7, descriptorIndex := 8, attributes := #[] }, { accessFlags := 9, nameIndex := 90, descriptorIndex := 105, attributes := #[] }, { accessFlags := 9, nameIndex := 380, descriptorIndex := 382, attributes := #[] }] 48 4 #[] #[{ accessFlags := 4120, nameIndex := 121, descriptorIndex := 122, attributes := #[] }])
  fields := #[{ name := "$assertionsDisabled", type := .boolean, accessFlags := 4120, slot := 0, constantValue := 0 }]
  methods := #[k10m0, k10m1, k10m2]
  instanceTypes := #[]
  staticTypes := #[.boolean]
  resolved := Array.replicate 395 none
  statics := none }

def pool11 : Array CpInfo := pool [(1, .methodref 2 3), (0, .class_ 4), (0, .nameAndType 5 6), (0, u "java/lang/Object"), (0, u "<init>"), (0, u "()V"), (0, .fieldref 8 9), (0, .class_ 10), (0, .nameAndType 11 12), (0, u "com/example/byteloom/byteloom/schema/Token"), (0, u "kind"), (0, u "Lcom/example/byteloom/byteloom/schema/Token$Kind;"), (0, .fieldref 8 14), (0, .nameAndType 15 16), (0, u "text"), (0, u "Ljava/lang/String;"), (0, .fieldref 8 18), (0, .nameAndType 19 20), (0, u "position"), (0, u "Lcom/example/byteloom/byteloom/schema/Position;"), (1, .class_ 24), (1, u "com/example/byteloom/byteloom/schema/Token$Kind"), (12, u "(Lcom/example/byteloom/byteloom/schema/Token$Kind;Ljava/lang/String;Lcom/example/byteloom/byteloom/schema/Position;)V"), (5, u "is"), (0, u "(Lcom/example/byteloom/byteloom/schema/Token$Kind;)Z")] 23

def k11c0 : Code := { maxStack := 2, maxLocals := 4, code := prog_53_method_1_code, exceptionTable := #[], attributes := #[] }
def k11m0 : Method := { name := "<init>", desc := "(Lcom/example/byteloom/byteloom/schema/Token$Kind;Ljava/lang/String;Lcom/example/byteloom/byteloom/schema/Position;)V", sig := { parameters := [(.object "com/example/byteloom/byteloom/schema/Token$Kind"), (.object "java/lang/String"), (.object "com/example/byteloom/byteloom/schema/Position")], returnType := none }, accessFlags := 0, code := some k11c0 }
def k11c1 : Code := { maxStack := 2, maxLocals := 2, code := prog_53_method_5_code, exceptionTable := #[], attributes := #[] }
def k11m1 : Method := { name := "is", desc := "(Lcom/example/byteloom/byteloom/schema/Token$Kind;)Z", sig := { parameters := [(.object "com/example/byteloom/byteloom/schema/Token$Kind")], returnType := some .boolean }, accessFlags := 0, code := some k11c1 }
/-- com/example/byteloom/byteloom/schema/Token -/
def k11 : Class := { plain "com/example/byteloom/byteloom/schema/Token" (some 0) with
  accessFlags := 48
  interfaces := #[]
  cf := some (fileOf pool11 8 #[.nestMembers #[22]] #[{ accessFlags := 0, nameIndex := 5, descriptorIndex := 37, attributes := #[] }, { accessFlags := 0, nameIndex := 43, descriptorIndex := 44, attributes := #[] }] 48 2 #[] #[{ accessFlags := 18, nameIndex := 11, descriptorIndex := 12, attributes := #[] }, { accessFlags := 18, nameIndex := 15, descriptorIndex := 16, attributes := #[] }, { accessFlags := 18, nameIndex := 19, descriptorIndex := 20, attributes := #[] }])
  fields := #[{ name := "kind", type := (.object "com/example/byteloom/byteloom/schema/Token$Kind"), accessFlags := 18, slot := 0, constantValue := 0 }, { name := "text", type := (.object "java/lang/String"), accessFlags := 18, slot := 1, constantValue := 0 }, { name := "position", type := (.object "com/example/byteloom/byteloom/schema/Position"), accessFlags := 18, slot := 2, constantValue := 0 }]
  methods := #[k11m0, k11m1]
  instanceTypes := #[(.object "com/example/byteloom/byteloom/schema/Token$Kind"), (.object "java/lang/String"), (.object "com/example/byteloom/byteloom/schema/Position")]
  staticTypes := #[]
  resolved := Array.replicate 68 none
  statics := none }

def pool12 : Array CpInfo := pool [(1, .methodref 2 3), (0, .class_ 4), (0, .nameAndType 5 6), (0, u "java/lang/Object"), (0, u "<init>"), (0, u "()V"), (0, .fieldref 8 9), (0, .class_ 10), (0, .nameAndType 11 12), (0, u "com/example/byteloom/byteloom/schema/Position"), (0, u "line"), (0, u "I"), (0, .fieldref 8 14), (0, .nameAndType 15 12), (0, u "column"), (4, u "(II)V")] 22

def k12c0 : Code := { maxStack := 2, maxLocals := 3, code := prog_46_method_1_code, exceptionTable := #[], attributes := #[] }
def k12m0 : Method := { name := "<init>", desc := "(II)V", sig := { parameters := [.int, .int], returnType := none }, accessFlags := 0, code := some k12c0 }
/-- com/example/byteloom/byteloom/schema/Position -/
def k12 : Class := { plain "com/example/byteloom/byteloom/schema/Position" (some 0) with
  accessFlags := 49
  interfaces := #[]
  cf := some (fileOf pool12 8 #[] #[{ accessFlags := 0, nameIndex := 5, descriptorIndex := 20, attributes := #[] }] 49 2 #[] #[{ accessFlags := 18, nameIndex := 11, descriptorIndex := 12, attributes := #[] }, { accessFlags := 18, nameIndex := 15, descriptorIndex := 12, attributes := #[] }])
  fields := #[{ name := "line", type := .int, accessFlags := 18, slot := 0, constantValue := 0 }, { name := "column", type := .int, accessFlags := 18, slot := 1, constantValue := 0 }]
  methods := #[k12m0]
  instanceTypes := #[.int, .int]
  staticTypes := #[]
  resolved := Array.replicate 43 none
  statics := none }

def pool13 : Array CpInfo := pool [(2, .class_ 4), (1, u "java/lang/Object"), (0, u "<init>"), (0, u "()V"), (17, .class_ 26), (1, u "jdk/internal/util/Preconditions"), (28, .class_ 56), (0, u "jdk/internal/util/Preconditions$4"), (57, .class_ 115), (0, u "jdk/internal/util/Preconditions$1"), (7, u "SIOOBE_FORMATTER"), (0, u "Ljava/util/function/BiFunction;"), (0, .class_ 126), (0, u "jdk/internal/util/Preconditions$2"), (3, u "AIOOBE_FORMATTER"), (0, .class_ 132), (0, u "jdk/internal/util/Preconditions$3"), (3, u "IOOBE_FORMATTER")] 57

def k13m0 : Method := { name := "<init>", desc := "()V", sig := { parameters := [], returnType := none }, accessFlags := 1, code := none }
/-- jdk/internal/util/Preconditions -/
def k13 : Class := { plain "jdk/internal/util/Preconditions" (some 0) with
  accessFlags := 33
  interfaces := #[]
  cf := some (fileOf pool13 24 #[.nestMembers #[55, 131, 125, 114]] #[{ accessFlags := 1, nameIndex := 5, descriptorIndex := 6, attributes := #[] }] 33 2 #[] #[{ accessFlags := 25, nameIndex := 123, descriptorIndex := 124, attributes := #[] }, { accessFlags := 25, nameIndex := 130, descriptorIndex := 124, attributes := #[] }, { accessFlags := 25, nameIndex := 136, descriptorIndex := 124, attributes := #[] }])
  fields := #[{ name := "SIOOBE_FORMATTER", type := (.object "java/util/function/BiFunction"), accessFlags := 25, slot := 0, constantValue := 0 }, { name := "AIOOBE_FORMATTER", type := (.object "java/util/function/BiFunction"), accessFlags := 25, slot := 1, constantValue := 0 }, { name := "IOOBE_FORMATTER", type := (.object "java/util/function/BiFunction"), accessFlags := 25, slot := 2, constantValue := 0 }]
  methods := #[k13m0]
  instanceTypes := #[]
  staticTypes := #[(.object "java/util/function/BiFunction"), (.object "java/util/function/BiFunction"), (.object "java/util/function/BiFunction")]
  resolved := Array.replicate 194 none
  statics := some 2 }

def pool14 : Array CpInfo := pool [(9, u "<init>"), (6, .class_ 18), (1, u "java/lang/Object"), (0, u "()V"), (1, .class_ 23), (1, u "jdk/internal/util/ArraysSupport"), (0, u "LOG2_ARRAY_LONG_INDEX_SCALE"), (0, u "I"), (2, u "U"), (0, u "Ljdk/internal/misc/Unsafe;"), (8, u "BIG_ENDIAN"), (0, u "Z"), (8, u "LOG2_BYTE_BIT_SIZE"), (4, u "LOG2_ARRAY_INT_INDEX_SCALE"), (54, u "JLA"), (0, u "Ljdk/internal/access/JavaLangAccess;"), (11, u "LOG2_ARRAY_BOOLEAN_INDEX_SCALE"), (9, u "LOG2_ARRAY_BYTE_INDEX_SCALE"), (5, u "LOG2_ARRAY_CHAR_INDEX_SCALE"), (5, u "LOG2_ARRAY_SHORT_INDEX_SCALE"), (18, u "LOG2_ARRAY_FLOAT_INDEX_SCALE"), (24, u "LOG2_ARRAY_DOUBLE_INDEX_SCALE"), (89, u "T_BOOLEAN"), (2, u "T_CHAR"), (1, u "T_FLOAT"), (1, u "T_DOUBLE"), (1, u "T_BYTE"), (1, u "T_SHORT"), (1, u "T_INT"), (1, u "T_LONG"), (1, u "SOFT_MAX_ARRAY_LENGTH")] 83

def k14m0 : Method := { name := "<init>", desc := "()V", sig := { parameters := [], returnType := none }, accessFlags := 2, code := none }
/-- jdk/internal/util/ArraysSupport -/
def k14 : Class := { plain "jdk/internal/util/ArraysSupport" (some 0) with
  accessFlags := 33
  interfaces := #[]
  cf := some (fileOf pool14 21 #[] #[{ accessFlags := 2, nameIndex := 9, descriptorIndex := 19, attributes := #[] }] 33 16 #[] #[{ accessFlags := 24, nameIndex := 28, descriptorIndex := 29, attributes := #[] }, { accessFlags := 26, nameIndex := 38, descriptorIndex := 39, attributes := #[] }, { accessFlags := 25, nameIndex := 121, descriptorIndex := 25, attributes := #[] }, { accessFlags := 25, nameIndex := 131, descriptorIndex := 25, attributes := #[] }, { accessFlags := 25, nameIndex := 137, descriptorIndex := 25, attributes := #[] }, { accessFlags := 25, nameIndex := 143, descriptorIndex := 25, attributes := #[] }, { accessFlags := 25, nameIndex := 53, descriptorIndex := 25, attributes := #[] }, { accessFlags := 25, nameIndex := 24, descriptorIndex := 25, attributes := #[] }, { accessFlags := 25, nameIndex := 162, descriptorIndex := 25, attributes := #[] }, { accessFlags := 25, nameIndex := 187, descriptorIndex := 25, attributes := #[] }, { accessFlags := 26, nameIndex := 48, descriptorIndex := 25, attributes := #[] }, { accessFlags := 25, nameIndex := 277, descriptorIndex := 25, attributes := #[] }, { accessFlags := 25, nameIndex := 280, descriptorIndex := 25, attributes := #[] }, { accessFlags := 25, nameIndex := 282, descriptorIndex := 25, attributes := #[] }, { accessFlags := 25, nameIndex := 284, descriptorIndex := 25, attributes := #[] }, { accessFlags := 25, nameIndex := 286, descriptorIndex := 25, attributes := #[] }, { accessFlags := 25, nameIndex := 288, descriptorIndex := 25, attributes := #[] }, { accessFlags := 25, nameIndex := 290, descriptorIndex := 25, attributes := #[] }, { accessFlags := 25, nameIndex := 292, descriptorIndex := 25, attributes := #[] }, { accessFlags := 26, nameIndex := 108, descriptorIndex := 109, attributes := #[] }, { accessFlags := 25, nameIndex := 294, descriptorIndex := 25, attributes := #[] }])
  fields := #[{ name := "U", type := (.object "jdk/internal/misc/Unsafe"), accessFlags := 24, slot := 0, constantValue := 0 }, { name := "BIG_ENDIAN", type := .boolean, accessFlags := 26, slot := 1, constantValue := 0 }, { name := "LOG2_ARRAY_BOOLEAN_INDEX_SCALE", type := .int, accessFlags := 25, slot := 2, constantValue := 0 }, { name := "LOG2_ARRAY_BYTE_INDEX_SCALE", type := .int, accessFlags := 25, slot := 3, constantValue := 0 }, { name := "LOG2_ARRAY_CHAR_INDEX_SCALE", type := .int, accessFlags := 25, slot := 4, constantValue := 0 }, { name := "LOG2_ARRAY_SHORT_INDEX_SCALE", type := .int, accessFlags := 25, slot := 5, constantValue := 0 }, { name := "LOG2_ARRAY_INT_INDEX_SCALE", type := .int, accessFlags := 25, slot := 6, constantValue := 0 }, { name := "LOG2_ARRAY_LONG_INDEX_SCALE", type := .int, accessFlags := 25, slot := 7, constantValue := 0 }, { name := "LOG2_ARRAY_FLOAT_INDEX_SCALE", type := .int, accessFlags := 25, slot := 8, constantValue := 0 }, { name := "LOG2_ARRAY_DOUBLE_INDEX_SCALE", type := .int, accessFlags := 25, slot := 9, constantValue := 0 }, { name := "LOG2_BYTE_BIT_SIZE", type := .int, accessFlags := 26, slot := 10, constantValue := 0 }, { name := "T_BOOLEAN", type := .int, accessFlags := 25, slot := 11, constantValue := 0 }, { name := "T_CHAR", type := .int, accessFlags := 25, slot := 12, constantValue := 0 }, { name := "T_FLOAT", type := .int, accessFlags := 25, slot := 13, constantValue := 0 }, { name := "T_DOUBLE", type := .int, accessFlags := 25, slot := 14, constantValue := 0 }, { name := "T_BYTE", type := .int, accessFlags := 25, slot := 15, constantValue := 0 }, { name := "T_SHORT", type := .int, accessFlags := 25, slot := 16, constantValue := 0 }, { name := "T_INT", type := .int, accessFlags := 25, slot := 17, constantValue := 0 }, { name := "T_LONG", type := .int, accessFlags := 25, slot := 18, constantValue := 0 }, { name := "JLA", type := (.object "jdk/internal/access/JavaLangAccess"), accessFlags := 26, slot := 19, constantValue := 0 }, { name := "SOFT_MAX_ARRAY_LENGTH", type := .int, accessFlags := 25, slot := 20, constantValue := 0 }]
  methods := #[k14m0]
  instanceTypes := #[]
  staticTypes := #[(.object "jdk/internal/misc/Unsafe"), .boolean, .int, .int, .int, .int, .int, .int, .int, .int, .int, .int, .int, .int, .int, .int, .int, .int, .int, (.object "jdk/internal/access/JavaLangAccess"), .int]
  resolved := Array.replicate 378 none
  statics := none }

def pool15 : Array CpInfo := pool [(1, u "java/lang/Cloneable"), (0, .class_ 1), (0, u "java/lang/Object"), (0, .class_ 3)] 3

/-- java/lang/Cloneable -/
def k15 : Class := { plain "java/lang/Cloneable" (some 0) with
  accessFlags := 1537
  interfaces := #[]
  cf := some (fileOf pool15 2 #[] #[] 1537 4 #[] #[])
  fields := #[]
  methods := #[]
  instanceTypes := #[]
  staticTypes := #[]
  resolved := Array.replicate 8 none
  statics := none }

/-- the primitive byte -/
def k16 : Class := { plain "byte" none with kind := .primitive 'B', accessFlags := 0x411 }
/-- [B -/
def k17 : Class := { plain "[B" (some 0) with kind := .array 16 .byte, interfaces := #[15, 4], accessFlags := 1041 }

/-- the primitive int -/
def k18 : Class := { plain "int" none with kind := .primitive 'I', accessFlags := 0x411 }
/-- [I -/
def k19 : Class := { plain "[I" (some 0) with kind := .array 18 .int, interfaces := #[15, 4], accessFlags := 1041 }

def heap : Heap := #[{ cls := 6, slots := #[.ref 3, .ref 8, .ref 7, .ref 4, .ref 5, .ref 11, .ref 13, .ref 9, .ref 14, .ref 6, .ref 10, .ref 12, .ref 15, .null], vm := .statics 6 },
  { cls := 9, slots := #[.long 0, .int 1, .null, .int 0, .null, .int 0, .int 0], vm := .statics 9 },
  { cls := 13, slots := #[.null, .null, .null], vm := .statics 13 },
  { cls := 6, slots := #[.null, .int 0, .int 0], vm := .none },
  { cls := 6, slots := #[.null, .int 3, .int 0], vm := .none },
  { cls := 6, slots := #[.null, .int 4, .int 0], vm := .none },
  { cls := 6, slots := #[.null, .int 9, .int 0], vm := .none },
  { cls := 6, slots := #[.null, .int 2, .int 0], vm := .none },
  { cls := 6, slots := #[.null, .int 1, .int 0], vm := .none },
  { cls := 6, slots := #[.null, .int 7, .int 0], vm := .none },
  { cls := 6, slots := #[.null, .int 10, .int 0], vm := .none },
  { cls := 6, slots := #[.null, .int 5, .int 0], vm := .none },
  { cls := 6, slots := #[.null, .int 11, .int 0], vm := .none },
  { cls := 6, slots := #[.null, .int 6, .int 0], vm := .none },
  { cls := 6, slots := #[.null, .int 8, .int 0], vm := .none },
  { cls := 6, slots := #[.null, .int 12, .int 0], vm := .none }]
def classes : Array Class := #[k0, k1, k2, k3, k4, k5, k6, k7, k8, k9, k10, k11, k12, k13, k14, k15, k16, k17, k18, k19]
def interned : List (Array UInt16 × Addr) := []
def slotsUsed : Nat := 63
def theMethod : MethodId := ⟨1, 2⟩
def args0 : Array Value := #[.int 2, .int 6, .int 7, .int 8, .int 9]
def aboutOver (below : List Frame) : State where
  vm := { classes := classes, interned := interned.toArray }
  heap := heap
  slotsUsed := slotsUsed
  threads := #[{ frames := .invoking theMethod args0 :: below }]
def below0 : List Frame := [.native { method := ⟨0, 0⟩, args := #[] }]
def about1 : State := aboutOver below0
def p0 : Program := .bare "" "" ""
def e0 : Env := launch0.env 0 0 0
theorem w_frames : about1.frames = Frame.invoking theMethod args0 :: below0 := rfl
set_option maxRecDepth 65536 in
theorem w_args : argsFit about1.vm theMethod args0 = true := by decide +kernel
set_option maxRecDepth 65536 in
theorem w_heap : heapFits about1 = true := by decide +kernel
set_option maxRecDepth 65536 in
theorem w_runnable : about1.curStatus? = some .runnable := by decide +kernel
set_option maxRecDepth 65536 in
theorem w_alone : about1.alone = true := by decide +kernel
set_option maxRecDepth 65536 in
theorem w_named : about1.methodNamed? x = some theMethod := by decide +kernel
set_option maxRecDepth 65536 in
theorem w_hears : about1.hears theMethod below0 = true := by decide +kernel
set_option maxRecDepth 65536 in
theorem w_ripe : about1.ripe theMethod args0 below0 = true := by decide +kernel
theorem w_running : about1.status = .running := rfl
set_option maxRecDepth 65536 in
theorem w_room : about1.hasRoom e0.platform room_1 = true :=
  launch0.hasRoom_least _ room_1 (by decide +kernel) (by decide +kernel) (by decide +kernel) (by decide +kernel) (by decide +kernel) (by decide +kernel)
theorem allAtoms_all (ts : List Jvm.Cond) (a : Array Jvm.Value) (st : Jvm.State) : (allAtoms ts).before a st = ts.all (fun c => c.before a st) := by
  induction ts with
  | nil => rfl
  | cons c t ih =>
    show (Jvm.Cond.and c (allAtoms t)).before a st = _
    rw [Jvm.Cond.before_and, ih, List.all_cons]
def words1 : List Jvm.Cond := Jvm.Cond.code x code maxLocals ret :: tables_1
/-- a 'code' word, met by the world's own term for the bytes: nothing is compared byte by byte -/
theorem code_word {y : MethodName} {bytes : ByteArray} {mx : Nat} {rt : Option FieldType} {a : Array Value} {s : State} {m : MethodId} {meth : Method} {c : Code} (h1 : s.methodNamed? y = some m) (h2 : s.vm.method? m = some meth) (h3 : meth.code = some c) (h4 : c.code = bytes)
    (h5 : (c.maxLocals == mx && c.exceptionTable.isEmpty && decide (c.maxStack ≤ mostOperands) && decide (meth.sig.returnType = rt) && !meth.locks && decide (parseMethodDescriptor y.desc = some meth.sig)) = true) : (Jvm.Cond.code y bytes mx rt).before a s = true := by
  simp only [Bool.and_eq_true, beq_iff_eq, Bool.not_eq_true', decide_eq_true_eq] at h5
  obtain ⟨⟨⟨⟨⟨g1, g2⟩, g3⟩, g4⟩, g5⟩, g6⟩ := h5
  simp [Cond.before, Cond.holds, Cond.value, h1, h2, h3, h4, g1, g2, g3, g4, g5, g6]
def isCode : Jvm.Cond → Bool
  | .code _ _ _ _ => true
  | _ => false
theorem all_split {L : List Jvm.Cond} {P : Jvm.Cond → Bool} (h1 : L.all (fun c => isCode c || P c) = true) (h2 : ∀ c ∈ L.filter isCode, P c = true) : L.all P = true := by
  refine List.all_eq_true.mpr fun c hc => ?_
  have h := List.all_eq_true.mp h1 c hc
  rcases Bool.eq_false_or_eq_true (isCode c) with hi | hi
  · exact h2 c (List.mem_filter.mpr ⟨hc, hi⟩)
  · simpa [hi] using h
set_option maxRecDepth 65536 in
theorem w_c0 : (Jvm.Cond.code x code maxLocals ret).before args0 about1 = true := code_word (m := ⟨1, 2⟩) (meth := k1m2) (c := k1c2) (by decide +kernel) rfl rfl rfl (by decide +kernel)
set_option maxRecDepth 65536 in
theorem w_c1 : (Jvm.Cond.code ({ cls := "com/example/byteloom/byteloom/schema/TokenIsPinLaw", name := "kindOf", desc := "(I)Lcom/example/byteloom/byteloom/schema/Token$Kind;" } : Jvm.MethodName) method_2_code (1 : Nat) (Option.some (Jvm.ClassFile.FieldType.object "com/example/byteloom/byteloom/schema/Token$Kind"))).before args0 about1 = true := code_word (m := ⟨1, 1⟩) (meth := k1m1) (c := k1c1) (by decide +kernel) rfl rfl rfl (by decide +kernel)
set_option maxRecDepth 65536 in
theorem w_c2 : (Jvm.Cond.code ({ cls := "java/lang/String", name := "valueOf", desc := "(C)Ljava/lang/String;" } : Jvm.MethodName) jdk_42_method_139_code (1 : Nat) (Option.some (Jvm.ClassFile.FieldType.object "java/lang/String"))).before args0 about1 = true := code_word (m := ⟨9, 1⟩) (meth := k9m1) (c := k9c1) (by decide +kernel) rfl rfl rfl (by decide +kernel)
set_option maxRecDepth 65536 in
theorem w_c3 : (Jvm.Cond.code ({ cls := "java/lang/StringLatin1", name := "canEncode", desc := "(C)Z" } : Jvm.MethodName) jdk_43_method_3_code (1 : Nat) (Option.some Jvm.ClassFile.FieldType.boolean)).before args0 about1 = true := code_word (m := ⟨10, 1⟩) (meth := k10m1) (c := k10c1) (by decide +kernel) rfl rfl rfl (by decide +kernel)
set_option maxRecDepth 65536 in
theorem w_c4 : (Jvm.Cond.code ({ cls := "java/lang/StringLatin1", name := "toBytes", desc := "(C)[B" } : Jvm.MethodName) jdk_43_method_46_code (1 : Nat) (Option.some (Jvm.ClassFile.FieldType.array Jvm.ClassFile.FieldType.byte))).before args0 about1 = true := code_word (m := ⟨10, 2⟩) (meth := k10m2) (c := k10c2) (by decide +kernel) rfl rfl rfl (by decide +kernel)
set_option maxRecDepth 65536 in
theorem w_c5 : (Jvm.Cond.code ({ cls := "java/lang/String", name := "<init>", desc := "([BB)V" } : Jvm.MethodName) jdk_42_method_151_code (3 : Nat) (Option.none : Option Jvm.ClassFile.FieldType)).before args0 about1 = true := code_word (m := ⟨9, 2⟩) (meth := k9m2) (c := k9c2) (by decide +kernel) rfl rfl rfl (by decide +kernel)
set_option maxRecDepth 65536 in
theorem w_c6 : (Jvm.Cond.code ({ cls := "java/lang/Object", name := "<init>", desc := "()V" } : Jvm.MethodName) object_method_1_code (1 : Nat) (Option.none : Option Jvm.ClassFile.FieldType)).before args0 about1 = true := code_word (m := ⟨0, 0⟩) (meth := k0m0) (c := k0c0) (by decide +kernel) rfl rfl rfl (by decide +kernel)
set_option maxRecDepth 65536 in
theorem w_c7 : (Jvm.Cond.code ({ cls := "com/example/byteloom/byteloom/schema/Position", name := "<init>", desc := "(II)V" } : Jvm.MethodName) prog_46_method_1_code (3 : Nat) (Option.none : Option Jvm.ClassFile.FieldType)).before args0 about1 = true := code_word (m := ⟨12, 0⟩) (meth := k12m0) (c := k12c0) (by decide +kernel) rfl rfl rfl (by decide +kernel)
set_option maxRecDepth 65536 in
theorem w_c8 : (Jvm.Cond.code ({ cls := "com/example/byteloom/byteloom/schema/Token", name := "<init>", desc := "(Lcom/example/byteloom/byteloom/schema/Token$Kind;Ljava/lang/String;Lcom/example/byteloom/byteloom/schema/Position;)V" } : Jvm.MethodName) prog_53_method_1_code (4 : Nat) (Option.none : Option Jvm.ClassFile.FieldType)).before args0 about1 = true := code_word (m := ⟨11, 0⟩) (meth := k11m0) (c := k11c0) (by decide +kernel) rfl rfl rfl (by decide +kernel)
set_option maxRecDepth 65536 in
theorem w_c9 : (Jvm.Cond.code ({ cls := "com/example/byteloom/byteloom/schema/Token", name := "is", desc := "(Lcom/example/byteloom/byteloom/schema/Token$Kind;)Z" } : Jvm.MethodName) prog_53_method_5_code (2 : Nat) (Option.some Jvm.ClassFile.FieldType.boolean)).before args0 about1 = true := code_word (m := ⟨11, 1⟩) (meth := k11m1) (c := k11c1) (by decide +kernel) rfl rfl rfl (by decide +kernel)
def codes1 : List Jvm.Cond := [Jvm.Cond.code x code maxLocals ret, Jvm.Cond.code ({ cls := "com/example/byteloom/byteloom/schema/TokenIsPinLaw", name := "kindOf", desc := "(I)Lcom/example/byteloom/byteloom/schema/Token$Kind;" } : Jvm.MethodName) method_2_code (1 : Nat) (Option.some (Jvm.ClassFile.FieldType.object "com/example/byteloom/byteloom/schema/Token$Kind")), Jvm.Cond.code ({ cls := "java/lang/String", name := "valueOf", desc := "(C)Ljava/lang/String;" } : Jvm.MethodName) jdk_42_method_139_code (1 : Nat) (Option.some (Jvm.ClassFile.FieldType.object "java/lang/String")), Jvm.Cond.code ({ cls := "java/lang/StringLatin1", name := "canEncode", desc := "(C)Z" } : Jvm.MethodName) jdk_43_method_3_code (1 : Nat) (Option.some Jvm.ClassFile.FieldType.boolean), Jvm.Cond.code ({ cls := "java/lang/StringLatin1", name := "toBytes", desc := "(C)[B" } : Jvm.MethodName) jdk_43_method_46_code (1 : Nat) (Option.some (Jvm.ClassFile.FieldType.array Jvm.ClassFile.FieldType.byte)), Jvm.Cond.code ({ cls := "java/lang/String", name := "<init>", desc := "([BB)V" } : Jvm.MethodName) jdk_42_method_151_code (3 : Nat) (Option.none : Option Jvm.ClassFile.FieldType), Jvm.Cond.code ({ cls := "java/lang/Object", name := "<init>", desc := "()V" } : Jvm.MethodName) object_method_1_code (1 : Nat) (Option.none : Option Jvm.ClassFile.FieldType), Jvm.Cond.code ({ cls := "com/example/byteloom/byteloom/schema/Position", name := "<init>", desc := "(II)V" } : Jvm.MethodName) prog_46_method_1_code (3 : Nat) (Option.none : Option Jvm.ClassFile.FieldType), Jvm.Cond.code ({ cls := "com/example/byteloom/byteloom/schema/Token", name := "<init>", desc := "(Lcom/example/byteloom/byteloom/schema/Token$Kind;Ljava/lang/String;Lcom/example/byteloom/byteloom/schema/Position;)V" } : Jvm.MethodName) prog_53_method_1_code (4 : Nat) (Option.none : Option Jvm.ClassFile.FieldType), Jvm.Cond.code ({ cls := "com/example/byteloom/byteloom/schema/Token", name := "is", desc := "(Lcom/example/byteloom/byteloom/schema/Token$Kind;)Z" } : Jvm.MethodName) prog_53_method_5_code (2 : Nat) (Option.some Jvm.ClassFile.FieldType.boolean)]
set_option maxRecDepth 65536 in
theorem codes_eq : words1.filter isCode = codes1 := rfl
theorem w_codes : ∀ c ∈ words1.filter isCode, c.before args0 about1 = true := by
  rw [codes_eq]
  intro c hc
  simp only [codes1, List.mem_cons, List.not_mem_nil, or_false] at hc
  rcases hc with rfl | rfl | rfl | rfl | rfl | rfl | rfl | rfl | rfl | rfl
  · exact w_c0
  · exact w_c1
  · exact w_c2
  · exact w_c3
  · exact w_c4
  · exact w_c5
  · exact w_c6
  · exact w_c7
  · exact w_c8
  · exact w_c9
set_option maxRecDepth 65536 in
theorem w_t1 : (words1.take 24).all (fun c => isCode c || c.before args0 about1) = true := by decide +kernel
set_option maxRecDepth 65536 in
theorem w_t2 : ((words1.drop 24).take 24).all (fun c => isCode c || c.before args0 about1) = true := by decide +kernel
set_option maxRecDepth 65536 in
theorem w_t3 : (((words1.drop 24).drop 24).take 24).all (fun c => isCode c || c.before args0 about1) = true := by decide +kernel
set_option maxRecDepth 65536 in
theorem w_t4 : (((words1.drop 24).drop 24).drop 24).all (fun c => isCode c || c.before args0 about1) = true := by decide +kernel
theorem w_tables : (allAtoms (Jvm.Cond.code x code maxLocals ret :: tables_1)).before args0 about1 = true := by
  rw [allAtoms_all]
  show words1.all (fun c => c.before args0 about1) = true
  refine all_split ?_ w_codes
  rw [← List.take_append_drop 24 words1, List.all_append, w_t1, ← List.take_append_drop 24 (words1.drop 24), List.all_append, w_t2, ← List.take_append_drop 24 ((words1.drop 24).drop 24), List.all_append, w_t3, w_t4]
  rfl
set_option maxRecDepth 65536 in
theorem w_rest : rest_1_c.before args0 about1 = true := by decide +kernel
set_option maxRecDepth 65536 in
theorem w_case : (Jvm.Cond.and given_1 narrow_1).before args0 about1 = true := by decide +kernel
theorem w_applies : (headSpec (Jvm.Cond.code x code maxLocals ret :: tables_1) room_1).applies x e0.platform about1 = true :=
  (Spec.applies_iff w_frames).mpr ⟨w_running, w_runnable, w_alone, w_named, w_hears, w_ripe, w_room, w_tables⟩
theorem atStart : AtStart classFile x code maxLocals ret World_1 tables_1 room_1 Calls_1 rest_1 Pre_1 launch0 p0 e0 about1 theMethod args0 below0 :=
  ⟨lists_1, trivial, launch0.admits_env _ _ _, launch0.least_env, fairChoices_fair.cas, fairChoices_fair.clock, w_frames, w_args, w_heap, w_applies, trivial, w_rest, w_case⟩
end start1
theorem witness_1 : WitnessClaimed_1 := ⟨start1.p0, start1.e0, start1.about1, start1.theMethod, start1.args0, start1.below0, start1.atStart⟩
end Jvm.Pilot.@@N@@
