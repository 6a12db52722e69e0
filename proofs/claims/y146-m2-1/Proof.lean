import JvmDerived
import JvmDerived.Pilot.@@N@@Statement
import JvmDerived.Pilot.@@N@@Code
set_option linter.unusedVariables false
set_option linter.unusedSimpArgs false
namespace Jvm.RoadKit
open Sem ClassFile Op Lib Jvm.Stand Jvm.Free Jvm.LawKit
section New
variable {p : Program} {l : Launch} {e : Env} {R : Room} {s : State} {m : MethodId} {args : Array Value} {below : List Frame} {meth : Method} {c : Code} {T : State} {locs : List Loc} {cells slots : Nat}
theorem retI (X : Stand p l e R s m args below meth c T locs cells slots) (hx : p.tables.exec = Jvm.exec) {pc : Nat} {Ls : Array Slot} {z : Int32} {rest : List Value} (hret : meth.sig.returnType = some .int) (hd : decode c.code pc = .ok (.ireturn, 1)) {fs : List Frame}
    (hl : ∀ (f : JFrame) (acts : List Action), f.method = m → f.locked = none → f.entered = [] → (doReturn e (T.setTop f) acts (some (.int z))).1 = T.setFrames fs) : Steps p.tables e below (T.setTop (mkF m pc Ls (.int z :: rest))) (T.setFrames fs) := by
  have hm' : T.vm.method? m = some meth := X.method'
  have hn : narrow .int (.int z) = .int z := rfl
  show Steps p.tables e below (T.setTop { method := m, pc := pc, locals := Ls, stack := _ :: rest, locked := none }) _
  jvm_step X.here [X.here.top, hx, hd, hm', hret, hn]
  first | (intro acts; rw [hl _ acts rfl rfl rfl]) | rw [hl _ _ rfl rfl rfl]
  exact Steps.refl _
end New
end Jvm.RoadKit
namespace Jvm.OwnKit
open Jvm Jvm.ClassFile Sem Op Lib Jvm.Free Jvm.Stand Jvm.LawKit Jvm.RoadKit
/-- the walk comes to an end as Q says -/
def Go (p : Program) (e : Env) (below : List Frame) (F : Option Value → State → Prop) (S0 : State) : Prop :=
  ∃ (t : State) (o : Outcome), Steps p.tables e below S0 t ∧ t.status = .running ∧ Ended t below o ∧ ∃ v, o = .returned v ∧ F v t
/-- the end as a contract says it -/
def NF (s : State) (cs ss : Nat) (Q : Option Value → Heap → List Loc → Prop) : Option Value → State → Prop := fun v t => ∃ L, Q v t.heap L ∧ FrameEnd s (.returned v) t L cs ss
/-- where the walk stands: what is fixed for the whole body, the Stand, the heap -/
def Pos (p : Program) (l : Launch) (e : Env) (R : Room) (s : State) (m : MethodId) (args : Array Value) (below : List Frame) (meth : Method) (c : Code) (Z : State) (own : String) (bytes : ByteArray) (ml : Nat) (ret : Option FieldType) (nm : String) (T : State) (h : Heap) (locs : List Loc) (cells slots : Nat) : Prop :=
  (p.tables.exec = Jvm.exec ∧ Z.Warmed39 s.vm ∧ s.vm.findClass own = some m.cls ∧ c.code = bytes ∧ c.maxLocals = ml ∧ meth.sig.returnType = ret ∧ meth.locks = false ∧ meth.name = nm) ∧ Stand p l e R s m args below meth c T locs cells slots ∧ T.heap = h
def ushr (x y : Int32) : Int32 := (x.toUInt32 >>> (y &&& 31).toUInt32).toInt32
def ushrJ (x : Int64) (y : Int32) : Int64 := (x.toUInt64 >>> (y &&& 0x3f).toInt64.toUInt64).toInt64
def lcmpO (x y : Int64) : Int32 := if x > y then 1 else if x = y then 0 else -1
/-- a callee's contract, at one heap, for one list of arguments -/
abbrev OMeets (l : Launch) (Z : State) (y : MethodName) (bytes : ByteArray) (ml : Nat) (ret : Option FieldType) (rm : Room) (as' : Array Value) (h0 : Heap) (Q : Option Value → Heap → List Loc → Prop) : Prop :=
  MetFree l y (head1 [Jvm.Cond.code y bytes ml ret] rm) (fun a U => a = as' ∧ Z.Warmed39 U.vm ∧ U.heap = h0) (fun _ _ _ _ _ => True) (fun _ U o U' => ∃ v L, o = .returned v ∧ Q v U'.heap L ∧ FrameEnd U o U' L rm.cells rm.slots)
/-- it returns v and has moved nothing -/
def OPure (v0 : Option Value) (h0 : Heap) (v : Option Value) (h : Heap) (L : List Loc) : Prop := v = v0 ∧ h = h0 ∧ L = []
theorem wk {ws : List Jvm.Cond} {a0 : Array Value} {Z : State} (hw : ∀ d ∈ ws, d.before a0 Z = true) (i : Nat) {d : Jvm.Cond} (h : ws[i]? = some d) : d.before a0 Z = true := hw _ (List.mem_of_getElem? h)
section Own
variable {p : Program} {l : Launch} {e : Env} {R : Room} {s : State} {m : MethodId} {args : Array Value} {below : List Frame} {meth : Method} {c : Code} {Z : State} {own : String} {bytes : ByteArray} {ml : Nat} {ret : Option FieldType} {nm : String} {T : State} {h : Heap} {locs : List Loc} {cells slots : Nat} {cs ss : Nat} {Q : Option Value → Heap → List Loc → Prop} {FF : Option Value → State → Prop} {a0 : Array Value} {pc pc' : Nat} {Ls : Array Slot} {St : List Value}
theorem Pos.x (P : Pos p l e R s m args below meth c Z own bytes ml ret nm T h locs cells slots) : p.tables.exec = Jvm.exec := P.1.1
theorem Pos.z (P : Pos p l e R s m args below meth c Z own bytes ml ret nm T h locs cells slots) : Z.Warmed39 s.vm := P.1.2.1
theorem Pos.ow (P : Pos p l e R s m args below meth c Z own bytes ml ret nm T h locs cells slots) : s.vm.findClass own = some m.cls := P.1.2.2.1
theorem Pos.bt (P : Pos p l e R s m args below meth c Z own bytes ml ret nm T h locs cells slots) : c.code = bytes := P.1.2.2.2.1
theorem Pos.mx (P : Pos p l e R s m args below meth c Z own bytes ml ret nm T h locs cells slots) : c.maxLocals = ml := P.1.2.2.2.2.1
theorem Pos.rt (P : Pos p l e R s m args below meth c Z own bytes ml ret nm T h locs cells slots) : meth.sig.returnType = ret := P.1.2.2.2.2.2.1
theorem Pos.lk (P : Pos p l e R s m args below meth c Z own bytes ml ret nm T h locs cells slots) : meth.locks = false := P.1.2.2.2.2.2.2.1
theorem Pos.mn (P : Pos p l e R s m args below meth c Z own bytes ml ret nm T h locs cells slots) : meth.name = nm := P.1.2.2.2.2.2.2.2
theorem Pos.st (P : Pos p l e R s m args below meth c Z own bytes ml ret nm T h locs cells slots) : Stand p l e R s m args below meth c T locs cells slots := P.2.1
theorem Pos.eh (P : Pos p l e R s m args below meth c Z own bytes ml ret nm T h locs cells slots) : T.heap = h := P.2.2
theorem Pos.here (P : Pos p l e R s m args below meth c Z own bytes ml ret nm T h locs cells slots) : At T m c below := P.2.1.here
theorem Go.via {S0 S1 : State} (st : ∀ target, Steps p.tables e below S1 target → Steps p.tables e below S0 target) (k : Go p e below FF S1) : Go p e below FF S0 := by
  obtain ⟨t, o, h1, r⟩ := k
  exact ⟨t, o, st t h1, r⟩
theorem Go.come {S0 S1 : State} (st : Steps p.tables e below S0 S1) (k : Go p e below FF S1) : Go p e below FF S0 := by
  obtain ⟨t, o, h1, r⟩ := k
  exact ⟨t, o, st.trans h1, r⟩
theorem Go.dia {S0 S1 : State} (hh : Go p e below FF S1 → Go p e below FF S0) (kk : Go p e below FF S1) : Go p e below FF S0 := hh kk
theorem Go.all {ι : Type} {S0 : State} {A : ι → Prop} {S1 : ι → State} (hh : (∀ i, A i → Go p e below FF (S1 i)) → Go p e below FF S0) (kk : ∀ i, A i → Go p e below FF (S1 i)) : Go p e below FF S0 := hh kk
theorem sI {a b : Int32} (q : a = b) : some (Value.int a) = some (Value.int b) := by rw [q]
theorem sJ {a b : Int64} (q : a = b) : some (Value.long a) = some (Value.long b) := by rw [q]
theorem sR {a b : Addr} (q : a = b) : some (Value.ref a) = some (Value.ref b) := by rw [q]
theorem met {l : Launch} {Z : State} {y : MethodName} {bytes : ByteArray} {ml : Nat} {ret : Option FieldType} {ws : List Jvm.Cond} {rm : Room} {as' : Array Value} {h0 : Heap} {Ls : Array Slot} {Q : Option Value → Heap → List Loc → Prop} (hn : plainFor y = true) (hf : ∀ m, entryFrame m as' ml = mkF m 0 Ls [])
    (body : ∀ p e s m below meth c T, Pos p l e rm s m as' below meth c Z y.cls bytes ml ret y.name T h0 [] 0 0 → Go p e below (NF s rm.cells rm.slots Q) (T.setTop (mkF m 0 Ls []))) :
    MetFree l y (head1 (Jvm.Cond.code y bytes ml ret :: ws) rm) (fun a U => a = as' ∧ Z.Warmed39 U.vm ∧ U.heap = h0) (fun _ _ _ _ _ => True) (fun _ U o U' => ∃ v L, o = .returned v ∧ Q v U'.heap L ∧ FrameEnd U o U' L rm.cells rm.slots) := by
  refine MetFree.of_bodySF hn hisR ?_
  intro p e s m args below meth c s₁ Bd hml0 hP hK
  obtain ⟨rfl, hZ, hh⟩ := hP
  have X0 : Stand p l e rm s m args below meth c s₁ [] 0 0 := Stand.of_body Bd
  have e0 : s₁.heap = h0 := by rw [← hh, Bd.state]; rfl
  have hlk : meth.locks = false := by first | exact BodyLoose.notSynchronized Bd | exact Bd.locks
  have P : Pos p l e rm s m args below meth c Z y.cls bytes ml ret y.name s₁ h0 [] 0 0 := ⟨⟨Bd.exec, hZ, findClass_of_methodNamed Bd.named, Bd.bytes, hml0, Bd.returns, hlk, (name_of_methodNamed Bd.named Bd.method).1⟩, X0, e0⟩
  obtain ⟨t, o, h1, h2, h3, v, rfl, L, hQ, hF⟩ := body p e s m below meth c s₁ P
  exact ⟨t, _, castTop (hf m) h1, h2, h3, v, L, rfl, hQ, hF⟩
/-! ### plain steps -/
theorem G.aloadN (P : Pos p l e R s m args below meth c Z own bytes ml ret nm T h locs cells slots) {k : Fin 4} {v : Value} (hd : decode bytes pc = .ok (.aload_n k, 1)) (hl : Ls[k.val]? = some (.val v)) (hv : v.isRef = true) (hp : pc + 1 = pc') (kk : Go p e below FF (T.setTop (mkF m pc' Ls (v :: St)))) : Go p e below FF (T.setTop (mkF m pc Ls St)) := by
  subst hp; exact Go.via (fun _ => XS.aloadN P.here P.x rfl (hb P.bt hd) hl hv) kk
theorem G.iloadN (P : Pos p l e R s m args below meth c Z own bytes ml ret nm T h locs cells slots) {k : Fin 4} {v : Int32} (hd : decode bytes pc = .ok (.iload_n k, 1)) (hl : Ls[k.val]? = some (.val (.int v))) (hp : pc + 1 = pc') (kk : Go p e below FF (T.setTop (mkF m pc' Ls (.int v :: St)))) : Go p e below FF (T.setTop (mkF m pc Ls St)) := by
  subst hp; exact Go.via (fun _ => XS.iloadN P.here P.x rfl (hb P.bt hd) hl) kk
theorem G.lloadN (P : Pos p l e R s m args below meth c Z own bytes ml ret nm T h locs cells slots) {k : Fin 4} {v : Int64} (hd : decode bytes pc = .ok (.lload_n k, 1)) (hl : Ls[k.val]? = some (.val (.long v))) (hp : pc + 1 = pc') (kk : Go p e below FF (T.setTop (mkF m pc' Ls (.long v :: St)))) : Go p e below FF (T.setTop (mkF m pc Ls St)) := by
  subst hp; exact Go.via (fun _ => XS.lloadN P.here P.x rfl (hb P.bt hd) hl) kk
theorem G.istoreN (P : Pos p l e R s m args below meth c Z own bytes ml ret nm T h locs cells slots) {k : Fin 4} {x : Int32} {l' : Array Slot} (hd : decode bytes pc = .ok (.istore_n k, 1)) (hl : storeLocals Ls k.val (.int x) = some l') (hp : pc + 1 = pc') (kk : Go p e below FF (T.setTop (mkF m pc' l' St))) : Go p e below FF (T.setTop (mkF m pc Ls (.int x :: St))) := by
  subst hp; exact Go.via (fun _ => XS.istoreN P.here P.x rfl (hb P.bt hd) rfl hl) kk
theorem G.lstoreN (P : Pos p l e R s m args below meth c Z own bytes ml ret nm T h locs cells slots) {k : Fin 4} {x : Int64} {l' : Array Slot} (hd : decode bytes pc = .ok (.lstore_n k, 1)) (hl : storeLocals Ls k.val (.long x) = some l') (hp : pc + 1 = pc') (kk : Go p e below FF (T.setTop (mkF m pc' l' St))) : Go p e below FF (T.setTop (mkF m pc Ls (.long x :: St))) := by
  subst hp; exact Go.via (fun _ => XS.lstoreN P.here P.x rfl (hb P.bt hd) rfl hl) kk
theorem G.astoreN (P : Pos p l e R s m args below meth c Z own bytes ml ret nm T h locs cells slots) {k : Fin 4} {x : Value} {l' : Array Slot} (hd : decode bytes pc = .ok (.astore_n k, 1)) (hv : x.isRef = true) (hl : storeLocals Ls k.val x = some l') (hp : pc + 1 = pc') (kk : Go p e below FF (T.setTop (mkF m pc' l' St))) : Go p e below FF (T.setTop (mkF m pc Ls (x :: St))) := by
  subst hp; exact Go.via (fun _ => XS.astoreN P.here P.x rfl (hb P.bt hd) rfl hv hl) kk
theorem G.aload (P : Pos p l e R s m args below meth c Z own bytes ml ret nm T h locs cells slots) {k : Nat} {v : Value} (hd : decode bytes pc = .ok (.aload k, 2)) (hl : Ls[k]? = some (.val v)) (hv : v.isRef = true) (hp : pc + 2 = pc') (kk : Go p e below FF (T.setTop (mkF m pc' Ls (v :: St)))) : Go p e below FF (T.setTop (mkF m pc Ls St)) := by
  subst hp; exact Go.via (fun _ => XS.aload P.here P.x rfl (hb P.bt hd) hl hv) kk
theorem G.iload (P : Pos p l e R s m args below meth c Z own bytes ml ret nm T h locs cells slots) {k : Nat} {v : Int32} (hd : decode bytes pc = .ok (.iload k, 2)) (hl : Ls[k]? = some (.val (.int v))) (hp : pc + 2 = pc') (kk : Go p e below FF (T.setTop (mkF m pc' Ls (.int v :: St)))) : Go p e below FF (T.setTop (mkF m pc Ls St)) := by
  subst hp; exact Go.via (fun _ => XS.iload P.here P.x rfl (hb P.bt hd) hl) kk
theorem G.lload (P : Pos p l e R s m args below meth c Z own bytes ml ret nm T h locs cells slots) {k : Nat} {v : Int64} (hd : decode bytes pc = .ok (.lload k, 2)) (hl : Ls[k]? = some (.val (.long v))) (hp : pc + 2 = pc') (kk : Go p e below FF (T.setTop (mkF m pc' Ls (.long v :: St)))) : Go p e below FF (T.setTop (mkF m pc Ls St)) := by
  subst hp; exact Go.via (fun _ => XS.lload P.here P.x rfl (hb P.bt hd) hl) kk
theorem G.istore (P : Pos p l e R s m args below meth c Z own bytes ml ret nm T h locs cells slots) {k : Nat} {x : Int32} {l' : Array Slot} (hd : decode bytes pc = .ok (.istore k, 2)) (hl : storeLocals Ls k (.int x) = some l') (hp : pc + 2 = pc') (kk : Go p e below FF (T.setTop (mkF m pc' l' St))) : Go p e below FF (T.setTop (mkF m pc Ls (.int x :: St))) := by
  subst hp; exact Go.via (fun _ => XS.istore P.here P.x rfl (hb P.bt hd) rfl hl) kk
theorem G.lstore (P : Pos p l e R s m args below meth c Z own bytes ml ret nm T h locs cells slots) {k : Nat} {x : Int64} {l' : Array Slot} (hd : decode bytes pc = .ok (.lstore k, 2)) (hl : storeLocals Ls k (.long x) = some l') (hp : pc + 2 = pc') (kk : Go p e below FF (T.setTop (mkF m pc' l' St))) : Go p e below FF (T.setTop (mkF m pc Ls (.long x :: St))) := by
  subst hp; exact Go.via (fun _ => XS.lstore P.here P.x rfl (hb P.bt hd) rfl hl) kk
theorem G.astore (P : Pos p l e R s m args below meth c Z own bytes ml ret nm T h locs cells slots) {k : Nat} {x : Value} {l' : Array Slot} (hd : decode bytes pc = .ok (.astore k, 2)) (hv : x.isRef = true) (hl : storeLocals Ls k x = some l') (hp : pc + 2 = pc') (kk : Go p e below FF (T.setTop (mkF m pc' l' St))) : Go p e below FF (T.setTop (mkF m pc Ls (x :: St))) := by
  subst hp; exact Go.via (fun _ => XS.astore P.here P.x rfl (hb P.bt hd) rfl hv hl) kk
theorem G.iconst (P : Pos p l e R s m args below meth c Z own bytes ml ret nm T h locs cells slots) {i : Int} {z : Int32} (hd : decode bytes pc = .ok (.iconst i, 1)) (hz : Int32.ofInt i = z) (hp : pc + 1 = pc') (kk : Go p e below FF (T.setTop (mkF m pc' Ls (.int z :: St)))) : Go p e below FF (T.setTop (mkF m pc Ls St)) := by
  subst hp hz; exact Go.via (fun _ => XS.iconst P.here P.x rfl (hb P.bt hd) ) kk
theorem G.bipush (P : Pos p l e R s m args below meth c Z own bytes ml ret nm T h locs cells slots) {i : Int} {z : Int32} (hd : decode bytes pc = .ok (.bipush i, 2)) (hz : (Int8.ofInt i).toInt32 = z) (hp : pc + 2 = pc') (kk : Go p e below FF (T.setTop (mkF m pc' Ls (.int z :: St)))) : Go p e below FF (T.setTop (mkF m pc Ls St)) := by
  subst hp hz; exact Go.via (fun _ => XS.bipush P.here P.x rfl (hb P.bt hd) ) kk
theorem G.sipush (P : Pos p l e R s m args below meth c Z own bytes ml ret nm T h locs cells slots) {i : Int} {z : Int32} (hd : decode bytes pc = .ok (.sipush i, 3)) (hz : (Int16.ofInt i).toInt32 = z) (hp : pc + 3 = pc') (kk : Go p e below FF (T.setTop (mkF m pc' Ls (.int z :: St)))) : Go p e below FF (T.setTop (mkF m pc Ls St)) := by
  subst hp hz; exact Go.via (fun _ => XS.sipush P.here P.x rfl (hb P.bt hd) ) kk
theorem G.lconst (P : Pos p l e R s m args below meth c Z own bytes ml ret nm T h locs cells slots) {k : Fin 2} {z : Int64} (hd : decode bytes pc = .ok (.lconst k, 1)) (hz : Int64.ofNat k = z) (hp : pc + 1 = pc') (kk : Go p e below FF (T.setTop (mkF m pc' Ls (.long z :: St)))) : Go p e below FF (T.setTop (mkF m pc Ls St)) := by
  subst hp hz; exact Go.via (fun _ => XS.lconst P.here P.x rfl (hb P.bt hd) ) kk
theorem G.aconstNull (P : Pos p l e R s m args below meth c Z own bytes ml ret nm T h locs cells slots)  (hd : decode bytes pc = .ok (.aconst_null, 1))  (hp : pc + 1 = pc') (kk : Go p e below FF (T.setTop (mkF m pc' Ls (.null :: St)))) : Go p e below FF (T.setTop (mkF m pc Ls St)) := by
  subst hp; exact Go.via (fun _ => XS.aconstNull P.here P.x rfl (hb P.bt hd) ) kk
theorem G.iadd (P : Pos p l e R s m args below meth c Z own bytes ml ret nm T h locs cells slots) {x y z : Int32} (hd : decode bytes pc = .ok (.iadd, 1)) (hz : x + y = z) (hp : pc + 1 = pc') (kk : Go p e below FF (T.setTop (mkF m pc' Ls (.int z :: St)))) : Go p e below FF (T.setTop (mkF m pc Ls (.int y :: .int x :: St))) := by
  subst hp hz; exact Go.via (fun _ => XS.iadd P.here P.x rfl (hb P.bt hd) rfl) kk
theorem G.isub (P : Pos p l e R s m args below meth c Z own bytes ml ret nm T h locs cells slots) {x y z : Int32} (hd : decode bytes pc = .ok (.isub, 1)) (hz : x - y = z) (hp : pc + 1 = pc') (kk : Go p e below FF (T.setTop (mkF m pc' Ls (.int z :: St)))) : Go p e below FF (T.setTop (mkF m pc Ls (.int y :: .int x :: St))) := by
  subst hp hz; exact Go.via (fun _ => XS.isub P.here P.x rfl (hb P.bt hd) rfl) kk
theorem G.imul (P : Pos p l e R s m args below meth c Z own bytes ml ret nm T h locs cells slots) {x y z : Int32} (hd : decode bytes pc = .ok (.imul, 1)) (hz : x * y = z) (hp : pc + 1 = pc') (kk : Go p e below FF (T.setTop (mkF m pc' Ls (.int z :: St)))) : Go p e below FF (T.setTop (mkF m pc Ls (.int y :: .int x :: St))) := by
  subst hp hz; exact Go.via (fun _ => XS.imul P.here P.x rfl (hb P.bt hd) rfl) kk
theorem G.iand (P : Pos p l e R s m args below meth c Z own bytes ml ret nm T h locs cells slots) {x y z : Int32} (hd : decode bytes pc = .ok (.iand, 1)) (hz : x &&& y = z) (hp : pc + 1 = pc') (kk : Go p e below FF (T.setTop (mkF m pc' Ls (.int z :: St)))) : Go p e below FF (T.setTop (mkF m pc Ls (.int y :: .int x :: St))) := by
  subst hp hz; exact Go.via (fun _ => XS.iand P.here P.x rfl (hb P.bt hd) rfl) kk
theorem G.ior (P : Pos p l e R s m args below meth c Z own bytes ml ret nm T h locs cells slots) {x y z : Int32} (hd : decode bytes pc = .ok (.ior, 1)) (hz : x ||| y = z) (hp : pc + 1 = pc') (kk : Go p e below FF (T.setTop (mkF m pc' Ls (.int z :: St)))) : Go p e below FF (T.setTop (mkF m pc Ls (.int y :: .int x :: St))) := by
  subst hp hz; exact Go.via (fun _ => XS.ior P.here P.x rfl (hb P.bt hd) rfl) kk
theorem G.ixor (P : Pos p l e R s m args below meth c Z own bytes ml ret nm T h locs cells slots) {x y z : Int32} (hd : decode bytes pc = .ok (.ixor, 1)) (hz : x ^^^ y = z) (hp : pc + 1 = pc') (kk : Go p e below FF (T.setTop (mkF m pc' Ls (.int z :: St)))) : Go p e below FF (T.setTop (mkF m pc Ls (.int y :: .int x :: St))) := by
  subst hp hz; exact Go.via (fun _ => XS.ixor P.here P.x rfl (hb P.bt hd) rfl) kk
theorem G.ishl (P : Pos p l e R s m args below meth c Z own bytes ml ret nm T h locs cells slots) {x y z : Int32} (hd : decode bytes pc = .ok (.ishl, 1)) (hz : x <<< (y &&& 31) = z) (hp : pc + 1 = pc') (kk : Go p e below FF (T.setTop (mkF m pc' Ls (.int z :: St)))) : Go p e below FF (T.setTop (mkF m pc Ls (.int y :: .int x :: St))) := by
  subst hp hz; exact Go.via (fun _ => XS.ishl P.here P.x rfl (hb P.bt hd) rfl) kk
theorem G.ishr (P : Pos p l e R s m args below meth c Z own bytes ml ret nm T h locs cells slots) {x y z : Int32} (hd : decode bytes pc = .ok (.ishr, 1)) (hz : x >>> (y &&& 31) = z) (hp : pc + 1 = pc') (kk : Go p e below FF (T.setTop (mkF m pc' Ls (.int z :: St)))) : Go p e below FF (T.setTop (mkF m pc Ls (.int y :: .int x :: St))) := by
  subst hp hz; exact Go.via (fun _ => XS.ishr P.here P.x rfl (hb P.bt hd) rfl) kk
theorem G.iushr (P : Pos p l e R s m args below meth c Z own bytes ml ret nm T h locs cells slots) {x y z : Int32} (hd : decode bytes pc = .ok (.iushr, 1)) (hz : ushr x y = z) (hp : pc + 1 = pc') (kk : Go p e below FF (T.setTop (mkF m pc' Ls (.int z :: St)))) : Go p e below FF (T.setTop (mkF m pc Ls (.int y :: .int x :: St))) := by
  subst hp hz; exact Go.via (fun _ => XS.iushr P.here P.x rfl (hb P.bt hd) rfl) kk
theorem G.idiv (P : Pos p l e R s m args below meth c Z own bytes ml ret nm T h locs cells slots) {x y z : Int32} (hd : decode bytes pc = .ok (.idiv, 1)) (hy : y ≠ 0) (hz : x / y = z) (hp : pc + 1 = pc') (kk : Go p e below FF (T.setTop (mkF m pc' Ls (.int z :: St)))) : Go p e below FF (T.setTop (mkF m pc Ls (.int y :: .int x :: St))) := by
  subst hp hz; exact Go.via (fun _ => XS.idiv P.here P.x rfl (hb P.bt hd) rfl hy) kk
theorem G.ladd (P : Pos p l e R s m args below meth c Z own bytes ml ret nm T h locs cells slots) {x y z : Int64} (hd : decode bytes pc = .ok (.ladd, 1)) (hz : x + y = z) (hp : pc + 1 = pc') (kk : Go p e below FF (T.setTop (mkF m pc' Ls (.long z :: St)))) : Go p e below FF (T.setTop (mkF m pc Ls (.long y :: .long x :: St))) := by
  subst hp hz; exact Go.via (fun _ => XS.ladd P.here P.x rfl (hb P.bt hd) rfl) kk
theorem G.lsub (P : Pos p l e R s m args below meth c Z own bytes ml ret nm T h locs cells slots) {x y z : Int64} (hd : decode bytes pc = .ok (.lsub, 1)) (hz : x - y = z) (hp : pc + 1 = pc') (kk : Go p e below FF (T.setTop (mkF m pc' Ls (.long z :: St)))) : Go p e below FF (T.setTop (mkF m pc Ls (.long y :: .long x :: St))) := by
  subst hp hz; exact Go.via (fun _ => XS.lsub P.here P.x rfl (hb P.bt hd) rfl) kk
theorem G.lmul (P : Pos p l e R s m args below meth c Z own bytes ml ret nm T h locs cells slots) {x y z : Int64} (hd : decode bytes pc = .ok (.lmul, 1)) (hz : x * y = z) (hp : pc + 1 = pc') (kk : Go p e below FF (T.setTop (mkF m pc' Ls (.long z :: St)))) : Go p e below FF (T.setTop (mkF m pc Ls (.long y :: .long x :: St))) := by
  subst hp hz; exact Go.via (fun _ => XS.lmul P.here P.x rfl (hb P.bt hd) rfl) kk
theorem G.land (P : Pos p l e R s m args below meth c Z own bytes ml ret nm T h locs cells slots) {x y z : Int64} (hd : decode bytes pc = .ok (.land, 1)) (hz : x &&& y = z) (hp : pc + 1 = pc') (kk : Go p e below FF (T.setTop (mkF m pc' Ls (.long z :: St)))) : Go p e below FF (T.setTop (mkF m pc Ls (.long y :: .long x :: St))) := by
  subst hp hz; exact Go.via (fun _ => XS.land P.here P.x rfl (hb P.bt hd) rfl) kk
theorem G.lor (P : Pos p l e R s m args below meth c Z own bytes ml ret nm T h locs cells slots) {x y z : Int64} (hd : decode bytes pc = .ok (.lor, 1)) (hz : x ||| y = z) (hp : pc + 1 = pc') (kk : Go p e below FF (T.setTop (mkF m pc' Ls (.long z :: St)))) : Go p e below FF (T.setTop (mkF m pc Ls (.long y :: .long x :: St))) := by
  subst hp hz; exact Go.via (fun _ => XS.lor P.here P.x rfl (hb P.bt hd) rfl) kk
theorem G.lxor (P : Pos p l e R s m args below meth c Z own bytes ml ret nm T h locs cells slots) {x y z : Int64} (hd : decode bytes pc = .ok (.lxor, 1)) (hz : x ^^^ y = z) (hp : pc + 1 = pc') (kk : Go p e below FF (T.setTop (mkF m pc' Ls (.long z :: St)))) : Go p e below FF (T.setTop (mkF m pc Ls (.long y :: .long x :: St))) := by
  subst hp hz; exact Go.via (fun _ => XS.lxor P.here P.x rfl (hb P.bt hd) rfl) kk
theorem G.ldiv (P : Pos p l e R s m args below meth c Z own bytes ml ret nm T h locs cells slots) {x y z : Int64} (hd : decode bytes pc = .ok (.ldiv, 1)) (hy : y ≠ 0) (hz : x / y = z) (hp : pc + 1 = pc') (kk : Go p e below FF (T.setTop (mkF m pc' Ls (.long z :: St)))) : Go p e below FF (T.setTop (mkF m pc Ls (.long y :: .long x :: St))) := by
  subst hp hz; exact Go.via (fun _ => XS.ldiv P.here P.x rfl (hb P.bt hd) rfl hy) kk
theorem G.lushr (P : Pos p l e R s m args below meth c Z own bytes ml ret nm T h locs cells slots) {x z : Int64} {y : Int32} (hd : decode bytes pc = .ok (.lushr, 1)) (hz : ushrJ x y = z) (hp : pc + 1 = pc') (kk : Go p e below FF (T.setTop (mkF m pc' Ls (.long z :: St)))) : Go p e below FF (T.setTop (mkF m pc Ls (.int y :: .long x :: St))) := by
  subst hp hz; exact Go.via (fun _ => XS.lushr P.here P.x rfl (hb P.bt hd) rfl) kk
theorem G.lcmp (P : Pos p l e R s m args below meth c Z own bytes ml ret nm T h locs cells slots) {x y : Int64} {z : Int32} (hd : decode bytes pc = .ok (.lcmp, 1)) (hz : lcmpO x y = z) (hp : pc + 1 = pc') (kk : Go p e below FF (T.setTop (mkF m pc' Ls (.int z :: St)))) : Go p e below FF (T.setTop (mkF m pc Ls (.long y :: .long x :: St))) := by
  subst hp hz; exact Go.via (fun _ => XS.lcmp P.here P.x rfl (hb P.bt hd) rfl) kk
theorem G.ineg (P : Pos p l e R s m args below meth c Z own bytes ml ret nm T h locs cells slots) {x : Int32} {z : Int32} (hd : decode bytes pc = .ok (.ineg, 1)) (hz : -x = z) (hp : pc + 1 = pc') (kk : Go p e below FF (T.setTop (mkF m pc' Ls (.int z :: St)))) : Go p e below FF (T.setTop (mkF m pc Ls (.int x :: St))) := by
  subst hp hz; exact Go.via (fun _ => XS.ineg P.here P.x rfl (hb P.bt hd) rfl) kk
theorem G.i2b (P : Pos p l e R s m args below meth c Z own bytes ml ret nm T h locs cells slots) {x : Int32} {z : Int32} (hd : decode bytes pc = .ok (.i2b, 1)) (hz : x.toInt8.toInt32 = z) (hp : pc + 1 = pc') (kk : Go p e below FF (T.setTop (mkF m pc' Ls (.int z :: St)))) : Go p e below FF (T.setTop (mkF m pc Ls (.int x :: St))) := by
  subst hp hz; exact Go.via (fun _ => XS.i2b P.here P.x rfl (hb P.bt hd) rfl) kk
theorem G.i2c (P : Pos p l e R s m args below meth c Z own bytes ml ret nm T h locs cells slots) {x : Int32} {z : Int32} (hd : decode bytes pc = .ok (.i2c, 1)) (hz : x.toUInt32.toUInt16.toUInt32.toInt32 = z) (hp : pc + 1 = pc') (kk : Go p e below FF (T.setTop (mkF m pc' Ls (.int z :: St)))) : Go p e below FF (T.setTop (mkF m pc Ls (.int x :: St))) := by
  subst hp hz; exact Go.via (fun _ => XS.i2c P.here P.x rfl (hb P.bt hd) rfl) kk
theorem G.i2s (P : Pos p l e R s m args below meth c Z own bytes ml ret nm T h locs cells slots) {x : Int32} {z : Int32} (hd : decode bytes pc = .ok (.i2s, 1)) (hz : x.toInt16.toInt32 = z) (hp : pc + 1 = pc') (kk : Go p e below FF (T.setTop (mkF m pc' Ls (.int z :: St)))) : Go p e below FF (T.setTop (mkF m pc Ls (.int x :: St))) := by
  subst hp hz; exact Go.via (fun _ => XS.i2s P.here P.x rfl (hb P.bt hd) rfl) kk
theorem G.i2l (P : Pos p l e R s m args below meth c Z own bytes ml ret nm T h locs cells slots) {x : Int32} {z : Int64} (hd : decode bytes pc = .ok (.i2l, 1)) (hz : x.toInt64 = z) (hp : pc + 1 = pc') (kk : Go p e below FF (T.setTop (mkF m pc' Ls (.long z :: St)))) : Go p e below FF (T.setTop (mkF m pc Ls (.int x :: St))) := by
  subst hp hz; exact Go.via (fun _ => XS.i2l P.here P.x rfl (hb P.bt hd) rfl) kk
theorem G.l2i (P : Pos p l e R s m args below meth c Z own bytes ml ret nm T h locs cells slots) {x : Int64} {z : Int32} (hd : decode bytes pc = .ok (.l2i, 1)) (hz : x.toInt32 = z) (hp : pc + 1 = pc') (kk : Go p e below FF (T.setTop (mkF m pc' Ls (.int z :: St)))) : Go p e below FF (T.setTop (mkF m pc Ls (.long x :: St))) := by
  subst hp hz; exact Go.via (fun _ => XS.l2i P.here P.x rfl (hb P.bt hd) rfl) kk
theorem G.lneg (P : Pos p l e R s m args below meth c Z own bytes ml ret nm T h locs cells slots) {x : Int64} {z : Int64} (hd : decode bytes pc = .ok (.lneg, 1)) (hz : -x = z) (hp : pc + 1 = pc') (kk : Go p e below FF (T.setTop (mkF m pc' Ls (.long z :: St)))) : Go p e below FF (T.setTop (mkF m pc Ls (.long x :: St))) := by
  subst hp hz; exact Go.via (fun _ => XS.lneg P.here P.x rfl (hb P.bt hd) rfl) kk
theorem G.pop (P : Pos p l e R s m args below meth c Z own bytes ml ret nm T h locs cells slots) {x : Value} (hd : decode bytes pc = .ok (.pop, 1)) (hc : x.category = 1) (hp : pc + 1 = pc') (kk : Go p e below FF (T.setTop (mkF m pc' Ls St))) : Go p e below FF (T.setTop (mkF m pc Ls (x :: St))) := by
  subst hp; exact Go.via (fun _ => XS.pop P.here P.x rfl (hb P.bt hd) rfl hc) kk
theorem G.dup (P : Pos p l e R s m args below meth c Z own bytes ml ret nm T h locs cells slots) {x : Value} (hd : decode bytes pc = .ok (.dup, 1)) (hc : x.category = 1) (hp : pc + 1 = pc') (kk : Go p e below FF (T.setTop (mkF m pc' Ls (x :: x :: St)))) : Go p e below FF (T.setTop (mkF m pc Ls (x :: St))) := by
  subst hp; exact Go.via (fun _ => XS.dup P.here P.x rfl (hb P.bt hd) rfl hc) kk
theorem G.dupX1 (P : Pos p l e R s m args below meth c Z own bytes ml ret nm T h locs cells slots) {x y : Value} (hd : decode bytes pc = .ok (.dup_x1, 1)) (hc : x.category = 1) (hc2 : y.category = 1) (hp : pc + 1 = pc') (kk : Go p e below FF (T.setTop (mkF m pc' Ls (x :: y :: x :: St)))) : Go p e below FF (T.setTop (mkF m pc Ls (x :: y :: St))) := by
  subst hp; exact Go.via (fun _ => XS.dupX1 P.here P.x rfl (hb P.bt hd) rfl hc hc2) kk
theorem G.iinc (P : Pos p l e R s m args below meth c Z own bytes ml ret nm T h locs cells slots) {k : Nat} {cst : Int} {x z : Int32} {l' : Array Slot} (hd : decode bytes pc = .ok (.iinc k cst, 3)) (hl : Ls[k]? = some (.val (.int x))) (hz : x + Int32.ofInt cst = z) (hl' : storeLocals Ls k (.int z) = some l') (hp : pc + 3 = pc') (kk : Go p e below FF (T.setTop (mkF m pc' l' St))) : Go p e below FF (T.setTop (mkF m pc Ls St)) := by
  subst hp hz; exact Go.via (fun _ => XS.iinc P.here P.x rfl (hb P.bt hd) hl hl') kk
theorem G.dup2 (P : Pos p l e R s m args below meth c Z own bytes ml ret nm T h locs cells slots) {x y : Value} (hd : decode bytes pc = .ok (.dup2, 1)) (hc : x.category = 1) (hc2 : y.category = 1) (hp : pc + 1 = pc') (kk : Go p e below FF (T.setTop (mkF m pc' Ls (x :: y :: x :: y :: St)))) : Go p e below FF (T.setTop (mkF m pc Ls (x :: y :: St))) := by
  subst hp; exact Go.via (fun _ => XT.dup2 P.here P.x rfl (hb P.bt hd) rfl hc hc2) kk
theorem G.dupX2 (P : Pos p l e R s m args below meth c Z own bytes ml ret nm T h locs cells slots) {x y w : Value} (hd : decode bytes pc = .ok (.dup_x2, 1)) (hc : x.category = 1) (hc2 : y.category = 1) (hc3 : w.category = 1) (hp : pc + 1 = pc') (kk : Go p e below FF (T.setTop (mkF m pc' Ls (x :: y :: w :: x :: St)))) : Go p e below FF (T.setTop (mkF m pc Ls (x :: y :: w :: St))) := by
  subst hp
  refine Go.via (S1 := T.setTop (mkF m (pc + 1) Ls (x :: y :: w :: x :: St))) (fun target hr => ?_) kk
  have hd' := hb P.bt hd
  have hx := P.x
  show Steps p.tables e below (T.setTop { method := m, pc := pc, locals := Ls, stack := x :: y :: w :: St, locked := none }) _
  jvm_step P.here [P.here.top, hx, hd', hc, hc2, hc3]
  exact hr
theorem G.goto (P : Pos p l e R s m args below meth c Z own bytes ml ret nm T h locs cells slots) {o : Int} (hd : decode bytes pc = .ok (.goto o, 3)) (ho : 0 ≤ (pc : Int) + o) (hp : ((pc : Int) + o).toNat = pc') (kk : Go p e below FF (T.setTop (mkF m pc' Ls St))) : Go p e below FF (T.setTop (mkF m pc Ls St)) :=
  Go.via (fun _ => XS.goto P.here P.x rfl (pc0 := pc) rfl (hb P.bt hd) ho hp) kk
theorem G.irem (P : Pos p l e R s m args below meth c Z own bytes ml ret nm T h locs cells slots) {x y z : Int32} (hd : decode bytes pc = .ok (.irem, 1)) (hy : y ≠ 0) (hz : x % y = z) (hp : pc + 1 = pc') (kk : Go p e below FF (T.setTop (mkF m pc' Ls (.int z :: St)))) : Go p e below FF (T.setTop (mkF m pc Ls (.int y :: .int x :: St))) := by
  subst hp hz; exact Go.via (fun _ => iremM (g := mkF m pc Ls (.int y :: .int x :: St)) P.st P.x rfl (hb P.bt hd) rfl hy) kk
theorem G.ldcI (P : Pos p l e R s m args below meth c Z own bytes ml ret nm T h locs cells slots) {i : Nat} {v : Int32} (w : (Jvm.Cond.constant own i v).before a0 Z = true) (hd : decode bytes pc = .ok (.ldc i, 2)) (hp : pc + 2 = pc') (kk : Go p e below FF (T.setTop (mkF m pc' Ls (.int v :: St)))) : Go p e below FF (T.setTop (mkF m pc Ls St)) := by
  subst hp; exact Go.via (P.st.ldcInt P.x P.ow (mvT P.z w) (g := mkF m pc Ls St) rfl (hb P.bt hd)) kk
theorem G.ldcJ (P : Pos p l e R s m args below meth c Z own bytes ml ret nm T h locs cells slots) {i : Nat} {v : Int64} (w : (Jvm.Cond.constantLong own i v).before a0 Z = true) (hd : decode bytes pc = .ok (.ldc2_w i, 3)) (hp : pc + 3 = pc') (kk : Go p e below FF (T.setTop (mkF m pc' Ls (.long v :: St)))) : Go p e below FF (T.setTop (mkF m pc Ls St)) := by
  subst hp; exact Go.via (P.st.ldc2Long P.x P.ow (mvT P.z w) (g := mkF m pc Ls St) rfl (hb P.bt hd)) kk
/-! ### branches -/
theorem G.icmp (P : Pos p l e R s m args below meth c Z own bytes ml ret nm T h locs cells slots) {cd : ClassFile.Cond} {x y : Int32} {o : Int} {pcY pcN : Nat} (hd : decode bytes pc = .ok (.if_icmp cd o, 3)) (ho : 0 ≤ (pc : Int) + o) (hp : ((pc : Int) + o).toNat = pcY) (hn : pc + 3 = pcN)
    (hY : if_icmp.holds cd x y = true → Go p e below FF (T.setTop (mkF m pcY Ls St))) (hN : if_icmp.holds cd x y = false → Go p e below FF (T.setTop (mkF m pcN Ls St))) : Go p e below FF (T.setTop (mkF m pc Ls (.int y :: .int x :: St))) := by
  subst hn
  cases hc : if_icmp.holds cd x y
  · exact Go.via (fun _ => XS.icmpNo P.here P.x rfl (hb P.bt hd) rfl hc) (hN hc)
  · exact Go.via (fun _ => XS.icmpYes P.here P.x rfl (pc0 := pc) rfl (hb P.bt hd) rfl hc ho hp) (hY hc)
theorem G.if0 (P : Pos p l e R s m args below meth c Z own bytes ml ret nm T h locs cells slots) {cd : ClassFile.Cond} {x : Int32} {o : Int} {pcY pcN : Nat} (hd : decode bytes pc = .ok (.ifCond cd o, 3)) (ho : 0 ≤ (pc : Int) + o) (hp : ((pc : Int) + o).toNat = pcY) (hn : pc + 3 = pcN)
    (hY : if_icmp.holds cd x 0 = true → Go p e below FF (T.setTop (mkF m pcY Ls St))) (hN : if_icmp.holds cd x 0 = false → Go p e below FF (T.setTop (mkF m pcN Ls St))) : Go p e below FF (T.setTop (mkF m pc Ls (.int x :: St))) := by
  subst hn
  cases hc : if_icmp.holds cd x 0
  · exact Go.via (fun _ => XS.ifNo P.here P.x rfl (hb P.bt hd) rfl ((Jvm.RoadKit.if0 _ _).trans hc)) (hN hc)
  · exact Go.via (fun _ => XS.ifYes P.here P.x rfl (pc0 := pc) rfl (hb P.bt hd) rfl ((Jvm.RoadKit.if0 _ _).trans hc) ho hp) (hY hc)
theorem h_eq {x y : Int32} : (if_icmp.holds .eq x y = true → x = y) ∧ (if_icmp.holds .eq x y = false → ¬ x = y) := ⟨fun h => Classical.byContradiction fun q => (by rw [(feq q).1] at h; cases h), fun h q => (by rw [(teq q).1] at h; cases h)⟩
theorem h_ne {x y : Int32} : (if_icmp.holds .ne x y = true → ¬ x = y) ∧ (if_icmp.holds .ne x y = false → x = y) := ⟨fun h q => (by rw [(teq q).2] at h; cases h), fun h => Classical.byContradiction fun q => (by rw [(feq q).2] at h; cases h)⟩
theorem h_lt {x y : Int32} : (if_icmp.holds .lt x y = true → x < y) ∧ (if_icmp.holds .lt x y = false → ¬ x < y) := ⟨fun h => Classical.byContradiction fun q => (by rw [(flt q).1] at h; cases h), fun h q => (by rw [(tlt q).1] at h; cases h)⟩
theorem h_ge {x y : Int32} : (if_icmp.holds .ge x y = true → ¬ x < y) ∧ (if_icmp.holds .ge x y = false → x < y) := ⟨fun h q => (by rw [(tlt q).2.1] at h; cases h), fun h => Classical.byContradiction fun q => (by rw [(flt q).2.1] at h; cases h)⟩
theorem h_gt {x y : Int32} : (if_icmp.holds .gt x y = true → y < x) ∧ (if_icmp.holds .gt x y = false → ¬ y < x) := ⟨fun h => Classical.byContradiction fun q => (by rw [(flt q).2.2.1] at h; cases h), fun h q => (by rw [(tlt q).2.2.1] at h; cases h)⟩
theorem h_le {x y : Int32} : (if_icmp.holds .le x y = true → ¬ y < x) ∧ (if_icmp.holds .le x y = false → y < x) := ⟨fun h q => (by rw [(tlt q).2.2.2] at h; cases h), fun h => Classical.byContradiction fun q => (by rw [(flt q).2.2.2] at h; cases h)⟩
theorem G.icmp_eq (P : Pos p l e R s m args below meth c Z own bytes ml ret nm T h locs cells slots) {x y : Int32} {o : Int} {pcY pcN : Nat} (hd : decode bytes pc = .ok (.if_icmp .eq o, 3)) (ho : 0 ≤ (pc : Int) + o) (hp : ((pc : Int) + o).toNat = pcY) (hn : pc + 3 = pcN) (hY : x = y → Go p e below FF (T.setTop (mkF m pcY Ls St))) (hN : ¬ x = y → Go p e below FF (T.setTop (mkF m pcN Ls St))) : Go p e below FF (T.setTop (mkF m pc Ls (.int y :: .int x :: St))) :=
  G.icmp P hd ho hp hn (fun q => hY (h_eq.1 q)) (fun q => hN (h_eq.2 q))
theorem G.if_eq (P : Pos p l e R s m args below meth c Z own bytes ml ret nm T h locs cells slots) {x : Int32} {o : Int} {pcY pcN : Nat} (hd : decode bytes pc = .ok (.ifCond .eq o, 3)) (ho : 0 ≤ (pc : Int) + o) (hp : ((pc : Int) + o).toNat = pcY) (hn : pc + 3 = pcN) (hY : x = 0 → Go p e below FF (T.setTop (mkF m pcY Ls St))) (hN : ¬ x = 0 → Go p e below FF (T.setTop (mkF m pcN Ls St))) : Go p e below FF (T.setTop (mkF m pc Ls (.int x :: St))) :=
  G.if0 P hd ho hp hn (fun q => hY (h_eq.1 q)) (fun q => hN (h_eq.2 q))
theorem G.icmp_ne (P : Pos p l e R s m args below meth c Z own bytes ml ret nm T h locs cells slots) {x y : Int32} {o : Int} {pcY pcN : Nat} (hd : decode bytes pc = .ok (.if_icmp .ne o, 3)) (ho : 0 ≤ (pc : Int) + o) (hp : ((pc : Int) + o).toNat = pcY) (hn : pc + 3 = pcN) (hY : ¬ x = y → Go p e below FF (T.setTop (mkF m pcY Ls St))) (hN : x = y → Go p e below FF (T.setTop (mkF m pcN Ls St))) : Go p e below FF (T.setTop (mkF m pc Ls (.int y :: .int x :: St))) :=
  G.icmp P hd ho hp hn (fun q => hY (h_ne.1 q)) (fun q => hN (h_ne.2 q))
theorem G.if_ne (P : Pos p l e R s m args below meth c Z own bytes ml ret nm T h locs cells slots) {x : Int32} {o : Int} {pcY pcN : Nat} (hd : decode bytes pc = .ok (.ifCond .ne o, 3)) (ho : 0 ≤ (pc : Int) + o) (hp : ((pc : Int) + o).toNat = pcY) (hn : pc + 3 = pcN) (hY : ¬ x = 0 → Go p e below FF (T.setTop (mkF m pcY Ls St))) (hN : x = 0 → Go p e below FF (T.setTop (mkF m pcN Ls St))) : Go p e below FF (T.setTop (mkF m pc Ls (.int x :: St))) :=
  G.if0 P hd ho hp hn (fun q => hY (h_ne.1 q)) (fun q => hN (h_ne.2 q))
theorem G.icmp_lt (P : Pos p l e R s m args below meth c Z own bytes ml ret nm T h locs cells slots) {x y : Int32} {o : Int} {pcY pcN : Nat} (hd : decode bytes pc = .ok (.if_icmp .lt o, 3)) (ho : 0 ≤ (pc : Int) + o) (hp : ((pc : Int) + o).toNat = pcY) (hn : pc + 3 = pcN) (hY : x < y → Go p e below FF (T.setTop (mkF m pcY Ls St))) (hN : ¬ x < y → Go p e below FF (T.setTop (mkF m pcN Ls St))) : Go p e below FF (T.setTop (mkF m pc Ls (.int y :: .int x :: St))) :=
  G.icmp P hd ho hp hn (fun q => hY (h_lt.1 q)) (fun q => hN (h_lt.2 q))
theorem G.if_lt (P : Pos p l e R s m args below meth c Z own bytes ml ret nm T h locs cells slots) {x : Int32} {o : Int} {pcY pcN : Nat} (hd : decode bytes pc = .ok (.ifCond .lt o, 3)) (ho : 0 ≤ (pc : Int) + o) (hp : ((pc : Int) + o).toNat = pcY) (hn : pc + 3 = pcN) (hY : x < 0 → Go p e below FF (T.setTop (mkF m pcY Ls St))) (hN : ¬ x < 0 → Go p e below FF (T.setTop (mkF m pcN Ls St))) : Go p e below FF (T.setTop (mkF m pc Ls (.int x :: St))) :=
  G.if0 P hd ho hp hn (fun q => hY (h_lt.1 q)) (fun q => hN (h_lt.2 q))
theorem G.icmp_ge (P : Pos p l e R s m args below meth c Z own bytes ml ret nm T h locs cells slots) {x y : Int32} {o : Int} {pcY pcN : Nat} (hd : decode bytes pc = .ok (.if_icmp .ge o, 3)) (ho : 0 ≤ (pc : Int) + o) (hp : ((pc : Int) + o).toNat = pcY) (hn : pc + 3 = pcN) (hY : ¬ x < y → Go p e below FF (T.setTop (mkF m pcY Ls St))) (hN : x < y → Go p e below FF (T.setTop (mkF m pcN Ls St))) : Go p e below FF (T.setTop (mkF m pc Ls (.int y :: .int x :: St))) :=
  G.icmp P hd ho hp hn (fun q => hY (h_ge.1 q)) (fun q => hN (h_ge.2 q))
theorem G.if_ge (P : Pos p l e R s m args below meth c Z own bytes ml ret nm T h locs cells slots) {x : Int32} {o : Int} {pcY pcN : Nat} (hd : decode bytes pc = .ok (.ifCond .ge o, 3)) (ho : 0 ≤ (pc : Int) + o) (hp : ((pc : Int) + o).toNat = pcY) (hn : pc + 3 = pcN) (hY : ¬ x < 0 → Go p e below FF (T.setTop (mkF m pcY Ls St))) (hN : x < 0 → Go p e below FF (T.setTop (mkF m pcN Ls St))) : Go p e below FF (T.setTop (mkF m pc Ls (.int x :: St))) :=
  G.if0 P hd ho hp hn (fun q => hY (h_ge.1 q)) (fun q => hN (h_ge.2 q))
theorem G.icmp_gt (P : Pos p l e R s m args below meth c Z own bytes ml ret nm T h locs cells slots) {x y : Int32} {o : Int} {pcY pcN : Nat} (hd : decode bytes pc = .ok (.if_icmp .gt o, 3)) (ho : 0 ≤ (pc : Int) + o) (hp : ((pc : Int) + o).toNat = pcY) (hn : pc + 3 = pcN) (hY : y < x → Go p e below FF (T.setTop (mkF m pcY Ls St))) (hN : ¬ y < x → Go p e below FF (T.setTop (mkF m pcN Ls St))) : Go p e below FF (T.setTop (mkF m pc Ls (.int y :: .int x :: St))) :=
  G.icmp P hd ho hp hn (fun q => hY (h_gt.1 q)) (fun q => hN (h_gt.2 q))
theorem G.if_gt (P : Pos p l e R s m args below meth c Z own bytes ml ret nm T h locs cells slots) {x : Int32} {o : Int} {pcY pcN : Nat} (hd : decode bytes pc = .ok (.ifCond .gt o, 3)) (ho : 0 ≤ (pc : Int) + o) (hp : ((pc : Int) + o).toNat = pcY) (hn : pc + 3 = pcN) (hY : 0 < x → Go p e below FF (T.setTop (mkF m pcY Ls St))) (hN : ¬ 0 < x → Go p e below FF (T.setTop (mkF m pcN Ls St))) : Go p e below FF (T.setTop (mkF m pc Ls (.int x :: St))) :=
  G.if0 P hd ho hp hn (fun q => hY (h_gt.1 q)) (fun q => hN (h_gt.2 q))
theorem G.icmp_le (P : Pos p l e R s m args below meth c Z own bytes ml ret nm T h locs cells slots) {x y : Int32} {o : Int} {pcY pcN : Nat} (hd : decode bytes pc = .ok (.if_icmp .le o, 3)) (ho : 0 ≤ (pc : Int) + o) (hp : ((pc : Int) + o).toNat = pcY) (hn : pc + 3 = pcN) (hY : ¬ y < x → Go p e below FF (T.setTop (mkF m pcY Ls St))) (hN : y < x → Go p e below FF (T.setTop (mkF m pcN Ls St))) : Go p e below FF (T.setTop (mkF m pc Ls (.int y :: .int x :: St))) :=
  G.icmp P hd ho hp hn (fun q => hY (h_le.1 q)) (fun q => hN (h_le.2 q))
theorem G.if_le (P : Pos p l e R s m args below meth c Z own bytes ml ret nm T h locs cells slots) {x : Int32} {o : Int} {pcY pcN : Nat} (hd : decode bytes pc = .ok (.ifCond .le o, 3)) (ho : 0 ≤ (pc : Int) + o) (hp : ((pc : Int) + o).toNat = pcY) (hn : pc + 3 = pcN) (hY : ¬ 0 < x → Go p e below FF (T.setTop (mkF m pcY Ls St))) (hN : 0 < x → Go p e below FF (T.setTop (mkF m pcN Ls St))) : Go p e below FF (T.setTop (mkF m pc Ls (.int x :: St))) :=
  G.if0 P hd ho hp hn (fun q => hY (h_le.1 q)) (fun q => hN (h_le.2 q))
theorem G.acmp_eq (P : Pos p l e R s m args below meth c Z own bytes ml ret nm T h locs cells slots) {a b : Addr} {o : Int} {pcY pcN : Nat} (hd : decode bytes pc = .ok (.if_acmp .eq o, 3)) (ho : 0 ≤ (pc : Int) + o) (hp : ((pc : Int) + o).toNat = pcY) (hn : pc + 3 = pcN)
    (hY : a = b → Go p e below FF (T.setTop (mkF m pcY Ls St))) (hN : ¬ a = b → Go p e below FF (T.setTop (mkF m pcN Ls St))) : Go p e below FF (T.setTop (mkF m pc Ls (.ref b :: .ref a :: St))) := by
  subst hn
  by_cases hc : a = b
  · refine Go.via (fun _ => XS.acmpYes P.here P.x rfl (pc0 := pc) rfl (hb P.bt hd) rfl ?_ ho hp) (hY hc)
    simp [if_acmp.holds, hc]
  · refine Go.via (fun _ => XS.acmpNo P.here P.x rfl (hb P.bt hd) rfl ?_) (hN hc)
    simp [if_acmp.holds, hc]
theorem G.acmp_ne (P : Pos p l e R s m args below meth c Z own bytes ml ret nm T h locs cells slots) {a b : Addr} {o : Int} {pcY pcN : Nat} (hd : decode bytes pc = .ok (.if_acmp .ne o, 3)) (ho : 0 ≤ (pc : Int) + o) (hp : ((pc : Int) + o).toNat = pcY) (hn : pc + 3 = pcN)
    (hY : ¬ a = b → Go p e below FF (T.setTop (mkF m pcY Ls St))) (hN : a = b → Go p e below FF (T.setTop (mkF m pcN Ls St))) : Go p e below FF (T.setTop (mkF m pc Ls (.ref b :: .ref a :: St))) := by
  subst hn
  by_cases hc : a = b
  · refine Go.via (fun _ => XS.acmpNo P.here P.x rfl (hb P.bt hd) rfl ?_) (hN hc)
    simp [if_acmp.holds, hc]
  · refine Go.via (fun _ => XS.acmpYes P.here P.x rfl (pc0 := pc) rfl (hb P.bt hd) rfl ?_ ho hp) (hY hc)
    simp [if_acmp.holds, hc]
theorem G.acmpNe (P : Pos p l e R s m args below meth c Z own bytes ml ret nm T h locs cells slots) {cd : ACond} {x y : Value} (h1 : x.isRef = true) (h2 : y.isRef = true) (hq : ¬ x = y) {o : Int} {pcT : Nat} (hd : decode bytes pc = .ok (.if_acmp cd o, 3)) (ho : 0 ≤ (pc : Int) + o) (hp : pcT = if acV cd false = true then ((pc : Int) + o).toNat else pc + 3)
    (kk : Go p e below FF (T.setTop (mkF m pcT Ls St))) : Go p e below FF (T.setTop (mkF m pc Ls (y :: x :: St))) :=
  Go.via (fun _ => Jvm.RoadKit.acmp (g := mkF m pc Ls (y :: x :: St)) P.st P.x rfl h1 h2 (pc0 := pc) rfl (hb P.bt hd) rfl (decide_eq_false hq) ho hp) kk
theorem G.acmpEq (P : Pos p l e R s m args below meth c Z own bytes ml ret nm T h locs cells slots) {cd : ACond} {x y : Value} (h1 : x.isRef = true) (h2 : y.isRef = true) (hq : x = y) {o : Int} {pcT : Nat} (hd : decode bytes pc = .ok (.if_acmp cd o, 3)) (ho : 0 ≤ (pc : Int) + o) (hp : pcT = if acV cd true = true then ((pc : Int) + o).toNat else pc + 3)
    (kk : Go p e below FF (T.setTop (mkF m pcT Ls St))) : Go p e below FF (T.setTop (mkF m pc Ls (y :: x :: St))) :=
  Go.via (fun _ => Jvm.RoadKit.acmp (g := mkF m pc Ls (y :: x :: St)) P.st P.x rfl h1 h2 (pc0 := pc) rfl (hb P.bt hd) rfl (decide_eq_true hq) ho hp) kk
theorem G.ifnullY (P : Pos p l e R s m args below meth c Z own bytes ml ret nm T h locs cells slots) {o : Int} (hd : decode bytes pc = .ok (.ifnull o, 3)) (ho : 0 ≤ (pc : Int) + o) (hp : ((pc : Int) + o).toNat = pc') (kk : Go p e below FF (T.setTop (mkF m pc' Ls St))) : Go p e below FF (T.setTop (mkF m pc Ls (.null :: St))) :=
  Go.via (fun _ => XS.ifnullYes P.here P.x rfl (pc0 := pc) rfl (hb P.bt hd) rfl ho hp) kk
theorem G.ifnullN (P : Pos p l e R s m args below meth c Z own bytes ml ret nm T h locs cells slots) {o : Int} {b : Addr} (hd : decode bytes pc = .ok (.ifnull o, 3)) (hp : pc + 3 = pc') (kk : Go p e below FF (T.setTop (mkF m pc' Ls St))) : Go p e below FF (T.setTop (mkF m pc Ls (.ref b :: St))) := by
  subst hp; exact Go.via (fun _ => XS.ifnullNo P.here P.x rfl (hb P.bt hd) rfl) kk
theorem G.ifnonnullY (P : Pos p l e R s m args below meth c Z own bytes ml ret nm T h locs cells slots) {o : Int} {b : Addr} (hd : decode bytes pc = .ok (.ifnonnull o, 3)) (ho : 0 ≤ (pc : Int) + o) (hp : ((pc : Int) + o).toNat = pc') (kk : Go p e below FF (T.setTop (mkF m pc' Ls St))) : Go p e below FF (T.setTop (mkF m pc Ls (.ref b :: St))) :=
  Go.via (fun _ => XS.ifnonnullYes P.here P.x rfl (pc0 := pc) rfl (hb P.bt hd) rfl ho hp) kk
theorem G.ifnonnullN (P : Pos p l e R s m args below meth c Z own bytes ml ret nm T h locs cells slots) {o : Int} (hd : decode bytes pc = .ok (.ifnonnull o, 3)) (hp : pc + 3 = pc') (kk : Go p e below FF (T.setTop (mkF m pc' Ls St))) : Go p e below FF (T.setTop (mkF m pc Ls (.null :: St))) := by
  subst hp; exact Go.via (fun _ => XS.ifnonnullNo P.here P.x rfl (hb P.bt hd) rfl) kk
/-! ### the heap -/
theorem G.getF (P : Pos p l e R s m args below meth c Z own bytes ml ret nm T h locs cells slots) {R0 O n d host : String} {i : Nat} (w : (Jvm.Cond.fieldLink own i R0 n d).before a0 Z = true ∨ (Jvm.Cond.fieldLinkNest own i R0 n d host).before a0 Z = true) (via : Via Z R0 O n d) {a : Addr} {v : Value} (F : Fld Z h a O n d v) (hd : decode bytes pc = .ok (.getfield i, 3)) (hp : pc + 3 = pc')
    (kk : ∀ T', Pos p l e R s m args below meth c Z own bytes ml ret nm T' h locs cells slots → Go p e below FF (T'.setTop (mkF m pc' Ls (v :: St)))) : Go p e below FF (T.setTop (mkF m pc Ls (.ref a :: St))) := by
  subst hp
  obtain ⟨T', X', e', st⟩ := Jvm.RoadKit.getF P.st P.x P.z P.ow w via P.eh F (g := mkF m pc Ls (.ref a :: St)) rfl rfl (hb P.bt hd)
  exact Go.via st (kk T' ⟨P.1, X', e'⟩)
theorem G.putF (P : Pos p l e R s m args below meth c Z own bytes ml ret nm T h locs cells slots) {R0 O n d host C : String} {i kn : Nat} {ty : FieldType} (w : (Jvm.Cond.fieldLink own i R0 n d).before a0 Z = true ∨ (Jvm.Cond.fieldLinkNest own i R0 n d host).before a0 Z = true) (via : Via Z R0 O n d) {a : Addr} {v old : Value} (F : Fld Z h a O n d old) (E : Exa Z h a C)
    (L : (Jvm.Cond.lays C O n d).before a0 Z = true ∨ ((Jvm.Cond.laysFinal C O n d).before a0 Z = true ∧ own = O ∧ nm = "<init>")) (wi : (Jvm.Cond.instantiable C kn).before a0 Z = true) (hty : parseFieldDescriptor d = some ty) (hn : narrow ty v = v) (hf : fits ty v = true) (hd : decode bytes pc = .ok (.putfield i, 3)) (hp : pc + 3 = pc')
    (kk : ∀ T' h', Pos p l e R s m args below meth c Z own bytes ml ret nm T' h' (locs ++ [⟨a, Jvm.RoadKit.slotOf Z O n d⟩]) cells slots → Wr h h' a (Jvm.RoadKit.slotOf Z O n d) v → Go p e below FF (T'.setTop (mkF m pc' Ls St))) : Go p e below FF (T.setTop (mkF m pc Ls (v :: .ref a :: St))) := by
  subst hp
  obtain ⟨T', h', X', e', W, st⟩ := Jvm.RoadKit.putF P.st P.x P.z P.ow w via P.eh F E (L.imp id fun q => ⟨q.1, q.2.1, P.mn.trans q.2.2⟩) wi hty hn hf (g := mkF m pc Ls (v :: .ref a :: St)) rfl rfl (hb P.bt hd)
  exact Go.via st (kk T' h' ⟨P.1, X', e'⟩ W)
theorem G.putFN (P : Pos p l e R s m args below meth c Z own bytes ml ret nm T h locs cells slots) {R0 O n d C : String} {i kn : Nat} {ty : FieldType} (w : (Jvm.Cond.fieldLink own i R0 n d).before a0 Z = true) (via : Via Z R0 O n d) {a : Addr} {v v' old : Value} (F : Fld Z h a O n d old) (E : Exa Z h a C)
    (L : (Jvm.Cond.lays C O n d).before a0 Z = true ∨ ((Jvm.Cond.laysFinal C O n d).before a0 Z = true ∧ own = O ∧ nm = "<init>")) (wi : (Jvm.Cond.instantiable C kn).before a0 Z = true) (hty : parseFieldDescriptor d = some ty) (hn : narrow ty v = v') (hf : fits ty v' = true) (hd : decode bytes pc = .ok (.putfield i, 3)) (hp : pc + 3 = pc')
    (kk : ∀ T' h', Pos p l e R s m args below meth c Z own bytes ml ret nm T' h' (locs ++ [⟨a, Jvm.RoadKit.slotOf Z O n d⟩]) cells slots → Wr h h' a (Jvm.RoadKit.slotOf Z O n d) v' → Go p e below FF (T'.setTop (mkF m pc' Ls St))) : Go p e below FF (T.setTop (mkF m pc Ls (v :: .ref a :: St))) := by
  subst hp
  obtain ⟨T', h', X', e', W, st⟩ := Jvm.RoadKit.putFN P.st P.x P.z P.ow w via P.eh F E (L.imp id fun q => ⟨q.1, q.2.1, P.mn.trans q.2.2⟩) wi hty hn hf (g := mkF m pc Ls (v :: .ref a :: St)) rfl rfl (hb P.bt hd)
  exact Go.via st (kk T' h' ⟨P.1, X', e'⟩ W)
theorem G.getS (P : Pos p l e R s m args below meth c Z own bytes ml ret nm T h locs cells slots) {R0 O n d host : String} {i : Nat} (w : (Jvm.Cond.fieldLink own i R0 n d).before a0 Z = true ∨ (Jvm.Cond.fieldLinkNest own i R0 n d host).before a0 Z = true) (via : Via Z R0 O n d) {v : Value} (F : Sta Z h O n d v) (hd : decode bytes pc = .ok (.getstatic i, 3)) (hp : pc + 3 = pc')
    (kk : ∀ T', Pos p l e R s m args below meth c Z own bytes ml ret nm T' h locs cells slots → Go p e below FF (T'.setTop (mkF m pc' Ls (v :: St)))) : Go p e below FF (T.setTop (mkF m pc Ls St)) := by
  subst hp
  obtain ⟨T', X', e', st⟩ := getS2 P.st P.x P.z P.ow w via P.eh F (g := mkF m pc Ls St) rfl (hb P.bt hd)
  exact Go.via st (kk T' ⟨P.1, X', e'⟩)
theorem G.newO (P : Pos p l e R s m args below meth c Z own bytes ml ret nm T h locs cells slots) {C : String} {i n : Nat} (w : (Jvm.Cond.classLink own i C).before a0 Z = true) (wi : (Jvm.Cond.instantiable C n).before a0 Z = true) (wz : (Jvm.Cond.initialized C).before a0 Z = true) (hd : decode bytes pc = .ok (.new i, 3)) (hro : cells + 1 ≤ R.cells ∧ slots + n ≤ R.slots) (hp : pc + 3 = pc')
    (kk : ∀ T' h' a, a = h.size → Pos p l e R s m args below meth c Z own bytes ml ret nm T' h' locs (cells + 1) (slots + n) → Ext h h' → Exa Z h' a C → (∀ {O fn d : String} {ty : FieldType}, Laid Z a0 C O fn d → parseFieldDescriptor d = some ty → Fld Z h' a O fn d (defaultValue ty)) → Go p e below FF (T'.setTop (mkF m pc' Ls (.ref a :: St)))) : Go p e below FF (T.setTop (mkF m pc Ls St)) := by
  subst hp
  obtain ⟨T', h', X', e', E, A, D, -, st⟩ := Jvm.RoadKit.newO P.st P.x P.z P.ow w wi wz P.eh (g := mkF m pc Ls St) rfl (hb P.bt hd) hro.1 hro.2
  exact Go.via st (kk T' h' h.size rfl ⟨P.1, X', e'⟩ E A D)
theorem G.newP (P : Pos p l e R s m args below meth c Z own bytes ml ret nm T h locs cells slots) {aty : ArrayType} (w : (Jvm.Cond.arrayClass (newarray.typeOf aty)).before a0 Z = true) {n : Int32} (hn : ¬ n < 0) {cap : Nat} (hcap : n.toNatClampNeg ≤ cap) (hbb : cap * 8 ≤ 536870912) (hro : cells + 1 ≤ R.cells ∧ slots + cap ≤ R.slots) (hd : decode bytes pc = .ok (.newarray aty, 2)) (hp : pc + 2 = pc')
    (kk : ∀ T' h' a k, a = h.size → Pos p l e R s m args below meth c Z own bytes ml ret nm T' h' locs (cells + 1) (slots + cap) → Ext h h' → Arv Z h' a k (newarray.typeOf aty) n [] (defaultValue (newarray.typeOf aty)) → Go p e below FF (T'.setTop (mkF m pc' Ls (.ref a :: St)))) : Go p e below FF (T.setTop (mkF m pc Ls (.int n :: St))) := by
  subst hp
  obtain ⟨T', h', k, X', e', E, A, st⟩ := Jvm.RoadKit.newP P.st P.x P.z w P.eh (g := mkF m pc Ls (.int n :: St)) rfl (hb P.bt hd) rfl hn hcap hbb hro.1 hro.2
  exact Go.via st (kk T' h' h.size k rfl ⟨P.1, X', e'⟩ E (Arv.new A hn))
theorem G.alen (P : Pos p l e R s m args below meth c Z own bytes ml ret nm T h locs cells slots) {a : Addr} {k : ClassId} {ty : FieldType} {z : Int32} {vs : List Value} {dv : Value} (V : Arv Z h a k ty z vs dv) (hd : decode bytes pc = .ok (.arraylength, 1)) (hp : pc + 1 = pc')
    (kk : Go p e below FF (T.setTop (mkF m pc' Ls (.int z :: St)))) : Go p e below FF (T.setTop (mkF m pc Ls (.ref a :: St))) := by
  subst hp
  obtain ⟨cl, A, -, S, N, -⟩ := V
  refine Go.via (fun t => P.st.arraylength P.x (cell := cl) (by rw [P.eh]; exact A.1) (State.isArrayOf_alike P.z.alike A.2.1) (g := mkF m pc Ls (.ref a :: St)) rfl rfl (hb P.bt hd) t) ?_
  rw [len_of S N]; exact kk
theorem G.stI (P : Pos p l e R s m args below meth c Z own bytes ml ret nm T h locs cells slots) {a : Addr} {k : ClassId} {z : Int32} {vs : List Value} {dv : Value} (V : Arv Z h a k .int z vs dv) {j x : Int32} (i : Nat) (hi : j.toNatClampNeg = i) (hin : ¬ j < 0 ∧ j < z) (hl : i < vs.length) (hd : decode bytes pc = .ok (.iastore, 1)) (hp : pc + 1 = pc')
    (kk : ∀ T' h', Pos p l e R s m args below meth c Z own bytes ml ret nm T' h' (locs ++ [⟨a, i⟩]) cells slots → Wr h h' a i (.int x) → Arv Z h' a k .int z (vs.set i (.int x)) dv → Go p e below FF (T'.setTop (mkF m pc' Ls St))) : Go p e below FF (T.setTop (mkF m pc Ls (.int x :: .int j :: .ref a :: St))) := by
  subst hp hi
  obtain ⟨cl, A, q1, S, N, H, Gf⟩ := V
  obtain ⟨T', h', X', e', W, st⟩ := Jvm.RoadKit.stI P.st P.x P.z P.eh A (inb_of S hin) (g := mkF m pc Ls (.int x :: .int j :: .ref a :: St)) rfl rfl (hb P.bt hd)
  exact Go.via st (kk T' h' ⟨P.1, X', e'⟩ W (Arv.set A q1 S N H Gf rfl W _ rfl hl))
theorem G.stB (P : Pos p l e R s m args below meth c Z own bytes ml ret nm T h locs cells slots) {a : Addr} {k : ClassId} {z : Int32} {vs : List Value} {dv : Value} (V : Arv Z h a k .byte z vs dv) {j x : Int32} (i : Nat) (hi : j.toNatClampNeg = i) (hin : ¬ j < 0 ∧ j < z) (hl : i < vs.length) (hd : decode bytes pc = .ok (.bastore, 1)) (hp : pc + 1 = pc')
    (kk : ∀ T' h', Pos p l e R s m args below meth c Z own bytes ml ret nm T' h' (locs ++ [⟨a, i⟩]) cells slots → Wr h h' a i (.int (nar .byte x)) → Arv Z h' a k .byte z (vs.set i (.int (nar .byte x))) dv → Go p e below FF (T'.setTop (mkF m pc' Ls St))) : Go p e below FF (T.setTop (mkF m pc Ls (.int x :: .int j :: .ref a :: St))) := by
  subst hp hi
  obtain ⟨cl, A, q1, S, N, H, Gf⟩ := V
  obtain ⟨T', h', X', e', W, st⟩ := Jvm.RoadKit.stB P.st P.x P.z P.eh A (inb_of S hin) (g := mkF m pc Ls (.int x :: .int j :: .ref a :: St)) rfl rfl (hb P.bt hd)
  exact Go.via st (kk T' h' ⟨P.1, X', e'⟩ W (Arv.set A q1 S N H Gf (fits_nar_byte _) W _ rfl hl))
theorem G.stZ (P : Pos p l e R s m args below meth c Z own bytes ml ret nm T h locs cells slots) {a : Addr} {k : ClassId} {z : Int32} {vs : List Value} {dv : Value} (V : Arv Z h a k .boolean z vs dv) {j x : Int32} (i : Nat) (hi : j.toNatClampNeg = i) (hin : ¬ j < 0 ∧ j < z) (hl : i < vs.length) (hd : decode bytes pc = .ok (.bastore, 1)) (hp : pc + 1 = pc')
    (kk : ∀ T' h', Pos p l e R s m args below meth c Z own bytes ml ret nm T' h' (locs ++ [⟨a, i⟩]) cells slots → Wr h h' a i (.int (nar .boolean x)) → Arv Z h' a k .boolean z (vs.set i (.int (nar .boolean x))) dv → Go p e below FF (T'.setTop (mkF m pc' Ls St))) : Go p e below FF (T.setTop (mkF m pc Ls (.int x :: .int j :: .ref a :: St))) := by
  subst hp hi
  obtain ⟨cl, A, q1, S, N, H, Gf⟩ := V
  obtain ⟨T', h', X', e', W, st⟩ := Jvm.RoadKit.stZ P.st P.x P.z P.eh A (inb_of S hin) (g := mkF m pc Ls (.int x :: .int j :: .ref a :: St)) rfl rfl (hb P.bt hd)
  exact Go.via st (kk T' h' ⟨P.1, X', e'⟩ W (Arv.set A q1 S N H Gf (fits_nar_bool _) W _ rfl hl))
theorem G.stC (P : Pos p l e R s m args below meth c Z own bytes ml ret nm T h locs cells slots) {a : Addr} {k : ClassId} {z : Int32} {vs : List Value} {dv : Value} (V : Arv Z h a k .char z vs dv) {j x : Int32} (i : Nat) (hi : j.toNatClampNeg = i) (hin : ¬ j < 0 ∧ j < z) (hl : i < vs.length) (hd : decode bytes pc = .ok (.castore, 1)) (hp : pc + 1 = pc')
    (kk : ∀ T' h', Pos p l e R s m args below meth c Z own bytes ml ret nm T' h' (locs ++ [⟨a, i⟩]) cells slots → Wr h h' a i (.int (nar .char x)) → Arv Z h' a k .char z (vs.set i (.int (nar .char x))) dv → Go p e below FF (T'.setTop (mkF m pc' Ls St))) : Go p e below FF (T.setTop (mkF m pc Ls (.int x :: .int j :: .ref a :: St))) := by
  subst hp hi
  obtain ⟨cl, A, q1, S, N, H, Gf⟩ := V
  obtain ⟨T', h', X', e', W, st⟩ := Jvm.RoadKit.stC P.st P.x P.z P.eh A (inb_of S hin) (g := mkF m pc Ls (.int x :: .int j :: .ref a :: St)) rfl rfl (hb P.bt hd)
  exact Go.via st (kk T' h' ⟨P.1, X', e'⟩ W (Arv.set A q1 S N H Gf (fits_nar_char _) W _ rfl hl))
theorem G.iaload (P : Pos p l e R s m args below meth c Z own bytes ml ret nm T h locs cells slots) {a : Addr} {k : ClassId} {z : Int32} {vs : List Value} {dv : Value} (V : Arv Z h a k .int z vs dv) {j : Int32} {v : Value} (hin : ¬ j < 0 ∧ j < z) (hv : vs.getD j.toNatClampNeg dv = v) (hd : decode bytes pc = .ok (.iaload, 1)) (hp : pc + 1 = pc')
    (kk : Go p e below FF (T.setTop (mkF m pc' Ls (v :: St)))) : Go p e below FF (T.setTop (mkF m pc Ls (.int j :: .ref a :: St))) := by
  subst hp
  obtain ⟨cl, A, q1, S, N, H, Gf⟩ := V
  have hb' := inb_of S hin
  exact Go.via (fun t => P.st.iaload P.x (by rw [P.eh]; exact A.1) (State.isArrayOf_alike P.z.alike A.2.1) A.2.2 hb' (Has.at H hb' hv) (g := mkF m pc Ls (.int j :: .ref a :: St)) rfl rfl (hb P.bt hd) t) kk
theorem G.baloadB (P : Pos p l e R s m args below meth c Z own bytes ml ret nm T h locs cells slots) {a : Addr} {k : ClassId} {z : Int32} {vs : List Value} {dv : Value} (V : Arv Z h a k .byte z vs dv) {j : Int32} {v : Value} (hin : ¬ j < 0 ∧ j < z) (hv : vs.getD j.toNatClampNeg dv = v) (hd : decode bytes pc = .ok (.baload, 1)) (hp : pc + 1 = pc')
    (kk : Go p e below FF (T.setTop (mkF m pc' Ls (v :: St)))) : Go p e below FF (T.setTop (mkF m pc Ls (.int j :: .ref a :: St))) := by
  subst hp
  obtain ⟨cl, A, q1, S, N, H, Gf⟩ := V
  have hb' := inb_of S hin
  exact Go.via (fun t => P.st.baloadBytes P.x (by rw [P.eh]; exact A.1) (State.isArrayOf_alike P.z.alike A.2.1) A.2.2 hb' (Has.at H hb' hv) (g := mkF m pc Ls (.int j :: .ref a :: St)) rfl rfl (hb P.bt hd) t) kk
theorem G.baloadZ (P : Pos p l e R s m args below meth c Z own bytes ml ret nm T h locs cells slots) {a : Addr} {k : ClassId} {z : Int32} {vs : List Value} {dv : Value} (V : Arv Z h a k .boolean z vs dv) {j : Int32} {v : Value} (hin : ¬ j < 0 ∧ j < z) (hv : vs.getD j.toNatClampNeg dv = v) (hd : decode bytes pc = .ok (.baload, 1)) (hp : pc + 1 = pc')
    (kk : Go p e below FF (T.setTop (mkF m pc' Ls (v :: St)))) : Go p e below FF (T.setTop (mkF m pc Ls (.int j :: .ref a :: St))) := by
  subst hp
  obtain ⟨cl, A, q1, S, N, H, Gf⟩ := V
  have hb' := inb_of S hin
  exact Go.via (fun t => P.st.baloadBooleans P.x (by rw [P.eh]; exact A.1) (State.isArrayOf_alike P.z.alike A.2.1) A.2.2 hb' (Has.at H hb' hv) (g := mkF m pc Ls (.int j :: .ref a :: St)) rfl rfl (hb P.bt hd) t) kk
theorem G.aaload (P : Pos p l e R s m args below meth c Z own bytes ml ret nm T h locs cells slots) {a : Addr} {k : ClassId} {ty : FieldType} {z : Int32} {vs : List Value} {dv : Value} (V : Arv Z h a k ty z vs dv) (hty : ty.isReference = true) {j : Int32} {v : Value} (hin : ¬ j < 0 ∧ j < z) (hv : vs.getD j.toNatClampNeg dv = v) (hd : decode bytes pc = .ok (.aaload, 1)) (hp : pc + 1 = pc')
    (kk : Go p e below FF (T.setTop (mkF m pc' Ls (v :: St)))) : Go p e below FF (T.setTop (mkF m pc Ls (.int j :: .ref a :: St))) := by
  subst hp
  obtain ⟨cl, A, q1, S, N, H, Gf⟩ := V
  have hb' := inb_of S hin
  exact Go.via (fun t => P.st.aaload P.x (by rw [P.eh]; exact A.1) (State.isArrayOf_alike P.z.alike A.2.1) hty A.2.2 hb' (Has.at H hb' hv) (g := mkF m pc Ls (.int j :: .ref a :: St)) rfl rfl (hb P.bt hd) t) kk
/-! ### returns -/
theorem Go.end_ {S0 : State} (P : Pos p l e R s m args below meth c Z own bytes ml ret nm T h locs cells slots) {v : Option Value} (hv : ret = none → v = none) (hc : cells ≤ cs) (hs : slots ≤ ss) (hq : Q v h locs)
    (st : ∀ fs, (∀ (f : JFrame) (acts : List Action), f.method = m → f.locked = none → f.entered = [] → (doReturn e (T.setTop f) acts v).1 = T.setFrames fs) → Steps p.tables e below S0 (T.setFrames fs)) : Go p e below (NF s cs ss Q) S0 := by
  have hlk := P.lk
  obtain ⟨fs, hr, hrun, hended, hW, hsame⟩ := P.st.leave (v := v) (fun q => hv (P.rt.symm.trans q)) hlk
  refine ⟨_, _, st fs hr, hrun, hended, _, rfl, _, ?_, ⟨_, rfl⟩, hW, hsame.mono hc hs⟩
  have q : (T.setFrames fs).heap = h := P.eh
  rw [q]; exact hq
theorem G.retI (P : Pos p l e R s m args below meth c Z own bytes ml (some .int) nm T h locs cells slots) {z : Int32} (hd : decode bytes pc = .ok (.ireturn, 1)) (hc : cells ≤ cs) (hs : slots ≤ ss) (hq : Q (some (.int z)) h locs) : Go p e below (NF s cs ss Q) (T.setTop (mkF m pc Ls (.int z :: St))) :=
  Go.end_ P (fun q => by cases q) hc hs hq (fun fs hr => Jvm.RoadKit.retI P.st P.x P.rt (hb P.bt hd) hr)
theorem G.retN (P : Pos p l e R s m args below meth c Z own bytes ml ret nm T h locs cells slots) {z : Int32} {t : FieldType} (ht : ret = some t) (ht2 : t = .boolean ∨ t = .byte ∨ t = .char ∨ t = .short) (hd : decode bytes pc = .ok (.ireturn, 1)) (hc : cells ≤ cs) (hs : slots ≤ ss) (hq : Q (some (.int (nar t z))) h locs) : Go p e below (NF s cs ss Q) (T.setTop (mkF m pc Ls (.int z :: St))) :=
  Go.end_ P (fun q => by rw [ht] at q; cases q) hc hs hq (fun fs hr => Jvm.RoadKit.retN P.st P.x (P.rt.trans ht) ht2 (hb P.bt hd) hr)
theorem G.retV (P : Pos p l e R s m args below meth c Z own bytes ml none nm T h locs cells slots) (hd : decode bytes pc = .ok (.return_, 1)) (hc : cells ≤ cs) (hs : slots ≤ ss) (hq : Q none h locs) : Go p e below (NF s cs ss Q) (T.setTop (mkF m pc Ls [])) :=
  Go.end_ P (fun _ => rfl) hc hs hq (fun fs hr => P.st.returnOut P.x P.rt (hb P.bt hd) hr)
theorem G.retA (P : Pos p l e R s m args below meth c Z own bytes ml ret nm T h locs cells slots) {w : Value} {t : FieldType} (ht : ret = some t) (ht2 : t.isReference = true) (hw : w.isRef = true) (hd : decode bytes pc = .ok (.areturn, 1)) (hc : cells ≤ cs) (hs : slots ≤ ss) (hq : Q (some w) h locs) : Go p e below (NF s cs ss Q) (T.setTop (mkF m pc Ls [w])) :=
  Go.end_ P (fun q => by rw [ht] at q; cases q) hc hs hq (fun fs hr => P.st.areturnOut P.x hw (P.rt.trans ht) ht2 (hb P.bt hd) hr)
theorem G.retJ (P : Pos p l e R s m args below meth c Z own bytes ml (some .long) nm T h locs cells slots) {w : Int64} (hd : decode bytes pc = .ok (.lreturn, 1)) (hc : cells ≤ cs) (hs : slots ≤ ss) (hq : Q (some (.long w)) h locs) : Go p e below (NF s cs ss Q) (T.setTop (mkF m pc Ls [.long w])) :=
  Go.end_ P (fun q => by cases q) hc hs hq (fun fs hr => P.st.lreturnOut P.x P.rt (hb P.bt hd) hr)
/-! ### calls -/
theorem Pos.re (P : Pos p l e R s m args below meth c Z own bytes ml ret nm T h locs cells slots) {T' : State} {h' : Heap} {locs' : List Loc} {cells' slots' : Nat} (X' : Stand p l e R s m args below meth c T' locs' cells' slots') (e' : T'.heap = h') : Pos p l e R s m args below meth c Z own bytes ml ret nm T' h' locs' cells' slots' := ⟨P.1, X', e'⟩
theorem G.callS (P : Pos p l e R s m args below meth c Z own bytes ml ret nm T h locs cells slots) {y : MethodName} {by' : ByteArray} {ml' : Nat} {ret' : Option FieldType} {i : Nat} {rm : Room} {as' : Array Value} {Qc : Option Value → Heap → List Loc → Prop} (hM : OMeets l Z y by' ml' ret' rm as' h Qc)
    (w1 : (Jvm.Cond.methodLink own i y).before a0 Z = true) (w2 : (Jvm.Cond.static y).before a0 Z = true) (w3 : (Jvm.Cond.initialized y.cls).before a0 Z = true) (w4 : (Jvm.Cond.code y by' ml' ret').before a0 Z = true)
    (hy : y.cls ≠ "java/lang/invoke/MethodHandle" ∧ y.cls ≠ "java/lang/invoke/VarHandle") {ps : List FieldType} {r : Option FieldType} (hds : parseMethodDescriptor y.desc = some ⟨ps, r⟩) {argsL rest : List Value} (hal : argsL.length = ps.length) (hst : argsL.reverse ++ rest = St) (has : argsL.toArray = as') (hsz : Ls.size = ml)
    {W : Nat} (hW : (rest.map fun v => v.category).sum ≤ W) (hro : rm.frames + 1 ≤ R.frames ∧ W + (ml' + 11) + rm.locals ≤ R.locals ∧ cells + rm.cells ≤ R.cells ∧ slots + rm.slots ≤ R.slots)
    (hd : decode bytes pc = .ok (.invokestatic i, 3)) (hp : pc + 3 = pc')
    (kk : ∀ T' L v, Pos p l e R s m args below meth c Z own bytes ml ret nm T' T'.heap (locs ++ L) (cells + rm.cells) (slots + rm.slots) → Qc v T'.heap L → Go p e below FF (T'.setTop (mkF m pc' Ls (v.toList ++ rest)))) : Go p e below FF (T.setTop (mkF m pc Ls St)) := by
  subst hp hst has
  obtain ⟨v, _, ⟨T', L', k', n'⟩, -, X', ⟨Lc, hQ, l1, l2, l3⟩, st⟩ := Jvm.LawKit.callS P.st P.x (y := y) P.ow (mvT P.z w1) (mvT P.z w2) (mvT P.z w3) (mvT P.z w4) hy (backOf (W := W) hM P.z w4 w3 hro.1 hro.2.1) (g := mkF m pc Ls (argsL.reverse ++ rest)) rfl (by rw [P.mx]; exact hsz) (argsL := argsL) (rest := rest) (lenOf hds hal) rfl (by show 2 * 0 + _ ≤ _; omega) (hb P.bt hd) (fun _ _ => ⟨rfl, P.eh, hro.2.2.1, hro.2.2.2⟩)
  dsimp only [Pt.U, Pt.locs, Pt.cells, Pt.slots] at X' l1 l2 l3 st hQ
  subst l1 l2 l3
  exact Go.via st (kk T' Lc v ⟨P.1, X', rfl⟩ hQ)
theorem G.callSP (P : Pos p l e R s m args below meth c Z own bytes ml ret nm T h locs cells slots) {y : MethodName} {by' : ByteArray} {ml' : Nat} {ret' : Option FieldType} {i fr lo : Nat} {as' : Array Value} {v0 : Option Value} (hM : OMeets l Z y by' ml' ret' ⟨fr, 0, 0, lo⟩ as' h (OPure v0 h))
    (w1 : (Jvm.Cond.methodLink own i y).before a0 Z = true) (w2 : (Jvm.Cond.static y).before a0 Z = true) (w3 : (Jvm.Cond.initialized y.cls).before a0 Z = true) (w4 : (Jvm.Cond.code y by' ml' ret').before a0 Z = true)
    (hy : y.cls ≠ "java/lang/invoke/MethodHandle" ∧ y.cls ≠ "java/lang/invoke/VarHandle") {ps : List FieldType} {r : Option FieldType} (hds : parseMethodDescriptor y.desc = some ⟨ps, r⟩) {argsL rest : List Value} (hal : argsL.length = ps.length) (hst : argsL.reverse ++ rest = St) (has : argsL.toArray = as') (hsz : Ls.size = ml)
    {W : Nat} (hW : (rest.map fun v => v.category).sum ≤ W) (hro : fr + 1 ≤ R.frames ∧ W + (ml' + 11) + lo ≤ R.locals ∧ cells ≤ R.cells ∧ slots ≤ R.slots)
    (hd : decode bytes pc = .ok (.invokestatic i, 3)) (hp : pc + 3 = pc')
    (kk : ∀ T', Pos p l e R s m args below meth c Z own bytes ml ret nm T' h locs cells slots → Go p e below FF (T'.setTop (mkF m pc' Ls (v0.toList ++ rest)))) : Go p e below FF (T.setTop (mkF m pc Ls St)) := by
  refine G.callS P hM w1 w2 w3 w4 hy hds hal hst has hsz hW hro hd hp fun T' L v P' hQ => ?_
  obtain ⟨rfl, e, rfl⟩ := hQ
  rw [List.append_nil] at P'
  exact kk T' ⟨P'.1, P'.2.1, e⟩
theorem G.callV (P : Pos p l e R s m args below meth c Z own bytes ml ret nm T h locs cells slots) {C : String} {y z : MethodName} {by' : ByteArray} {ml' : Nat} {ret' : Option FieldType} {i : Nat} {rm : Room} {as' : Array Value} {Qc : Option Value → Heap → List Loc → Prop} (hM : OMeets l Z z by' ml' ret' rm as' h Qc)
    (w1 : (Jvm.Cond.methodLink own i y).before a0 Z = true) (w2 : (Jvm.Cond.declares y).before a0 Z = true) (w3 : (Jvm.Cond.selects C y z).before a0 Z = true) (hyz : y = z) (w4 : (Jvm.Cond.instanceMethod z).before a0 Z = true) (w5 : (Jvm.Cond.initialized z.cls).before a0 Z = true) (w6 : (Jvm.Cond.code z by' ml' ret').before a0 Z = true)
    (hy : y.cls ≠ "java/lang/invoke/MethodHandle" ∧ y.cls ≠ "java/lang/invoke/VarHandle") {b : Addr} (E : Exa Z h b C) {ps : List FieldType} {r : Option FieldType} (hds : parseMethodDescriptor y.desc = some ⟨ps, r⟩) {argsL rest : List Value} (hal : argsL.length = ps.length) (hst : argsL.reverse ++ .ref b :: rest = St) (has : (.ref b :: argsL).toArray = as') (hsz : Ls.size = ml)
    {W : Nat} (hW : (rest.map fun v => v.category).sum ≤ W) (hro : rm.frames + 1 ≤ R.frames ∧ W + (ml' + 11) + rm.locals ≤ R.locals ∧ cells + rm.cells ≤ R.cells ∧ slots + rm.slots ≤ R.slots)
    (hd : decode bytes pc = .ok (.invokevirtual i, 3)) (hp : pc + 3 = pc')
    (kk : ∀ T' L v, Pos p l e R s m args below meth c Z own bytes ml ret nm T' T'.heap (locs ++ L) (cells + rm.cells) (slots + rm.slots) → Qc v T'.heap L → Go p e below FF (T'.setTop (mkF m pc' Ls (v.toList ++ rest)))) : Go p e below FF (T.setTop (mkF m pc Ls St)) := by
  subst hp hst has hyz
  obtain ⟨cB, kB, q1, q2, q3⟩ := isOf P.z P.eh E
  obtain ⟨v, _, ⟨T', L', k', n'⟩, -, X', ⟨Lc, hQ, l1, l2, l3⟩, st⟩ := P.st.virtualBack P.x (y := y) (z := y) P.ow (mvT P.z w1) (mvT P.z w2) (notFace_of_selects (args := #[]) (mvT P.z w3)) (mvT P.z w3) (mvT P.z w4) hy (backOf (W := W) hM P.z w6 w5 hro.1 hro.2.1) q1 q3 (g := mkF m pc Ls (argsL.reverse ++ .ref b :: rest)) rfl (by rw [P.mx]; exact hsz) (Steps.refl _) (argsL := argsL) (rest := rest) (lenOf hds hal) rfl (by show 2 * 0 + _ ≤ _; omega) (hb P.bt hd) (fun _ _ => ⟨rfl, P.eh, hro.2.2.1, hro.2.2.2⟩)
  dsimp only [Pt.U, Pt.locs, Pt.cells, Pt.slots] at X' l1 l2 l3 st hQ
  subst l1 l2 l3
  exact Go.come st (kk T' Lc v ⟨P.1, X', rfl⟩ hQ)
theorem G.callVP (P : Pos p l e R s m args below meth c Z own bytes ml ret nm T h locs cells slots) {C : String} {y z : MethodName} {by' : ByteArray} {ml' : Nat} {ret' : Option FieldType} {i fr lo : Nat} {as' : Array Value} {v0 : Option Value} (hM : OMeets l Z z by' ml' ret' ⟨fr, 0, 0, lo⟩ as' h (OPure v0 h))
    (w1 : (Jvm.Cond.methodLink own i y).before a0 Z = true) (w2 : (Jvm.Cond.declares y).before a0 Z = true) (w3 : (Jvm.Cond.selects C y z).before a0 Z = true) (hyz : y = z) (w4 : (Jvm.Cond.instanceMethod z).before a0 Z = true) (w5 : (Jvm.Cond.initialized z.cls).before a0 Z = true) (w6 : (Jvm.Cond.code z by' ml' ret').before a0 Z = true)
    (hy : y.cls ≠ "java/lang/invoke/MethodHandle" ∧ y.cls ≠ "java/lang/invoke/VarHandle") {b : Addr} (E : Exa Z h b C) {ps : List FieldType} {r : Option FieldType} (hds : parseMethodDescriptor y.desc = some ⟨ps, r⟩) {argsL rest : List Value} (hal : argsL.length = ps.length) (hst : argsL.reverse ++ .ref b :: rest = St) (has : (.ref b :: argsL).toArray = as') (hsz : Ls.size = ml)
    {W : Nat} (hW : (rest.map fun v => v.category).sum ≤ W) (hro : fr + 1 ≤ R.frames ∧ W + (ml' + 11) + lo ≤ R.locals ∧ cells ≤ R.cells ∧ slots ≤ R.slots)
    (hd : decode bytes pc = .ok (.invokevirtual i, 3)) (hp : pc + 3 = pc')
    (kk : ∀ T', Pos p l e R s m args below meth c Z own bytes ml ret nm T' h locs cells slots → Go p e below FF (T'.setTop (mkF m pc' Ls (v0.toList ++ rest)))) : Go p e below FF (T.setTop (mkF m pc Ls St)) := by
  refine G.callV P hM w1 w2 w3 hyz w4 w5 w6 hy E hds hal hst has hsz hW hro hd hp fun T' L v P' hQ => ?_
  obtain ⟨rfl, e, rfl⟩ := hQ
  rw [List.append_nil] at P'
  exact kk T' ⟨P'.1, P'.2.1, e⟩
theorem G.callI (P : Pos p l e R s m args below meth c Z own bytes ml ret nm T h locs cells slots) {y : MethodName} {by' : ByteArray} {ml' : Nat} {i : Nat} {rm : Room} {as' : Array Value} {Qc : Option Value → Heap → List Loc → Prop} (hM : OMeets l Z y by' ml' none rm as' h Qc) (hyn : y.name = "<init>")
    (w1 : (Jvm.Cond.methodLink own i y).before a0 Z = true) (w2 : (Jvm.Cond.instanceMethod y).before a0 Z = true) (w3 : (Jvm.Cond.initialized y.cls).before a0 Z = true) (w4 : (Jvm.Cond.code y by' ml' none).before a0 Z = true)
    (hy : y.cls ≠ "java/lang/invoke/MethodHandle" ∧ y.cls ≠ "java/lang/invoke/VarHandle") {b : Addr} {ps : List FieldType} {r : Option FieldType} (hds : parseMethodDescriptor y.desc = some ⟨ps, r⟩) {argsL rest : List Value} (hal : argsL.length = ps.length) (hst : argsL.reverse ++ .ref b :: rest = St) (has : (.ref b :: argsL).toArray = as') (hsz : Ls.size = ml)
    {W : Nat} (hW : (rest.map fun v => v.category).sum ≤ W) (hro : rm.frames + 1 ≤ R.frames ∧ W + (ml' + 11) + rm.locals ≤ R.locals ∧ cells + rm.cells ≤ R.cells ∧ slots + rm.slots ≤ R.slots)
    (hd : decode bytes pc = .ok (.invokespecial i, 3)) (hp : pc + 3 = pc')
    (kk : ∀ T' L v, Pos p l e R s m args below meth c Z own bytes ml ret nm T' T'.heap (locs ++ L) (cells + rm.cells) (slots + rm.slots) → Qc v T'.heap L → Go p e below FF (T'.setTop (mkF m pc' Ls (v.toList ++ rest)))) : Go p e below FF (T.setTop (mkF m pc Ls St)) := by
  subst hp hst has
  obtain ⟨v, _, ⟨T', L', k', n'⟩, -, X', ⟨Lc, hQ, l1, l2, l3⟩, st⟩ := P.st.specialBack P.x (y := y) hyn P.ow (mvT P.z w1) (mvT P.z w2) (mvT P.z w4) hy (backOf (W := W) hM P.z w4 w3 hro.1 hro.2.1) (g := mkF m pc Ls (argsL.reverse ++ .ref b :: rest)) rfl (by rw [P.mx]; exact hsz) (Steps.refl _) (a := b) (argsL := argsL) (rest := rest) (lenOf hds hal) rfl (by show 2 * 0 + _ ≤ _; omega) (hb P.bt hd) (fun _ _ => ⟨rfl, P.eh, hro.2.2.1, hro.2.2.2⟩)
  dsimp only [Pt.U, Pt.locs, Pt.cells, Pt.slots] at X' l1 l2 l3 st hQ
  subst l1 l2 l3
  exact Go.come st (kk T' Lc v ⟨P.1, X', rfl⟩ hQ)
theorem G.callIP (P : Pos p l e R s m args below meth c Z own bytes ml ret nm T h locs cells slots) {y : MethodName} {by' : ByteArray} {ml' : Nat} {i fr lo : Nat} {as' : Array Value} {v0 : Option Value} (hM : OMeets l Z y by' ml' none ⟨fr, 0, 0, lo⟩ as' h (OPure v0 h)) (hyn : y.name = "<init>")
    (w1 : (Jvm.Cond.methodLink own i y).before a0 Z = true) (w2 : (Jvm.Cond.instanceMethod y).before a0 Z = true) (w3 : (Jvm.Cond.initialized y.cls).before a0 Z = true) (w4 : (Jvm.Cond.code y by' ml' none).before a0 Z = true)
    (hy : y.cls ≠ "java/lang/invoke/MethodHandle" ∧ y.cls ≠ "java/lang/invoke/VarHandle") {b : Addr} {ps : List FieldType} {r : Option FieldType} (hds : parseMethodDescriptor y.desc = some ⟨ps, r⟩) {argsL rest : List Value} (hal : argsL.length = ps.length) (hst : argsL.reverse ++ .ref b :: rest = St) (has : (.ref b :: argsL).toArray = as') (hsz : Ls.size = ml)
    {W : Nat} (hW : (rest.map fun v => v.category).sum ≤ W) (hro : fr + 1 ≤ R.frames ∧ W + (ml' + 11) + lo ≤ R.locals ∧ cells ≤ R.cells ∧ slots ≤ R.slots)
    (hd : decode bytes pc = .ok (.invokespecial i, 3)) (hp : pc + 3 = pc')
    (kk : ∀ T', Pos p l e R s m args below meth c Z own bytes ml ret nm T' h locs cells slots → Go p e below FF (T'.setTop (mkF m pc' Ls (v0.toList ++ rest)))) : Go p e below FF (T.setTop (mkF m pc Ls St)) := by
  refine G.callI P hM hyn w1 w2 w3 w4 hy hds hal hst has hsz hW hro hd hp fun T' L v P' hQ => ?_
  obtain ⟨rfl, e, rfl⟩ := hQ
  rw [List.append_nil] at P'
  exact kk T' ⟨P'.1, P'.2.1, e⟩
theorem Pos.more (P : Pos p l e R s m args below meth c Z own bytes ml ret nm T h locs cells slots) {cells' slots' : Nat} (hc : cells ≤ cells') (hs : slots ≤ slots') : Pos p l e R s m args below meth c Z own bytes ml ret nm T h locs cells' slots' :=
  ⟨P.1, P.st.more hc hs, P.2.2⟩
theorem G.callF (P : Pos p l e R s m args below meth c Z own bytes ml ret nm T h locs cells slots) {C : String} {xi y : MethodName} {by' : ByteArray} {ml' : Nat} {ret' : Option FieldType} {i cnt : Nat} {rm : Room} {as' : Array Value} {Qc : Option Value → Heap → List Loc → Prop} (hM : OMeets l Z y by' ml' ret' rm as' h Qc)
    (w1 : (Jvm.Cond.methodLink own i xi).before a0 Z = true) (w2 : (Jvm.Cond.declares xi).before a0 Z = true) (w3 : (Jvm.Cond.interfaceMethod xi.cls xi.cls xi.name xi.desc).before a0 Z = true) (w4 : (Jvm.Cond.selects C xi y).before a0 Z = true) (w5 : (Jvm.Cond.instanceMethod y).before a0 Z = true)
    (w6 : (Jvm.Cond.publicMethod y).before a0 Z = true) (w7 : (Jvm.Cond.unhidden C xi.name xi.desc).before a0 Z = true) (w8 : (Jvm.Cond.castable C xi.cls).before a0 Z = true) (w9 : (Jvm.Cond.initialized y.cls).before a0 Z = true) (w10 : (Jvm.Cond.code y by' ml' ret').before a0 Z = true)
    (hy : xi.cls ≠ "java/lang/invoke/MethodHandle" ∧ xi.cls ≠ "java/lang/invoke/VarHandle") {b : Addr} (E : Exa Z h b C) {ps : List FieldType} {r : Option FieldType} (hds : parseMethodDescriptor xi.desc = some ⟨ps, r⟩) {argsL rest : List Value} (hal : argsL.length = ps.length) (hst : argsL.reverse ++ .ref b :: rest = St) (has : (.ref b :: argsL).toArray = as') (hsz : Ls.size = ml)
    {W : Nat} (hW : (rest.map fun v => v.category).sum ≤ W) (hro : rm.frames + 1 ≤ R.frames ∧ W + (ml' + 11) + rm.locals ≤ R.locals ∧ cells + rm.cells ≤ R.cells ∧ slots + rm.slots ≤ R.slots)
    (hd : decode bytes pc = .ok (.invokeinterface i cnt, 5)) (hp : pc + 5 = pc')
    (kk : ∀ T' L v, Pos p l e R s m args below meth c Z own bytes ml ret nm T' T'.heap (locs ++ L) (cells + rm.cells) (slots + rm.slots) → Qc v T'.heap L → Go p e below FF (T'.setTop (mkF m pc' Ls (v.toList ++ rest)))) : Go p e below FF (T.setTop (mkF m pc Ls St)) := by
  subst hp hst has
  obtain ⟨cB, kB, q1, q2, q3⟩ := isOf P.z P.eh E
  obtain ⟨v, _, ⟨T', L', k', n'⟩, -, X', ⟨Lc, hQ, l1, l2, l3⟩, st⟩ := P.st.interfaceBack P.x (xi := xi) (y := y) P.ow (mvT P.z w1) (mvT P.z w2) (mvT P.z w3 (by simp [Cond.onTables, Cond.keepsFace, Cond.keeps, Cond.steady, Cond.faceAtom, hy.1, hy.2])) (mvT P.z w4) (mvT P.z w5) (mvT P.z w6) (mvT P.z w7) (mvT P.z w8) hy (backOf (W := W) hM P.z w10 w9 hro.1 hro.2.1) q1 q2 q3 (g := mkF m pc Ls (argsL.reverse ++ .ref b :: rest)) rfl (by rw [P.mx]; exact hsz) (Steps.refl _) (argsL := argsL) (rest := rest) (lenOf hds hal) rfl (by show 2 * 0 + _ ≤ _; omega) (hb P.bt hd) (fun _ _ => ⟨rfl, P.eh, hro.2.2.1, hro.2.2.2⟩)
  dsimp only [Pt.U, Pt.locs, Pt.cells, Pt.slots] at X' l1 l2 l3 st hQ
  subst l1 l2 l3
  exact Go.come st (kk T' Lc v ⟨P.1, X', rfl⟩ hQ)
theorem G.callQ (P : Pos p l e R s m args below meth c Z own bytes ml ret nm T h locs cells slots) {y x0 z0 : MethodName} {C C0 : String} {by' : ByteArray} {ml' : Nat} {ret' : Option FieldType} {i : Nat} {rm : Room} {as' : Array Value} {Qc : Option Value → Heap → List Loc → Prop} (hM : OMeets l Z y by' ml' ret' rm as' h Qc)
    (w1 : (Jvm.Cond.methodLink own i y).before a0 Z = true) (w2 : (Jvm.Cond.instanceMethod y).before a0 Z = true) (w3 : (Jvm.Cond.selects C0 x0 z0).before a0 Z = true) (hz0 : z0.cls = y.cls) (w4 : (Jvm.Cond.privateMethod y).before a0 Z = true) (w5 : (Jvm.Cond.initialized y.cls).before a0 Z = true) (w6 : (Jvm.Cond.code y by' ml' ret').before a0 Z = true)
    (hy : y.cls ≠ "java/lang/invoke/MethodHandle" ∧ y.cls ≠ "java/lang/invoke/VarHandle") {b : Addr} (E : Exa Z h b C) {ps : List FieldType} {r : Option FieldType} (hds : parseMethodDescriptor y.desc = some ⟨ps, r⟩) {argsL rest : List Value} (hal : argsL.length = ps.length) (hst : argsL.reverse ++ .ref b :: rest = St) (has : (.ref b :: argsL).toArray = as') (hsz : Ls.size = ml)
    {W : Nat} (hW : (rest.map fun v => v.category).sum ≤ W) (hro : rm.frames + 1 ≤ R.frames ∧ W + (ml' + 11) + rm.locals ≤ R.locals ∧ cells + rm.cells ≤ R.cells ∧ slots + rm.slots ≤ R.slots)
    (hd : decode bytes pc = .ok (.invokevirtual i, 3)) (hp : pc + 3 = pc')
    (kk : ∀ T' L v, Pos p l e R s m args below meth c Z own bytes ml ret nm T' T'.heap (locs ++ L) (cells + rm.cells) (slots + rm.slots) → Qc v T'.heap L → Go p e below FF (T'.setTop (mkF m pc' Ls (v.toList ++ rest)))) : Go p e below FF (T.setTop (mkF m pc Ls St)) := by
  subst hp hst has
  obtain ⟨cq, q1, q2⟩ := E.cell
  obtain ⟨mk, mM, hn, hmM, hsM, haM⟩ := Cond.instanceMethod_spec (mvT (args := args) P.z w2)
  obtain ⟨mM', cM, hmM', -, -, -, -, -, -, hsg⟩ := Cond.code_spec hn (mvT (args := args) P.z w6)
  cases hmM.symm.trans hmM'
  obtain ⟨-, -, m2, -, -, q3, -, kP, hkP, hkI⟩ := Cond.selects_spec (mvT (args := args) P.z w3)
  have e1 := findClass_of_methodNamed q3
  rw [hz0] at e1
  have hcl : m2.cls = mk.cls := Option.some.inj (e1.symm.trans (findClass_of_methodNamed hn))
  rw [hcl] at hkP
  have hs0 : selectMethod e.platform s.vm cq.cls mk = .method mk := selectMethod_private hmM (Cond.privateMethod_at (mvP P.z w4 (args := #[])) mk mM hn hmM)
  obtain ⟨vm₁, X₁, st₁⟩ := P.st.invokevirtual P.x P.ow (mvT P.z w1) hn hmM hsM hkP hkI hy (a := b) (cell := cq) (by rw [P.eh]; exact q1) q2 hs0 hmM haM hkP hkI (g := mkF m pc Ls (argsL.reverse ++ .ref b :: rest)) rfl (argsL := argsL) (rest := rest) (lenOf hds hal _ hsg) rfl (hb P.bt hd)
  obtain ⟨v, ⟨T', L', k', n'⟩, X', ⟨Lc, hQ, l1, l2, l3⟩, st₂⟩ := (backOf (W := W) (len := 3) (R := R) (p := p) (e := e) (below := below) (args := args) hM P.z w6 w5 hro.1 hro.2.1) m meth c ⟨T.setVm vm₁, locs, cells, slots⟩ (mkF m pc Ls rest) (.invokevirtual i) mk (.ref b :: argsL).toArray X₁ rfl (by rw [P.mx]; exact hsz) (hb P.bt hd) (by show 2 * 0 + (rest.map fun v => v.category).sum ≤ _; omega) (X₁.named hn) ⟨rfl, P.eh, hro.2.2.1, hro.2.2.2⟩
  dsimp only [Pt.U, Pt.locs, Pt.cells, Pt.slots] at X' l1 l2 l3 st₂ hQ
  subst l1 l2 l3
  exact Go.come ((st₁ _ fun acts => by rw [doInvoke_state]; exact Steps.refl _).trans st₂) (kk T' Lc v ⟨P.1, X', rfl⟩ hQ)
theorem pureK {v0 : Option Value} (kk : ∀ T', Pos p l e R s m args below meth c Z own bytes ml ret nm T' h locs cells slots → Go p e below FF (T'.setTop (mkF m pc' Ls (v0.toList ++ St)))) : ∀ T' L v, Pos p l e R s m args below meth c Z own bytes ml ret nm T' T'.heap (locs ++ L) (cells + 0) (slots + 0) → OPure v0 h v T'.heap L → Go p e below FF (T'.setTop (mkF m pc' Ls (v.toList ++ St))) := by
  intro T' L v P' hQ
  obtain ⟨rfl, e, rfl⟩ := hQ
  rw [List.append_nil] at P'
  exact kk T' ⟨P'.1, P'.2.1, e⟩
theorem hacw {W n : Nat} (q : W + 18 ≤ n) : W + (nativeFrameWords "java/lang/System" "arraycopy" 5 + 11) ≤ n := by
  have e : nativeFrameWords "java/lang/System" "arraycopy" 5 = 7 := by decide
  rw [e]; omega
theorem G.acopy (P : Pos p l e R s m args below meth c Z own bytes ml ret nm T h locs cells slots) {i : Nat} (w1 : (Jvm.Cond.methodLink own i Jvm.Stand.acN).before a0 Z = true) (w2 : (Jvm.Cond.native Jvm.Stand.acN).before a0 Z = true) (w3 : (Jvm.Cond.static Jvm.Stand.acN).before a0 Z = true) (w4 : (Jvm.Cond.initialized "java/lang/System").before a0 Z = true)
    {a b : Addr} {k k' : ClassId} {ty ty' : FieldType} {z z' sp dp nn : Int32} {vs vd us : List Value} {dv dd : Value} (A : Arv Z h a k ty z vs dv) (B : Arv Z h b k' ty' z' vd dd) (hty : (ty = ty' ∧ refKind ty = false) ∨ (refKind ty = true ∧ refKind ty' = true ∧ StoL Z h b us))
    (h1 : ¬ sp < 0) (h2 : ¬ dp < 0) (h3 : ¬ nn < 0) (h4 : sp.toNatClampNeg + nn.toNatClampNeg ≤ z.toNatClampNeg) (h5 : dp.toNatClampNeg + nn.toNatClampNeg ≤ z'.toNatClampNeg)
    (hus : us = (List.range nn.toNatClampNeg).map fun i => vs.getD (sp.toNatClampNeg + i) dv) (hl : dp.toNatClampNeg + nn.toNatClampNeg ≤ vd.length) {n0 : Nat} (N : Fr n0 locs) (ge : n0 ≤ b) (hsz : Ls.size = ml)
    {W : Nat} (hW : (St.map fun v => v.category).sum ≤ W) (hro : 1 ≤ R.frames ∧ W + 18 ≤ R.locals) (hd : decode bytes pc = .ok (.invokestatic i, 3)) (hp : pc + 3 = pc')
    (kk : ∀ T' h' L, Pos p l e R s m args below meth c Z own bytes ml ret nm T' h' L cells slots → Fr n0 L → Keep h h' [b] → Arv Z h' b k' ty' z' (vd.take dp.toNatClampNeg ++ us ++ vd.drop (dp.toNatClampNeg + nn.toNatClampNeg)) dd → Go p e below FF (T'.setTop (mkF m pc' Ls St))) :
    Go p e below FF (T.setTop (mkF m pc Ls (.int nn :: .int dp :: .ref b :: .int sp :: .ref a :: St))) := by
  subst hp
  obtain ⟨T', h', L, X', e', N', K, V, st⟩ := cpA P.st P.x P.z P.ow w1 w2 w3 w4 P.eh A B hty h1 h2 h3 h4 h5 hus hl N ge (g := mkF m pc Ls (.int nn :: .int dp :: .ref b :: .int sp :: .ref a :: St)) rfl (by rw [P.mx]; exact hsz) rfl (hb P.bt hd) hro.1 (W := W) (by show 2 * 0 + _ ≤ _; omega) (hacw hro.2)
  exact Go.via st (kk T' h' L ⟨P.1, X', e'⟩ N' K V)
theorem G.newR (P : Pos p l e R s m args below meth c Z own bytes ml ret nm T h locs cells slots) {C : String} {i : Nat} (w1 : (Jvm.Cond.classLink own i C).before a0 Z = true) (w2 : (Jvm.Cond.arrayOver (.object C)).before a0 Z = true) {n : Int32} (hn : ¬ n < 0) {cap : Nat} (hcap : n.toNatClampNeg ≤ cap) (hbb : cap * 8 ≤ 536870912) (hro : cells + 1 ≤ R.cells ∧ slots + cap ≤ R.slots) (hd : decode bytes pc = .ok (.anewarray i, 3)) (hp : pc + 3 = pc')
    (kk : ∀ T' h' a k, a = h.size → Pos p l e R s m args below meth c Z own bytes ml ret nm T' h' locs (cells + 1) (slots + cap) → Ext h h' → Arv Z h' a k (.object C) n [] .null → Ovr Z k C → Go p e below FF (T'.setTop (mkF m pc' Ls (.ref a :: St)))) : Go p e below FF (T.setTop (mkF m pc Ls (.int n :: St))) := by
  subst hp
  obtain ⟨T', h', k, X', e', E, A, O, st⟩ := Jvm.RoadKit.newR P.st P.x P.z P.ow w1 w2 P.eh (g := mkF m pc Ls (.int n :: St)) rfl (hb P.bt hd) rfl hn hcap hbb hro.1 hro.2
  exact Go.via st (kk T' h' h.size k rfl ⟨P.1, X', e'⟩ E (Arv.new A hn) O)
theorem G.stR (P : Pos p l e R s m args below meth c Z own bytes ml ret nm T h locs cells slots) {a : Addr} {k : ClassId} {ty : FieldType} {z : Int32} {vs : List Value} {dv : Value} (V : Arv Z h a k ty z vs dv) (hty : ty.isReference = true) {j : Int32} {y : Addr} {C : String} (O : Ovr Z k C) (I : Ins Z h y C true) (hft : fits ty (.ref y) = true) (i : Nat) (hi : j.toNatClampNeg = i) (hin : ¬ j < 0 ∧ j < z) (hl : i < vs.length) (hd : decode bytes pc = .ok (.aastore, 1)) (hp : pc + 1 = pc')
    (kk : ∀ T' h', Pos p l e R s m args below meth c Z own bytes ml ret nm T' h' (locs ++ [⟨a, i⟩]) cells slots → Wr h h' a i (.ref y) → Arv Z h' a k ty z (vs.set i (.ref y)) dv → Go p e below FF (T'.setTop (mkF m pc' Ls St))) : Go p e below FF (T.setTop (mkF m pc Ls (.ref y :: .int j :: .ref a :: St))) := by
  subst hp hi
  obtain ⟨cl, A, q1, S, N, H, Gf⟩ := V
  obtain ⟨T', h', X', e', W, st⟩ := Jvm.RoadKit.stR P.st P.x P.z P.eh A (inb_of S hin) hty (Sto.ofV A q1 O I) (g := mkF m pc Ls (.ref y :: .int j :: .ref a :: St)) rfl rfl (hb P.bt hd)
  exact Go.via st (kk T' h' ⟨P.1, X', e'⟩ W (Arv.set A q1 S N H Gf hft W _ rfl hl))
theorem G.cast (P : Pos p l e R s m args below meth c Z own bytes ml ret nm T h locs cells slots) {K : String} {i : Nat} (w : (Jvm.Cond.classLink own i K).before a0 Z = true) {a : Addr} (I : Ins Z h a K true) (hd : decode bytes pc = .ok (.checkcast i, 3)) (hp : pc + 3 = pc')
    (kk : ∀ T', Pos p l e R s m args below meth c Z own bytes ml ret nm T' h locs cells slots → Go p e below FF (T'.setTop (mkF m pc' Ls (.ref a :: St)))) : Go p e below FF (T.setTop (mkF m pc Ls (.ref a :: St))) := by
  subst hp
  obtain ⟨T', X', e', st⟩ := castY P.st P.x P.z P.ow w P.eh I (g := mkF m pc Ls (.ref a :: St)) rfl rfl (hb P.bt hd)
  exact Go.via st (kk T' ⟨P.1, X', e'⟩)
theorem G.instY (P : Pos p l e R s m args below meth c Z own bytes ml ret nm T h locs cells slots) {K : String} {i : Nat} (w : (Jvm.Cond.classLink own i K).before a0 Z = true) {a : Addr} (I : Ins Z h a K true) (hd : decode bytes pc = .ok (.instanceof i, 3)) (hp : pc + 3 = pc')
    (kk : ∀ T', Pos p l e R s m args below meth c Z own bytes ml ret nm T' h locs cells slots → Go p e below FF (T'.setTop (mkF m pc' Ls (.int 1 :: St)))) : Go p e below FF (T.setTop (mkF m pc Ls (.ref a :: St))) := by
  subst hp
  obtain ⟨T', X', e', st⟩ := Jvm.RoadKit.instY P.st P.x P.z P.ow w P.eh I (g := mkF m pc Ls (.ref a :: St)) rfl rfl (hb P.bt hd)
  exact Go.via st (kk T' ⟨P.1, X', e'⟩)
theorem G.newPE (P : Pos p l e R s m args below meth c Z own bytes ml ret nm T h locs cells slots) {aty : ArrayType} (w : (Jvm.Cond.arrayClass (newarray.typeOf aty)).before a0 Z = true) {n : Int32} (hn : ¬ n < 0) {cap : Nat} (hcap : n.toNatClampNeg ≤ cap) (hbb : cap * 8 ≤ 536870912) (hro : cells + 1 ≤ R.cells ∧ slots + cap ≤ R.slots) {ad : String} (had : "[" ++ (newarray.typeOf aty).toString = ad) (hd : decode bytes pc = .ok (.newarray aty, 2)) (hp : pc + 2 = pc')
    (kk : ∀ T' h' a k, a = h.size → Pos p l e R s m args below meth c Z own bytes ml ret nm T' h' locs (cells + 1) (slots + cap) → Ext h h' → Arv Z h' a k (newarray.typeOf aty) n [] (defaultValue (newarray.typeOf aty)) → Exa Z h' a ad → Go p e below FF (T'.setTop (mkF m pc' Ls (.ref a :: St)))) : Go p e below FF (T.setTop (mkF m pc Ls (.int n :: St))) := by
  subst hp
  obtain ⟨T', h', k, X', e', E, A, B, st⟩ := Jvm.RoadKit.newPE P.st P.x P.z w P.eh (g := mkF m pc Ls (.int n :: St)) rfl (hb P.bt hd) rfl hn hcap hbb hro.1 hro.2 had
  exact Go.via st (kk T' h' h.size k rfl ⟨P.1, X', e'⟩ E (Arv.new A hn) B)
theorem G.clone (P : Pos p l e R s m args below meth c Z own bytes ml ret nm T h locs cells slots) {ad : String} {i : Nat} (w1 : (Jvm.Cond.methodLink own i ⟨ad, "clone", "()Ljava/lang/Object;"⟩).before a0 Z = true) (w2 : (Jvm.Cond.sameMethod ad "java/lang/Object" "clone" "()Ljava/lang/Object;").before a0 Z = true) (w3 : (Jvm.Cond.native ⟨"java/lang/Object", "clone", "()Ljava/lang/Object;"⟩).before a0 Z = true)
    (w4 : (Jvm.Cond.instanceMethod ⟨"java/lang/Object", "clone", "()Ljava/lang/Object;"⟩).before a0 Z = true) (w5 : (Jvm.Cond.selects ad ⟨ad, "clone", "()Ljava/lang/Object;"⟩ ⟨"java/lang/Object", "clone", "()Ljava/lang/Object;"⟩).before a0 Z = true) (w6 : (Jvm.Cond.castable ad "java/lang/Cloneable").before a0 Z = true)
    {a : Addr} {k : ClassId} {ty : FieldType} {z : Int32} {vs : List Value} {dv : Value} (V : Arv Z h a k ty z vs dv) (E : Exa Z h a ad) (hsz : Ls.size = ml) {W cap : Nat} (hW : (St.map fun v => v.category).sum ≤ W) (hcap : z.toNatClampNeg ≤ cap) (hro : 1 ≤ R.frames ∧ W + 14 ≤ R.locals ∧ cells + 1 ≤ R.cells ∧ slots + cap ≤ R.slots)
    (hd : decode bytes pc = .ok (.invokevirtual i, 3)) (hp : pc + 3 = pc')
    (kk : ∀ T' h' a', a' = h.size → Pos p l e R s m args below meth c Z own bytes ml ret nm T' h' locs (cells + 1) (slots + cap) → Ext h h' → Arv Z h' a' k ty z vs dv → Exa Z h' a' ad → Go p e below FF (T'.setTop (mkF m pc' Ls (.ref a' :: St)))) : Go p e below FF (T.setTop (mkF m pc Ls (.ref a :: St))) := by
  subst hp
  obtain ⟨T', h', X', e', ex, A, B, st⟩ := cloneH P.st P.x P.z P.ow w1 w2 w3 w4 w5 w6 P.eh V.arh E (g := mkF m pc Ls (.ref a :: St)) rfl (by rw [P.mx]; exact hsz) rfl (hb P.bt hd) hro.1 (W := W) (by show 2 * 0 + _ ≤ _; omega) hro.2.1 hcap hro.2.2.1 hro.2.2.2
  exact Go.via st (kk T' h' h.size rfl ⟨P.1, X', e'⟩ ex A B)
theorem G.tsw (P : Pos p l e R s m args below meth c Z own bytes ml ret nm T h locs cells slots) {dflt low high o : Int} {offs : Array Int} {len : Nat} {x : Int32} (hd : decode bytes pc = .ok (.tableswitch dflt low high offs, len)) (hin : ¬ (x.toInt < low ∨ x.toInt > high)) (hoff : offs[(x.toInt - low).toNat]? = some o) (ho : 0 ≤ (pc : Int) + o) (hp : ((pc : Int) + o).toNat = pc')
    (kk : Go p e below FF (T.setTop (mkF m pc' Ls St))) : Go p e below FF (T.setTop (mkF m pc Ls (.int x :: St))) :=
  Go.via (fun _ => XS.tswIn (g := mkF m pc Ls (.int x :: St)) P.here P.x rfl (pc0 := pc) rfl (hb P.bt hd) rfl hin hoff ho hp) kk
theorem G.callU (P : Pos p l e R s m args below meth c Z own bytes ml ret nm T h locs cells slots) {C owner : String} {x y : MethodName} {by' : ByteArray} {ml' : Nat} {ret' : Option FieldType} {i : Nat} {rm : Room} {as' : Array Value} {Qc : Option Value → Heap → List Loc → Prop} (hM : OMeets l Z y by' ml' ret' rm as' h Qc)
    (w1 : (Jvm.Cond.methodLink own i x).before a0 Z = true) (w2 : (Jvm.Cond.sameMethod x.cls owner x.name x.desc).before a0 Z = true) (w3 : (Jvm.Cond.declares ⟨owner, x.name, x.desc⟩).before a0 Z = true) (hy : owner ≠ "java/lang/invoke/MethodHandle" ∧ owner ≠ "java/lang/invoke/VarHandle") (w4 : (Jvm.Cond.selects C x y).before a0 Z = true) (w5 : (Jvm.Cond.instanceMethod y).before a0 Z = true) (w6 : (Jvm.Cond.initialized y.cls).before a0 Z = true) (w7 : (Jvm.Cond.code y by' ml' ret').before a0 Z = true)
    {b : Addr} (E : Exa Z h b C) {ps : List FieldType} {r : Option FieldType} (hds : parseMethodDescriptor x.desc = some ⟨ps, r⟩) {argsL rest : List Value} (hal : argsL.length = ps.length) (hst : argsL.reverse ++ .ref b :: rest = St) (has : (.ref b :: argsL).toArray = as') (hsz : Ls.size = ml)
    {W : Nat} (hW : (rest.map fun v => v.category).sum ≤ W) (hro : rm.frames + 1 ≤ R.frames ∧ W + (ml' + 11) + rm.locals ≤ R.locals ∧ cells + rm.cells ≤ R.cells ∧ slots + rm.slots ≤ R.slots)
    (hd : decode bytes pc = .ok (.invokevirtual i, 3)) (hp : pc + 3 = pc')
    (kk : ∀ T' L v, Pos p l e R s m args below meth c Z own bytes ml ret nm T' T'.heap (locs ++ L) (cells + rm.cells) (slots + rm.slots) → Qc v T'.heap L → Go p e below FF (T'.setTop (mkF m pc' Ls (v.toList ++ rest)))) : Go p e below FF (T.setTop (mkF m pc Ls St)) := by
  subst hp hst has
  obtain ⟨cB, kB, q1, q2, q3⟩ := isOf P.z P.eh E
  obtain ⟨v, _, ⟨T', L', k', n'⟩, -, X', ⟨Lc, hQ, l1, l2, l3⟩, st⟩ := P.st.virtualBackUp P.x (x := x) (y := y) P.ow (mvT P.z w1) (mvT P.z w2) (mvT P.z w3) hy (mvT P.z w4) (mvT P.z w5) (backOf (W := W) hM P.z w7 w6 hro.1 hro.2.1) q1 q3 (g := mkF m pc Ls (argsL.reverse ++ .ref b :: rest)) rfl (by rw [P.mx]; exact hsz) (Steps.refl _) (argsL := argsL) (rest := rest) (lenOf hds hal) rfl (by show 2 * 0 + _ ≤ _; omega) (hb P.bt hd) (fun _ _ => ⟨rfl, P.eh, hro.2.2.1, hro.2.2.2⟩)
  dsimp only [Pt.U, Pt.locs, Pt.cells, Pt.slots] at X' l1 l2 l3 st hQ
  subst l1 l2 l3
  exact Go.come st (kk T' Lc v ⟨P.1, X', rfl⟩ hQ)
end Own
end Jvm.OwnKit
namespace Jvm.Pilot.@@N@@
open Jvm Jvm.ClassFile Sem Op Lib Jvm.Free Jvm.Stand Jvm.LawKit Jvm.RoadKit Jvm.OwnKit Bundle Jvm.Pilot.@@N@@.Jvm.D
abbrev y1 : MethodName := ⟨"com/example/lacewing/lacewing/schema/JsonTypeIsAPinLaw", "pick", "(I)Lcom/example/lacewing/lacewing/schema/JsonType;"⟩
theorem d1_0 : decode method_2_code 0 = .ok (.iload_n 0, 1) := by decide +kernel
theorem d1_1 : decode method_2_code 1 = .ok (.ifCond .ne 7, 3) := by decide +kernel
theorem d1_4 : decode method_2_code 4 = .ok (.getstatic 7, 3) := by decide +kernel
theorem d1_7 : decode method_2_code 7 = .ok (.areturn, 1) := by decide +kernel
theorem d1_8 : decode method_2_code 8 = .ok (.iload_n 0, 1) := by decide +kernel
theorem d1_9 : decode method_2_code 9 = .ok (.iconst 1, 1) := by decide +kernel
theorem d1_10 : decode method_2_code 10 = .ok (.if_icmp .ne 7, 3) := by decide +kernel
theorem d1_13 : decode method_2_code 13 = .ok (.getstatic 13, 3) := by decide +kernel
theorem d1_16 : decode method_2_code 16 = .ok (.areturn, 1) := by decide +kernel
theorem d1_17 : decode method_2_code 17 = .ok (.iload_n 0, 1) := by decide +kernel
theorem d1_18 : decode method_2_code 18 = .ok (.iconst 2, 1) := by decide +kernel
theorem d1_19 : decode method_2_code 19 = .ok (.if_icmp .ne 7, 3) := by decide +kernel
theorem d1_22 : decode method_2_code 22 = .ok (.getstatic 16, 3) := by decide +kernel
theorem d1_25 : decode method_2_code 25 = .ok (.areturn, 1) := by decide +kernel
theorem d1_26 : decode method_2_code 26 = .ok (.iload_n 0, 1) := by decide +kernel
theorem d1_27 : decode method_2_code 27 = .ok (.iconst 3, 1) := by decide +kernel
theorem d1_28 : decode method_2_code 28 = .ok (.if_icmp .ne 7, 3) := by decide +kernel
theorem d1_31 : decode method_2_code 31 = .ok (.getstatic 19, 3) := by decide +kernel
theorem d1_34 : decode method_2_code 34 = .ok (.areturn, 1) := by decide +kernel
theorem d1_35 : decode method_2_code 35 = .ok (.iload_n 0, 1) := by decide +kernel
theorem d1_36 : decode method_2_code 36 = .ok (.iconst 4, 1) := by decide +kernel
theorem d1_37 : decode method_2_code 37 = .ok (.if_icmp .ne 7, 3) := by decide +kernel
theorem d1_40 : decode method_2_code 40 = .ok (.getstatic 22, 3) := by decide +kernel
theorem d1_43 : decode method_2_code 43 = .ok (.areturn, 1) := by decide +kernel
theorem d1_44 : decode method_2_code 44 = .ok (.iload_n 0, 1) := by decide +kernel
theorem d1_45 : decode method_2_code 45 = .ok (.iconst 5, 1) := by decide +kernel
theorem d1_46 : decode method_2_code 46 = .ok (.if_icmp .ne 7, 3) := by decide +kernel
theorem d1_49 : decode method_2_code 49 = .ok (.getstatic 25, 3) := by decide +kernel
theorem d1_52 : decode method_2_code 52 = .ok (.areturn, 1) := by decide +kernel
theorem d1_53 : decode method_2_code 53 = .ok (.getstatic 28, 3) := by decide +kernel
theorem d1_56 : decode method_2_code 56 = .ok (.areturn, 1) := by decide +kernel
abbrev y2 : MethodName := ⟨"com/example/lacewing/lacewing/schema/JsonType", "isA", "(Lcom/example/lacewing/lacewing/schema/JsonType;)Z"⟩
theorem d2_0 : decode prog_88_method_9_code 0 = .ok (.aload_n 0, 1) := by decide +kernel
theorem d2_1 : decode prog_88_method_9_code 1 = .ok (.aload_n 1, 1) := by decide +kernel
theorem d2_2 : decode prog_88_method_9_code 2 = .ok (.if_acmp .eq 17, 3) := by decide +kernel
theorem d2_5 : decode prog_88_method_9_code 5 = .ok (.aload_n 0, 1) := by decide +kernel
theorem d2_6 : decode prog_88_method_9_code 6 = .ok (.getstatic 22, 3) := by decide +kernel
theorem d2_9 : decode prog_88_method_9_code 9 = .ok (.if_acmp .ne 14, 3) := by decide +kernel
theorem d2_12 : decode prog_88_method_9_code 12 = .ok (.aload_n 1, 1) := by decide +kernel
theorem d2_13 : decode prog_88_method_9_code 13 = .ok (.getstatic 16, 3) := by decide +kernel
theorem d2_16 : decode prog_88_method_9_code 16 = .ok (.if_acmp .ne 7, 3) := by decide +kernel
theorem d2_19 : decode prog_88_method_9_code 19 = .ok (.iconst 1, 1) := by decide +kernel
theorem d2_20 : decode prog_88_method_9_code 20 = .ok (.goto 4, 3) := by decide +kernel
theorem d2_23 : decode prog_88_method_9_code 23 = .ok (.iconst 0, 1) := by decide +kernel
theorem d2_24 : decode prog_88_method_9_code 24 = .ok (.ireturn, 1) := by decide +kernel
theorem pf_0 : plainFor x = true := by first | exact plainFor_of_name (by first | (simp [plainName, overriddenIn, x]; done) | decide +kernel) | decide +kernel
theorem pd_0 : parseMethodDescriptor "(II)Z" = some ⟨[.int, .int], some .boolean⟩ := by decide +kernel
theorem pf_1 : plainFor y1 = true := by first | exact plainFor_of_name (by first | (simp [plainName, overriddenIn, y1]; done) | decide +kernel) | decide +kernel
theorem pd_1 : parseMethodDescriptor "(I)Lcom/example/lacewing/lacewing/schema/JsonType;" = some ⟨[.int], some (.object "com/example/lacewing/lacewing/schema/JsonType")⟩ := by decide +kernel
theorem pf_2 : plainFor y2 = true := by first | exact plainFor_of_name (by first | (simp [plainName, overriddenIn, y2]; done) | decide +kernel) | decide +kernel
theorem pd_2 : parseMethodDescriptor "(Lcom/example/lacewing/lacewing/schema/JsonType;)Z" = some ⟨[(.object "com/example/lacewing/lacewing/schema/JsonType")], some .boolean⟩ := by decide +kernel
theorem own_eqv {t : Term} {k : Int32} {args : Array Value} {s : State} (h : (Jvm.Cond.eq t (Term.int k)).value args s none s [] = some true) : t.eval args s none [] s = some (.int k) := by
  simp only [Jvm.Cond.value, Term.eval] at h
  cases ht : t.eval args s none [] s with
  | none => simp [ht] at h
  | some y => cases y <;> simp [ht] at h ⊢ <;> exact h
theorem own_cases (k : Int32) (h : 0 ≤ k.toInt ∧ k.toInt ≤ 6) : k = (0 : Int32) ∨ k = (1 : Int32) ∨ k = (2 : Int32) ∨ k = (3 : Int32) ∨ k = (4 : Int32) ∨ k = (5 : Int32) ∨ k = (6 : Int32) := by
  have k0 : (0 : Int32).toInt = 0 := by decide
  have k1 : (1 : Int32).toInt = 1 := by decide
  have k2 : (2 : Int32).toInt = 2 := by decide
  have k3 : (3 : Int32).toInt = 3 := by decide
  have k4 : (4 : Int32).toInt = 4 := by decide
  have k5 : (5 : Int32).toInt = 5 := by decide
  have k6 : (6 : Int32).toInt = 6 := by decide
  simp only [← Int32.toInt_inj, k0, k1, k2, k3, k4, k5, k6]; omega
theorem own_inj {Z : State} {h : Heap} {ad : Int32 → Addr} (hE : ∀ k : Int32, 0 ≤ k.toInt ∧ k.toInt ≤ 6 → Exa Z h (ad k) "com/example/lacewing/lacewing/schema/JsonType" ∧ Fld Z h (ad k) "java/lang/Enum" "ordinal" "I" (.int k)) {i j : Int32} (hi : 0 ≤ i.toInt ∧ i.toInt ≤ 6) (hj : 0 ≤ j.toInt ∧ j.toInt ≤ 6) : ad i = ad j ↔ i = j := by
  constructor
  · intro q
    exact Classical.byContradiction fun r => Fld.ne (hE i hi).2 (hE j hj).2 (fun z => r (Value.int.inj z)) q
  · intro q; rw [q]

theorem ef_rmPick (m : MethodId) (x0 : Int32) : entryFrame m #[(.int x0)] 1 = mkF m 0 #[.val (.int x0)] [] := by first | (simp [entryFrame, mkF, argsToLocals, Value.category]; done) | rfl
set_option maxRecDepth 65536 in
set_option maxHeartbeats 40000000 in
theorem rmPick (l : Launch) (Z : State) (a0 : Array Value) (hw : ∀ d ∈ tables_1, d.before a0 Z = true) (x0 : Int32) (h0 : Heap) (ad : Int32 → Addr) (S_NULL : Sta Z h0 "com/example/lacewing/lacewing/schema/JsonType" "NULL" "Lcom/example/lacewing/lacewing/schema/JsonType;" (.ref (ad (0 : Int32)))) (S_BOOLEAN : Sta Z h0 "com/example/lacewing/lacewing/schema/JsonType" "BOOLEAN" "Lcom/example/lacewing/lacewing/schema/JsonType;" (.ref (ad (1 : Int32)))) (S_OBJECT : Sta Z h0 "com/example/lacewing/lacewing/schema/JsonType" "OBJECT" "Lcom/example/lacewing/lacewing/schema/JsonType;" (.ref (ad (2 : Int32)))) (S_ARRAY : Sta Z h0 "com/example/lacewing/lacewing/schema/JsonType" "ARRAY" "Lcom/example/lacewing/lacewing/schema/JsonType;" (.ref (ad (3 : Int32)))) (S_NUMBER : Sta Z h0 "com/example/lacewing/lacewing/schema/JsonType" "NUMBER" "Lcom/example/lacewing/lacewing/schema/JsonType;" (.ref (ad (4 : Int32)))) (S_STRING : Sta Z h0 "com/example/lacewing/lacewing/schema/JsonType" "STRING" "Lcom/example/lacewing/lacewing/schema/JsonType;" (.ref (ad (5 : Int32)))) (S_INTEGER : Sta Z h0 "com/example/lacewing/lacewing/schema/JsonType" "INTEGER" "Lcom/example/lacewing/lacewing/schema/JsonType;" (.ref (ad (6 : Int32)))) (hx : 0 ≤ x0.toInt ∧ x0.toInt ≤ 6) :
    OMeets l Z y1 method_2_code 1 (some (.object "com/example/lacewing/lacewing/schema/JsonType")) ({ frames := 0, cells := 0, slots := 0, locals := 0 } : Room) #[(.int x0)] h0 (OPure (some (.ref (ad x0))) h0) := by
  refine met (Q := OPure (some (.ref (ad x0))) h0) pf_1 (fun m => ef_rmPick m x0) fun p e s m below meth c T0 P0 => ?_
  refine G.iloadN P0 d1_0 rfl (pc' := 1) rfl ?_
  refine G.if_ne P0 d1_1 (by decide) (pcY := 8) (by decide) (pcN := 4) rfl (fun c1 => ?_) (fun c1 => ?_)
  · --
    refine G.iloadN P0 d1_8 rfl (pc' := 9) rfl ?_
    refine G.iconst P0 d1_9 (z := (1 : Int32)) rfl (pc' := 10) rfl ?_
    refine G.icmp_ne P0 d1_10 (by decide) (pcY := 17) (by decide) (pcN := 13) rfl (fun c2 => ?_) (fun c2 => ?_)
    · --
      refine G.iloadN P0 d1_17 rfl (pc' := 18) rfl ?_
      refine G.iconst P0 d1_18 (z := (2 : Int32)) rfl (pc' := 19) rfl ?_
      refine G.icmp_ne P0 d1_19 (by decide) (pcY := 26) (by decide) (pcN := 22) rfl (fun c3 => ?_) (fun c3 => ?_)
      · --
        refine G.iloadN P0 d1_26 rfl (pc' := 27) rfl ?_
        refine G.iconst P0 d1_27 (z := (3 : Int32)) rfl (pc' := 28) rfl ?_
        refine G.icmp_ne P0 d1_28 (by decide) (pcY := 35) (by decide) (pcN := 31) rfl (fun c4 => ?_) (fun c4 => ?_)
        · --
          refine G.iloadN P0 d1_35 rfl (pc' := 36) rfl ?_
          refine G.iconst P0 d1_36 (z := (4 : Int32)) rfl (pc' := 37) rfl ?_
          refine G.icmp_ne P0 d1_37 (by decide) (pcY := 44) (by decide) (pcN := 40) rfl (fun c5 => ?_) (fun c5 => ?_)
          · --
            refine G.iloadN P0 d1_44 rfl (pc' := 45) rfl ?_
            refine G.iconst P0 d1_45 (z := (5 : Int32)) rfl (pc' := 46) rfl ?_
            refine G.icmp_ne P0 d1_46 (by decide) (pcY := 53) (by decide) (pcN := 49) rfl (fun c6 => ?_) (fun c6 => ?_)
            · --
              refine G.getS P0 (host := "") (Or.inl (wk hw 25 rfl)) Via.refl S_INTEGER d1_53 (pc' := 56) rfl fun T7 P7 => ?_
              have e_ : (6 : Int32) = x0 := by
                rcases own_cases x0 hx with q | q | q | q | q | q | q
                · exact absurd q c1
                · exact absurd q c2
                · exact absurd q c3
                · exact absurd q c4
                · exact absurd q c5
                · exact absurd q c6
                · exact q.symm
              exact G.retA P7 rfl rfl rfl d1_56 (by decide) (by decide) ⟨sR (congrArg ad e_), rfl, rfl⟩
            · --
              refine G.getS P0 (host := "") (Or.inl (wk hw 19 rfl)) Via.refl S_STRING d1_49 (pc' := 52) rfl fun T8 P8 => ?_
              exact G.retA P8 rfl rfl rfl d1_52 (by decide) (by decide) ⟨sR (congrArg ad c6.symm), rfl, rfl⟩
          · --
            refine G.getS P0 (host := "") (Or.inl (wk hw 23 rfl)) Via.refl S_NUMBER d1_40 (pc' := 43) rfl fun T9 P9 => ?_
            exact G.retA P9 rfl rfl rfl d1_43 (by decide) (by decide) ⟨sR (congrArg ad c5.symm), rfl, rfl⟩
        · --
          refine G.getS P0 (host := "") (Or.inl (wk hw 8 rfl)) Via.refl S_ARRAY d1_31 (pc' := 34) rfl fun T10 P10 => ?_
          exact G.retA P10 rfl rfl rfl d1_34 (by decide) (by decide) ⟨sR (congrArg ad c4.symm), rfl, rfl⟩
      · --
        refine G.getS P0 (host := "") (Or.inl (wk hw 21 rfl)) Via.refl S_OBJECT d1_22 (pc' := 25) rfl fun T11 P11 => ?_
        exact G.retA P11 rfl rfl rfl d1_25 (by decide) (by decide) ⟨sR (congrArg ad c3.symm), rfl, rfl⟩
    · --
      refine G.getS P0 (host := "") (Or.inl (wk hw 17 rfl)) Via.refl S_BOOLEAN d1_13 (pc' := 16) rfl fun T12 P12 => ?_
      exact G.retA P12 rfl rfl rfl d1_16 (by decide) (by decide) ⟨sR (congrArg ad c2.symm), rfl, rfl⟩
  · --
    refine G.getS P0 (host := "") (Or.inl (wk hw 5 rfl)) Via.refl S_NULL d1_4 (pc' := 7) rfl fun T13 P13 => ?_
    exact G.retA P13 rfl rfl rfl d1_7 (by decide) (by decide) ⟨sR (congrArg ad c1.symm), rfl, rfl⟩

theorem ef_rmIsA (m : MethodId) (a b : Addr) : entryFrame m #[(.ref a), (.ref b)] 2 = mkF m 0 #[.val (.ref a), .val (.ref b)] [] := by first | (simp [entryFrame, mkF, argsToLocals, Value.category]; done) | rfl
set_option maxRecDepth 65536 in
set_option maxHeartbeats 40000000 in
theorem rmIsA (l : Launch) (Z : State) (a0 : Array Value) (hw : ∀ d ∈ tables_1, d.before a0 Z = true) (a b : Addr) (h0 : Heap) (ad : Int32 → Addr) (S_INTEGER : Sta Z h0 "com/example/lacewing/lacewing/schema/JsonType" "INTEGER" "Lcom/example/lacewing/lacewing/schema/JsonType;" (.ref (ad (6 : Int32)))) (S_NUMBER : Sta Z h0 "com/example/lacewing/lacewing/schema/JsonType" "NUMBER" "Lcom/example/lacewing/lacewing/schema/JsonType;" (.ref (ad (4 : Int32)))) :
    OMeets l Z y2 prog_88_method_9_code 2 (some .boolean) ({ frames := 0, cells := 0, slots := 0, locals := 0 } : Room) #[(.ref a), (.ref b)] h0 (OPure (some (.int (if a = b then (1 : Int32) else if a = ad (6 : Int32) ∧ b = ad (4 : Int32) then (1 : Int32) else (0 : Int32)))) h0) := by
  refine met (Q := OPure (some (.int (if a = b then (1 : Int32) else if a = ad (6 : Int32) ∧ b = ad (4 : Int32) then (1 : Int32) else (0 : Int32)))) h0) pf_2 (fun m => ef_rmIsA m a b) fun p e s m below meth c T0 P0 => ?_
  refine G.aloadN P0 d2_0 rfl rfl (pc' := 1) rfl ?_
  refine G.aloadN P0 d2_1 rfl rfl (pc' := 2) rfl ?_
  refine G.acmp_eq P0 d2_2 (by decide) (pcY := 19) (by decide) (pcN := 5) rfl (fun c1 => ?_) (fun c1 => ?_)
  · --
    refine G.iconst P0 d2_19 (z := (1 : Int32)) rfl (pc' := 20) rfl ?_
    refine G.goto P0 d2_20 (by decide) (pc' := 24) (by decide) ?_
    have e_ : (1 : Int32) = (if a = b then (1 : Int32) else if a = ad (6 : Int32) ∧ b = ad (4 : Int32) then (1 : Int32) else (0 : Int32)) := (if_pos c1).symm
    exact G.retN P0 (t := .boolean) rfl (by simp) d2_24 (by decide) (by decide) ⟨sI e_, rfl, rfl⟩
  · --
    refine G.aloadN P0 d2_5 rfl rfl (pc' := 6) rfl ?_
    refine G.getS P0 (host := "") (Or.inl (wk hw 15 rfl)) Via.refl S_INTEGER d2_6 (pc' := 9) rfl fun T2 P2 => ?_
    refine G.acmp_ne P2 d2_9 (by decide) (pcY := 23) (by decide) (pcN := 12) rfl (fun c3 => ?_) (fun c3 => ?_)
    · --
      refine G.iconst P2 d2_23 (z := (0 : Int32)) rfl (pc' := 24) rfl ?_
      have e_ : (0 : Int32) = (if a = b then (1 : Int32) else if a = ad (6 : Int32) ∧ b = ad (4 : Int32) then (1 : Int32) else (0 : Int32)) := ((if_neg c1).trans (if_neg (fun q => c3 q.1))).symm
      exact G.retN P2 (t := .boolean) rfl (by simp) d2_24 (by decide) (by decide) ⟨sI e_, rfl, rfl⟩
    · --
      refine G.aloadN P2 d2_12 rfl rfl (pc' := 13) rfl ?_
      refine G.getS P2 (host := "") (Or.inl (wk hw 26 rfl)) Via.refl S_NUMBER d2_13 (pc' := 16) rfl fun T4 P4 => ?_
      refine G.acmp_ne P4 d2_16 (by decide) (pcY := 23) (by decide) (pcN := 19) rfl (fun c5 => ?_) (fun c5 => ?_)
      · --
        refine G.iconst P4 d2_23 (z := (0 : Int32)) rfl (pc' := 24) rfl ?_
        have e_ : (0 : Int32) = (if a = b then (1 : Int32) else if a = ad (6 : Int32) ∧ b = ad (4 : Int32) then (1 : Int32) else (0 : Int32)) := ((if_neg c1).trans (if_neg (fun q => c5 q.2))).symm
        exact G.retN P4 (t := .boolean) rfl (by simp) d2_24 (by decide) (by decide) ⟨sI e_, rfl, rfl⟩
      · --
        refine G.iconst P4 d2_19 (z := (1 : Int32)) rfl (pc' := 20) rfl ?_
        refine G.goto P4 d2_20 (by decide) (pc' := 24) (by decide) ?_
        have e_ : (1 : Int32) = (if a = b then (1 : Int32) else if a = ad (6 : Int32) ∧ b = ad (4 : Int32) then (1 : Int32) else (0 : Int32)) := ((if_neg c1).trans (if_pos ⟨c3, c5⟩)).symm
        exact G.retN P4 (t := .boolean) rfl (by simp) d2_24 (by decide) (by decide) ⟨sI e_, rfl, rfl⟩

theorem own_rng (y : Int32) : 0 ≤ ((y &&& (2147483647 : Int32)) % (7 : Int32)).toInt ∧ ((y &&& (2147483647 : Int32)) % (7 : Int32)).toInt ≤ 6 := by
  have a1 := c_mask y (2147483647 : Int32) 31 (by decide) (by decide)
  have a2 := c_irem (y &&& (2147483647 : Int32)) 7 7 rfl
  omega
theorem own_law {Z : State} {h : Heap} {ad : Int32 → Addr} (hE : ∀ k : Int32, 0 ≤ k.toInt ∧ k.toInt ≤ 6 → Exa Z h (ad k) "com/example/lacewing/lacewing/schema/JsonType" ∧ Fld Z h (ad k) "java/lang/Enum" "ordinal" "I" (.int k)) {i j : Int32} (hi : 0 ≤ i.toInt ∧ i.toInt ≤ 6) (hj : 0 ≤ j.toInt ∧ j.toInt ≤ 6) : (if (ad i) = (ad j) then (1 : Int32) else if (ad i) = ad (6 : Int32) ∧ (ad j) = ad (4 : Int32) then (1 : Int32) else (0 : Int32)) = (if i = j then (1 : Int32) else if i = (6 : Int32) ∧ j = (4 : Int32) then (1 : Int32) else (0 : Int32)) := by
  simp only [own_inj hE hi hj, own_inj hE hi (j := 6) (by decide), own_inj hE hj (j := 4) (by decide)]

theorem ef_0 (m : MethodId) (x0 : Int32) (x1 : Int32) : entryFrame m #[(.int x0), (.int x1)] maxLocals = mkF m 0 #[.val (.int x0), .val (.int x1), .unset, .unset, .unset, .unset, .unset] [] := by first | (simp [entryFrame, mkF, argsToLocals, Value.category, maxLocals]; done) | rfl
set_option maxRecDepth 65536 in
set_option maxHeartbeats 40000000 in
theorem rm0 (l : Launch) (Z : State) (a0 : Array Value) (hw : ∀ d ∈ tables_1, d.before a0 Z = true) (x0 : Int32) (x1 : Int32) (h0 : Heap) (n0 : Nat) (Z0 : n0 ≤ Array.size h0) (ad : Int32 → Addr) (S_NULL : Sta Z h0 "com/example/lacewing/lacewing/schema/JsonType" "NULL" "Lcom/example/lacewing/lacewing/schema/JsonType;" (.ref (ad (0 : Int32)))) (S_BOOLEAN : Sta Z h0 "com/example/lacewing/lacewing/schema/JsonType" "BOOLEAN" "Lcom/example/lacewing/lacewing/schema/JsonType;" (.ref (ad (1 : Int32)))) (S_OBJECT : Sta Z h0 "com/example/lacewing/lacewing/schema/JsonType" "OBJECT" "Lcom/example/lacewing/lacewing/schema/JsonType;" (.ref (ad (2 : Int32)))) (S_ARRAY : Sta Z h0 "com/example/lacewing/lacewing/schema/JsonType" "ARRAY" "Lcom/example/lacewing/lacewing/schema/JsonType;" (.ref (ad (3 : Int32)))) (S_NUMBER : Sta Z h0 "com/example/lacewing/lacewing/schema/JsonType" "NUMBER" "Lcom/example/lacewing/lacewing/schema/JsonType;" (.ref (ad (4 : Int32)))) (S_STRING : Sta Z h0 "com/example/lacewing/lacewing/schema/JsonType" "STRING" "Lcom/example/lacewing/lacewing/schema/JsonType;" (.ref (ad (5 : Int32)))) (S_INTEGER : Sta Z h0 "com/example/lacewing/lacewing/schema/JsonType" "INTEGER" "Lcom/example/lacewing/lacewing/schema/JsonType;" (.ref (ad (6 : Int32)))) (hE : ∀ k : Int32, 0 ≤ k.toInt ∧ k.toInt ≤ 6 → Exa Z h0 (ad k) "com/example/lacewing/lacewing/schema/JsonType" ∧ Fld Z h0 (ad k) "java/lang/Enum" "ordinal" "I" (.int k)) :
    MetFree l x (head1 (Jvm.Cond.code x code maxLocals ret :: tables_1) room_1) (fun a U => a = #[(.int x0), (.int x1)] ∧ Z.Warmed39 U.vm ∧ U.heap = h0) (fun _ _ _ _ _ => True) (fun _ U o U' => ∃ v L, o = .returned v ∧ (fun v h L => v = some (.int 1) ∧ Fr n0 L) v U'.heap L ∧ FrameEnd U o U' L room_1.cells room_1.slots) := by
  refine met (Q := fun v h L => v = some (.int 1) ∧ Fr n0 L) pf_0 (fun m => ef_0 m x0 x1) fun p e s m below meth c T0 P0 => ?_
  have N0 := Fr.nil n0
  refine G.iloadN P0 at_0 rfl (pc' := 1) rfl ?_
  refine G.ldcI P0 (wk hw 0 rfl) at_1 (pc' := 3) rfl ?_
  refine G.iand P0 at_3 rfl (pc' := 4) rfl ?_
  refine G.bipush P0 at_4 (z := (7 : Int32)) rfl (pc' := 6) rfl ?_
  obtain ⟨i, h_i⟩ : ∃ z : Int32, ((x0 &&& (2147483647 : Int32)) % (7 : Int32)) = z := ⟨_, rfl⟩
  refine G.irem P0 at_6 (by decide) (z := i) h_i (pc' := 7) rfl ?_
  refine G.istoreN P0 at_7 (l' := #[.val (.int x0), .val (.int x1), .val (.int i), .unset, .unset, .unset, .unset]) rfl (pc' := 8) rfl ?_
  have hi : 0 ≤ i.toInt ∧ i.toInt ≤ 6 := by rw [← h_i]; exact own_rng x0
  refine G.iloadN P0 at_8 rfl (pc' := 9) rfl ?_
  refine G.ldcI P0 (wk hw 0 rfl) at_9 (pc' := 11) rfl ?_
  refine G.iand P0 at_11 rfl (pc' := 12) rfl ?_
  refine G.bipush P0 at_12 (z := (7 : Int32)) rfl (pc' := 14) rfl ?_
  obtain ⟨j, h_j⟩ : ∃ z : Int32, ((x1 &&& (2147483647 : Int32)) % (7 : Int32)) = z := ⟨_, rfl⟩
  refine G.irem P0 at_14 (by decide) (z := j) h_j (pc' := 15) rfl ?_
  refine G.istoreN P0 at_15 (l' := #[.val (.int x0), .val (.int x1), .val (.int i), .val (.int j), .unset, .unset, .unset]) rfl (pc' := 16) rfl ?_
  have hj : 0 ≤ j.toInt ∧ j.toInt ≤ 6 := by rw [← h_j]; exact own_rng x1
  refine G.iloadN P0 at_16 rfl (pc' := 17) rfl ?_
  refine G.callSP P0 (rmPick l Z a0 hw i h0 ad S_NULL S_BOOLEAN S_OBJECT S_ARRAY S_NUMBER S_STRING S_INTEGER hi) (wk hw 1 rfl) (wk hw 2 rfl) (wk hw 3 rfl) (wk hw 4 rfl) (by decide) pd_1 (argsL := [(.int i)]) (rest := []) rfl rfl rfl rfl (W := 0) (Nat.le_of_eq rfl) (by decide) at_17 (pc' := 20) rfl fun T1 P1 => ?_
  show Go p e below _ (T1.setTop (mkF m 20 #[.val (.int x0), .val (.int x1), .val (.int i), .val (.int j), .unset, .unset, .unset] [(.ref (ad i))]))
  refine G.astore P1 at_20 rfl (l' := #[.val (.int x0), .val (.int x1), .val (.int i), .val (.int j), .val (.ref (ad i)), .unset, .unset]) rfl (pc' := 22) rfl ?_
  refine G.iloadN P1 at_22 rfl (pc' := 23) rfl ?_
  refine G.callSP P1 (rmPick l Z a0 hw j h0 ad S_NULL S_BOOLEAN S_OBJECT S_ARRAY S_NUMBER S_STRING S_INTEGER hj) (wk hw 1 rfl) (wk hw 2 rfl) (wk hw 3 rfl) (wk hw 4 rfl) (by decide) pd_1 (argsL := [(.int j)]) (rest := []) rfl rfl rfl rfl (W := 0) (Nat.le_of_eq rfl) (by decide) at_23 (pc' := 26) rfl fun T2 P2 => ?_
  show Go p e below _ (T2.setTop (mkF m 26 #[.val (.int x0), .val (.int x1), .val (.int i), .val (.int j), .val (.ref (ad i)), .unset, .unset] [(.ref (ad j))]))
  refine G.astore P2 at_26 rfl (l' := #[.val (.int x0), .val (.int x1), .val (.int i), .val (.int j), .val (.ref (ad i)), .val (.ref (ad j)), .unset]) rfl (pc' := 28) rfl ?_
  refine G.iloadN P2 at_28 rfl (pc' := 29) rfl ?_
  refine G.iloadN P2 at_29 rfl (pc' := 30) rfl ?_
  refine Go.all (S1 := fun ee : Int32 => T2.setTop (mkF m 59 #[.val (.int x0), .val (.int x1), .val (.int i), .val (.int j), .val (.ref (ad i)), .val (.ref (ad j)), .val (.int ee)] [])) (A := fun ee => ee = (if i = j then (1 : Int32) else if i = (6 : Int32) ∧ j = (4 : Int32) then (1 : Int32) else (0 : Int32))) (fun H3 => ?_) (fun ee j3 => ?_)
  · --
    refine G.icmp_ne P2 at_30 (by decide) (pcY := 39) (by decide) (pcN := 33) rfl (fun c4 => ?_) (fun c4 => ?_)
    · --
      refine G.iloadN P2 at_39 rfl (pc' := 40) rfl ?_
      refine G.bipush P2 at_40 (z := (6 : Int32)) rfl (pc' := 42) rfl ?_
      refine G.icmp_ne P2 at_42 (by decide) (pcY := 56) (by decide) (pcN := 45) rfl (fun c5 => ?_) (fun c5 => ?_)
      · --
        refine G.iconst P2 at_56 (z := (0 : Int32)) rfl (pc' := 57) rfl ?_
        refine G.istore P2 at_57 (l' := #[.val (.int x0), .val (.int x1), .val (.int i), .val (.int j), .val (.ref (ad i)), .val (.ref (ad j)), .val (.int (0 : Int32))]) rfl (pc' := 59) rfl ?_
        exact H3 ((0 : Int32)) (((if_neg c4).trans (if_neg (fun q => c5 q.1))).symm)
      · --
        refine G.iloadN P2 at_45 rfl (pc' := 46) rfl ?_
        refine G.iconst P2 at_46 (z := (4 : Int32)) rfl (pc' := 47) rfl ?_
        refine G.icmp_ne P2 at_47 (by decide) (pcY := 56) (by decide) (pcN := 50) rfl (fun c6 => ?_) (fun c6 => ?_)
        · --
          refine G.iconst P2 at_56 (z := (0 : Int32)) rfl (pc' := 57) rfl ?_
          refine G.istore P2 at_57 (l' := #[.val (.int x0), .val (.int x1), .val (.int i), .val (.int j), .val (.ref (ad i)), .val (.ref (ad j)), .val (.int (0 : Int32))]) rfl (pc' := 59) rfl ?_
          exact H3 ((0 : Int32)) (((if_neg c4).trans (if_neg (fun q => c6 q.2))).symm)
        · --
          refine G.iconst P2 at_50 (z := (1 : Int32)) rfl (pc' := 51) rfl ?_
          refine G.istore P2 at_51 (l' := #[.val (.int x0), .val (.int x1), .val (.int i), .val (.int j), .val (.ref (ad i)), .val (.ref (ad j)), .val (.int (1 : Int32))]) rfl (pc' := 53) rfl ?_
          refine G.goto P2 at_53 (by decide) (pc' := 59) (by decide) ?_
          exact H3 ((1 : Int32)) (((if_neg c4).trans (if_pos ⟨c5, c6⟩)).symm)
    · --
      refine G.iconst P2 at_33 (z := (1 : Int32)) rfl (pc' := 34) rfl ?_
      refine G.istore P2 at_34 (l' := #[.val (.int x0), .val (.int x1), .val (.int i), .val (.int j), .val (.ref (ad i)), .val (.ref (ad j)), .val (.int (1 : Int32))]) rfl (pc' := 36) rfl ?_
      refine G.goto P2 at_36 (by decide) (pc' := 59) (by decide) ?_
      exact H3 ((1 : Int32)) ((if_pos c4).symm)
  have XA := (hE i hi).1
  refine G.aload P2 at_59 rfl rfl (pc' := 61) rfl ?_
  refine G.aload P2 at_61 rfl rfl (pc' := 63) rfl ?_
  refine G.callVP P2 (rmIsA l Z a0 hw (ad i) (ad j) h0 ad S_INTEGER S_NUMBER) (wk hw 10 rfl) (wk hw 11 rfl) (wk hw 13 rfl) rfl (wk hw 12 rfl) (wk hw 6 rfl) (wk hw 14 rfl) (by decide) XA pd_2 (argsL := [(.ref (ad j))]) (rest := []) rfl rfl rfl rfl (W := 0) (Nat.le_of_eq rfl) (by decide) at_63 (pc' := 66) rfl fun T7 P7 => ?_
  show Go p e below _ (T7.setTop (mkF m 66 #[.val (.int x0), .val (.int x1), .val (.int i), .val (.int j), .val (.ref (ad i)), .val (.ref (ad j)), .val (.int ee)] [(.int (if (ad i) = (ad j) then (1 : Int32) else if (ad i) = ad (6 : Int32) ∧ (ad j) = ad (4 : Int32) then (1 : Int32) else (0 : Int32)))]))
  refine G.iload P7 at_66 rfl (pc' := 68) rfl ?_
  refine G.icmp_ne P7 at_68 (by decide) (pcY := 75) (by decide) (pcN := 71) rfl (fun cc => absurd ((own_law hE hi hj).trans j3.symm) cc) (fun cc => ?_)
  refine G.iconst P7 at_71 (z := (1 : Int32)) rfl (pc' := 72) rfl ?_
  refine G.goto P7 at_72 (by decide) (pc' := 76) (by decide) ?_
  exact G.retN P7 (t := .boolean) rfl (by simp) at_76 (by decide) (by decide) ⟨rfl, N0⟩

set_option maxRecDepth 65536 in
set_option maxHeartbeats 40000000 in
theorem comes_1 {Post : Tables → Env → Array Value → State → Outcome → State → Prop} (hpost : ∀ tb e args s v u, (limb_1_1.after args s (.returned v) u = true ∧ limb_1_2.after args s (.returned v) u = true ∧ True) → FrameEnd s (.returned v) u (Jvm.fieldLocs frame_1_writes args s ++ Jvm.arrayLocs frame_1_arrays args s ++ Jvm.staticLocs frame_1_statics s) 0 0 → Post tb e args s (.returned v) u) :
    ArmFor flags0 classFile x code maxLocals ret World_1 tables_1 room_1 Calls_1 rest_1 Pre_1 Post := by
  intro l hfl _ _ p e ha hc hk s m args below hf hA hF happ hP
  obtain ⟨hcalls, hrest, hpre⟩ := hP
  obtain ⟨-, -, -, hnamed, -, -, -, hat⟩ := (Spec.applies_iff hf).mp happ
  obtain ⟨hg, hn⟩ := and_e (Cond.before_iff.mp (show (Jvm.Cond.and given_1 narrow_1).before args s = true from hpre))
  obtain ⟨h1, hg1⟩ := and_e hg
  obtain ⟨i0, hg2⟩ := and_e hg1
  have i1 := hg2
  obtain ⟨w0, w1, rfl⟩ : ∃ w0 w1 : Value, args = #[w0, w1] := by
    have hs : args.size = 2 := by simpa [Cond.value, given_1] using h1
    obtain ⟨L⟩ := args
    match L, hs with
    | [w0, w1], _ => exact ⟨w0, w1, rfl⟩
  have hw := fun d (hd : d ∈ tables_1) => atoms_spec (ws := Jvm.Cond.code x code maxLocals ret :: tables_1) hat d (List.mem_cons_of_mem _ hd)
  obtain ⟨x0, e0⟩ := is_v i0
  obtain rfl : w0 = (.int x0) := Option.some.inj e0
  obtain ⟨x1, e1⟩ := is_v i1
  obtain rfl : w1 = (.int x1) := Option.some.inj e1
  obtain ⟨q0, hn0⟩ := and_e hn
  obtain ⟨q1, hn1⟩ := and_e hn0
  obtain ⟨q2, hn2⟩ := and_e hn1
  obtain ⟨q3, hn3⟩ := and_e hn2
  obtain ⟨q4, hn4⟩ := and_e hn3
  obtain ⟨q5, hn5⟩ := and_e hn4
  obtain ⟨q6, hn6⟩ := and_e hn5
  obtain ⟨q7, hn7⟩ := and_e hn6
  obtain ⟨q8, hn8⟩ := and_e hn7
  obtain ⟨q9, hn9⟩ := and_e hn8
  obtain ⟨q10, hn10⟩ := and_e hn9
  obtain ⟨q11, hn11⟩ := and_e hn10
  obtain ⟨q12, hn12⟩ := and_e hn11
  have q13 := hn12
  obtain ⟨e_NULL, v_NULL⟩ := exa_v q0
  have S_NULL : Sta s s.heap "com/example/lacewing/lacewing/schema/JsonType" "NULL" "Lcom/example/lacewing/lacewing/schema/JsonType;" (.ref e_NULL) := Sta.start v_NULL (Or.inr ⟨(wk hw 6 rfl), (wk hw 7 rfl)⟩)
  have X_NULL : Exa s s.heap e_NULL "com/example/lacewing/lacewing/schema/JsonType" := Exa.start v_NULL q0
  obtain ⟨e_ARRAY, v_ARRAY⟩ := exa_v q1
  have S_ARRAY : Sta s s.heap "com/example/lacewing/lacewing/schema/JsonType" "ARRAY" "Lcom/example/lacewing/lacewing/schema/JsonType;" (.ref e_ARRAY) := Sta.start v_ARRAY (Or.inr ⟨(wk hw 6 rfl), (wk hw 9 rfl)⟩)
  have X_ARRAY : Exa s s.heap e_ARRAY "com/example/lacewing/lacewing/schema/JsonType" := Exa.start v_ARRAY q1
  obtain ⟨e_INTEGER, v_INTEGER⟩ := exa_v q4
  have S_INTEGER : Sta s s.heap "com/example/lacewing/lacewing/schema/JsonType" "INTEGER" "Lcom/example/lacewing/lacewing/schema/JsonType;" (.ref e_INTEGER) := Sta.start v_INTEGER (Or.inr ⟨(wk hw 6 rfl), (wk hw 16 rfl)⟩)
  have X_INTEGER : Exa s s.heap e_INTEGER "com/example/lacewing/lacewing/schema/JsonType" := Exa.start v_INTEGER q4
  obtain ⟨e_BOOLEAN, v_BOOLEAN⟩ := exa_v q6
  have S_BOOLEAN : Sta s s.heap "com/example/lacewing/lacewing/schema/JsonType" "BOOLEAN" "Lcom/example/lacewing/lacewing/schema/JsonType;" (.ref e_BOOLEAN) := Sta.start v_BOOLEAN (Or.inr ⟨(wk hw 6 rfl), (wk hw 18 rfl)⟩)
  have X_BOOLEAN : Exa s s.heap e_BOOLEAN "com/example/lacewing/lacewing/schema/JsonType" := Exa.start v_BOOLEAN q6
  obtain ⟨e_STRING, v_STRING⟩ := exa_v q8
  have S_STRING : Sta s s.heap "com/example/lacewing/lacewing/schema/JsonType" "STRING" "Lcom/example/lacewing/lacewing/schema/JsonType;" (.ref e_STRING) := Sta.start v_STRING (Or.inr ⟨(wk hw 6 rfl), (wk hw 20 rfl)⟩)
  have X_STRING : Exa s s.heap e_STRING "com/example/lacewing/lacewing/schema/JsonType" := Exa.start v_STRING q8
  obtain ⟨e_OBJECT, v_OBJECT⟩ := exa_v q10
  have S_OBJECT : Sta s s.heap "com/example/lacewing/lacewing/schema/JsonType" "OBJECT" "Lcom/example/lacewing/lacewing/schema/JsonType;" (.ref e_OBJECT) := Sta.start v_OBJECT (Or.inr ⟨(wk hw 6 rfl), (wk hw 22 rfl)⟩)
  have X_OBJECT : Exa s s.heap e_OBJECT "com/example/lacewing/lacewing/schema/JsonType" := Exa.start v_OBJECT q10
  obtain ⟨e_NUMBER, v_NUMBER⟩ := exa_v q12
  have S_NUMBER : Sta s s.heap "com/example/lacewing/lacewing/schema/JsonType" "NUMBER" "Lcom/example/lacewing/lacewing/schema/JsonType;" (.ref e_NUMBER) := Sta.start v_NUMBER (Or.inr ⟨(wk hw 6 rfl), (wk hw 24 rfl)⟩)
  have X_NUMBER : Exa s s.heap e_NUMBER "com/example/lacewing/lacewing/schema/JsonType" := Exa.start v_NUMBER q12
  have F_NULL_ordinal : Fld s s.heap e_NULL "java/lang/Enum" "ordinal" "I" (.int (0 : Int32)) := Fld.start ((fld_at v_NULL).symm.trans (own_eqv q2))
  have F_ARRAY_ordinal : Fld s s.heap e_ARRAY "java/lang/Enum" "ordinal" "I" (.int (3 : Int32)) := Fld.start ((fld_at v_ARRAY).symm.trans (own_eqv q3))
  have F_INTEGER_ordinal : Fld s s.heap e_INTEGER "java/lang/Enum" "ordinal" "I" (.int (6 : Int32)) := Fld.start ((fld_at v_INTEGER).symm.trans (own_eqv q5))
  have F_BOOLEAN_ordinal : Fld s s.heap e_BOOLEAN "java/lang/Enum" "ordinal" "I" (.int (1 : Int32)) := Fld.start ((fld_at v_BOOLEAN).symm.trans (own_eqv q7))
  have F_STRING_ordinal : Fld s s.heap e_STRING "java/lang/Enum" "ordinal" "I" (.int (5 : Int32)) := Fld.start ((fld_at v_STRING).symm.trans (own_eqv q9))
  have F_OBJECT_ordinal : Fld s s.heap e_OBJECT "java/lang/Enum" "ordinal" "I" (.int (2 : Int32)) := Fld.start ((fld_at v_OBJECT).symm.trans (own_eqv q11))
  have F_NUMBER_ordinal : Fld s s.heap e_NUMBER "java/lang/Enum" "ordinal" "I" (.int (4 : Int32)) := Fld.start ((fld_at v_NUMBER).symm.trans (own_eqv q13))
  let ad : Int32 → Addr := fun z => if z = (0 : Int32) then e_NULL else if z = (1 : Int32) then e_BOOLEAN else if z = (2 : Int32) then e_OBJECT else if z = (3 : Int32) then e_ARRAY else if z = (4 : Int32) then e_NUMBER else if z = (5 : Int32) then e_STRING else e_INTEGER
  have hE : ∀ k : Int32, 0 ≤ k.toInt ∧ k.toInt ≤ 6 → Exa s s.heap (ad k) "com/example/lacewing/lacewing/schema/JsonType" ∧ Fld s s.heap (ad k) "java/lang/Enum" "ordinal" "I" (.int k) := by
    intro k hk
    rcases own_cases k hk with rfl | rfl | rfl | rfl | rfl | rfl | rfl
    · exact ⟨X_NULL, F_NULL_ordinal⟩
    · exact ⟨X_BOOLEAN, F_BOOLEAN_ordinal⟩
    · exact ⟨X_OBJECT, F_OBJECT_ordinal⟩
    · exact ⟨X_ARRAY, F_ARRAY_ordinal⟩
    · exact ⟨X_NUMBER, F_NUMBER_ordinal⟩
    · exact ⟨X_STRING, F_STRING_ordinal⟩
    · exact ⟨X_INTEGER, F_INTEGER_ordinal⟩
  obtain ⟨n, o, h1, h2, h3, _, L, rfl, ⟨rfl, N⟩, hq⟩ := rm0 l s _ hw x0 x1 s.heap s.heap.size (Nat.le_refl _) ad S_NULL S_BOOLEAN S_OBJECT S_ARRAY S_NUMBER S_STRING S_INTEGER hE p e ha hc hk s m _ below hf ((Spec.applies_iff_loose hf).mp happ).1 ⟨rfl, State.Warmed39.refl s, rfl⟩ trivial
  refine ⟨n, _, h1, h2, h3, hpost _ _ _ _ _ _ ⟨Cond.after_iff.mpr rfl, Cond.after_iff.mpr (eq_i res_at (Term.int_eval (1)) rfl), trivial⟩ ⟨hq.1, hq.2.1, (hq.2.2.sift fun y hy => Or.inr (N y hy)).mono (by decide) (by decide)⟩⟩
theorem main_1_1 : Claimed_1_1 := comes_1 fun _ _ _ _ _ _ h hF => ⟨h.1, hF⟩
theorem main_1_2 : Claimed_1_2 := comes_1 fun _ _ _ _ _ _ h hF => ⟨h.2.1, hF⟩
end Jvm.Pilot.@@N@@
namespace Jvm.Pilot.@@N@@
open Jvm Jvm.ClassFile Sem Op Lib Jvm.Free Jvm.Stand Jvm.Pilot.@@N@@.Jvm.D
/-! MADE BY PROGRAM (witnessworld.py) out of the Statement's table words and the real class files: 12 classes; the members and pool entries that the words name. The judged class is class 1, her method 2. -/
namespace start1
open Jvm.ClassFile
def u (s : String) : CpInfo := .utf8 (stringToUtf16 s)
/-- a pool by its gaps: so many unusable entries, then the entry; so many at the end -/
def gap : Nat → List CpInfo → List CpInfo
  | 0, r => r
  | n + 1, r => .unusable :: gap n r
def poolList (es : List (Nat × CpInfo)) (last : Nat) : List CpInfo := es.foldr (fun e r => gap e.1 (e.2 :: r)) (gap last [])
def pool (es : List (Nat × CpInfo)) (last : Nat) : Array CpInfo := ⟨poolList es last⟩
def fileOf (pool : Array CpInfo) (this : Nat) (attrs : Array Attribute := #[]) (ms : Array MethodInfo := #[]) (fl : Nat := 33) (sup : Nat := 0) (ifs : Array Nat := #[]) (fds : Array FieldInfo := #[]) : ClassFile where
  minorVersion := 0
  majorVersion := 65
  constantPool := pool
  accessFlags := fl
  thisClass := this
  superClass := sup
  interfaces := ifs
  fields := fds
  methods := ms
  attributes := attrs
def plain (name : String) (sup : Option ClassId) : Class where
  name := name
  kind := .ordinary
  loader := none
  accessFlags := 33
  super := sup
  interfaces := #[]
  cf := none
  fields := #[]
  methods := #[]
  instanceTypes := #[]
  staticTypes := #[]
  resolved := #[]
  callSites := []
  init := .initialized
  statics := none
  mirror := none

def pool0 : Array CpInfo := pool [(5, u "<init>"), (0, u "()V"), (1, .class_ 10), (1, u "java/lang/Object")] 113

def k0m0 : Method := { name := "<init>", desc := "()V", sig := { parameters := [], returnType := none }, accessFlags := 1, code := none }
/-- java/lang/Object -/
def k0 : Class := { plain "java/lang/Object" none with
  accessFlags := 33
  interfaces := #[]
  cf := some (fileOf pool0 8 #[] #[{ accessFlags := 1, nameIndex := 5, descriptorIndex := 6, attributes := #[] }] 33 0 #[] #[])
  fields := #[]
  methods := #[k0m0]
  instanceTypes := #[]
  staticTypes := #[]
  resolved := Array.replicate 124 none
  statics := none }

def pool1 : Array CpInfo := pool [(2, .class_ 4), (1, u "java/lang/Object"), (0, u "<init>"), (0, u "()V"), (0, .fieldref 8 9), (0, .class_ 10), (0, .nameAndType 11 12), (0, u "com/example/lacewing/lacewing/schema/JsonType"), (0, u "NULL"), (0, u "Lcom/example/lacewing/lacewing/schema/JsonType;"), (0, .fieldref 8 14), (0, .nameAndType 15 12), (0, u "BOOLEAN"), (0, .fieldref 8 17), (0, .nameAndType 18 12), (0, u "OBJECT"), (0, .fieldref 8 20), (0, .nameAndType 21 12), (0, u "ARRAY"), (0, .fieldref 8 23), (0, .nameAndType 24 12), (0, u "NUMBER"), (0, .fieldref 8 26), (0, .nameAndType 27 12), (0, u "STRING"), (0, .fieldref 8 29), (0, .nameAndType 30 12), (0, u "INTEGER"), (0, .integer 2147483647), (0, .methodref 33 34), (0, .class_ 35), (0, .nameAndType 36 37), (0, u "com/example/lacewing/lacewing/schema/JsonTypeIsAPinLaw"), (0, u "pick"), (0, u "(I)Lcom/example/lacewing/lacewing/schema/JsonType;"), (0, .methodref 8 39), (0, .nameAndType 40 41), (0, u "isA"), (0, u "(Lcom/example/lacewing/lacewing/schema/JsonType;)Z"), (3, u "law"), (0, u "(II)Z")] 2

def k1m0 : Method := { name := "<init>", desc := "()V", sig := { parameters := [], returnType := none }, accessFlags := 1, code := none }
def k1c1 : Code := { maxStack := 2, maxLocals := 1, code := method_2_code, exceptionTable := #[], attributes := #[] }
def k1m1 : Method := { name := "pick", desc := "(I)Lcom/example/lacewing/lacewing/schema/JsonType;", sig := { parameters := [.int], returnType := some (.object "com/example/lacewing/lacewing/schema/JsonType") }, accessFlags := 10, code := some k1c1 }
def k1c2 : Code := { maxStack := 2, maxLocals := 7, code := code, exceptionTable := #[], attributes := #[] }
def k1m2 : Method := { name := "law", desc := "(II)Z", sig := { parameters := [.int, .int], returnType := some .boolean }, accessFlags := 9, code := some k1c2 }
/-- com/example/lacewing/lacewing/schema/JsonTypeIsAPinLaw -/
def k1 : Class := { plain "com/example/lacewing/lacewing/schema/JsonTypeIsAPinLaw" (some 0) with
  accessFlags := 49
  interfaces := #[]
  cf := some (fileOf pool1 33 #[] #[{ accessFlags := 1, nameIndex := 5, descriptorIndex := 6, attributes := #[] }, { accessFlags := 10, nameIndex := 36, descriptorIndex := 37, attributes := #[] }, { accessFlags := 9, nameIndex := 45, descriptorIndex := 46, attributes := #[] }] 49 2 #[] #[])
  fields := #[]
  methods := #[k1m0, k1m1, k1m2]
  instanceTypes := #[]
  staticTypes := #[]
  resolved := Array.replicate 49 none
  statics := none }

def pool2 : Array CpInfo := pool [(1, .class_ 2), (0, u "java/lang/constant/Constable"), (0, .class_ 4), (0, u "java/lang/Object")] 6

/-- java/lang/constant/Constable -/
def k2 : Class := { plain "java/lang/constant/Constable" (some 0) with
  accessFlags := 1537
  interfaces := #[]
  cf := some (fileOf pool2 1 #[] #[] 1537 3 #[] #[])
  fields := #[]
  methods := #[]
  instanceTypes := #[]
  staticTypes := #[]
  resolved := Array.replicate 11 none
  statics := none }

def pool3 : Array CpInfo := pool [(1, .class_ 2), (0, u "java/lang/Comparable"), (0, .class_ 4), (0, u "java/lang/Object")] 7

/-- java/lang/Comparable -/
def k3 : Class := { plain "java/lang/Comparable" (some 0) with
  accessFlags := 1537
  interfaces := #[]
  cf := some (fileOf pool3 1 #[] #[] 1537 3 #[] #[])
  fields := #[]
  methods := #[]
  instanceTypes := #[]
  staticTypes := #[]
  resolved := Array.replicate 12 none
  statics := none }

def pool4 : Array CpInfo := pool [(1, .class_ 2), (0, u "java/io/Serializable"), (0, .class_ 4), (0, u "java/lang/Object")] 2

/-- java/io/Serializable -/
def k4 : Class := { plain "java/io/Serializable" (some 0) with
  accessFlags := 1537
  interfaces := #[]
  cf := some (fileOf pool4 1 #[] #[] 1537 3 #[] #[])
  fields := #[]
  methods := #[]
  instanceTypes := #[]
  staticTypes := #[]
  resolved := Array.replicate 7 none
  statics := none }

def pool5 : Array CpInfo := pool [(2, .class_ 4), (1, u "java/lang/Enum"), (0, u "name"), (0, u "Ljava/lang/String;"), (2, u "ordinal"), (0, u "I"), (1, .class_ 14), (1, u "java/lang/Object"), (4, u "hash"), (86, .class_ 108), (1, u "java/lang/Enum$EnumDesc"), (2, .class_ 112), (0, u "java/lang/constant/Constable"), (0, .class_ 114), (0, u "java/lang/Comparable"), (0, .class_ 116), (0, u "java/io/Serializable")] 87

/-- java/lang/Enum -/
def k5 : Class := { plain "java/lang/Enum" (some 0) with
  accessFlags := 1057
  interfaces := #[2, 3, 4]
  cf := some (fileOf pool5 2 #[.nestMembers #[106]] #[] 1057 12 #[111, 113, 115] #[{ accessFlags := 18, nameIndex := 5, descriptorIndex := 6, attributes := #[] }, { accessFlags := 18, nameIndex := 9, descriptorIndex := 10, attributes := #[] }, { accessFlags := 2, nameIndex := 19, descriptorIndex := 10, attributes := #[] }])
  fields := #[{ name := "name", type := (.object "java/lang/String"), accessFlags := 18, slot := 0, constantValue := 0 }, { name := "ordinal", type := .int, accessFlags := 18, slot := 1, constantValue := 0 }, { name := "hash", type := .int, accessFlags := 2, slot := 2, constantValue := 0 }]
  methods := #[]
  instanceTypes := #[(.object "java/lang/String"), .int, .int]
  staticTypes := #[]
  resolved := Array.replicate 204 none
  statics := none }

def pool6 : Array CpInfo := pool [(1, .class_ 2), (0, u "com/example/lacewing/lacewing/schema/JsonType"), (2, u "NULL"), (0, u "Lcom/example/lacewing/lacewing/schema/JsonType;"), (2, u "BOOLEAN"), (2, u "OBJECT"), (2, u "ARRAY"), (0, .fieldref 1 17), (0, .nameAndType 18 6), (0, u "NUMBER"), (2, u "STRING"), (0, .fieldref 1 23), (0, .nameAndType 24 6), (0, u "INTEGER"), (2, u "$VALUES"), (0, u "[Lcom/example/lacewing/lacewing/schema/JsonType;"), (6, .class_ 37), (1, u "java/lang/Enum"), (24, u "schemaName"), (0, u "Ljava/lang/String;"), (12, u "schemaNameBytes"), (0, u "[B"), (2, u "ALL"), (38, u "OF_KIND"), (25, u "isA"), (0, u "(Lcom/example/lacewing/lacewing/schema/JsonType;)Z")] 5

def k6c0 : Code := { maxStack := 2, maxLocals := 2, code := prog_88_method_9_code, exceptionTable := #[], attributes := #[] }
def k6m0 : Method := { name := "isA", desc := "(Lcom/example/lacewing/lacewing/schema/JsonType;)Z", sig := { parameters := [(.object "com/example/lacewing/lacewing/schema/JsonType")], returnType := some .boolean }, accessFlags := 1, code := some k6c0 }
/-- com/example/lacewing/lacewing/schema/JsonType -/
def k6 : Class := { plain "com/example/lacewing/lacewing/schema/JsonType" (some 5) with
  accessFlags := 16433
  interfaces := #[]
  cf := some (fileOf pool6 1 #[] #[{ accessFlags := 1, nameIndex := 145, descriptorIndex := 146, attributes := #[] }] 16433 35 #[] #[{ accessFlags := 16409, nameIndex := 5, descriptorIndex := 6, attributes := #[] }, { accessFlags := 16409, nameIndex := 9, descriptorIndex := 6, attributes := #[] }, { accessFlags := 16409, nameIndex := 12, descriptorIndex := 6, attributes := #[] }, { accessFlags := 16409, nameIndex := 15, descriptorIndex := 6, attributes := #[] }, { accessFlags := 16409, nameIndex := 18, descriptorIndex := 6, attributes := #[] }, { accessFlags := 16409, nameIndex := 21, descriptorIndex := 6, attributes := #[] }, { accessFlags := 16409, nameIndex := 24, descriptorIndex := 6, attributes := #[] }, { accessFlags := 26, nameIndex := 80, descriptorIndex := 28, attributes := #[] }, { accessFlags := 26, nameIndex := 119, descriptorIndex := 28, attributes := #[] }, { accessFlags := 18, nameIndex := 62, descriptorIndex := 63, attributes := #[] }, { accessFlags := 18, nameIndex := 76, descriptorIndex := 77, attributes := #[] }, { accessFlags := 4122, nameIndex := 27, descriptorIndex := 28, attributes := #[] }])
  fields := #[{ name := "NULL", type := (.object "com/example/lacewing/lacewing/schema/JsonType"), accessFlags := 16409, slot := 0, constantValue := 0 }, { name := "BOOLEAN", type := (.object "com/example/lacewing/lacewing/schema/JsonType"), accessFlags := 16409, slot := 1, constantValue := 0 }, { name := "OBJECT", type := (.object "com/example/lacewing/lacewing/schema/JsonType"), accessFlags := 16409, slot := 2, constantValue := 0 }, { name := "ARRAY", type := (.object "com/example/lacewing/lacewing/schema/JsonType"), accessFlags := 16409, slot := 3, constantValue := 0 }, { name := "NUMBER", type := (.object "com/example/lacewing/lacewing/schema/JsonType"), accessFlags := 16409, slot := 4, constantValue := 0 }, { name := "STRING", type := (.object "com/example/lacewing/lacewing/schema/JsonType"), accessFlags := 16409, slot := 5, constantValue := 0 }, { name := "INTEGER", type := (.object "com/example/lacewing/lacewing/schema/JsonType"), accessFlags := 16409, slot := 6, constantValue := 0 }, { name := "ALL", type := (.array (.object "com/example/lacewing/lacewing/schema/JsonType")), accessFlags := 26, slot := 7, constantValue := 0 }, { name := "OF_KIND", type := (.array (.object "com/example/lacewing/lacewing/schema/JsonType")), accessFlags := 26, slot := 8, constantValue := 0 }, { name := "schemaName", type := (.object "java/lang/String"), accessFlags := 18, slot := 3, constantValue := 0 }, { name := "schemaNameBytes", type := (.array .byte), accessFlags := 18, slot := 4, constantValue := 0 }, { name := "$VALUES", type := (.array (.object "com/example/lacewing/lacewing/schema/JsonType")), accessFlags := 4122, slot := 9, constantValue := 0 }]
  methods := #[k6m0]
  instanceTypes := #[(.object "java/lang/String"), .int, .int, (.object "java/lang/String"), (.array .byte)]
  staticTypes := #[(.object "com/example/lacewing/lacewing/schema/JsonType"), (.object "com/example/lacewing/lacewing/schema/JsonType"), (.object "com/example/lacewing/lacewing/schema/JsonType"), (.object "com/example/lacewing/lacewing/schema/JsonType"), (.object "com/example/lacewing/lacewing/schema/JsonType"), (.object "com/example/lacewing/lacewing/schema/JsonType"), (.object "com/example/lacewing/lacewing/schema/JsonType"), (.array (.object "com/example/lacewing/lacewing/schema/JsonType")), (.array (.object "com/example/lacewing/lacewing/schema/JsonType")), (.array (.object "com/example/lacewing/lacewing/schema/JsonType"))]
  resolved := Array.replicate 152 none
  statics := some 0 }

def pool7 : Array CpInfo := pool [(1, u "java/lang/Cloneable"), (0, .class_ 1), (0, u "java/lang/Object"), (0, .class_ 3)] 3

/-- java/lang/Cloneable -/
def k7 : Class := { plain "java/lang/Cloneable" (some 0) with
  accessFlags := 1537
  interfaces := #[]
  cf := some (fileOf pool7 2 #[] #[] 1537 4 #[] #[])
  fields := #[]
  methods := #[]
  instanceTypes := #[]
  staticTypes := #[]
  resolved := Array.replicate 8 none
  statics := none }

/-- the primitive byte -/
def k8 : Class := { plain "byte" none with kind := .primitive 'B', accessFlags := 0x411 }
/-- [B -/
def k9 : Class := { plain "[B" (some 0) with kind := .array 8 .byte, interfaces := #[7, 4], accessFlags := 1041 }

/-- the primitive int -/
def k10 : Class := { plain "int" none with kind := .primitive 'I', accessFlags := 0x411 }
/-- [I -/
def k11 : Class := { plain "[I" (some 0) with kind := .array 10 .int, interfaces := #[7, 4], accessFlags := 1041 }

def heap : Heap := #[{ cls := 6, slots := #[.ref 1, .ref 4, .ref 6, .ref 2, .ref 7, .ref 5, .ref 3, .null, .null, .null], vm := .statics 6 },
  { cls := 6, slots := #[.null, .int 0, .int 0, .null, .null], vm := .none },
  { cls := 6, slots := #[.null, .int 3, .int 0, .null, .null], vm := .none },
  { cls := 6, slots := #[.null, .int 6, .int 0, .null, .null], vm := .none },
  { cls := 6, slots := #[.null, .int 1, .int 0, .null, .null], vm := .none },
  { cls := 6, slots := #[.null, .int 5, .int 0, .null, .null], vm := .none },
  { cls := 6, slots := #[.null, .int 2, .int 0, .null, .null], vm := .none },
  { cls := 6, slots := #[.null, .int 4, .int 0, .null, .null], vm := .none }]
def classes : Array Class := #[k0, k1, k2, k3, k4, k5, k6, k7, k8, k9, k10, k11]
def interned : List (Array UInt16 × Addr) := []
def slotsUsed : Nat := 45
def theMethod : MethodId := ⟨1, 2⟩
def args0 : Array Value := #[.int 2, .int 6]
def aboutOver (below : List Frame) : State where
  vm := { classes := classes, interned := interned.toArray }
  heap := heap
  slotsUsed := slotsUsed
  threads := #[{ frames := .invoking theMethod args0 :: below }]
def below0 : List Frame := [.native { method := ⟨0, 0⟩, args := #[] }]
def about1 : State := aboutOver below0
def p0 : Program := .bare "" "" ""
def e0 : Env := launch0.env 0 0 0
theorem w_frames : about1.frames = Frame.invoking theMethod args0 :: below0 := rfl
set_option maxRecDepth 65536 in
theorem w_args : argsFit about1.vm theMethod args0 = true := by decide +kernel
set_option maxRecDepth 65536 in
theorem w_heap : heapFits about1 = true := by decide +kernel
set_option maxRecDepth 65536 in
theorem w_runnable : about1.curStatus? = some .runnable := by decide +kernel
set_option maxRecDepth 65536 in
theorem w_alone : about1.alone = true := by decide +kernel
set_option maxRecDepth 65536 in
theorem w_named : about1.methodNamed? x = some theMethod := by decide +kernel
set_option maxRecDepth 65536 in
theorem w_hears : about1.hears theMethod below0 = true := by decide +kernel
set_option maxRecDepth 65536 in
theorem w_ripe : about1.ripe theMethod args0 below0 = true := by decide +kernel
theorem w_running : about1.status = .running := rfl
set_option maxRecDepth 65536 in
theorem w_room : about1.hasRoom e0.platform room_1 = true :=
  launch0.hasRoom_least _ room_1 (by decide +kernel) (by decide +kernel) (by decide +kernel) (by decide +kernel) (by decide +kernel) (by decide +kernel)
theorem allAtoms_all (ts : List Jvm.Cond) (a : Array Jvm.Value) (st : Jvm.State) : (allAtoms ts).before a st = ts.all (fun c => c.before a st) := by
  induction ts with
  | nil => rfl
  | cons c t ih =>
    show (Jvm.Cond.and c (allAtoms t)).before a st = _
    rw [Jvm.Cond.before_and, ih, List.all_cons]
def words1 : List Jvm.Cond := Jvm.Cond.code x code maxLocals ret :: tables_1
/-- a 'code' word, met by the world's own term for the bytes: nothing is compared byte by byte -/
theorem code_word {y : MethodName} {bytes : ByteArray} {mx : Nat} {rt : Option FieldType} {a : Array Value} {s : State} {m : MethodId} {meth : Method} {c : Code} (h1 : s.methodNamed? y = some m) (h2 : s.vm.method? m = some meth) (h3 : meth.code = some c) (h4 : c.code = bytes)
    (h5 : (c.maxLocals == mx && c.exceptionTable.isEmpty && decide (c.maxStack ≤ mostOperands) && decide (meth.sig.returnType = rt) && !meth.locks && decide (parseMethodDescriptor y.desc = some meth.sig)) = true) : (Jvm.Cond.code y bytes mx rt).before a s = true := by
  simp only [Bool.and_eq_true, beq_iff_eq, Bool.not_eq_true', decide_eq_true_eq] at h5
  obtain ⟨⟨⟨⟨⟨g1, g2⟩, g3⟩, g4⟩, g5⟩, g6⟩ := h5
  simp [Cond.before, Cond.holds, Cond.value, h1, h2, h3, h4, g1, g2, g3, g4, g5, g6]
def isCode : Jvm.Cond → Bool
  | .code _ _ _ _ => true
  | _ => false
theorem all_split {L : List Jvm.Cond} {P : Jvm.Cond → Bool} (h1 : L.all (fun c => isCode c || P c) = true) (h2 : ∀ c ∈ L.filter isCode, P c = true) : L.all P = true := by
  refine List.all_eq_true.mpr fun c hc => ?_
  have h := List.all_eq_true.mp h1 c hc
  rcases Bool.eq_false_or_eq_true (isCode c) with hi | hi
  · exact h2 c (List.mem_filter.mpr ⟨hc, hi⟩)
  · simpa [hi] using h
set_option maxRecDepth 65536 in
theorem w_c0 : (Jvm.Cond.code x code maxLocals ret).before args0 about1 = true := code_word (m := ⟨1, 2⟩) (meth := k1m2) (c := k1c2) (by decide +kernel) rfl rfl rfl (by decide +kernel)
set_option maxRecDepth 65536 in
theorem w_c1 : (Jvm.Cond.code ({ cls := "com/example/lacewing/lacewing/schema/JsonTypeIsAPinLaw", name := "pick", desc := "(I)Lcom/example/lacewing/lacewing/schema/JsonType;" } : Jvm.MethodName) method_2_code (1 : Nat) (Option.some (Jvm.ClassFile.FieldType.object "com/example/lacewing/lacewing/schema/JsonType"))).before args0 about1 = true := code_word (m := ⟨1, 1⟩) (meth := k1m1) (c := k1c1) (by decide +kernel) rfl rfl rfl (by decide +kernel)
set_option maxRecDepth 65536 in
theorem w_c2 : (Jvm.Cond.code ({ cls := "com/example/lacewing/lacewing/schema/JsonType", name := "isA", desc := "(Lcom/example/lacewing/lacewing/schema/JsonType;)Z" } : Jvm.MethodName) prog_88_method_9_code (2 : Nat) (Option.some Jvm.ClassFile.FieldType.boolean)).before args0 about1 = true := code_word (m := ⟨6, 0⟩) (meth := k6m0) (c := k6c0) (by decide +kernel) rfl rfl rfl (by decide +kernel)
def codes1 : List Jvm.Cond := [Jvm.Cond.code x code maxLocals ret, Jvm.Cond.code ({ cls := "com/example/lacewing/lacewing/schema/JsonTypeIsAPinLaw", name := "pick", desc := "(I)Lcom/example/lacewing/lacewing/schema/JsonType;" } : Jvm.MethodName) method_2_code (1 : Nat) (Option.some (Jvm.ClassFile.FieldType.object "com/example/lacewing/lacewing/schema/JsonType")), Jvm.Cond.code ({ cls := "com/example/lacewing/lacewing/schema/JsonType", name := "isA", desc := "(Lcom/example/lacewing/lacewing/schema/JsonType;)Z" } : Jvm.MethodName) prog_88_method_9_code (2 : Nat) (Option.some Jvm.ClassFile.FieldType.boolean)]
set_option maxRecDepth 65536 in
theorem codes_eq : words1.filter isCode = codes1 := rfl
theorem w_codes : ∀ c ∈ words1.filter isCode, c.before args0 about1 = true := by
  rw [codes_eq]
  intro c hc
  simp only [codes1, List.mem_cons, List.not_mem_nil, or_false] at hc
  rcases hc with rfl | rfl | rfl
  · exact w_c0
  · exact w_c1
  · exact w_c2
set_option maxRecDepth 65536 in
theorem w_t1 : (words1.take 24).all (fun c => isCode c || c.before args0 about1) = true := by decide +kernel
set_option maxRecDepth 65536 in
theorem w_t2 : (words1.drop 24).all (fun c => isCode c || c.before args0 about1) = true := by decide +kernel
theorem w_tables : (allAtoms (Jvm.Cond.code x code maxLocals ret :: tables_1)).before args0 about1 = true := by
  rw [allAtoms_all]
  show words1.all (fun c => c.before args0 about1) = true
  refine all_split ?_ w_codes
  rw [← List.take_append_drop 24 words1, List.all_append, w_t1, w_t2]
  rfl
set_option maxRecDepth 65536 in
theorem w_case : (Jvm.Cond.and given_1 narrow_1).before args0 about1 = true := by decide +kernel
theorem w_applies : (headSpec (Jvm.Cond.code x code maxLocals ret :: tables_1) room_1).applies x e0.platform about1 = true :=
  (Spec.applies_iff w_frames).mpr ⟨w_running, w_runnable, w_alone, w_named, w_hears, w_ripe, w_room, w_tables⟩
theorem atStart : AtStart classFile x code maxLocals ret World_1 tables_1 room_1 Calls_1 rest_1 Pre_1 launch0 p0 e0 about1 theMethod args0 below0 :=
  ⟨lists_1, trivial, launch0.admits_env _ _ _, launch0.least_env, fairChoices_fair.cas, fairChoices_fair.clock, w_frames, w_args, w_heap, w_applies, trivial, trivial, w_case⟩
end start1
theorem witness_1 : WitnessClaimed_1 := ⟨start1.p0, start1.e0, start1.about1, start1.theMethod, start1.args0, start1.below0, start1.atStart⟩
end Jvm.Pilot.@@N@@
