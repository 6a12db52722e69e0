import JvmDerived
import JvmDerived.Pilot.@@N@@Statement
import JvmDerived.Pilot.@@N@@Code
set_option linter.unusedVariables false
set_option linter.unusedSimpArgs false
namespace Jvm.RoadKit
open Sem ClassFile Op Lib Jvm.Stand Jvm.Free Jvm.LawKit
section New
variable {p : Program} {l : Launch} {e : Env} {R : Room} {s : State} {m : MethodId} {args : Array Value} {below : List Frame} {meth : Method} {c : Code} {T : State} {locs : List Loc} {cells slots : Nat}
theorem retI (X : Stand p l e R s m args below meth c T locs cells slots) (hx : p.tables.exec = Jvm.exec) {pc : Nat} {Ls : Array Slot} {z : Int32} {rest : List Value} (hret : meth.sig.returnType = some .int) (hd : decode c.code pc = .ok (.ireturn, 1)) {fs : List Frame}
    (hl : ∀ (f : JFrame) (acts : List Action), f.method = m → f.locked = none → f.entered = [] → (doReturn e (T.setTop f) acts (some (.int z))).1 = T.setFrames fs) : Steps p.tables e below (T.setTop (mkF m pc Ls (.int z :: rest))) (T.setFrames fs) := by
  have hm' : T.vm.method? m = some meth := X.method'
  have hn : narrow .int (.int z) = .int z := rfl
  show Steps p.tables e below (T.setTop { method := m, pc := pc, locals := Ls, stack := _ :: rest, locked := none }) _
  jvm_step X.here [X.here.top, hx, hd, hm', hret, hn]
  first | (intro acts; rw [hl _ acts rfl rfl rfl]) | rw [hl _ _ rfl rfl rfl]
  exact Steps.refl _
end New
end Jvm.RoadKit
namespace Jvm.OwnKit
open Jvm Jvm.ClassFile Sem Op Lib Jvm.Free Jvm.Stand Jvm.LawKit Jvm.RoadKit
/-- the walk comes to an end as Q says -/
def Go (p : Program) (e : Env) (below : List Frame) (F : Option Value → State → Prop) (S0 : State) : Prop :=
  ∃ (t : State) (o : Outcome), Steps p.tables e below S0 t ∧ t.status = .running ∧ Ended t below o ∧ ∃ v, o = .returned v ∧ F v t
/-- the end as a contract says it -/
def NF (s : State) (cs ss : Nat) (Q : Option Value → Heap → List Loc → Prop) : Option Value → State → Prop := fun v t => ∃ L, Q v t.heap L ∧ FrameEnd s (.returned v) t L cs ss
/-- where the walk stands: what is fixed for the whole body, the Stand, the heap -/
def Pos (p : Program) (l : Launch) (e : Env) (R : Room) (s : State) (m : MethodId) (args : Array Value) (below : List Frame) (meth : Method) (c : Code) (Z : State) (own : String) (bytes : ByteArray) (ml : Nat) (ret : Option FieldType) (nm : String) (T : State) (h : Heap) (locs : List Loc) (cells slots : Nat) : Prop :=
  (p.tables.exec = Jvm.exec ∧ Z.Warmed39 s.vm ∧ s.vm.findClass own = some m.cls ∧ c.code = bytes ∧ c.maxLocals = ml ∧ meth.sig.returnType = ret ∧ meth.locks = false ∧ meth.name = nm) ∧ Stand p l e R s m args below meth c T locs cells slots ∧ T.heap = h
def ushr (x y : Int32) : Int32 := (x.toUInt32 >>> (y &&& 31).toUInt32).toInt32
def ushrJ (x : Int64) (y : Int32) : Int64 := (x.toUInt64 >>> (y &&& 0x3f).toInt64.toUInt64).toInt64
def lcmpO (x y : Int64) : Int32 := if x > y then 1 else if x = y then 0 else -1
/-- a callee's contract, at one heap, for one list of arguments -/
abbrev OMeets (l : Launch) (Z : State) (y : MethodName) (bytes : ByteArray) (ml : Nat) (ret : Option FieldType) (rm : Room) (as' : Array Value) (h0 : Heap) (Q : Option Value → Heap → List Loc → Prop) : Prop :=
  MetFree l y (head1 [Jvm.Cond.code y bytes ml ret] rm) (fun a U => a = as' ∧ Z.Warmed39 U.vm ∧ U.heap = h0) (fun _ _ _ _ _ => True) (fun _ U o U' => ∃ v L, o = .returned v ∧ Q v U'.heap L ∧ FrameEnd U o U' L rm.cells rm.slots)
/-- it returns v and has moved nothing -/
def OPure (v0 : Option Value) (h0 : Heap) (v : Option Value) (h : Heap) (L : List Loc) : Prop := v = v0 ∧ h = h0 ∧ L = []
theorem wk {ws : List Jvm.Cond} {a0 : Array Value} {Z : State} (hw : ∀ d ∈ ws, d.before a0 Z = true) (i : Nat) {d : Jvm.Cond} (h : ws[i]? = some d) : d.before a0 Z = true := hw _ (List.mem_of_getElem? h)
section Own
variable {p : Program} {l : Launch} {e : Env} {R : Room} {s : State} {m : MethodId} {args : Array Value} {below : List Frame} {meth : Method} {c : Code} {Z : State} {own : String} {bytes : ByteArray} {ml : Nat} {ret : Option FieldType} {nm : String} {T : State} {h : Heap} {locs : List Loc} {cells slots : Nat} {cs ss : Nat} {Q : Option Value → Heap → List Loc → Prop} {FF : Option Value → State → Prop} {a0 : Array Value} {pc pc' : Nat} {Ls : Array Slot} {St : List Value}
theorem Pos.x (P : Pos p l e R s m args below meth c Z own bytes ml ret nm T h locs cells slots) : p.tables.exec = Jvm.exec := P.1.1
theorem Pos.z (P : Pos p l e R s m args below meth c Z own bytes ml ret nm T h locs cells slots) : Z.Warmed39 s.vm := P.1.2.1
theorem Pos.ow (P : Pos p l e R s m args below meth c Z own bytes ml ret nm T h locs cells slots) : s.vm.findClass own = some m.cls := P.1.2.2.1
theorem Pos.bt (P : Pos p l e R s m args below meth c Z own bytes ml ret nm T h locs cells slots) : c.code = bytes := P.1.2.2.2.1
theorem Pos.mx (P : Pos p l e R s m args below meth c Z own bytes ml ret nm T h locs cells slots) : c.maxLocals = ml := P.1.2.2.2.2.1
theorem Pos.rt (P : Pos p l e R s m args below meth c Z own bytes ml ret nm T h locs cells slots) : meth.sig.returnType = ret := P.1.2.2.2.2.2.1
theorem Pos.lk (P : Pos p l e R s m args below meth c Z own bytes ml ret nm T h locs cells slots) : meth.locks = false := P.1.2.2.2.2.2.2.1
theorem Pos.mn (P : Pos p l e R s m args below meth c Z own bytes ml ret nm T h locs cells slots) : meth.name = nm := P.1.2.2.2.2.2.2.2
theorem Pos.st (P : Pos p l e R s m args below meth c Z own bytes ml ret nm T h locs cells slots) : Stand p l e R s m args below meth c T locs cells slots := P.2.1
theorem Pos.eh (P : Pos p l e R s m args below meth c Z own bytes ml ret nm T h locs cells slots) : T.heap = h := P.2.2
theorem Pos.here (P : Pos p l e R s m args below meth c Z own bytes ml ret nm T h locs cells slots) : At T m c below := P.2.1.here
theorem Go.via {S0 S1 : State} (st : ∀ target, Steps p.tables e below S1 target → Steps p.tables e below S0 target) (k : Go p e below FF S1) : Go p e below FF S0 := by
  obtain ⟨t, o, h1, r⟩ := k
  exact ⟨t, o, st t h1, r⟩
theorem Go.come {S0 S1 : State} (st : Steps p.tables e below S0 S1) (k : Go p e below FF S1) : Go p e below FF S0 := by
  obtain ⟨t, o, h1, r⟩ := k
  exact ⟨t, o, st.trans h1, r⟩
theorem Go.dia {S0 S1 : State} (hh : Go p e below FF S1 → Go p e below FF S0) (kk : Go p e below FF S1) : Go p e below FF S0 := hh kk
theorem Go.all {ι : Type} {S0 : State} {A : ι → Prop} {S1 : ι → State} (hh : (∀ i, A i → Go p e below FF (S1 i)) → Go p e below FF S0) (kk : ∀ i, A i → Go p e below FF (S1 i)) : Go p e below FF S0 := hh kk
theorem sI {a b : Int32} (q : a = b) : some (Value.int a) = some (Value.int b) := by rw [q]
theorem sJ {a b : Int64} (q : a = b) : some (Value.long a) = some (Value.long b) := by rw [q]
theorem sR {a b : Addr} (q : a = b) : some (Value.ref a) = some (Value.ref b) := by rw [q]
theorem met {l : Launch} {Z : State} {y : MethodName} {bytes : ByteArray} {ml : Nat} {ret : Option FieldType} {ws : List Jvm.Cond} {rm : Room} {as' : Array Value} {h0 : Heap} {Ls : Array Slot} {Q : Option Value → Heap → List Loc → Prop} (hn : plainFor y = true) (hf : ∀ m, entryFrame m as' ml = mkF m 0 Ls [])
    (body : ∀ p e s m below meth c T, Pos p l e rm s m as' below meth c Z y.cls bytes ml ret y.name T h0 [] 0 0 → Go p e below (NF s rm.cells rm.slots Q) (T.setTop (mkF m 0 Ls []))) :
    MetFree l y (head1 (Jvm.Cond.code y bytes ml ret :: ws) rm) (fun a U => a = as' ∧ Z.Warmed39 U.vm ∧ U.heap = h0) (fun _ _ _ _ _ => True) (fun _ U o U' => ∃ v L, o = .returned v ∧ Q v U'.heap L ∧ FrameEnd U o U' L rm.cells rm.slots) := by
  refine MetFree.of_bodySF hn hisR ?_
  intro p e s m args below meth c s₁ Bd hml0 hP hK
  obtain ⟨rfl, hZ, hh⟩ := hP
  have X0 : Stand p l e rm s m args below meth c s₁ [] 0 0 := Stand.of_body Bd
  have e0 : s₁.heap = h0 := by rw [← hh, Bd.state]; rfl
  have hlk : meth.locks = false := by first | exact BodyLoose.notSynchronized Bd | exact Bd.locks
  have P : Pos p l e rm s m args below meth c Z y.cls bytes ml ret y.name s₁ h0 [] 0 0 := ⟨⟨Bd.exec, hZ, findClass_of_methodNamed Bd.named, Bd.bytes, hml0, Bd.returns, hlk, (name_of_methodNamed Bd.named Bd.method).1⟩, X0, e0⟩
  obtain ⟨t, o, h1, h2, h3, v, rfl, L, hQ, hF⟩ := body p e s m below meth c s₁ P
  exact ⟨t, _, castTop (hf m) h1, h2, h3, v, L, rfl, hQ, hF⟩
/-! ### plain steps -/
theorem G.aloadN (P : Pos p l e R s m args below meth c Z own bytes ml ret nm T h locs cells slots) {k : Fin 4} {v : Value} (hd : decode bytes pc = .ok (.aload_n k, 1)) (hl : Ls[k.val]? = some (.val v)) (hv : v.isRef = true) (hp : pc + 1 = pc') (kk : Go p e below FF (T.setTop (mkF m pc' Ls (v :: St)))) : Go p e below FF (T.setTop (mkF m pc Ls St)) := by
  subst hp; exact Go.via (fun _ => XS.aloadN P.here P.x rfl (hb P.bt hd) hl hv) kk
theorem G.iloadN (P : Pos p l e R s m args below meth c Z own bytes ml ret nm T h locs cells slots) {k : Fin 4} {v : Int32} (hd : decode bytes pc = .ok (.iload_n k, 1)) (hl : Ls[k.val]? = some (.val (.int v))) (hp : pc + 1 = pc') (kk : Go p e below FF (T.setTop (mkF m pc' Ls (.int v :: St)))) : Go p e below FF (T.setTop (mkF m pc Ls St)) := by
  subst hp; exact Go.via (fun _ => XS.iloadN P.here P.x rfl (hb P.bt hd) hl) kk
theorem G.lloadN (P : Pos p l e R s m args below meth c Z own bytes ml ret nm T h locs cells slots) {k : Fin 4} {v : Int64} (hd : decode bytes pc = .ok (.lload_n k, 1)) (hl : Ls[k.val]? = some (.val (.long v))) (hp : pc + 1 = pc') (kk : Go p e below FF (T.setTop (mkF m pc' Ls (.long v :: St)))) : Go p e below FF (T.setTop (mkF m pc Ls St)) := by
  subst hp; exact Go.via (fun _ => XS.lloadN P.here P.x rfl (hb P.bt hd) hl) kk
theorem G.istoreN (P : Pos p l e R s m args below meth c Z own bytes ml ret nm T h locs cells slots) {k : Fin 4} {x : Int32} {l' : Array Slot} (hd : decode bytes pc = .ok (.istore_n k, 1)) (hl : storeLocals Ls k.val (.int x) = some l') (hp : pc + 1 = pc') (kk : Go p e below FF (T.setTop (mkF m pc' l' St))) : Go p e below FF (T.setTop (mkF m pc Ls (.int x :: St))) := by
  subst hp; exact Go.via (fun _ => XS.istoreN P.here P.x rfl (hb P.bt hd) rfl hl) kk
theorem G.lstoreN (P : Pos p l e R s m args below meth c Z own bytes ml ret nm T h locs cells slots) {k : Fin 4} {x : Int64} {l' : Array Slot} (hd : decode bytes pc = .ok (.lstore_n k, 1)) (hl : storeLocals Ls k.val (.long x) = some l') (hp : pc + 1 = pc') (kk : Go p e below FF (T.setTop (mkF m pc' l' St))) : Go p e below FF (T.setTop (mkF m pc Ls (.long x :: St))) := by
  subst hp; exact Go.via (fun _ => XS.lstoreN P.here P.x rfl (hb P.bt hd) rfl hl) kk
theorem G.astoreN (P : Pos p l e R s m args below meth c Z own bytes ml ret nm T h locs cells slots) {k : Fin 4} {x : Value} {l' : Array Slot} (hd : decode bytes pc = .ok (.astore_n k, 1)) (hv : x.isRef = true) (hl : storeLocals Ls k.val x = some l') (hp : pc + 1 = pc') (kk : Go p e below FF (T.setTop (mkF m pc' l' St))) : Go p e below FF (T.setTop (mkF m pc Ls (x :: St))) := by
  subst hp; exact Go.via (fun _ => XS.astoreN P.here P.x rfl (hb P.bt hd) rfl hv hl) kk
theorem G.aload (P : Pos p l e R s m args below meth c Z own bytes ml ret nm T h locs cells slots) {k : Nat} {v : Value} (hd : decode bytes pc = .ok (.aload k, 2)) (hl : Ls[k]? = some (.val v)) (hv : v.isRef = true) (hp : pc + 2 = pc') (kk : Go p e below FF (T.setTop (mkF m pc' Ls (v :: St)))) : Go p e below FF (T.setTop (mkF m pc Ls St)) := by
  subst hp; exact Go.via (fun _ => XS.aload P.here P.x rfl (hb P.bt hd) hl hv) kk
theorem G.iload (P : Pos p l e R s m args below meth c Z own bytes ml ret nm T h locs cells slots) {k : Nat} {v : Int32} (hd : decode bytes pc = .ok (.iload k, 2)) (hl : Ls[k]? = some (.val (.int v))) (hp : pc + 2 = pc') (kk : Go p e below FF (T.setTop (mkF m pc' Ls (.int v :: St)))) : Go p e below FF (T.setTop (mkF m pc Ls St)) := by
  subst hp; exact Go.via (fun _ => XS.iload P.here P.x rfl (hb P.bt hd) hl) kk
theorem G.lload (P : Pos p l e R s m args below meth c Z own bytes ml ret nm T h locs cells slots) {k : Nat} {v : Int64} (hd : decode bytes pc = .ok (.lload k, 2)) (hl : Ls[k]? = some (.val (.long v))) (hp : pc + 2 = pc') (kk : Go p e below FF (T.setTop (mkF m pc' Ls (.long v :: St)))) : Go p e below FF (T.setTop (mkF m pc Ls St)) := by
  subst hp; exact Go.via (fun _ => XS.lload P.here P.x rfl (hb P.bt hd) hl) kk
theorem G.istore (P : Pos p l e R s m args below meth c Z own bytes ml ret nm T h locs cells slots) {k : Nat} {x : Int32} {l' : Array Slot} (hd : decode bytes pc = .ok (.istore k, 2)) (hl : storeLocals Ls k (.int x) = some l') (hp : pc + 2 = pc') (kk : Go p e below FF (T.setTop (mkF m pc' l' St))) : Go p e below FF (T.setTop (mkF m pc Ls (.int x :: St))) := by
  subst hp; exact Go.via (fun _ => XS.istore P.here P.x rfl (hb P.bt hd) rfl hl) kk
theorem G.lstore (P : Pos p l e R s m args below meth c Z own bytes ml ret nm T h locs cells slots) {k : Nat} {x : Int64} {l' : Array Slot} (hd : decode bytes pc = .ok (.lstore k, 2)) (hl : storeLocals Ls k (.long x) = some l') (hp : pc + 2 = pc') (kk : Go p e below FF (T.setTop (mkF m pc' l' St))) : Go p e below FF (T.setTop (mkF m pc Ls (.long x :: St))) := by
  subst hp; exact Go.via (fun _ => XS.lstore P.here P.x rfl (hb P.bt hd) rfl hl) kk
theorem G.astore (P : Pos p l e R s m args below meth c Z own bytes ml ret nm T h locs cells slots) {k : Nat} {x : Value} {l' : Array Slot} (hd : decode bytes pc = .ok (.astore k, 2)) (hv : x.isRef = true) (hl : storeLocals Ls k x = some l') (hp : pc + 2 = pc') (kk : Go p e below FF (T.setTop (mkF m pc' l' St))) : Go p e below FF (T.setTop (mkF m pc Ls (x :: St))) := by
  subst hp; exact Go.via (fun _ => XS.astore P.here P.x rfl (hb P.bt hd) rfl hv hl) kk
theorem G.iconst (P : Pos p l e R s m args below meth c Z own bytes ml ret nm T h locs cells slots) {i : Int} {z : Int32} (hd : decode bytes pc = .ok (.iconst i, 1)) (hz : Int32.ofInt i = z) (hp : pc + 1 = pc') (kk : Go p e below FF (T.setTop (mkF m pc' Ls (.int z :: St)))) : Go p e below FF (T.setTop (mkF m pc Ls St)) := by
  subst hp hz; exact Go.via (fun _ => XS.iconst P.here P.x rfl (hb P.bt hd) ) kk
theorem G.bipush (P : Pos p l e R s m args below meth c Z own bytes ml ret nm T h locs cells slots) {i : Int} {z : Int32} (hd : decode bytes pc = .ok (.bipush i, 2)) (hz : (Int8.ofInt i).toInt32 = z) (hp : pc + 2 = pc') (kk : Go p e below FF (T.setTop (mkF m pc' Ls (.int z :: St)))) : Go p e below FF (T.setTop (mkF m pc Ls St)) := by
  subst hp hz; exact Go.via (fun _ => XS.bipush P.here P.x rfl (hb P.bt hd) ) kk
theorem G.sipush (P : Pos p l e R s m args below meth c Z own bytes ml ret nm T h locs cells slots) {i : Int} {z : Int32} (hd : decode bytes pc = .ok (.sipush i, 3)) (hz : (Int16.ofInt i).toInt32 = z) (hp : pc + 3 = pc') (kk : Go p e below FF (T.setTop (mkF m pc' Ls (.int z :: St)))) : Go p e below FF (T.setTop (mkF m pc Ls St)) := by
  subst hp hz; exact Go.via (fun _ => XS.sipush P.here P.x rfl (hb P.bt hd) ) kk
theorem G.lconst (P : Pos p l e R s m args below meth c Z own bytes ml ret nm T h locs cells slots) {k : Fin 2} {z : Int64} (hd : decode bytes pc = .ok (.lconst k, 1)) (hz : Int64.ofNat k = z) (hp : pc + 1 = pc') (kk : Go p e below FF (T.setTop (mkF m pc' Ls (.long z :: St)))) : Go p e below FF (T.setTop (mkF m pc Ls St)) := by
  subst hp hz; exact Go.via (fun _ => XS.lconst P.here P.x rfl (hb P.bt hd) ) kk
theorem G.aconstNull (P : Pos p l e R s m args below meth c Z own bytes ml ret nm T h locs cells slots)  (hd : decode bytes pc = .ok (.aconst_null, 1))  (hp : pc + 1 = pc') (kk : Go p e below FF (T.setTop (mkF m pc' Ls (.null :: St)))) : Go p e below FF (T.setTop (mkF m pc Ls St)) := by
  subst hp; exact Go.via (fun _ => XS.aconstNull P.here P.x rfl (hb P.bt hd) ) kk
theorem G.iadd (P : Pos p l e R s m args below meth c Z own bytes ml ret nm T h locs cells slots) {x y z : Int32} (hd : decode bytes pc = .ok (.iadd, 1)) (hz : x + y = z) (hp : pc + 1 = pc') (kk : Go p e below FF (T.setTop (mkF m pc' Ls (.int z :: St)))) : Go p e below FF (T.setTop (mkF m pc Ls (.int y :: .int x :: St))) := by
  subst hp hz; exact Go.via (fun _ => XS.iadd P.here P.x rfl (hb P.bt hd) rfl) kk
theorem G.isub (P : Pos p l e R s m args below meth c Z own bytes ml ret nm T h locs cells slots) {x y z : Int32} (hd : decode bytes pc = .ok (.isub, 1)) (hz : x - y = z) (hp : pc + 1 = pc') (kk : Go p e below FF (T.setTop (mkF m pc' Ls (.int z :: St)))) : Go p e below FF (T.setTop (mkF m pc Ls (.int y :: .int x :: St))) := by
  subst hp hz; exact Go.via (fun _ => XS.isub P.here P.x rfl (hb P.bt hd) rfl) kk
theorem G.imul (P : Pos p l e R s m args below meth c Z own bytes ml ret nm T h locs cells slots) {x y z : Int32} (hd : decode bytes pc = .ok (.imul, 1)) (hz : x * y = z) (hp : pc + 1 = pc') (kk : Go p e below FF (T.setTop (mkF m pc' Ls (.int z :: St)))) : Go p e below FF (T.setTop (mkF m pc Ls (.int y :: .int x :: St))) := by
  subst hp hz; exact Go.via (fun _ => XS.imul P.here P.x rfl (hb P.bt hd) rfl) kk
theorem G.iand (P : Pos p l e R s m args below meth c Z own bytes ml ret nm T h locs cells slots) {x y z : Int32} (hd : decode bytes pc = .ok (.iand, 1)) (hz : x &&& y = z) (hp : pc + 1 = pc') (kk : Go p e below FF (T.setTop (mkF m pc' Ls (.int z :: St)))) : Go p e below FF (T.setTop (mkF m pc Ls (.int y :: .int x :: St))) := by
  subst hp hz; exact Go.via (fun _ => XS.iand P.here P.x rfl (hb P.bt hd) rfl) kk
theorem G.ior (P : Pos p l e R s m args below meth c Z own bytes ml ret nm T h locs cells slots) {x y z : Int32} (hd : decode bytes pc = .ok (.ior, 1)) (hz : x ||| y = z) (hp : pc + 1 = pc') (kk : Go p e below FF (T.setTop (mkF m pc' Ls (.int z :: St)))) : Go p e below FF (T.setTop (mkF m pc Ls (.int y :: .int x :: St))) := by
  subst hp hz; exact Go.via (fun _ => XS.ior P.here P.x rfl (hb P.bt hd) rfl) kk
theorem G.ixor (P : Pos p l e R s m args below meth c Z own bytes ml ret nm T h locs cells slots) {x y z : Int32} (hd : decode bytes pc = .ok (.ixor, 1)) (hz : x ^^^ y = z) (hp : pc + 1 = pc') (kk : Go p e below FF (T.setTop (mkF m pc' Ls (.int z :: St)))) : Go p e below FF (T.setTop (mkF m pc Ls (.int y :: .int x :: St))) := by
  subst hp hz; exact Go.via (fun _ => XS.ixor P.here P.x rfl (hb P.bt hd) rfl) kk
theorem G.ishl (P : Pos p l e R s m args below meth c Z own bytes ml ret nm T h locs cells slots) {x y z : Int32} (hd : decode bytes pc = .ok (.ishl, 1)) (hz : x <<< (y &&& 31) = z) (hp : pc + 1 = pc') (kk : Go p e below FF (T.setTop (mkF m pc' Ls (.int z :: St)))) : Go p e below FF (T.setTop (mkF m pc Ls (.int y :: .int x :: St))) := by
  subst hp hz; exact Go.via (fun _ => XS.ishl P.here P.x rfl (hb P.bt hd) rfl) kk
theorem G.ishr (P : Pos p l e R s m args below meth c Z own bytes ml ret nm T h locs cells slots) {x y z : Int32} (hd : decode bytes pc = .ok (.ishr, 1)) (hz : x >>> (y &&& 31) = z) (hp : pc + 1 = pc') (kk : Go p e below FF (T.setTop (mkF m pc' Ls (.int z :: St)))) : Go p e below FF (T.setTop (mkF m pc Ls (.int y :: .int x :: St))) := by
  subst hp hz; exact Go.via (fun _ => XS.ishr P.here P.x rfl (hb P.bt hd) rfl) kk
theorem G.iushr (P : Pos p l e R s m args below meth c Z own bytes ml ret nm T h locs cells slots) {x y z : Int32} (hd : decode bytes pc = .ok (.iushr, 1)) (hz : ushr x y = z) (hp : pc + 1 = pc') (kk : Go p e below FF (T.setTop (mkF m pc' Ls (.int z :: St)))) : Go p e below FF (T.setTop (mkF m pc Ls (.int y :: .int x :: St))) := by
  subst hp hz; exact Go.via (fun _ => XS.iushr P.here P.x rfl (hb P.bt hd) rfl) kk
theorem G.idiv (P : Pos p l e R s m args below meth c Z own bytes ml ret nm T h locs cells slots) {x y z : Int32} (hd : decode bytes pc = .ok (.idiv, 1)) (hy : y ≠ 0) (hz : x / y = z) (hp : pc + 1 = pc') (kk : Go p e below FF (T.setTop (mkF m pc' Ls (.int z :: St)))) : Go p e below FF (T.setTop (mkF m pc Ls (.int y :: .int x :: St))) := by
  subst hp hz; exact Go.via (fun _ => XS.idiv P.here P.x rfl (hb P.bt hd) rfl hy) kk
theorem G.ladd (P : Pos p l e R s m args below meth c Z own bytes ml ret nm T h locs cells slots) {x y z : Int64} (hd : decode bytes pc = .ok (.ladd, 1)) (hz : x + y = z) (hp : pc + 1 = pc') (kk : Go p e below FF (T.setTop (mkF m pc' Ls (.long z :: St)))) : Go p e below FF (T.setTop (mkF m pc Ls (.long y :: .long x :: St))) := by
  subst hp hz; exact Go.via (fun _ => XS.ladd P.here P.x rfl (hb P.bt hd) rfl) kk
theorem G.lsub (P : Pos p l e R s m args below meth c Z own bytes ml ret nm T h locs cells slots) {x y z : Int64} (hd : decode bytes pc = .ok (.lsub, 1)) (hz : x - y = z) (hp : pc + 1 = pc') (kk : Go p e below FF (T.setTop (mkF m pc' Ls (.long z :: St)))) : Go p e below FF (T.setTop (mkF m pc Ls (.long y :: .long x :: St))) := by
  subst hp hz; exact Go.via (fun _ => XS.lsub P.here P.x rfl (hb P.bt hd) rfl) kk
theorem G.lmul (P : Pos p l e R s m args below meth c Z own bytes ml ret nm T h locs cells slots) {x y z : Int64} (hd : decode bytes pc = .ok (.lmul, 1)) (hz : x * y = z) (hp : pc + 1 = pc') (kk : Go p e below FF (T.setTop (mkF m pc' Ls (.long z :: St)))) : Go p e below FF (T.setTop (mkF m pc Ls (.long y :: .long x :: St))) := by
  subst hp hz; exact Go.via (fun _ => XS.lmul P.here P.x rfl (hb P.bt hd) rfl) kk
theorem G.land (P : Pos p l e R s m args below meth c Z own bytes ml ret nm T h locs cells slots) {x y z : Int64} (hd : decode bytes pc = .ok (.land, 1)) (hz : x &&& y = z) (hp : pc + 1 = pc') (kk : Go p e below FF (T.setTop (mkF m pc' Ls (.long z :: St)))) : Go p e below FF (T.setTop (mkF m pc Ls (.long y :: .long x :: St))) := by
  subst hp hz; exact Go.via (fun _ => XS.land P.here P.x rfl (hb P.bt hd) rfl) kk
theorem G.lor (P : Pos p l e R s m args below meth c Z own bytes ml ret nm T h locs cells slots) {x y z : Int64} (hd : decode bytes pc = .ok (.lor, 1)) (hz : x ||| y = z) (hp : pc + 1 = pc') (kk : Go p e below FF (T.setTop (mkF m pc' Ls (.long z :: St)))) : Go p e below FF (T.setTop (mkF m pc Ls (.long y :: .long x :: St))) := by
  subst hp hz; exact Go.via (fun _ => XS.lor P.here P.x rfl (hb P.bt hd) rfl) kk
theorem G.lxor (P : Pos p l e R s m args below meth c Z own bytes ml ret nm T h locs cells slots) {x y z : Int64} (hd : decode bytes pc = .ok (.lxor, 1)) (hz : x ^^^ y = z) (hp : pc + 1 = pc') (kk : Go p e below FF (T.setTop (mkF m pc' Ls (.long z :: St)))) : Go p e below FF (T.setTop (mkF m pc Ls (.long y :: .long x :: St))) := by
  subst hp hz; exact Go.via (fun _ => XS.lxor P.here P.x rfl (hb P.bt hd) rfl) kk
theorem G.ldiv (P : Pos p l e R s m args below meth c Z own bytes ml ret nm T h locs cells slots) {x y z : Int64} (hd : decode bytes pc = .ok (.ldiv, 1)) (hy : y ≠ 0) (hz : x / y = z) (hp : pc + 1 = pc') (kk : Go p e below FF (T.setTop (mkF m pc' Ls (.long z :: St)))) : Go p e below FF (T.setTop (mkF m pc Ls (.long y :: .long x :: St))) := by
  subst hp hz; exact Go.via (fun _ => XS.ldiv P.here P.x rfl (hb P.bt hd) rfl hy) kk
theorem G.lushr (P : Pos p l e R s m args below meth c Z own bytes ml ret nm T h locs cells slots) {x z : Int64} {y : Int32} (hd : decode bytes pc = .ok (.lushr, 1)) (hz : ushrJ x y = z) (hp : pc + 1 = pc') (kk : Go p e below FF (T.setTop (mkF m pc' Ls (.long z :: St)))) : Go p e below FF (T.setTop (mkF m pc Ls (.int y :: .long x :: St))) := by
  subst hp hz; exact Go.via (fun _ => XS.lushr P.here P.x rfl (hb P.bt hd) rfl) kk
theorem G.lcmp (P : Pos p l e R s m args below meth c Z own bytes ml ret nm T h locs cells slots) {x y : Int64} {z : Int32} (hd : decode bytes pc = .ok (.lcmp, 1)) (hz : lcmpO x y = z) (hp : pc + 1 = pc') (kk : Go p e below FF (T.setTop (mkF m pc' Ls (.int z :: St)))) : Go p e below FF (T.setTop (mkF m pc Ls (.long y :: .long x :: St))) := by
  subst hp hz; exact Go.via (fun _ => XS.lcmp P.here P.x rfl (hb P.bt hd) rfl) kk
theorem G.ineg (P : Pos p l e R s m args below meth c Z own bytes ml ret nm T h locs cells slots) {x : Int32} {z : Int32} (hd : decode bytes pc = .ok (.ineg, 1)) (hz : -x = z) (hp : pc + 1 = pc') (kk : Go p e below FF (T.setTop (mkF m pc' Ls (.int z :: St)))) : Go p e below FF (T.setTop (mkF m pc Ls (.int x :: St))) := by
  subst hp hz; exact Go.via (fun _ => XS.ineg P.here P.x rfl (hb P.bt hd) rfl) kk
theorem G.i2b (P : Pos p l e R s m args below meth c Z own bytes ml ret nm T h locs cells slots) {x : Int32} {z : Int32} (hd : decode bytes pc = .ok (.i2b, 1)) (hz : x.toInt8.toInt32 = z) (hp : pc + 1 = pc') (kk : Go p e below FF (T.setTop (mkF m pc' Ls (.int z :: St)))) : Go p e below FF (T.setTop (mkF m pc Ls (.int x :: St))) := by
  subst hp hz; exact Go.via (fun _ => XS.i2b P.here P.x rfl (hb P.bt hd) rfl) kk
theorem G.i2c (P : Pos p l e R s m args below meth c Z own bytes ml ret nm T h locs cells slots) {x : Int32} {z : Int32} (hd : decode bytes pc = .ok (.i2c, 1)) (hz : x.toUInt32.toUInt16.toUInt32.toInt32 = z) (hp : pc + 1 = pc') (kk : Go p e below FF (T.setTop (mkF m pc' Ls (.int z :: St)))) : Go p e below FF (T.setTop (mkF m pc Ls (.int x :: St))) := by
  subst hp hz; exact Go.via (fun _ => XS.i2c P.here P.x rfl (hb P.bt hd) rfl) kk
theorem G.i2s (P : Pos p l e R s m args below meth c Z own bytes ml ret nm T h locs cells slots) {x : Int32} {z : Int32} (hd : decode bytes pc = .ok (.i2s, 1)) (hz : x.toInt16.toInt32 = z) (hp : pc + 1 = pc') (kk : Go p e below FF (T.setTop (mkF m pc' Ls (.int z :: St)))) : Go p e below FF (T.setTop (mkF m pc Ls (.int x :: St))) := by
  subst hp hz; exact Go.via (fun _ => XS.i2s P.here P.x rfl (hb P.bt hd) rfl) kk
theorem G.i2l (P : Pos p l e R s m args below meth c Z own bytes ml ret nm T h locs cells slots) {x : Int32} {z : Int64} (hd : decode bytes pc = .ok (.i2l, 1)) (hz : x.toInt64 = z) (hp : pc + 1 = pc') (kk : Go p e below FF (T.setTop (mkF m pc' Ls (.long z :: St)))) : Go p e below FF (T.setTop (mkF m pc Ls (.int x :: St))) := by
  subst hp hz; exact Go.via (fun _ => XS.i2l P.here P.x rfl (hb P.bt hd) rfl) kk
theorem G.l2i (P : Pos p l e R s m args below meth c Z own bytes ml ret nm T h locs cells slots) {x : Int64} {z : Int32} (hd : decode bytes pc = .ok (.l2i, 1)) (hz : x.toInt32 = z) (hp : pc + 1 = pc') (kk : Go p e below FF (T.setTop (mkF m pc' Ls (.int z :: St)))) : Go p e below FF (T.setTop (mkF m pc Ls (.long x :: St))) := by
  subst hp hz; exact Go.via (fun _ => XS.l2i P.here P.x rfl (hb P.bt hd) rfl) kk
theorem G.lneg (P : Pos p l e R s m args below meth c Z own bytes ml ret nm T h locs cells slots) {x : Int64} {z : Int64} (hd : decode bytes pc = .ok (.lneg, 1)) (hz : -x = z) (hp : pc + 1 = pc') (kk : Go p e below FF (T.setTop (mkF m pc' Ls (.long z :: St)))) : Go p e below FF (T.setTop (mkF m pc Ls (.long x :: St))) := by
  subst hp hz; exact Go.via (fun _ => XS.lneg P.here P.x rfl (hb P.bt hd) rfl) kk
theorem G.pop (P : Pos p l e R s m args below meth c Z own bytes ml ret nm T h locs cells slots) {x : Value} (hd : decode bytes pc = .ok (.pop, 1)) (hc : x.category = 1) (hp : pc + 1 = pc') (kk : Go p e below FF (T.setTop (mkF m pc' Ls St))) : Go p e below FF (T.setTop (mkF m pc Ls (x :: St))) := by
  subst hp; exact Go.via (fun _ => XS.pop P.here P.x rfl (hb P.bt hd) rfl hc) kk
theorem G.dup (P : Pos p l e R s m args below meth c Z own bytes ml ret nm T h locs cells slots) {x : Value} (hd : decode bytes pc = .ok (.dup, 1)) (hc : x.category = 1) (hp : pc + 1 = pc') (kk : Go p e below FF (T.setTop (mkF m pc' Ls (x :: x :: St)))) : Go p e below FF (T.setTop (mkF m pc Ls (x :: St))) := by
  subst hp; exact Go.via (fun _ => XS.dup P.here P.x rfl (hb P.bt hd) rfl hc) kk
theorem G.dupX1 (P : Pos p l e R s m args below meth c Z own bytes ml ret nm T h locs cells slots) {x y : Value} (hd : decode bytes pc = .ok (.dup_x1, 1)) (hc : x.category = 1) (hc2 : y.category = 1) (hp : pc + 1 = pc') (kk : Go p e below FF (T.setTop (mkF m pc' Ls (x :: y :: x :: St)))) : Go p e below FF (T.setTop (mkF m pc Ls (x :: y :: St))) := by
  subst hp; exact Go.via (fun _ => XS.dupX1 P.here P.x rfl (hb P.bt hd) rfl hc hc2) kk
theorem G.iinc (P : Pos p l e R s m args below meth c Z own bytes ml ret nm T h locs cells slots) {k : Nat} {cst : Int} {x z : Int32} {l' : Array Slot} (hd : decode bytes pc = .ok (.iinc k cst, 3)) (hl : Ls[k]? = some (.val (.int x))) (hz : x + Int32.ofInt cst = z) (hl' : storeLocals Ls k (.int z) = some l') (hp : pc + 3 = pc') (kk : Go p e below FF (T.setTop (mkF m pc' l' St))) : Go p e below FF (T.setTop (mkF m pc Ls St)) := by
  subst hp hz; exact Go.via (fun _ => XS.iinc P.here P.x rfl (hb P.bt hd) hl hl') kk
theorem G.dup2 (P : Pos p l e R s m args below meth c Z own bytes ml ret nm T h locs cells slots) {x y : Value} (hd : decode bytes pc = .ok (.dup2, 1)) (hc : x.category = 1) (hc2 : y.category = 1) (hp : pc + 1 = pc') (kk : Go p e below FF (T.setTop (mkF m pc' Ls (x :: y :: x :: y :: St)))) : Go p e below FF (T.setTop (mkF m pc Ls (x :: y :: St))) := by
  subst hp; exact Go.via (fun _ => XT.dup2 P.here P.x rfl (hb P.bt hd) rfl hc hc2) kk
theorem G.dupX2 (P : Pos p l e R s m args below meth c Z own bytes ml ret nm T h locs cells slots) {x y w : Value} (hd : decode bytes pc = .ok (.dup_x2, 1)) (hc : x.category = 1) (hc2 : y.category = 1) (hc3 : w.category = 1) (hp : pc + 1 = pc') (kk : Go p e below FF (T.setTop (mkF m pc' Ls (x :: y :: w :: x :: St)))) : Go p e below FF (T.setTop (mkF m pc Ls (x :: y :: w :: St))) := by
  subst hp
  refine Go.via (S1 := T.setTop (mkF m (pc + 1) Ls (x :: y :: w :: x :: St))) (fun target hr => ?_) kk
  have hd' := hb P.bt hd
  have hx := P.x
  show Steps p.tables e below (T.setTop { method := m, pc := pc, locals := Ls, stack := x :: y :: w :: St, locked := none }) _
  jvm_step P.here [P.here.top, hx, hd', hc, hc2, hc3]
  exact hr
theorem G.goto (P : Pos p l e R s m args below meth c Z own bytes ml ret nm T h locs cells slots) {o : Int} (hd : decode bytes pc = .ok (.goto o, 3)) (ho : 0 ≤ (pc : Int) + o) (hp : ((pc : Int) + o).toNat = pc') (kk : Go p e below FF (T.setTop (mkF m pc' Ls St))) : Go p e below FF (T.setTop (mkF m pc Ls St)) :=
  Go.via (fun _ => XS.goto P.here P.x rfl (pc0 := pc) rfl (hb P.bt hd) ho hp) kk
theorem G.irem (P : Pos p l e R s m args below meth c Z own bytes ml ret nm T h locs cells slots) {x y z : Int32} (hd : decode bytes pc = .ok (.irem, 1)) (hy : y ≠ 0) (hz : x % y = z) (hp : pc + 1 = pc') (kk : Go p e below FF (T.setTop (mkF m pc' Ls (.int z :: St)))) : Go p e below FF (T.setTop (mkF m pc Ls (.int y :: .int x :: St))) := by
  subst hp hz; exact Go.via (fun _ => iremM (g := mkF m pc Ls (.int y :: .int x :: St)) P.st P.x rfl (hb P.bt hd) rfl hy) kk
theorem G.ldcI (P : Pos p l e R s m args below meth c Z own bytes ml ret nm T h locs cells slots) {i : Nat} {v : Int32} (w : (Jvm.Cond.constant own i v).before a0 Z = true) (hd : decode bytes pc = .ok (.ldc i, 2)) (hp : pc + 2 = pc') (kk : Go p e below FF (T.setTop (mkF m pc' Ls (.int v :: St)))) : Go p e below FF (T.setTop (mkF m pc Ls St)) := by
  subst hp; exact Go.via (P.st.ldcInt P.x P.ow (mvT P.z w) (g := mkF m pc Ls St) rfl (hb P.bt hd)) kk
theorem G.ldcJ (P : Pos p l e R s m args below meth c Z own bytes ml ret nm T h locs cells slots) {i : Nat} {v : Int64} (w : (Jvm.Cond.constantLong own i v).before a0 Z = true) (hd : decode bytes pc = .ok (.ldc2_w i, 3)) (hp : pc + 3 = pc') (kk : Go p e below FF (T.setTop (mkF m pc' Ls (.long v :: St)))) : Go p e below FF (T.setTop (mkF m pc Ls St)) := by
  subst hp; exact Go.via (P.st.ldc2Long P.x P.ow (mvT P.z w) (g := mkF m pc Ls St) rfl (hb P.bt hd)) kk
/-! ### branches -/
theorem G.icmp (P : Pos p l e R s m args below meth c Z own bytes ml ret nm T h locs cells slots) {cd : ClassFile.Cond} {x y : Int32} {o : Int} {pcY pcN : Nat} (hd : decode bytes pc = .ok (.if_icmp cd o, 3)) (ho : 0 ≤ (pc : Int) + o) (hp : ((pc : Int) + o).toNat = pcY) (hn : pc + 3 = pcN)
    (hY : if_icmp.holds cd x y = true → Go p e below FF (T.setTop (mkF m pcY Ls St))) (hN : if_icmp.holds cd x y = false → Go p e below FF (T.setTop (mkF m pcN Ls St))) : Go p e below FF (T.setTop (mkF m pc Ls (.int y :: .int x :: St))) := by
  subst hn
  cases hc : if_icmp.holds cd x y
  · exact Go.via (fun _ => XS.icmpNo P.here P.x rfl (hb P.bt hd) rfl hc) (hN hc)
  · exact Go.via (fun _ => XS.icmpYes P.here P.x rfl (pc0 := pc) rfl (hb P.bt hd) rfl hc ho hp) (hY hc)
theorem G.if0 (P : Pos p l e R s m args below meth c Z own bytes ml ret nm T h locs cells slots) {cd : ClassFile.Cond} {x : Int32} {o : Int} {pcY pcN : Nat} (hd : decode bytes pc = .ok (.ifCond cd o, 3)) (ho : 0 ≤ (pc : Int) + o) (hp : ((pc : Int) + o).toNat = pcY) (hn : pc + 3 = pcN)
    (hY : if_icmp.holds cd x 0 = true → Go p e below FF (T.setTop (mkF m pcY Ls St))) (hN : if_icmp.holds cd x 0 = false → Go p e below FF (T.setTop (mkF m pcN Ls St))) : Go p e below FF (T.setTop (mkF m pc Ls (.int x :: St))) := by
  subst hn
  cases hc : if_icmp.holds cd x 0
  · exact Go.via (fun _ => XS.ifNo P.here P.x rfl (hb P.bt hd) rfl ((Jvm.RoadKit.if0 _ _).trans hc)) (hN hc)
  · exact Go.via (fun _ => XS.ifYes P.here P.x rfl (pc0 := pc) rfl (hb P.bt hd) rfl ((Jvm.RoadKit.if0 _ _).trans hc) ho hp) (hY hc)
theorem h_eq {x y : Int32} : (if_icmp.holds .eq x y = true → x = y) ∧ (if_icmp.holds .eq x y = false → ¬ x = y) := ⟨fun h => Classical.byContradiction fun q => (by rw [(feq q).1] at h; cases h), fun h q => (by rw [(teq q).1] at h; cases h)⟩
theorem h_ne {x y : Int32} : (if_icmp.holds .ne x y = true → ¬ x = y) ∧ (if_icmp.holds .ne x y = false → x = y) := ⟨fun h q => (by rw [(teq q).2] at h; cases h), fun h => Classical.byContradiction fun q => (by rw [(feq q).2] at h; cases h)⟩
theorem h_lt {x y : Int32} : (if_icmp.holds .lt x y = true → x < y) ∧ (if_icmp.holds .lt x y = false → ¬ x < y) := ⟨fun h => Classical.byContradiction fun q => (by rw [(flt q).1] at h; cases h), fun h q => (by rw [(tlt q).1] at h; cases h)⟩
theorem h_ge {x y : Int32} : (if_icmp.holds .ge x y = true → ¬ x < y) ∧ (if_icmp.holds .ge x y = false → x < y) := ⟨fun h q => (by rw [(tlt q).2.1] at h; cases h), fun h => Classical.byContradiction fun q => (by rw [(flt q).2.1] at h; cases h)⟩
theorem h_gt {x y : Int32} : (if_icmp.holds .gt x y = true → y < x) ∧ (if_icmp.holds .gt x y = false → ¬ y < x) := ⟨fun h => Classical.byContradiction fun q => (by rw [(flt q).2.2.1] at h; cases h), fun h q => (by rw [(tlt q).2.2.1] at h; cases h)⟩
theorem h_le {x y : Int32} : (if_icmp.holds .le x y = true → ¬ y < x) ∧ (if_icmp.holds .le x y = false → y < x) := ⟨fun h q => (by rw [(tlt q).2.2.2] at h; cases h), fun h => Classical.byContradiction fun q => (by rw [(flt q).2.2.2] at h; cases h)⟩
theorem G.icmp_eq (P : Pos p l e R s m args below meth c Z own bytes ml ret nm T h locs cells slots) {x y : Int32} {o : Int} {pcY pcN : Nat} (hd : decode bytes pc = .ok (.if_icmp .eq o, 3)) (ho : 0 ≤ (pc : Int) + o) (hp : ((pc : Int) + o).toNat = pcY) (hn : pc + 3 = pcN) (hY : x = y → Go p e below FF (T.setTop (mkF m pcY Ls St))) (hN : ¬ x = y → Go p e below FF (T.setTop (mkF m pcN Ls St))) : Go p e below FF (T.setTop (mkF m pc Ls (.int y :: .int x :: St))) :=
  G.icmp P hd ho hp hn (fun q => hY (h_eq.1 q)) (fun q => hN (h_eq.2 q))
theorem G.if_eq (P : Pos p l e R s m args below meth c Z own bytes ml ret nm T h locs cells slots) {x : Int32} {o : Int} {pcY pcN : Nat} (hd : decode bytes pc = .ok (.ifCond .eq o, 3)) (ho : 0 ≤ (pc : Int) + o) (hp : ((pc : Int) + o).toNat = pcY) (hn : pc + 3 = pcN) (hY : x = 0 → Go p e below FF (T.setTop (mkF m pcY Ls St))) (hN : ¬ x = 0 → Go p e below FF (T.setTop (mkF m pcN Ls St))) : Go p e below FF (T.setTop (mkF m pc Ls (.int x :: St))) :=
  G.if0 P hd ho hp hn (fun q => hY (h_eq.1 q)) (fun q => hN (h_eq.2 q))
theorem G.icmp_ne (P : Pos p l e R s m args below meth c Z own bytes ml ret nm T h locs cells slots) {x y : Int32} {o : Int} {pcY pcN : Nat} (hd : decode bytes pc = .ok (.if_icmp .ne o, 3)) (ho : 0 ≤ (pc : Int) + o) (hp : ((pc : Int) + o).toNat = pcY) (hn : pc + 3 = pcN) (hY : ¬ x = y → Go p e below FF (T.setTop (mkF m pcY Ls St))) (hN : x = y → Go p e below FF (T.setTop (mkF m pcN Ls St))) : Go p e below FF (T.setTop (mkF m pc Ls (.int y :: .int x :: St))) :=
  G.icmp P hd ho hp hn (fun q => hY (h_ne.1 q)) (fun q => hN (h_ne.2 q))
theorem G.if_ne (P : Pos p l e R s m args below meth c Z own bytes ml ret nm T h locs cells slots) {x : Int32} {o : Int} {pcY pcN : Nat} (hd : decode bytes pc = .ok (.ifCond .ne o, 3)) (ho : 0 ≤ (pc : Int) + o) (hp : ((pc : Int) + o).toNat = pcY) (hn : pc + 3 = pcN) (hY : ¬ x = 0 → Go p e below FF (T.setTop (mkF m pcY Ls St))) (hN : x = 0 → Go p e below FF (T.setTop (mkF m pcN Ls St))) : Go p e below FF (T.setTop (mkF m pc Ls (.int x :: St))) :=
  G.if0 P hd ho hp hn (fun q => hY (h_ne.1 q)) (fun q => hN (h_ne.2 q))
theorem G.icmp_lt (P : Pos p l e R s m args below meth c Z own bytes ml ret nm T h locs cells slots) {x y : Int32} {o : Int} {pcY pcN : Nat} (hd : decode bytes pc = .ok (.if_icmp .lt o, 3)) (ho : 0 ≤ (pc : Int) + o) (hp : ((pc : Int) + o).toNat = pcY) (hn : pc + 3 = pcN) (hY : x < y → Go p e below FF (T.setTop (mkF m pcY Ls St))) (hN : ¬ x < y → Go p e below FF (T.setTop (mkF m pcN Ls St))) : Go p e below FF (T.setTop (mkF m pc Ls (.int y :: .int x :: St))) :=
  G.icmp P hd ho hp hn (fun q => hY (h_lt.1 q)) (fun q => hN (h_lt.2 q))
theorem G.if_lt (P : Pos p l e R s m args below meth c Z own bytes ml ret nm T h locs cells slots) {x : Int32} {o : Int} {pcY pcN : Nat} (hd : decode bytes pc = .ok (.ifCond .lt o, 3)) (ho : 0 ≤ (pc : Int) + o) (hp : ((pc : Int) + o).toNat = pcY) (hn : pc + 3 = pcN) (hY : x < 0 → Go p e below FF (T.setTop (mkF m pcY Ls St))) (hN : ¬ x < 0 → Go p e below FF (T.setTop (mkF m pcN Ls St))) : Go p e below FF (T.setTop (mkF m pc Ls (.int x :: St))) :=
  G.if0 P hd ho hp hn (fun q => hY (h_lt.1 q)) (fun q => hN (h_lt.2 q))
theorem G.icmp_ge (P : Pos p l e R s m args below meth c Z own bytes ml ret nm T h locs cells slots) {x y : Int32} {o : Int} {pcY pcN : Nat} (hd : decode bytes pc = .ok (.if_icmp .ge o, 3)) (ho : 0 ≤ (pc : Int) + o) (hp : ((pc : Int) + o).toNat = pcY) (hn : pc + 3 = pcN) (hY : ¬ x < y → Go p e below FF (T.setTop (mkF m pcY Ls St))) (hN : x < y → Go p e below FF (T.setTop (mkF m pcN Ls St))) : Go p e below FF (T.setTop (mkF m pc Ls (.int y :: .int x :: St))) :=
  G.icmp P hd ho hp hn (fun q => hY (h_ge.1 q)) (fun q => hN (h_ge.2 q))
theorem G.if_ge (P : Pos p l e R s m args below meth c Z own bytes ml ret nm T h locs cells slots) {x : Int32} {o : Int} {pcY pcN : Nat} (hd : decode bytes pc = .ok (.ifCond .ge o, 3)) (ho : 0 ≤ (pc : Int) + o) (hp : ((pc : Int) + o).toNat = pcY) (hn : pc + 3 = pcN) (hY : ¬ x < 0 → Go p e below FF (T.setTop (mkF m pcY Ls St))) (hN : x < 0 → Go p e below FF (T.setTop (mkF m pcN Ls St))) : Go p e below FF (T.setTop (mkF m pc Ls (.int x :: St))) :=
  G.if0 P hd ho hp hn (fun q => hY (h_ge.1 q)) (fun q => hN (h_ge.2 q))
theorem G.icmp_gt (P : Pos p l e R s m args below meth c Z own bytes ml ret nm T h locs cells slots) {x y : Int32} {o : Int} {pcY pcN : Nat} (hd : decode bytes pc = .ok (.if_icmp .gt o, 3)) (ho : 0 ≤ (pc : Int) + o) (hp : ((pc : Int) + o).toNat = pcY) (hn : pc + 3 = pcN) (hY : y < x → Go p e below FF (T.setTop (mkF m pcY Ls St))) (hN : ¬ y < x → Go p e below FF (T.setTop (mkF m pcN Ls St))) : Go p e below FF (T.setTop (mkF m pc Ls (.int y :: .int x :: St))) :=
  G.icmp P hd ho hp hn (fun q => hY (h_gt.1 q)) (fun q => hN (h_gt.2 q))
theorem G.if_gt (P : Pos p l e R s m args below meth c Z own bytes ml ret nm T h locs cells slots) {x : Int32} {o : Int} {pcY pcN : Nat} (hd : decode bytes pc = .ok (.ifCond .gt o, 3)) (ho : 0 ≤ (pc : Int) + o) (hp : ((pc : Int) + o).toNat = pcY) (hn : pc + 3 = pcN) (hY : 0 < x → Go p e below FF (T.setTop (mkF m pcY Ls St))) (hN : ¬ 0 < x → Go p e below FF (T.setTop (mkF m pcN Ls St))) : Go p e below FF (T.setTop (mkF m pc Ls (.int x :: St))) :=
  G.if0 P hd ho hp hn (fun q => hY (h_gt.1 q)) (fun q => hN (h_gt.2 q))
theorem G.icmp_le (P : Pos p l e R s m args below meth c Z own bytes ml ret nm T h locs cells slots) {x y : Int32} {o : Int} {pcY pcN : Nat} (hd : decode bytes pc = .ok (.if_icmp .le o, 3)) (ho : 0 ≤ (pc : Int) + o) (hp : ((pc : Int) + o).toNat = pcY) (hn : pc + 3 = pcN) (hY : ¬ y < x → Go p e below FF (T.setTop (mkF m pcY Ls St))) (hN : y < x → Go p e below FF (T.setTop (mkF m pcN Ls St))) : Go p e below FF (T.setTop (mkF m pc Ls (.int y :: .int x :: St))) :=
  G.icmp P hd ho hp hn (fun q => hY (h_le.1 q)) (fun q => hN (h_le.2 q))
theorem G.if_le (P : Pos p l e R s m args below meth c Z own bytes ml ret nm T h locs cells slots) {x : Int32} {o : Int} {pcY pcN : Nat} (hd : decode bytes pc = .ok (.ifCond .le o, 3)) (ho : 0 ≤ (pc : Int) + o) (hp : ((pc : Int) + o).toNat = pcY) (hn : pc + 3 = pcN) (hY : ¬ 0 < x → Go p e below FF (T.setTop (mkF m pcY Ls St))) (hN : 0 < x → Go p e below FF (T.setTop (mkF m pcN Ls St))) : Go p e below FF (T.setTop (mkF m pc Ls (.int x :: St))) :=
  G.if0 P hd ho hp hn (fun q => hY (h_le.1 q)) (fun q => hN (h_le.2 q))
theorem G.acmp_eq (P : Pos p l e R s m args below meth c Z own bytes ml ret nm T h locs cells slots) {a b : Addr} {o : Int} {pcY pcN : Nat} (hd : decode bytes pc = .ok (.if_acmp .eq o, 3)) (ho : 0 ≤ (pc : Int) + o) (hp : ((pc : Int) + o).toNat = pcY) (hn : pc + 3 = pcN)
    (hY : a = b → Go p e below FF (T.setTop (mkF m pcY Ls St))) (hN : ¬ a = b → Go p e below FF (T.setTop (mkF m pcN Ls St))) : Go p e below FF (T.setTop (mkF m pc Ls (.ref b :: .ref a :: St))) := by
  subst hn
  by_cases hc : a = b
  · refine Go.via (fun _ => XS.acmpYes P.here P.x rfl (pc0 := pc) rfl (hb P.bt hd) rfl ?_ ho hp) (hY hc)
    simp [if_acmp.holds, hc]
  · refine Go.via (fun _ => XS.acmpNo P.here P.x rfl (hb P.bt hd) rfl ?_) (hN hc)
    simp [if_acmp.holds, hc]
theorem G.acmp_ne (P : Pos p l e R s m args below meth c Z own bytes ml ret nm T h locs cells slots) {a b : Addr} {o : Int} {pcY pcN : Nat} (hd : decode bytes pc = .ok (.if_acmp .ne o, 3)) (ho : 0 ≤ (pc : Int) + o) (hp : ((pc : Int) + o).toNat = pcY) (hn : pc + 3 = pcN)
    (hY : ¬ a = b → Go p e below FF (T.setTop (mkF m pcY Ls St))) (hN : a = b → Go p e below FF (T.setTop (mkF m pcN Ls St))) : Go p e below FF (T.setTop (mkF m pc Ls (.ref b :: .ref a :: St))) := by
  subst hn
  by_cases hc : a = b
  · refine Go.via (fun _ => XS.acmpNo P.here P.x rfl (hb P.bt hd) rfl ?_) (hN hc)
    simp [if_acmp.holds, hc]
  · refine Go.via (fun _ => XS.acmpYes P.here P.x rfl (pc0 := pc) rfl (hb P.bt hd) rfl ?_ ho hp) (hY hc)
    simp [if_acmp.holds, hc]
theorem G.acmpNe (P : Pos p l e R s m args below meth c Z own bytes ml ret nm T h locs cells slots) {cd : ACond} {x y : Value} (h1 : x.isRef = true) (h2 : y.isRef = true) (hq : ¬ x = y) {o : Int} {pcT : Nat} (hd : decode bytes pc = .ok (.if_acmp cd o, 3)) (ho : 0 ≤ (pc : Int) + o) (hp : pcT = if acV cd false = true then ((pc : Int) + o).toNat else pc + 3)
    (kk : Go p e below FF (T.setTop (mkF m pcT Ls St))) : Go p e below FF (T.setTop (mkF m pc Ls (y :: x :: St))) :=
  Go.via (fun _ => Jvm.RoadKit.acmp (g := mkF m pc Ls (y :: x :: St)) P.st P.x rfl h1 h2 (pc0 := pc) rfl (hb P.bt hd) rfl (decide_eq_false hq) ho hp) kk
theorem G.acmpEq (P : Pos p l e R s m args below meth c Z own bytes ml ret nm T h locs cells slots) {cd : ACond} {x y : Value} (h1 : x.isRef = true) (h2 : y.isRef = true) (hq : x = y) {o : Int} {pcT : Nat} (hd : decode bytes pc = .ok (.if_acmp cd o, 3)) (ho : 0 ≤ (pc : Int) + o) (hp : pcT = if acV cd true = true then ((pc : Int) + o).toNat else pc + 3)
    (kk : Go p e below FF (T.setTop (mkF m pcT Ls St))) : Go p e below FF (T.setTop (mkF m pc Ls (y :: x :: St))) :=
  Go.via (fun _ => Jvm.RoadKit.acmp (g := mkF m pc Ls (y :: x :: St)) P.st P.x rfl h1 h2 (pc0 := pc) rfl (hb P.bt hd) rfl (decide_eq_true hq) ho hp) kk
theorem G.ifnullY (P : Pos p l e R s m args below meth c Z own bytes ml ret nm T h locs cells slots) {o : Int} (hd : decode bytes pc = .ok (.ifnull o, 3)) (ho : 0 ≤ (pc : Int) + o) (hp : ((pc : Int) + o).toNat = pc') (kk : Go p e below FF (T.setTop (mkF m pc' Ls St))) : Go p e below FF (T.setTop (mkF m pc Ls (.null :: St))) :=
  Go.via (fun _ => XS.ifnullYes P.here P.x rfl (pc0 := pc) rfl (hb P.bt hd) rfl ho hp) kk
theorem G.ifnullN (P : Pos p l e R s m args below meth c Z own bytes ml ret nm T h locs cells slots) {o : Int} {b : Addr} (hd : decode bytes pc = .ok (.ifnull o, 3)) (hp : pc + 3 = pc') (kk : Go p e below FF (T.setTop (mkF m pc' Ls St))) : Go p e below FF (T.setTop (mkF m pc Ls (.ref b :: St))) := by
  subst hp; exact Go.via (fun _ => XS.ifnullNo P.here P.x rfl (hb P.bt hd) rfl) kk
theorem G.ifnonnullY (P : Pos p l e R s m args below meth c Z own bytes ml ret nm T h locs cells slots) {o : Int} {b : Addr} (hd : decode bytes pc = .ok (.ifnonnull o, 3)) (ho : 0 ≤ (pc : Int) + o) (hp : ((pc : Int) + o).toNat = pc') (kk : Go p e below FF (T.setTop (mkF m pc' Ls St))) : Go p e below FF (T.setTop (mkF m pc Ls (.ref b :: St))) :=
  Go.via (fun _ => XS.ifnonnullYes P.here P.x rfl (pc0 := pc) rfl (hb P.bt hd) rfl ho hp) kk
theorem G.ifnonnullN (P : Pos p l e R s m args below meth c Z own bytes ml ret nm T h locs cells slots) {o : Int} (hd : decode bytes pc = .ok (.ifnonnull o, 3)) (hp : pc + 3 = pc') (kk : Go p e below FF (T.setTop (mkF m pc' Ls St))) : Go p e below FF (T.setTop (mkF m pc Ls (.null :: St))) := by
  subst hp; exact Go.via (fun _ => XS.ifnonnullNo P.here P.x rfl (hb P.bt hd) rfl) kk
/-! ### the heap -/
theorem G.getF (P : Pos p l e R s m args below meth c Z own bytes ml ret nm T h locs cells slots) {R0 O n d host : String} {i : Nat} (w : (Jvm.Cond.fieldLink own i R0 n d).before a0 Z = true ∨ (Jvm.Cond.fieldLinkNest own i R0 n d host).before a0 Z = true) (via : Via Z R0 O n d) {a : Addr} {v : Value} (F : Fld Z h a O n d v) (hd : decode bytes pc = .ok (.getfield i, 3)) (hp : pc + 3 = pc')
    (kk : ∀ T', Pos p l e R s m args below meth c Z own bytes ml ret nm T' h locs cells slots → Go p e below FF (T'.setTop (mkF m pc' Ls (v :: St)))) : Go p e below FF (T.setTop (mkF m pc Ls (.ref a :: St))) := by
  subst hp
  obtain ⟨T', X', e', st⟩ := Jvm.RoadKit.getF P.st P.x P.z P.ow w via P.eh F (g := mkF m pc Ls (.ref a :: St)) rfl rfl (hb P.bt hd)
  exact Go.via st (kk T' ⟨P.1, X', e'⟩)
theorem G.putF (P : Pos p l e R s m args below meth c Z own bytes ml ret nm T h locs cells slots) {R0 O n d host C : String} {i kn : Nat} {ty : FieldType} (w : (Jvm.Cond.fieldLink own i R0 n d).before a0 Z = true ∨ (Jvm.Cond.fieldLinkNest own i R0 n d host).before a0 Z = true) (via : Via Z R0 O n d) {a : Addr} {v old : Value} (F : Fld Z h a O n d old) (E : Exa Z h a C)
    (L : (Jvm.Cond.lays C O n d).before a0 Z = true ∨ ((Jvm.Cond.laysFinal C O n d).before a0 Z = true ∧ own = O ∧ nm = "<init>")) (wi : (Jvm.Cond.instantiable C kn).before a0 Z = true) (hty : parseFieldDescriptor d = some ty) (hn : narrow ty v = v) (hf : fits ty v = true) (hd : decode bytes pc = .ok (.putfield i, 3)) (hp : pc + 3 = pc')
    (kk : ∀ T' h', Pos p l e R s m args below meth c Z own bytes ml ret nm T' h' (locs ++ [⟨a, Jvm.RoadKit.slotOf Z O n d⟩]) cells slots → Wr h h' a (Jvm.RoadKit.slotOf Z O n d) v → Go p e below FF (T'.setTop (mkF m pc' Ls St))) : Go p e below FF (T.setTop (mkF m pc Ls (v :: .ref a :: St))) := by
  subst hp
  obtain ⟨T', h', X', e', W, st⟩ := Jvm.RoadKit.putF P.st P.x P.z P.ow w via P.eh F E (L.imp id fun q => ⟨q.1, q.2.1, P.mn.trans q.2.2⟩) wi hty hn hf (g := mkF m pc Ls (v :: .ref a :: St)) rfl rfl (hb P.bt hd)
  exact Go.via st (kk T' h' ⟨P.1, X', e'⟩ W)
theorem G.putFN (P : Pos p l e R s m args below meth c Z own bytes ml ret nm T h locs cells slots) {R0 O n d C : String} {i kn : Nat} {ty : FieldType} (w : (Jvm.Cond.fieldLink own i R0 n d).before a0 Z = true) (via : Via Z R0 O n d) {a : Addr} {v v' old : Value} (F : Fld Z h a O n d old) (E : Exa Z h a C)
    (L : (Jvm.Cond.lays C O n d).before a0 Z = true ∨ ((Jvm.Cond.laysFinal C O n d).before a0 Z = true ∧ own = O ∧ nm = "<init>")) (wi : (Jvm.Cond.instantiable C kn).before a0 Z = true) (hty : parseFieldDescriptor d = some ty) (hn : narrow ty v = v') (hf : fits ty v' = true) (hd : decode bytes pc = .ok (.putfield i, 3)) (hp : pc + 3 = pc')
    (kk : ∀ T' h', Pos p l e R s m args below meth c Z own bytes ml ret nm T' h' (locs ++ [⟨a, Jvm.RoadKit.slotOf Z O n d⟩]) cells slots → Wr h h' a (Jvm.RoadKit.slotOf Z O n d) v' → Go p e below FF (T'.setTop (mkF m pc' Ls St))) : Go p e below FF (T.setTop (mkF m pc Ls (v :: .ref a :: St))) := by
  subst hp
  obtain ⟨T', h', X', e', W, st⟩ := Jvm.RoadKit.putFN P.st P.x P.z P.ow w via P.eh F E (L.imp id fun q => ⟨q.1, q.2.1, P.mn.trans q.2.2⟩) wi hty hn hf (g := mkF m pc Ls (v :: .ref a :: St)) rfl rfl (hb P.bt hd)
  exact Go.via st (kk T' h' ⟨P.1, X', e'⟩ W)
theorem G.getS (P : Pos p l e R s m args below meth c Z own bytes ml ret nm T h locs cells slots) {R0 O n d host : String} {i : Nat} (w : (Jvm.Cond.fieldLink own i R0 n d).before a0 Z = true ∨ (Jvm.Cond.fieldLinkNest own i R0 n d host).before a0 Z = true) (via : Via Z R0 O n d) {v : Value} (F : Sta Z h O n d v) (hd : decode bytes pc = .ok (.getstatic i, 3)) (hp : pc + 3 = pc')
    (kk : ∀ T', Pos p l e R s m args below meth c Z own bytes ml ret nm T' h locs cells slots → Go p e below FF (T'.setTop (mkF m pc' Ls (v :: St)))) : Go p e below FF (T.setTop (mkF m pc Ls St)) := by
  subst hp
  obtain ⟨T', X', e', st⟩ := getS2 P.st P.x P.z P.ow w via P.eh F (g := mkF m pc Ls St) rfl (hb P.bt hd)
  exact Go.via st (kk T' ⟨P.1, X', e'⟩)
theorem G.newO (P : Pos p l e R s m args below meth c Z own bytes ml ret nm T h locs cells slots) {C : String} {i n : Nat} (w : (Jvm.Cond.classLink own i C).before a0 Z = true) (wi : (Jvm.Cond.instantiable C n).before a0 Z = true) (wz : (Jvm.Cond.initialized C).before a0 Z = true) (hd : decode bytes pc = .ok (.new i, 3)) (hro : cells + 1 ≤ R.cells ∧ slots + n ≤ R.slots) (hp : pc + 3 = pc')
    (kk : ∀ T' h' a, a = h.size → Pos p l e R s m args below meth c Z own bytes ml ret nm T' h' locs (cells + 1) (slots + n) → Ext h h' → Exa Z h' a C → (∀ {O fn d : String} {ty : FieldType}, Laid Z a0 C O fn d → parseFieldDescriptor d = some ty → Fld Z h' a O fn d (defaultValue ty)) → Go p e below FF (T'.setTop (mkF m pc' Ls (.ref a :: St)))) : Go p e below FF (T.setTop (mkF m pc Ls St)) := by
  subst hp
  obtain ⟨T', h', X', e', E, A, D, -, st⟩ := Jvm.RoadKit.newO P.st P.x P.z P.ow w wi wz P.eh (g := mkF m pc Ls St) rfl (hb P.bt hd) hro.1 hro.2
  exact Go.via st (kk T' h' h.size rfl ⟨P.1, X', e'⟩ E A D)
theorem G.newP (P : Pos p l e R s m args below meth c Z own bytes ml ret nm T h locs cells slots) {aty : ArrayType} (w : (Jvm.Cond.arrayClass (newarray.typeOf aty)).before a0 Z = true) {n : Int32} (hn : ¬ n < 0) {cap : Nat} (hcap : n.toNatClampNeg ≤ cap) (hbb : cap * 8 ≤ 536870912) (hro : cells + 1 ≤ R.cells ∧ slots + cap ≤ R.slots) (hd : decode bytes pc = .ok (.newarray aty, 2)) (hp : pc + 2 = pc')
    (kk : ∀ T' h' a k, a = h.size → Pos p l e R s m args below meth c Z own bytes ml ret nm T' h' locs (cells + 1) (slots + cap) → Ext h h' → Arv Z h' a k (newarray.typeOf aty) n [] (defaultValue (newarray.typeOf aty)) → Go p e below FF (T'.setTop (mkF m pc' Ls (.ref a :: St)))) : Go p e below FF (T.setTop (mkF m pc Ls (.int n :: St))) := by
  subst hp
  obtain ⟨T', h', k, X', e', E, A, st⟩ := Jvm.RoadKit.newP P.st P.x P.z w P.eh (g := mkF m pc Ls (.int n :: St)) rfl (hb P.bt hd) rfl hn hcap hbb hro.1 hro.2
  exact Go.via st (kk T' h' h.size k rfl ⟨P.1, X', e'⟩ E (Arv.new A hn))
theorem G.alen (P : Pos p l e R s m args below meth c Z own bytes ml ret nm T h locs cells slots) {a : Addr} {k : ClassId} {ty : FieldType} {z : Int32} {vs : List Value} {dv : Value} (V : Arv Z h a k ty z vs dv) (hd : decode bytes pc = .ok (.arraylength, 1)) (hp : pc + 1 = pc')
    (kk : Go p e below FF (T.setTop (mkF m pc' Ls (.int z :: St)))) : Go p e below FF (T.setTop (mkF m pc Ls (.ref a :: St))) := by
  subst hp
  obtain ⟨cl, A, -, S, N, -⟩ := V
  refine Go.via (fun t => P.st.arraylength P.x (cell := cl) (by rw [P.eh]; exact A.1) (State.isArrayOf_alike P.z.alike A.2.1) (g := mkF m pc Ls (.ref a :: St)) rfl rfl (hb P.bt hd) t) ?_
  rw [len_of S N]; exact kk
theorem G.stI (P : Pos p l e R s m args below meth c Z own bytes ml ret nm T h locs cells slots) {a : Addr} {k : ClassId} {z : Int32} {vs : List Value} {dv : Value} (V : Arv Z h a k .int z vs dv) {j x : Int32} (i : Nat) (hi : j.toNatClampNeg = i) (hin : ¬ j < 0 ∧ j < z) (hl : i < vs.length) (hd : decode bytes pc = .ok (.iastore, 1)) (hp : pc + 1 = pc')
    (kk : ∀ T' h', Pos p l e R s m args below meth c Z own bytes ml ret nm T' h' (locs ++ [⟨a, i⟩]) cells slots → Wr h h' a i (.int x) → Arv Z h' a k .int z (vs.set i (.int x)) dv → Go p e below FF (T'.setTop (mkF m pc' Ls St))) : Go p e below FF (T.setTop (mkF m pc Ls (.int x :: .int j :: .ref a :: St))) := by
  subst hp hi
  obtain ⟨cl, A, q1, S, N, H, Gf⟩ := V
  obtain ⟨T', h', X', e', W, st⟩ := Jvm.RoadKit.stI P.st P.x P.z P.eh A (inb_of S hin) (g := mkF m pc Ls (.int x :: .int j :: .ref a :: St)) rfl rfl (hb P.bt hd)
  exact Go.via st (kk T' h' ⟨P.1, X', e'⟩ W (Arv.set A q1 S N H Gf rfl W _ rfl hl))
theorem G.stB (P : Pos p l e R s m args below meth c Z own bytes ml ret nm T h locs cells slots) {a : Addr} {k : ClassId} {z : Int32} {vs : List Value} {dv : Value} (V : Arv Z h a k .byte z vs dv) {j x : Int32} (i : Nat) (hi : j.toNatClampNeg = i) (hin : ¬ j < 0 ∧ j < z) (hl : i < vs.length) (hd : decode bytes pc = .ok (.bastore, 1)) (hp : pc + 1 = pc')
    (kk : ∀ T' h', Pos p l e R s m args below meth c Z own bytes ml ret nm T' h' (locs ++ [⟨a, i⟩]) cells slots → Wr h h' a i (.int (nar .byte x)) → Arv Z h' a k .byte z (vs.set i (.int (nar .byte x))) dv → Go p e below FF (T'.setTop (mkF m pc' Ls St))) : Go p e below FF (T.setTop (mkF m pc Ls (.int x :: .int j :: .ref a :: St))) := by
  subst hp hi
  obtain ⟨cl, A, q1, S, N, H, Gf⟩ := V
  obtain ⟨T', h', X', e', W, st⟩ := Jvm.RoadKit.stB P.st P.x P.z P.eh A (inb_of S hin) (g := mkF m pc Ls (.int x :: .int j :: .ref a :: St)) rfl rfl (hb P.bt hd)
  exact Go.via st (kk T' h' ⟨P.1, X', e'⟩ W (Arv.set A q1 S N H Gf (fits_nar_byte _) W _ rfl hl))
theorem G.stZ (P : Pos p l e R s m args below meth c Z own bytes ml ret nm T h locs cells slots) {a : Addr} {k : ClassId} {z : Int32} {vs : List Value} {dv : Value} (V : Arv Z h a k .boolean z vs dv) {j x : Int32} (i : Nat) (hi : j.toNatClampNeg = i) (hin : ¬ j < 0 ∧ j < z) (hl : i < vs.length) (hd : decode bytes pc = .ok (.bastore, 1)) (hp : pc + 1 = pc')
    (kk : ∀ T' h', Pos p l e R s m args below meth c Z own bytes ml ret nm T' h' (locs ++ [⟨a, i⟩]) cells slots → Wr h h' a i (.int (nar .boolean x)) → Arv Z h' a k .boolean z (vs.set i (.int (nar .boolean x))) dv → Go p e below FF (T'.setTop (mkF m pc' Ls St))) : Go p e below FF (T.setTop (mkF m pc Ls (.int x :: .int j :: .ref a :: St))) := by
  subst hp hi
  obtain ⟨cl, A, q1, S, N, H, Gf⟩ := V
  obtain ⟨T', h', X', e', W, st⟩ := Jvm.RoadKit.stZ P.st P.x P.z P.eh A (inb_of S hin) (g := mkF m pc Ls (.int x :: .int j :: .ref a :: St)) rfl rfl (hb P.bt hd)
  exact Go.via st (kk T' h' ⟨P.1, X', e'⟩ W (Arv.set A q1 S N H Gf (fits_nar_bool _) W _ rfl hl))
theorem G.stC (P : Pos p l e R s m args below meth c Z own bytes ml ret nm T h locs cells slots) {a : Addr} {k : ClassId} {z : Int32} {vs : List Value} {dv : Value} (V : Arv Z h a k .char z vs dv) {j x : Int32} (i : Nat) (hi : j.toNatClampNeg = i) (hin : ¬ j < 0 ∧ j < z) (hl : i < vs.length) (hd : decode bytes pc = .ok (.castore, 1)) (hp : pc + 1 = pc')
    (kk : ∀ T' h', Pos p l e R s m args below meth c Z own bytes ml ret nm T' h' (locs ++ [⟨a, i⟩]) cells slots → Wr h h' a i (.int (nar .char x)) → Arv Z h' a k .char z (vs.set i (.int (nar .char x))) dv → Go p e below FF (T'.setTop (mkF m pc' Ls St))) : Go p e below FF (T.setTop (mkF m pc Ls (.int x :: .int j :: .ref a :: St))) := by
  subst hp hi
  obtain ⟨cl, A, q1, S, N, H, Gf⟩ := V
  obtain ⟨T', h', X', e', W, st⟩ := Jvm.RoadKit.stC P.st P.x P.z P.eh A (inb_of S hin) (g := mkF m pc Ls (.int x :: .int j :: .ref a :: St)) rfl rfl (hb P.bt hd)
  exact Go.via st (kk T' h' ⟨P.1, X', e'⟩ W (Arv.set A q1 S N H Gf (fits_nar_char _) W _ rfl hl))
theorem G.iaload (P : Pos p l e R s m args below meth c Z own bytes ml ret nm T h locs cells slots) {a : Addr} {k : ClassId} {z : Int32} {vs : List Value} {dv : Value} (V : Arv Z h a k .int z vs dv) {j : Int32} {v : Value} (hin : ¬ j < 0 ∧ j < z) (hv : vs.getD j.toNatClampNeg dv = v) (hd : decode bytes pc = .ok (.iaload, 1)) (hp : pc + 1 = pc')
    (kk : Go p e below FF (T.setTop (mkF m pc' Ls (v :: St)))) : Go p e below FF (T.setTop (mkF m pc Ls (.int j :: .ref a :: St))) := by
  subst hp
  obtain ⟨cl, A, q1, S, N, H, Gf⟩ := V
  have hb' := inb_of S hin
  exact Go.via (fun t => P.st.iaload P.x (by rw [P.eh]; exact A.1) (State.isArrayOf_alike P.z.alike A.2.1) A.2.2 hb' (Has.at H hb' hv) (g := mkF m pc Ls (.int j :: .ref a :: St)) rfl rfl (hb P.bt hd) t) kk
theorem G.baloadB (P : Pos p l e R s m args below meth c Z own bytes ml ret nm T h locs cells slots) {a : Addr} {k : ClassId} {z : Int32} {vs : List Value} {dv : Value} (V : Arv Z h a k .byte z vs dv) {j : Int32} {v : Value} (hin : ¬ j < 0 ∧ j < z) (hv : vs.getD j.toNatClampNeg dv = v) (hd : decode bytes pc = .ok (.baload, 1)) (hp : pc + 1 = pc')
    (kk : Go p e below FF (T.setTop (mkF m pc' Ls (v :: St)))) : Go p e below FF (T.setTop (mkF m pc Ls (.int j :: .ref a :: St))) := by
  subst hp
  obtain ⟨cl, A, q1, S, N, H, Gf⟩ := V
  have hb' := inb_of S hin
  exact Go.via (fun t => P.st.baloadBytes P.x (by rw [P.eh]; exact A.1) (State.isArrayOf_alike P.z.alike A.2.1) A.2.2 hb' (Has.at H hb' hv) (g := mkF m pc Ls (.int j :: .ref a :: St)) rfl rfl (hb P.bt hd) t) kk
theorem G.baloadZ (P : Pos p l e R s m args below meth c Z own bytes ml ret nm T h locs cells slots) {a : Addr} {k : ClassId} {z : Int32} {vs : List Value} {dv : Value} (V : Arv Z h a k .boolean z vs dv) {j : Int32} {v : Value} (hin : ¬ j < 0 ∧ j < z) (hv : vs.getD j.toNatClampNeg dv = v) (hd : decode bytes pc = .ok (.baload, 1)) (hp : pc + 1 = pc')
    (kk : Go p e below FF (T.setTop (mkF m pc' Ls (v :: St)))) : Go p e below FF (T.setTop (mkF m pc Ls (.int j :: .ref a :: St))) := by
  subst hp
  obtain ⟨cl, A, q1, S, N, H, Gf⟩ := V
  have hb' := inb_of S hin
  exact Go.via (fun t => P.st.baloadBooleans P.x (by rw [P.eh]; exact A.1) (State.isArrayOf_alike P.z.alike A.2.1) A.2.2 hb' (Has.at H hb' hv) (g := mkF m pc Ls (.int j :: .ref a :: St)) rfl rfl (hb P.bt hd) t) kk
theorem G.aaload (P : Pos p l e R s m args below meth c Z own bytes ml ret nm T h locs cells slots) {a : Addr} {k : ClassId} {ty : FieldType} {z : Int32} {vs : List Value} {dv : Value} (V : Arv Z h a k ty z vs dv) (hty : ty.isReference = true) {j : Int32} {v : Value} (hin : ¬ j < 0 ∧ j < z) (hv : vs.getD j.toNatClampNeg dv = v) (hd : decode bytes pc = .ok (.aaload, 1)) (hp : pc + 1 = pc')
    (kk : Go p e below FF (T.setTop (mkF m pc' Ls (v :: St)))) : Go p e below FF (T.setTop (mkF m pc Ls (.int j :: .ref a :: St))) := by
  subst hp
  obtain ⟨cl, A, q1, S, N, H, Gf⟩ := V
  have hb' := inb_of S hin
  exact Go.via (fun t => P.st.aaload P.x (by rw [P.eh]; exact A.1) (State.isArrayOf_alike P.z.alike A.2.1) hty A.2.2 hb' (Has.at H hb' hv) (g := mkF m pc Ls (.int j :: .ref a :: St)) rfl rfl (hb P.bt hd) t) kk
/-! ### returns -/
theorem Go.end_ {S0 : State} (P : Pos p l e R s m args below meth c Z own bytes ml ret nm T h locs cells slots) {v : Option Value} (hv : ret = none → v = none) (hc : cells ≤ cs) (hs : slots ≤ ss) (hq : Q v h locs)
    (st : ∀ fs, (∀ (f : JFrame) (acts : List Action), f.method = m → f.locked = none → f.entered = [] → (doReturn e (T.setTop f) acts v).1 = T.setFrames fs) → Steps p.tables e below S0 (T.setFrames fs)) : Go p e below (NF s cs ss Q) S0 := by
  have hlk := P.lk
  obtain ⟨fs, hr, hrun, hended, hW, hsame⟩ := P.st.leave (v := v) (fun q => hv (P.rt.symm.trans q)) hlk
  refine ⟨_, _, st fs hr, hrun, hended, _, rfl, _, ?_, ⟨_, rfl⟩, hW, hsame.mono hc hs⟩
  have q : (T.setFrames fs).heap = h := P.eh
  rw [q]; exact hq
theorem G.retI (P : Pos p l e R s m args below meth c Z own bytes ml (some .int) nm T h locs cells slots) {z : Int32} (hd : decode bytes pc = .ok (.ireturn, 1)) (hc : cells ≤ cs) (hs : slots ≤ ss) (hq : Q (some (.int z)) h locs) : Go p e below (NF s cs ss Q) (T.setTop (mkF m pc Ls (.int z :: St))) :=
  Go.end_ P (fun q => by cases q) hc hs hq (fun fs hr => Jvm.RoadKit.retI P.st P.x P.rt (hb P.bt hd) hr)
theorem G.retN (P : Pos p l e R s m args below meth c Z own bytes ml ret nm T h locs cells slots) {z : Int32} {t : FieldType} (ht : ret = some t) (ht2 : t = .boolean ∨ t = .byte ∨ t = .char ∨ t = .short) (hd : decode bytes pc = .ok (.ireturn, 1)) (hc : cells ≤ cs) (hs : slots ≤ ss) (hq : Q (some (.int (nar t z))) h locs) : Go p e below (NF s cs ss Q) (T.setTop (mkF m pc Ls (.int z :: St))) :=
  Go.end_ P (fun q => by rw [ht] at q; cases q) hc hs hq (fun fs hr => Jvm.RoadKit.retN P.st P.x (P.rt.trans ht) ht2 (hb P.bt hd) hr)
theorem G.retV (P : Pos p l e R s m args below meth c Z own bytes ml none nm T h locs cells slots) (hd : decode bytes pc = .ok (.return_, 1)) (hc : cells ≤ cs) (hs : slots ≤ ss) (hq : Q none h locs) : Go p e below (NF s cs ss Q) (T.setTop (mkF m pc Ls [])) :=
  Go.end_ P (fun _ => rfl) hc hs hq (fun fs hr => P.st.returnOut P.x P.rt (hb P.bt hd) hr)
theorem G.retA (P : Pos p l e R s m args below meth c Z own bytes ml ret nm T h locs cells slots) {w : Value} {t : FieldType} (ht : ret = some t) (ht2 : t.isReference = true) (hw : w.isRef = true) (hd : decode bytes pc = .ok (.areturn, 1)) (hc : cells ≤ cs) (hs : slots ≤ ss) (hq : Q (some w) h locs) : Go p e below (NF s cs ss Q) (T.setTop (mkF m pc Ls [w])) :=
  Go.end_ P (fun q => by rw [ht] at q; cases q) hc hs hq (fun fs hr => P.st.areturnOut P.x hw (P.rt.trans ht) ht2 (hb P.bt hd) hr)
theorem G.retJ (P : Pos p l e R s m args below meth c Z own bytes ml (some .long) nm T h locs cells slots) {w : Int64} (hd : decode bytes pc = .ok (.lreturn, 1)) (hc : cells ≤ cs) (hs : slots ≤ ss) (hq : Q (some (.long w)) h locs) : Go p e below (NF s cs ss Q) (T.setTop (mkF m pc Ls [.long w])) :=
  Go.end_ P (fun q => by cases q) hc hs hq (fun fs hr => P.st.lreturnOut P.x P.rt (hb P.bt hd) hr)
/-! ### calls -/
theorem Pos.re (P : Pos p l e R s m args below meth c Z own bytes ml ret nm T h locs cells slots) {T' : State} {h' : Heap} {locs' : List Loc} {cells' slots' : Nat} (X' : Stand p l e R s m args below meth c T' locs' cells' slots') (e' : T'.heap = h') : Pos p l e R s m args below meth c Z own bytes ml ret nm T' h' locs' cells' slots' := ⟨P.1, X', e'⟩
theorem G.callS (P : Pos p l e R s m args below meth c Z own bytes ml ret nm T h locs cells slots) {y : MethodName} {by' : ByteArray} {ml' : Nat} {ret' : Option FieldType} {i : Nat} {rm : Room} {as' : Array Value} {Qc : Option Value → Heap → List Loc → Prop} (hM : OMeets l Z y by' ml' ret' rm as' h Qc)
    (w1 : (Jvm.Cond.methodLink own i y).before a0 Z = true) (w2 : (Jvm.Cond.static y).before a0 Z = true) (w3 : (Jvm.Cond.initialized y.cls).before a0 Z = true) (w4 : (Jvm.Cond.code y by' ml' ret').before a0 Z = true)
    (hy : y.cls ≠ "java/lang/invoke/MethodHandle" ∧ y.cls ≠ "java/lang/invoke/VarHandle") {ps : List FieldType} {r : Option FieldType} (hds : parseMethodDescriptor y.desc = some ⟨ps, r⟩) {argsL rest : List Value} (hal : argsL.length = ps.length) (hst : argsL.reverse ++ rest = St) (has : argsL.toArray = as') (hsz : Ls.size = ml)
    {W : Nat} (hW : (rest.map fun v => v.category).sum ≤ W) (hro : rm.frames + 1 ≤ R.frames ∧ W + (ml' + 11) + rm.locals ≤ R.locals ∧ cells + rm.cells ≤ R.cells ∧ slots + rm.slots ≤ R.slots)
    (hd : decode bytes pc = .ok (.invokestatic i, 3)) (hp : pc + 3 = pc')
    (kk : ∀ T' L v, Pos p l e R s m args below meth c Z own bytes ml ret nm T' T'.heap (locs ++ L) (cells + rm.cells) (slots + rm.slots) → Qc v T'.heap L → Go p e below FF (T'.setTop (mkF m pc' Ls (v.toList ++ rest)))) : Go p e below FF (T.setTop (mkF m pc Ls St)) := by
  subst hp hst has
  obtain ⟨v, _, ⟨T', L', k', n'⟩, -, X', ⟨Lc, hQ, l1, l2, l3⟩, st⟩ := Jvm.LawKit.callS P.st P.x (y := y) P.ow (mvT P.z w1) (mvT P.z w2) (mvT P.z w3) (mvT P.z w4) hy (backOf (W := W) hM P.z w4 w3 hro.1 hro.2.1) (g := mkF m pc Ls (argsL.reverse ++ rest)) rfl (by rw [P.mx]; exact hsz) (argsL := argsL) (rest := rest) (lenOf hds hal) rfl (by show 2 * 0 + _ ≤ _; omega) (hb P.bt hd) (fun _ _ => ⟨rfl, P.eh, hro.2.2.1, hro.2.2.2⟩)
  dsimp only [Pt.U, Pt.locs, Pt.cells, Pt.slots] at X' l1 l2 l3 st hQ
  subst l1 l2 l3
  exact Go.via st (kk T' Lc v ⟨P.1, X', rfl⟩ hQ)
theorem G.callSP (P : Pos p l e R s m args below meth c Z own bytes ml ret nm T h locs cells slots) {y : MethodName} {by' : ByteArray} {ml' : Nat} {ret' : Option FieldType} {i fr lo : Nat} {as' : Array Value} {v0 : Option Value} (hM : OMeets l Z y by' ml' ret' ⟨fr, 0, 0, lo⟩ as' h (OPure v0 h))
    (w1 : (Jvm.Cond.methodLink own i y).before a0 Z = true) (w2 : (Jvm.Cond.static y).before a0 Z = true) (w3 : (Jvm.Cond.initialized y.cls).before a0 Z = true) (w4 : (Jvm.Cond.code y by' ml' ret').before a0 Z = true)
    (hy : y.cls ≠ "java/lang/invoke/MethodHandle" ∧ y.cls ≠ "java/lang/invoke/VarHandle") {ps : List FieldType} {r : Option FieldType} (hds : parseMethodDescriptor y.desc = some ⟨ps, r⟩) {argsL rest : List Value} (hal : argsL.length = ps.length) (hst : argsL.reverse ++ rest = St) (has : argsL.toArray = as') (hsz : Ls.size = ml)
    {W : Nat} (hW : (rest.map fun v => v.category).sum ≤ W) (hro : fr + 1 ≤ R.frames ∧ W + (ml' + 11) + lo ≤ R.locals ∧ cells ≤ R.cells ∧ slots ≤ R.slots)
    (hd : decode bytes pc = .ok (.invokestatic i, 3)) (hp : pc + 3 = pc')
    (kk : ∀ T', Pos p l e R s m args below meth c Z own bytes ml ret nm T' h locs cells slots → Go p e below FF (T'.setTop (mkF m pc' Ls (v0.toList ++ rest)))) : Go p e below FF (T.setTop (mkF m pc Ls St)) := by
  refine G.callS P hM w1 w2 w3 w4 hy hds hal hst has hsz hW hro hd hp fun T' L v P' hQ => ?_
  obtain ⟨rfl, e, rfl⟩ := hQ
  rw [List.append_nil] at P'
  exact kk T' ⟨P'.1, P'.2.1, e⟩
theorem G.callV (P : Pos p l e R s m args below meth c Z own bytes ml ret nm T h locs cells slots) {C : String} {y z : MethodName} {by' : ByteArray} {ml' : Nat} {ret' : Option FieldType} {i : Nat} {rm : Room} {as' : Array Value} {Qc : Option Value → Heap → List Loc → Prop} (hM : OMeets l Z z by' ml' ret' rm as' h Qc)
    (w1 : (Jvm.Cond.methodLink own i y).before a0 Z = true) (w2 : (Jvm.Cond.declares y).before a0 Z = true) (w3 : (Jvm.Cond.selects C y z).before a0 Z = true) (hyz : y = z) (w4 : (Jvm.Cond.instanceMethod z).before a0 Z = true) (w5 : (Jvm.Cond.initialized z.cls).before a0 Z = true) (w6 : (Jvm.Cond.code z by' ml' ret').before a0 Z = true)
    (hy : y.cls ≠ "java/lang/invoke/MethodHandle" ∧ y.cls ≠ "java/lang/invoke/VarHandle") {b : Addr} (E : Exa Z h b C) {ps : List FieldType} {r : Option FieldType} (hds : parseMethodDescriptor y.desc = some ⟨ps, r⟩) {argsL rest : List Value} (hal : argsL.length = ps.length) (hst : argsL.reverse ++ .ref b :: rest = St) (has : (.ref b :: argsL).toArray = as') (hsz : Ls.size = ml)
    {W : Nat} (hW : (rest.map fun v => v.category).sum ≤ W) (hro : rm.frames + 1 ≤ R.frames ∧ W + (ml' + 11) + rm.locals ≤ R.locals ∧ cells + rm.cells ≤ R.cells ∧ slots + rm.slots ≤ R.slots)
    (hd : decode bytes pc = .ok (.invokevirtual i, 3)) (hp : pc + 3 = pc')
    (kk : ∀ T' L v, Pos p l e R s m args below meth c Z own bytes ml ret nm T' T'.heap (locs ++ L) (cells + rm.cells) (slots + rm.slots) → Qc v T'.heap L → Go p e below FF (T'.setTop (mkF m pc' Ls (v.toList ++ rest)))) : Go p e below FF (T.setTop (mkF m pc Ls St)) := by
  subst hp hst has hyz
  obtain ⟨cB, kB, q1, q2, q3⟩ := isOf P.z P.eh E
  obtain ⟨v, _, ⟨T', L', k', n'⟩, -, X', ⟨Lc, hQ, l1, l2, l3⟩, st⟩ := P.st.virtualBack P.x (y := y) (z := y) P.ow (mvT P.z w1) (mvT P.z w2) (notFace_of_selects (args := #[]) (mvT P.z w3)) (mvT P.z w3) (mvT P.z w4) hy (backOf (W := W) hM P.z w6 w5 hro.1 hro.2.1) q1 q3 (g := mkF m pc Ls (argsL.reverse ++ .ref b :: rest)) rfl (by rw [P.mx]; exact hsz) (Steps.refl _) (argsL := argsL) (rest := rest) (lenOf hds hal) rfl (by show 2 * 0 + _ ≤ _; omega) (hb P.bt hd) (fun _ _ => ⟨rfl, P.eh, hro.2.2.1, hro.2.2.2⟩)
  dsimp only [Pt.U, Pt.locs, Pt.cells, Pt.slots] at X' l1 l2 l3 st hQ
  subst l1 l2 l3
  exact Go.come st (kk T' Lc v ⟨P.1, X', rfl⟩ hQ)
theorem G.callVP (P : Pos p l e R s m args below meth c Z own bytes ml ret nm T h locs cells slots) {C : String} {y z : MethodName} {by' : ByteArray} {ml' : Nat} {ret' : Option FieldType} {i fr lo : Nat} {as' : Array Value} {v0 : Option Value} (hM : OMeets l Z z by' ml' ret' ⟨fr, 0, 0, lo⟩ as' h (OPure v0 h))
    (w1 : (Jvm.Cond.methodLink own i y).before a0 Z = true) (w2 : (Jvm.Cond.declares y).before a0 Z = true) (w3 : (Jvm.Cond.selects C y z).before a0 Z = true) (hyz : y = z) (w4 : (Jvm.Cond.instanceMethod z).before a0 Z = true) (w5 : (Jvm.Cond.initialized z.cls).before a0 Z = true) (w6 : (Jvm.Cond.code z by' ml' ret').before a0 Z = true)
    (hy : y.cls ≠ "java/lang/invoke/MethodHandle" ∧ y.cls ≠ "java/lang/invoke/VarHandle") {b : Addr} (E : Exa Z h b C) {ps : List FieldType} {r : Option FieldType} (hds : parseMethodDescriptor y.desc = some ⟨ps, r⟩) {argsL rest : List Value} (hal : argsL.length = ps.length) (hst : argsL.reverse ++ .ref b :: rest = St) (has : (.ref b :: argsL).toArray = as') (hsz : Ls.size = ml)
    {W : Nat} (hW : (rest.map fun v => v.category).sum ≤ W) (hro : fr + 1 ≤ R.frames ∧ W + (ml' + 11) + lo ≤ R.locals ∧ cells ≤ R.cells ∧ slots ≤ R.slots)
    (hd : decode bytes pc = .ok (.invokevirtual i, 3)) (hp : pc + 3 = pc')
    (kk : ∀ T', Pos p l e R s m args below meth c Z own bytes ml ret nm T' h locs cells slots → Go p e below FF (T'.setTop (mkF m pc' Ls (v0.toList ++ rest)))) : Go p e below FF (T.setTop (mkF m pc Ls St)) := by
  refine G.callV P hM w1 w2 w3 hyz w4 w5 w6 hy E hds hal hst has hsz hW hro hd hp fun T' L v P' hQ => ?_
  obtain ⟨rfl, e, rfl⟩ := hQ
  rw [List.append_nil] at P'
  exact kk T' ⟨P'.1, P'.2.1, e⟩
theorem G.callI (P : Pos p l e R s m args below meth c Z own bytes ml ret nm T h locs cells slots) {y : MethodName} {by' : ByteArray} {ml' : Nat} {i : Nat} {rm : Room} {as' : Array Value} {Qc : Option Value → Heap → List Loc → Prop} (hM : OMeets l Z y by' ml' none rm as' h Qc) (hyn : y.name = "<init>")
    (w1 : (Jvm.Cond.methodLink own i y).before a0 Z = true) (w2 : (Jvm.Cond.instanceMethod y).before a0 Z = true) (w3 : (Jvm.Cond.initialized y.cls).before a0 Z = true) (w4 : (Jvm.Cond.code y by' ml' none).before a0 Z = true)
    (hy : y.cls ≠ "java/lang/invoke/MethodHandle" ∧ y.cls ≠ "java/lang/invoke/VarHandle") {b : Addr} {ps : List FieldType} {r : Option FieldType} (hds : parseMethodDescriptor y.desc = some ⟨ps, r⟩) {argsL rest : List Value} (hal : argsL.length = ps.length) (hst : argsL.reverse ++ .ref b :: rest = St) (has : (.ref b :: argsL).toArray = as') (hsz : Ls.size = ml)
    {W : Nat} (hW : (rest.map fun v => v.category).sum ≤ W) (hro : rm.frames + 1 ≤ R.frames ∧ W + (ml' + 11) + rm.locals ≤ R.locals ∧ cells + rm.cells ≤ R.cells ∧ slots + rm.slots ≤ R.slots)
    (hd : decode bytes pc = .ok (.invokespecial i, 3)) (hp : pc + 3 = pc')
    (kk : ∀ T' L v, Pos p l e R s m args below meth c Z own bytes ml ret nm T' T'.heap (locs ++ L) (cells + rm.cells) (slots + rm.slots) → Qc v T'.heap L → Go p e below FF (T'.setTop (mkF m pc' Ls (v.toList ++ rest)))) : Go p e below FF (T.setTop (mkF m pc Ls St)) := by
  subst hp hst has
  obtain ⟨v, _, ⟨T', L', k', n'⟩, -, X', ⟨Lc, hQ, l1, l2, l3⟩, st⟩ := P.st.specialBack P.x (y := y) hyn P.ow (mvT P.z w1) (mvT P.z w2) (mvT P.z w4) hy (backOf (W := W) hM P.z w4 w3 hro.1 hro.2.1) (g := mkF m pc Ls (argsL.reverse ++ .ref b :: rest)) rfl (by rw [P.mx]; exact hsz) (Steps.refl _) (a := b) (argsL := argsL) (rest := rest) (lenOf hds hal) rfl (by show 2 * 0 + _ ≤ _; omega) (hb P.bt hd) (fun _ _ => ⟨rfl, P.eh, hro.2.2.1, hro.2.2.2⟩)
  dsimp only [Pt.U, Pt.locs, Pt.cells, Pt.slots] at X' l1 l2 l3 st hQ
  subst l1 l2 l3
  exact Go.come st (kk T' Lc v ⟨P.1, X', rfl⟩ hQ)
theorem G.callIP (P : Pos p l e R s m args below meth c Z own bytes ml ret nm T h locs cells slots) {y : MethodName} {by' : ByteArray} {ml' : Nat} {i fr lo : Nat} {as' : Array Value} {v0 : Option Value} (hM : OMeets l Z y by' ml' none ⟨fr, 0, 0, lo⟩ as' h (OPure v0 h)) (hyn : y.name = "<init>")
    (w1 : (Jvm.Cond.methodLink own i y).before a0 Z = true) (w2 : (Jvm.Cond.instanceMethod y).before a0 Z = true) (w3 : (Jvm.Cond.initialized y.cls).before a0 Z = true) (w4 : (Jvm.Cond.code y by' ml' none).before a0 Z = true)
    (hy : y.cls ≠ "java/lang/invoke/MethodHandle" ∧ y.cls ≠ "java/lang/invoke/VarHandle") {b : Addr} {ps : List FieldType} {r : Option FieldType} (hds : parseMethodDescriptor y.desc = some ⟨ps, r⟩) {argsL rest : List Value} (hal : argsL.length = ps.length) (hst : argsL.reverse ++ .ref b :: rest = St) (has : (.ref b :: argsL).toArray = as') (hsz : Ls.size = ml)
    {W : Nat} (hW : (rest.map fun v => v.category).sum ≤ W) (hro : fr + 1 ≤ R.frames ∧ W + (ml' + 11) + lo ≤ R.locals ∧ cells ≤ R.cells ∧ slots ≤ R.slots)
    (hd : decode bytes pc = .ok (.invokespecial i, 3)) (hp : pc + 3 = pc')
    (kk : ∀ T', Pos p l e R s m args below meth c Z own bytes ml ret nm T' h locs cells slots → Go p e below FF (T'.setTop (mkF m pc' Ls (v0.toList ++ rest)))) : Go p e below FF (T.setTop (mkF m pc Ls St)) := by
  refine G.callI P hM hyn w1 w2 w3 w4 hy hds hal hst has hsz hW hro hd hp fun T' L v P' hQ => ?_
  obtain ⟨rfl, e, rfl⟩ := hQ
  rw [List.append_nil] at P'
  exact kk T' ⟨P'.1, P'.2.1, e⟩
theorem Pos.more (P : Pos p l e R s m args below meth c Z own bytes ml ret nm T h locs cells slots) {cells' slots' : Nat} (hc : cells ≤ cells') (hs : slots ≤ slots') : Pos p l e R s m args below meth c Z own bytes ml ret nm T h locs cells' slots' :=
  ⟨P.1, P.st.more hc hs, P.2.2⟩
theorem G.callF (P : Pos p l e R s m args below meth c Z own bytes ml ret nm T h locs cells slots) {C : String} {xi y : MethodName} {by' : ByteArray} {ml' : Nat} {ret' : Option FieldType} {i cnt : Nat} {rm : Room} {as' : Array Value} {Qc : Option Value → Heap → List Loc → Prop} (hM : OMeets l Z y by' ml' ret' rm as' h Qc)
    (w1 : (Jvm.Cond.methodLink own i xi).before a0 Z = true) (w2 : (Jvm.Cond.declares xi).before a0 Z = true) (w3 : (Jvm.Cond.interfaceMethod xi.cls xi.cls xi.name xi.desc).before a0 Z = true) (w4 : (Jvm.Cond.selects C xi y).before a0 Z = true) (w5 : (Jvm.Cond.instanceMethod y).before a0 Z = true)
    (w6 : (Jvm.Cond.publicMethod y).before a0 Z = true) (w7 : (Jvm.Cond.unhidden C xi.name xi.desc).before a0 Z = true) (w8 : (Jvm.Cond.castable C xi.cls).before a0 Z = true) (w9 : (Jvm.Cond.initialized y.cls).before a0 Z = true) (w10 : (Jvm.Cond.code y by' ml' ret').before a0 Z = true)
    (hy : xi.cls ≠ "java/lang/invoke/MethodHandle" ∧ xi.cls ≠ "java/lang/invoke/VarHandle") {b : Addr} (E : Exa Z h b C) {ps : List FieldType} {r : Option FieldType} (hds : parseMethodDescriptor xi.desc = some ⟨ps, r⟩) {argsL rest : List Value} (hal : argsL.length = ps.length) (hst : argsL.reverse ++ .ref b :: rest = St) (has : (.ref b :: argsL).toArray = as') (hsz : Ls.size = ml)
    {W : Nat} (hW : (rest.map fun v => v.category).sum ≤ W) (hro : rm.frames + 1 ≤ R.frames ∧ W + (ml' + 11) + rm.locals ≤ R.locals ∧ cells + rm.cells ≤ R.cells ∧ slots + rm.slots ≤ R.slots)
    (hd : decode bytes pc = .ok (.invokeinterface i cnt, 5)) (hp : pc + 5 = pc')
    (kk : ∀ T' L v, Pos p l e R s m args below meth c Z own bytes ml ret nm T' T'.heap (locs ++ L) (cells + rm.cells) (slots + rm.slots) → Qc v T'.heap L → Go p e below FF (T'.setTop (mkF m pc' Ls (v.toList ++ rest)))) : Go p e below FF (T.setTop (mkF m pc Ls St)) := by
  subst hp hst has
  obtain ⟨cB, kB, q1, q2, q3⟩ := isOf P.z P.eh E
  obtain ⟨v, _, ⟨T', L', k', n'⟩, -, X', ⟨Lc, hQ, l1, l2, l3⟩, st⟩ := P.st.interfaceBack P.x (xi := xi) (y := y) P.ow (mvT P.z w1) (mvT P.z w2) (mvT P.z w3 (by simp [Cond.onTables, Cond.keepsFace, Cond.keeps, Cond.steady, Cond.faceAtom, hy.1, hy.2])) (mvT P.z w4) (mvT P.z w5) (mvT P.z w6) (mvT P.z w7) (mvT P.z w8) hy (backOf (W := W) hM P.z w10 w9 hro.1 hro.2.1) q1 q2 q3 (g := mkF m pc Ls (argsL.reverse ++ .ref b :: rest)) rfl (by rw [P.mx]; exact hsz) (Steps.refl _) (argsL := argsL) (rest := rest) (lenOf hds hal) rfl (by show 2 * 0 + _ ≤ _; omega) (hb P.bt hd) (fun _ _ => ⟨rfl, P.eh, hro.2.2.1, hro.2.2.2⟩)
  dsimp only [Pt.U, Pt.locs, Pt.cells, Pt.slots] at X' l1 l2 l3 st hQ
  subst l1 l2 l3
  exact Go.come st (kk T' Lc v ⟨P.1, X', rfl⟩ hQ)
theorem G.callQ (P : Pos p l e R s m args below meth c Z own bytes ml ret nm T h locs cells slots) {y x0 z0 : MethodName} {C C0 : String} {by' : ByteArray} {ml' : Nat} {ret' : Option FieldType} {i : Nat} {rm : Room} {as' : Array Value} {Qc : Option Value → Heap → List Loc → Prop} (hM : OMeets l Z y by' ml' ret' rm as' h Qc)
    (w1 : (Jvm.Cond.methodLink own i y).before a0 Z = true) (w2 : (Jvm.Cond.instanceMethod y).before a0 Z = true) (w3 : (Jvm.Cond.selects C0 x0 z0).before a0 Z = true) (hz0 : z0.cls = y.cls) (w4 : (Jvm.Cond.privateMethod y).before a0 Z = true) (w5 : (Jvm.Cond.initialized y.cls).before a0 Z = true) (w6 : (Jvm.Cond.code y by' ml' ret').before a0 Z = true)
    (hy : y.cls ≠ "java/lang/invoke/MethodHandle" ∧ y.cls ≠ "java/lang/invoke/VarHandle") {b : Addr} (E : Exa Z h b C) {ps : List FieldType} {r : Option FieldType} (hds : parseMethodDescriptor y.desc = some ⟨ps, r⟩) {argsL rest : List Value} (hal : argsL.length = ps.length) (hst : argsL.reverse ++ .ref b :: rest = St) (has : (.ref b :: argsL).toArray = as') (hsz : Ls.size = ml)
    {W : Nat} (hW : (rest.map fun v => v.category).sum ≤ W) (hro : rm.frames + 1 ≤ R.frames ∧ W + (ml' + 11) + rm.locals ≤ R.locals ∧ cells + rm.cells ≤ R.cells ∧ slots + rm.slots ≤ R.slots)
    (hd : decode bytes pc = .ok (.invokevirtual i, 3)) (hp : pc + 3 = pc')
    (kk : ∀ T' L v, Pos p l e R s m args below meth c Z own bytes ml ret nm T' T'.heap (locs ++ L) (cells + rm.cells) (slots + rm.slots) → Qc v T'.heap L → Go p e below FF (T'.setTop (mkF m pc' Ls (v.toList ++ rest)))) : Go p e below FF (T.setTop (mkF m pc Ls St)) := by
  subst hp hst has
  obtain ⟨cq, q1, q2⟩ := E.cell
  obtain ⟨mk, mM, hn, hmM, hsM, haM⟩ := Cond.instanceMethod_spec (mvT (args := args) P.z w2)
  obtain ⟨mM', cM, hmM', -, -, -, -, -, -, hsg⟩ := Cond.code_spec hn (mvT (args := args) P.z w6)
  cases hmM.symm.trans hmM'
  obtain ⟨-, -, m2, -, -, q3, -, kP, hkP, hkI⟩ := Cond.selects_spec (mvT (args := args) P.z w3)
  have e1 := findClass_of_methodNamed q3
  rw [hz0] at e1
  have hcl : m2.cls = mk.cls := Option.some.inj (e1.symm.trans (findClass_of_methodNamed hn))
  rw [hcl] at hkP
  have hs0 : selectMethod e.platform s.vm cq.cls mk = .method mk := selectMethod_private hmM (Cond.privateMethod_at (mvP P.z w4 (args := #[])) mk mM hn hmM)
  obtain ⟨vm₁, X₁, st₁⟩ := P.st.invokevirtual P.x P.ow (mvT P.z w1) hn hmM hsM hkP hkI hy (a := b) (cell := cq) (by rw [P.eh]; exact q1) q2 hs0 hmM haM hkP hkI (g := mkF m pc Ls (argsL.reverse ++ .ref b :: rest)) rfl (argsL := argsL) (rest := rest) (lenOf hds hal _ hsg) rfl (hb P.bt hd)
  obtain ⟨v, ⟨T', L', k', n'⟩, X', ⟨Lc, hQ, l1, l2, l3⟩, st₂⟩ := (backOf (W := W) (len := 3) (R := R) (p := p) (e := e) (below := below) (args := args) hM P.z w6 w5 hro.1 hro.2.1) m meth c ⟨T.setVm vm₁, locs, cells, slots⟩ (mkF m pc Ls rest) (.invokevirtual i) mk (.ref b :: argsL).toArray X₁ rfl (by rw [P.mx]; exact hsz) (hb P.bt hd) (by show 2 * 0 + (rest.map fun v => v.category).sum ≤ _; omega) (X₁.named hn) ⟨rfl, P.eh, hro.2.2.1, hro.2.2.2⟩
  dsimp only [Pt.U, Pt.locs, Pt.cells, Pt.slots] at X' l1 l2 l3 st₂ hQ
  subst l1 l2 l3
  exact Go.come ((st₁ _ fun acts => by rw [doInvoke_state]; exact Steps.refl _).trans st₂) (kk T' Lc v ⟨P.1, X', rfl⟩ hQ)
theorem pureK {v0 : Option Value} (kk : ∀ T', Pos p l e R s m args below meth c Z own bytes ml ret nm T' h locs cells slots → Go p e below FF (T'.setTop (mkF m pc' Ls (v0.toList ++ St)))) : ∀ T' L v, Pos p l e R s m args below meth c Z own bytes ml ret nm T' T'.heap (locs ++ L) (cells + 0) (slots + 0) → OPure v0 h v T'.heap L → Go p e below FF (T'.setTop (mkF m pc' Ls (v.toList ++ St))) := by
  intro T' L v P' hQ
  obtain ⟨rfl, e, rfl⟩ := hQ
  rw [List.append_nil] at P'
  exact kk T' ⟨P'.1, P'.2.1, e⟩
theorem hacw {W n : Nat} (q : W + 18 ≤ n) : W + (nativeFrameWords "java/lang/System" "arraycopy" 5 + 11) ≤ n := by
  have e : nativeFrameWords "java/lang/System" "arraycopy" 5 = 7 := by decide
  rw [e]; omega
theorem G.acopy (P : Pos p l e R s m args below meth c Z own bytes ml ret nm T h locs cells slots) {i : Nat} (w1 : (Jvm.Cond.methodLink own i Jvm.Stand.acN).before a0 Z = true) (w2 : (Jvm.Cond.native Jvm.Stand.acN).before a0 Z = true) (w3 : (Jvm.Cond.static Jvm.Stand.acN).before a0 Z = true) (w4 : (Jvm.Cond.initialized "java/lang/System").before a0 Z = true)
    {a b : Addr} {k k' : ClassId} {ty ty' : FieldType} {z z' sp dp nn : Int32} {vs vd us : List Value} {dv dd : Value} (A : Arv Z h a k ty z vs dv) (B : Arv Z h b k' ty' z' vd dd) (hty : (ty = ty' ∧ refKind ty = false) ∨ (refKind ty = true ∧ refKind ty' = true ∧ StoL Z h b us))
    (h1 : ¬ sp < 0) (h2 : ¬ dp < 0) (h3 : ¬ nn < 0) (h4 : sp.toNatClampNeg + nn.toNatClampNeg ≤ z.toNatClampNeg) (h5 : dp.toNatClampNeg + nn.toNatClampNeg ≤ z'.toNatClampNeg)
    (hus : us = (List.range nn.toNatClampNeg).map fun i => vs.getD (sp.toNatClampNeg + i) dv) (hl : dp.toNatClampNeg + nn.toNatClampNeg ≤ vd.length) {n0 : Nat} (N : Fr n0 locs) (ge : n0 ≤ b) (hsz : Ls.size = ml)
    {W : Nat} (hW : (St.map fun v => v.category).sum ≤ W) (hro : 1 ≤ R.frames ∧ W + 18 ≤ R.locals) (hd : decode bytes pc = .ok (.invokestatic i, 3)) (hp : pc + 3 = pc')
    (kk : ∀ T' h' L, Pos p l e R s m args below meth c Z own bytes ml ret nm T' h' L cells slots → Fr n0 L → Keep h h' [b] → Arv Z h' b k' ty' z' (vd.take dp.toNatClampNeg ++ us ++ vd.drop (dp.toNatClampNeg + nn.toNatClampNeg)) dd → Go p e below FF (T'.setTop (mkF m pc' Ls St))) :
    Go p e below FF (T.setTop (mkF m pc Ls (.int nn :: .int dp :: .ref b :: .int sp :: .ref a :: St))) := by
  subst hp
  obtain ⟨T', h', L, X', e', N', K, V, st⟩ := cpA P.st P.x P.z P.ow w1 w2 w3 w4 P.eh A B hty h1 h2 h3 h4 h5 hus hl N ge (g := mkF m pc Ls (.int nn :: .int dp :: .ref b :: .int sp :: .ref a :: St)) rfl (by rw [P.mx]; exact hsz) rfl (hb P.bt hd) hro.1 (W := W) (by show 2 * 0 + _ ≤ _; omega) (hacw hro.2)
  exact Go.via st (kk T' h' L ⟨P.1, X', e'⟩ N' K V)
theorem G.newR (P : Pos p l e R s m args below meth c Z own bytes ml ret nm T h locs cells slots) {C : String} {i : Nat} (w1 : (Jvm.Cond.classLink own i C).before a0 Z = true) (w2 : (Jvm.Cond.arrayOver (.object C)).before a0 Z = true) {n : Int32} (hn : ¬ n < 0) {cap : Nat} (hcap : n.toNatClampNeg ≤ cap) (hbb : cap * 8 ≤ 536870912) (hro : cells + 1 ≤ R.cells ∧ slots + cap ≤ R.slots) (hd : decode bytes pc = .ok (.anewarray i, 3)) (hp : pc + 3 = pc')
    (kk : ∀ T' h' a k, a = h.size → Pos p l e R s m args below meth c Z own bytes ml ret nm T' h' locs (cells + 1) (slots + cap) → Ext h h' → Arv Z h' a k (.object C) n [] .null → Ovr Z k C → Go p e below FF (T'.setTop (mkF m pc' Ls (.ref a :: St)))) : Go p e below FF (T.setTop (mkF m pc Ls (.int n :: St))) := by
  subst hp
  obtain ⟨T', h', k, X', e', E, A, O, st⟩ := Jvm.RoadKit.newR P.st P.x P.z P.ow w1 w2 P.eh (g := mkF m pc Ls (.int n :: St)) rfl (hb P.bt hd) rfl hn hcap hbb hro.1 hro.2
  exact Go.via st (kk T' h' h.size k rfl ⟨P.1, X', e'⟩ E (Arv.new A hn) O)
theorem G.stR (P : Pos p l e R s m args below meth c Z own bytes ml ret nm T h locs cells slots) {a : Addr} {k : ClassId} {ty : FieldType} {z : Int32} {vs : List Value} {dv : Value} (V : Arv Z h a k ty z vs dv) (hty : ty.isReference = true) {j : Int32} {y : Addr} {C : String} (O : Ovr Z k C) (I : Ins Z h y C true) (hft : fits ty (.ref y) = true) (i : Nat) (hi : j.toNatClampNeg = i) (hin : ¬ j < 0 ∧ j < z) (hl : i < vs.length) (hd : decode bytes pc = .ok (.aastore, 1)) (hp : pc + 1 = pc')
    (kk : ∀ T' h', Pos p l e R s m args below meth c Z own bytes ml ret nm T' h' (locs ++ [⟨a, i⟩]) cells slots → Wr h h' a i (.ref y) → Arv Z h' a k ty z (vs.set i (.ref y)) dv → Go p e below FF (T'.setTop (mkF m pc' Ls St))) : Go p e below FF (T.setTop (mkF m pc Ls (.ref y :: .int j :: .ref a :: St))) := by
  subst hp hi
  obtain ⟨cl, A, q1, S, N, H, Gf⟩ := V
  obtain ⟨T', h', X', e', W, st⟩ := Jvm.RoadKit.stR P.st P.x P.z P.eh A (inb_of S hin) hty (Sto.ofV A q1 O I) (g := mkF m pc Ls (.ref y :: .int j :: .ref a :: St)) rfl rfl (hb P.bt hd)
  exact Go.via st (kk T' h' ⟨P.1, X', e'⟩ W (Arv.set A q1 S N H Gf hft W _ rfl hl))
theorem G.cast (P : Pos p l e R s m args below meth c Z own bytes ml ret nm T h locs cells slots) {K : String} {i : Nat} (w : (Jvm.Cond.classLink own i K).before a0 Z = true) {a : Addr} (I : Ins Z h a K true) (hd : decode bytes pc = .ok (.checkcast i, 3)) (hp : pc + 3 = pc')
    (kk : ∀ T', Pos p l e R s m args below meth c Z own bytes ml ret nm T' h locs cells slots → Go p e below FF (T'.setTop (mkF m pc' Ls (.ref a :: St)))) : Go p e below FF (T.setTop (mkF m pc Ls (.ref a :: St))) := by
  subst hp
  obtain ⟨T', X', e', st⟩ := castY P.st P.x P.z P.ow w P.eh I (g := mkF m pc Ls (.ref a :: St)) rfl rfl (hb P.bt hd)
  exact Go.via st (kk T' ⟨P.1, X', e'⟩)
theorem G.instY (P : Pos p l e R s m args below meth c Z own bytes ml ret nm T h locs cells slots) {K : String} {i : Nat} (w : (Jvm.Cond.classLink own i K).before a0 Z = true) {a : Addr} (I : Ins Z h a K true) (hd : decode bytes pc = .ok (.instanceof i, 3)) (hp : pc + 3 = pc')
    (kk : ∀ T', Pos p l e R s m args below meth c Z own bytes ml ret nm T' h locs cells slots → Go p e below FF (T'.setTop (mkF m pc' Ls (.int 1 :: St)))) : Go p e below FF (T.setTop (mkF m pc Ls (.ref a :: St))) := by
  subst hp
  obtain ⟨T', X', e', st⟩ := Jvm.RoadKit.instY P.st P.x P.z P.ow w P.eh I (g := mkF m pc Ls (.ref a :: St)) rfl rfl (hb P.bt hd)
  exact Go.via st (kk T' ⟨P.1, X', e'⟩)
theorem G.newPE (P : Pos p l e R s m args below meth c Z own bytes ml ret nm T h locs cells slots) {aty : ArrayType} (w : (Jvm.Cond.arrayClass (newarray.typeOf aty)).before a0 Z = true) {n : Int32} (hn : ¬ n < 0) {cap : Nat} (hcap : n.toNatClampNeg ≤ cap) (hbb : cap * 8 ≤ 536870912) (hro : cells + 1 ≤ R.cells ∧ slots + cap ≤ R.slots) {ad : String} (had : "[" ++ (newarray.typeOf aty).toString = ad) (hd : decode bytes pc = .ok (.newarray aty, 2)) (hp : pc + 2 = pc')
    (kk : ∀ T' h' a k, a = h.size → Pos p l e R s m args below meth c Z own bytes ml ret nm T' h' locs (cells + 1) (slots + cap) → Ext h h' → Arv Z h' a k (newarray.typeOf aty) n [] (defaultValue (newarray.typeOf aty)) → Exa Z h' a ad → Go p e below FF (T'.setTop (mkF m pc' Ls (.ref a :: St)))) : Go p e below FF (T.setTop (mkF m pc Ls (.int n :: St))) := by
  subst hp
  obtain ⟨T', h', k, X', e', E, A, B, st⟩ := Jvm.RoadKit.newPE P.st P.x P.z w P.eh (g := mkF m pc Ls (.int n :: St)) rfl (hb P.bt hd) rfl hn hcap hbb hro.1 hro.2 had
  exact Go.via st (kk T' h' h.size k rfl ⟨P.1, X', e'⟩ E (Arv.new A hn) B)
theorem G.clone (P : Pos p l e R s m args below meth c Z own bytes ml ret nm T h locs cells slots) {ad : String} {i : Nat} (w1 : (Jvm.Cond.methodLink own i ⟨ad, "clone", "()Ljava/lang/Object;"⟩).before a0 Z = true) (w2 : (Jvm.Cond.sameMethod ad "java/lang/Object" "clone" "()Ljava/lang/Object;").before a0 Z = true) (w3 : (Jvm.Cond.native ⟨"java/lang/Object", "clone", "()Ljava/lang/Object;"⟩).before a0 Z = true)
    (w4 : (Jvm.Cond.instanceMethod ⟨"java/lang/Object", "clone", "()Ljava/lang/Object;"⟩).before a0 Z = true) (w5 : (Jvm.Cond.selects ad ⟨ad, "clone", "()Ljava/lang/Object;"⟩ ⟨"java/lang/Object", "clone", "()Ljava/lang/Object;"⟩).before a0 Z = true) (w6 : (Jvm.Cond.castable ad "java/lang/Cloneable").before a0 Z = true)
    {a : Addr} {k : ClassId} {ty : FieldType} {z : Int32} {vs : List Value} {dv : Value} (V : Arv Z h a k ty z vs dv) (E : Exa Z h a ad) (hsz : Ls.size = ml) {W cap : Nat} (hW : (St.map fun v => v.category).sum ≤ W) (hcap : z.toNatClampNeg ≤ cap) (hro : 1 ≤ R.frames ∧ W + 14 ≤ R.locals ∧ cells + 1 ≤ R.cells ∧ slots + cap ≤ R.slots)
    (hd : decode bytes pc = .ok (.invokevirtual i, 3)) (hp : pc + 3 = pc')
    (kk : ∀ T' h' a', a' = h.size → Pos p l e R s m args below meth c Z own bytes ml ret nm T' h' locs (cells + 1) (slots + cap) → Ext h h' → Arv Z h' a' k ty z vs dv → Exa Z h' a' ad → Go p e below FF (T'.setTop (mkF m pc' Ls (.ref a' :: St)))) : Go p e below FF (T.setTop (mkF m pc Ls (.ref a :: St))) := by
  subst hp
  obtain ⟨T', h', X', e', ex, A, B, st⟩ := cloneH P.st P.x P.z P.ow w1 w2 w3 w4 w5 w6 P.eh V.arh E (g := mkF m pc Ls (.ref a :: St)) rfl (by rw [P.mx]; exact hsz) rfl (hb P.bt hd) hro.1 (W := W) (by show 2 * 0 + _ ≤ _; omega) hro.2.1 hcap hro.2.2.1 hro.2.2.2
  exact Go.via st (kk T' h' h.size rfl ⟨P.1, X', e'⟩ ex A B)
theorem G.tsw (P : Pos p l e R s m args below meth c Z own bytes ml ret nm T h locs cells slots) {dflt low high o : Int} {offs : Array Int} {len : Nat} {x : Int32} (hd : decode bytes pc = .ok (.tableswitch dflt low high offs, len)) (hin : ¬ (x.toInt < low ∨ x.toInt > high)) (hoff : offs[(x.toInt - low).toNat]? = some o) (ho : 0 ≤ (pc : Int) + o) (hp : ((pc : Int) + o).toNat = pc')
    (kk : Go p e below FF (T.setTop (mkF m pc' Ls St))) : Go p e below FF (T.setTop (mkF m pc Ls (.int x :: St))) :=
  Go.via (fun _ => XS.tswIn (g := mkF m pc Ls (.int x :: St)) P.here P.x rfl (pc0 := pc) rfl (hb P.bt hd) rfl hin hoff ho hp) kk
theorem G.callU (P : Pos p l e R s m args below meth c Z own bytes ml ret nm T h locs cells slots) {C owner : String} {x y : MethodName} {by' : ByteArray} {ml' : Nat} {ret' : Option FieldType} {i : Nat} {rm : Room} {as' : Array Value} {Qc : Option Value → Heap → List Loc → Prop} (hM : OMeets l Z y by' ml' ret' rm as' h Qc)
    (w1 : (Jvm.Cond.methodLink own i x).before a0 Z = true) (w2 : (Jvm.Cond.sameMethod x.cls owner x.name x.desc).before a0 Z = true) (w3 : (Jvm.Cond.declares ⟨owner, x.name, x.desc⟩).before a0 Z = true) (hy : owner ≠ "java/lang/invoke/MethodHandle" ∧ owner ≠ "java/lang/invoke/VarHandle") (w4 : (Jvm.Cond.selects C x y).before a0 Z = true) (w5 : (Jvm.Cond.instanceMethod y).before a0 Z = true) (w6 : (Jvm.Cond.initialized y.cls).before a0 Z = true) (w7 : (Jvm.Cond.code y by' ml' ret').before a0 Z = true)
    {b : Addr} (E : Exa Z h b C) {ps : List FieldType} {r : Option FieldType} (hds : parseMethodDescriptor x.desc = some ⟨ps, r⟩) {argsL rest : List Value} (hal : argsL.length = ps.length) (hst : argsL.reverse ++ .ref b :: rest = St) (has : (.ref b :: argsL).toArray = as') (hsz : Ls.size = ml)
    {W : Nat} (hW : (rest.map fun v => v.category).sum ≤ W) (hro : rm.frames + 1 ≤ R.frames ∧ W + (ml' + 11) + rm.locals ≤ R.locals ∧ cells + rm.cells ≤ R.cells ∧ slots + rm.slots ≤ R.slots)
    (hd : decode bytes pc = .ok (.invokevirtual i, 3)) (hp : pc + 3 = pc')
    (kk : ∀ T' L v, Pos p l e R s m args below meth c Z own bytes ml ret nm T' T'.heap (locs ++ L) (cells + rm.cells) (slots + rm.slots) → Qc v T'.heap L → Go p e below FF (T'.setTop (mkF m pc' Ls (v.toList ++ rest)))) : Go p e below FF (T.setTop (mkF m pc Ls St)) := by
  subst hp hst has
  obtain ⟨cB, kB, q1, q2, q3⟩ := isOf P.z P.eh E
  obtain ⟨v, _, ⟨T', L', k', n'⟩, -, X', ⟨Lc, hQ, l1, l2, l3⟩, st⟩ := P.st.virtualBackUp P.x (x := x) (y := y) P.ow (mvT P.z w1) (mvT P.z w2) (mvT P.z w3) hy (mvT P.z w4) (mvT P.z w5) (backOf (W := W) hM P.z w7 w6 hro.1 hro.2.1) q1 q3 (g := mkF m pc Ls (argsL.reverse ++ .ref b :: rest)) rfl (by rw [P.mx]; exact hsz) (Steps.refl _) (argsL := argsL) (rest := rest) (lenOf hds hal) rfl (by show 2 * 0 + _ ≤ _; omega) (hb P.bt hd) (fun _ _ => ⟨rfl, P.eh, hro.2.2.1, hro.2.2.2⟩)
  dsimp only [Pt.U, Pt.locs, Pt.cells, Pt.slots] at X' l1 l2 l3 st hQ
  subst l1 l2 l3
  exact Go.come st (kk T' Lc v ⟨P.1, X', rfl⟩ hQ)
end Own
end Jvm.OwnKit
namespace Jvm.Pilot.@@N@@
open Jvm Jvm.ClassFile Sem Op Lib Jvm.Free Jvm.Stand Jvm.LawKit Jvm.RoadKit Jvm.OwnKit Bundle Jvm.Pilot.@@N@@.Jvm.D
abbrev y1 : MethodName := ⟨"com/example/lacewing/lacewing/validation/IntStack", "<init>", "()V"⟩
theorem d1_0 : decode prog_122_method_1_code 0 = .ok (.aload_n 0, 1) := by decide +kernel
theorem d1_1 : decode prog_122_method_1_code 1 = .ok (.invokespecial 1, 3) := by decide +kernel
theorem d1_4 : decode prog_122_method_1_code 4 = .ok (.aload_n 0, 1) := by decide +kernel
theorem d1_5 : decode prog_122_method_1_code 5 = .ok (.bipush 16, 2) := by decide +kernel
theorem d1_7 : decode prog_122_method_1_code 7 = .ok (.newarray .int, 2) := by decide +kernel
theorem d1_9 : decode prog_122_method_1_code 9 = .ok (.putfield 9, 3) := by decide +kernel
theorem d1_12 : decode prog_122_method_1_code 12 = .ok (.return_, 1) := by decide +kernel
abbrev y2 : MethodName := ⟨"java/lang/Object", "<init>", "()V"⟩
abbrev y3 : MethodName := ⟨"com/example/lacewing/lacewing/validation/IntStack", "push", "(I)V"⟩
theorem d3_0 : decode prog_122_method_2_code 0 = .ok (.aload_n 0, 1) := by decide +kernel
theorem d3_1 : decode prog_122_method_2_code 1 = .ok (.getfield 13, 3) := by decide +kernel
theorem d3_4 : decode prog_122_method_2_code 4 = .ok (.aload_n 0, 1) := by decide +kernel
theorem d3_5 : decode prog_122_method_2_code 5 = .ok (.getfield 9, 3) := by decide +kernel
theorem d3_8 : decode prog_122_method_2_code 8 = .ok (.arraylength, 1) := by decide +kernel
theorem d3_9 : decode prog_122_method_2_code 9 = .ok (.if_icmp .ne 20, 3) := by decide +kernel
theorem d3_12 : decode prog_122_method_2_code 12 = .ok (.aload_n 0, 1) := by decide +kernel
theorem d3_13 : decode prog_122_method_2_code 13 = .ok (.aload_n 0, 1) := by decide +kernel
theorem d3_14 : decode prog_122_method_2_code 14 = .ok (.getfield 9, 3) := by decide +kernel
theorem d3_17 : decode prog_122_method_2_code 17 = .ok (.iconst 2, 1) := by decide +kernel
theorem d3_18 : decode prog_122_method_2_code 18 = .ok (.aload_n 0, 1) := by decide +kernel
theorem d3_19 : decode prog_122_method_2_code 19 = .ok (.getfield 13, 3) := by decide +kernel
theorem d3_22 : decode prog_122_method_2_code 22 = .ok (.imul, 1) := by decide +kernel
theorem d3_23 : decode prog_122_method_2_code 23 = .ok (.invokestatic 17, 3) := by decide +kernel
theorem d3_26 : decode prog_122_method_2_code 26 = .ok (.putfield 9, 3) := by decide +kernel
theorem d3_29 : decode prog_122_method_2_code 29 = .ok (.aload_n 0, 1) := by decide +kernel
theorem d3_30 : decode prog_122_method_2_code 30 = .ok (.getfield 9, 3) := by decide +kernel
theorem d3_33 : decode prog_122_method_2_code 33 = .ok (.aload_n 0, 1) := by decide +kernel
theorem d3_34 : decode prog_122_method_2_code 34 = .ok (.getfield 13, 3) := by decide +kernel
theorem d3_37 : decode prog_122_method_2_code 37 = .ok (.iload_n 1, 1) := by decide +kernel
theorem d3_38 : decode prog_122_method_2_code 38 = .ok (.iastore, 1) := by decide +kernel
theorem d3_39 : decode prog_122_method_2_code 39 = .ok (.aload_n 0, 1) := by decide +kernel
theorem d3_40 : decode prog_122_method_2_code 40 = .ok (.dup, 1) := by decide +kernel
theorem d3_41 : decode prog_122_method_2_code 41 = .ok (.getfield 13, 3) := by decide +kernel
theorem d3_44 : decode prog_122_method_2_code 44 = .ok (.iconst 1, 1) := by decide +kernel
theorem d3_45 : decode prog_122_method_2_code 45 = .ok (.iadd, 1) := by decide +kernel
theorem d3_46 : decode prog_122_method_2_code 46 = .ok (.putfield 13, 3) := by decide +kernel
theorem d3_49 : decode prog_122_method_2_code 49 = .ok (.return_, 1) := by decide +kernel
abbrev y4 : MethodName := ⟨"com/example/lacewing/lacewing/validation/IntStack", "size", "()I"⟩
theorem d4_0 : decode prog_122_method_5_code 0 = .ok (.aload_n 0, 1) := by decide +kernel
theorem d4_1 : decode prog_122_method_5_code 1 = .ok (.getfield 13, 3) := by decide +kernel
theorem d4_4 : decode prog_122_method_5_code 4 = .ok (.ireturn, 1) := by decide +kernel
abbrev y5 : MethodName := ⟨"com/example/lacewing/lacewing/validation/IntStack", "keepSmall", "()V"⟩
theorem d5_0 : decode prog_122_method_8_code 0 = .ok (.aload_n 0, 1) := by decide +kernel
theorem d5_1 : decode prog_122_method_8_code 1 = .ok (.iconst 0, 1) := by decide +kernel
theorem d5_2 : decode prog_122_method_8_code 2 = .ok (.putfield 13, 3) := by decide +kernel
theorem d5_5 : decode prog_122_method_8_code 5 = .ok (.aload_n 0, 1) := by decide +kernel
theorem d5_6 : decode prog_122_method_8_code 6 = .ok (.getfield 9, 3) := by decide +kernel
theorem d5_9 : decode prog_122_method_8_code 9 = .ok (.arraylength, 1) := by decide +kernel
theorem d5_10 : decode prog_122_method_8_code 10 = .ok (.bipush 16, 2) := by decide +kernel
theorem d5_12 : decode prog_122_method_8_code 12 = .ok (.if_icmp .le 11, 3) := by decide +kernel
theorem d5_15 : decode prog_122_method_8_code 15 = .ok (.aload_n 0, 1) := by decide +kernel
theorem d5_16 : decode prog_122_method_8_code 16 = .ok (.bipush 16, 2) := by decide +kernel
theorem d5_18 : decode prog_122_method_8_code 18 = .ok (.newarray .int, 2) := by decide +kernel
theorem d5_20 : decode prog_122_method_8_code 20 = .ok (.putfield 9, 3) := by decide +kernel
theorem d5_23 : decode prog_122_method_8_code 23 = .ok (.return_, 1) := by decide +kernel
abbrev y6 : MethodName := ⟨"com/example/lacewing/lacewing/validation/IntStack", "isEmpty", "()Z"⟩
theorem d6_0 : decode prog_122_method_6_code 0 = .ok (.aload_n 0, 1) := by decide +kernel
theorem d6_1 : decode prog_122_method_6_code 1 = .ok (.getfield 13, 3) := by decide +kernel
theorem d6_4 : decode prog_122_method_6_code 4 = .ok (.ifCond .ne 7, 3) := by decide +kernel
theorem d6_7 : decode prog_122_method_6_code 7 = .ok (.iconst 1, 1) := by decide +kernel
theorem d6_8 : decode prog_122_method_6_code 8 = .ok (.goto 4, 3) := by decide +kernel
theorem d6_11 : decode prog_122_method_6_code 11 = .ok (.iconst 0, 1) := by decide +kernel
theorem d6_12 : decode prog_122_method_6_code 12 = .ok (.ireturn, 1) := by decide +kernel
abbrev y7 : MethodName := ⟨"com/example/lacewing/lacewing/validation/IntStack", "get", "(I)I"⟩
theorem d7_0 : decode prog_122_method_4_code 0 = .ok (.aload_n 0, 1) := by decide +kernel
theorem d7_1 : decode prog_122_method_4_code 1 = .ok (.getfield 9, 3) := by decide +kernel
theorem d7_4 : decode prog_122_method_4_code 4 = .ok (.iload_n 1, 1) := by decide +kernel
theorem d7_5 : decode prog_122_method_4_code 5 = .ok (.iaload, 1) := by decide +kernel
theorem d7_6 : decode prog_122_method_4_code 6 = .ok (.ireturn, 1) := by decide +kernel
abbrev y8 : MethodName := ⟨"com/example/lacewing/lacewing/validation/IntStack", "pop", "()I"⟩
theorem d8_0 : decode prog_122_method_3_code 0 = .ok (.aload_n 0, 1) := by decide +kernel
theorem d8_1 : decode prog_122_method_3_code 1 = .ok (.dup, 1) := by decide +kernel
theorem d8_2 : decode prog_122_method_3_code 2 = .ok (.getfield 13, 3) := by decide +kernel
theorem d8_5 : decode prog_122_method_3_code 5 = .ok (.iconst 1, 1) := by decide +kernel
theorem d8_6 : decode prog_122_method_3_code 6 = .ok (.isub, 1) := by decide +kernel
theorem d8_7 : decode prog_122_method_3_code 7 = .ok (.putfield 13, 3) := by decide +kernel
theorem d8_10 : decode prog_122_method_3_code 10 = .ok (.aload_n 0, 1) := by decide +kernel
theorem d8_11 : decode prog_122_method_3_code 11 = .ok (.getfield 9, 3) := by decide +kernel
theorem d8_14 : decode prog_122_method_3_code 14 = .ok (.aload_n 0, 1) := by decide +kernel
theorem d8_15 : decode prog_122_method_3_code 15 = .ok (.getfield 13, 3) := by decide +kernel
theorem d8_18 : decode prog_122_method_3_code 18 = .ok (.iaload, 1) := by decide +kernel
theorem d8_19 : decode prog_122_method_3_code 19 = .ok (.ireturn, 1) := by decide +kernel
abbrev y9 : MethodName := ⟨"com/example/lacewing/lacewing/validation/IntStackKeepSmallPinLaw", "push8", "(Lcom/example/lacewing/lacewing/validation/IntStack;I)V"⟩
theorem d9_0 : decode method_2_code 0 = .ok (.aload_n 0, 1) := by decide +kernel
theorem d9_1 : decode method_2_code 1 = .ok (.iload_n 1, 1) := by decide +kernel
theorem d9_2 : decode method_2_code 2 = .ok (.invokevirtual 7, 3) := by decide +kernel
theorem d9_5 : decode method_2_code 5 = .ok (.aload_n 0, 1) := by decide +kernel
theorem d9_6 : decode method_2_code 6 = .ok (.iload_n 1, 1) := by decide +kernel
theorem d9_7 : decode method_2_code 7 = .ok (.iconst 1, 1) := by decide +kernel
theorem d9_8 : decode method_2_code 8 = .ok (.iadd, 1) := by decide +kernel
theorem d9_9 : decode method_2_code 9 = .ok (.invokevirtual 7, 3) := by decide +kernel
theorem d9_12 : decode method_2_code 12 = .ok (.aload_n 0, 1) := by decide +kernel
theorem d9_13 : decode method_2_code 13 = .ok (.iload_n 1, 1) := by decide +kernel
theorem d9_14 : decode method_2_code 14 = .ok (.iconst 2, 1) := by decide +kernel
theorem d9_15 : decode method_2_code 15 = .ok (.iadd, 1) := by decide +kernel
theorem d9_16 : decode method_2_code 16 = .ok (.invokevirtual 7, 3) := by decide +kernel
theorem d9_19 : decode method_2_code 19 = .ok (.aload_n 0, 1) := by decide +kernel
theorem d9_20 : decode method_2_code 20 = .ok (.iload_n 1, 1) := by decide +kernel
theorem d9_21 : decode method_2_code 21 = .ok (.iconst 3, 1) := by decide +kernel
theorem d9_22 : decode method_2_code 22 = .ok (.iadd, 1) := by decide +kernel
theorem d9_23 : decode method_2_code 23 = .ok (.invokevirtual 7, 3) := by decide +kernel
theorem d9_26 : decode method_2_code 26 = .ok (.aload_n 0, 1) := by decide +kernel
theorem d9_27 : decode method_2_code 27 = .ok (.iload_n 1, 1) := by decide +kernel
theorem d9_28 : decode method_2_code 28 = .ok (.iconst 4, 1) := by decide +kernel
theorem d9_29 : decode method_2_code 29 = .ok (.iadd, 1) := by decide +kernel
theorem d9_30 : decode method_2_code 30 = .ok (.invokevirtual 7, 3) := by decide +kernel
theorem d9_33 : decode method_2_code 33 = .ok (.aload_n 0, 1) := by decide +kernel
theorem d9_34 : decode method_2_code 34 = .ok (.iload_n 1, 1) := by decide +kernel
theorem d9_35 : decode method_2_code 35 = .ok (.iconst 5, 1) := by decide +kernel
theorem d9_36 : decode method_2_code 36 = .ok (.iadd, 1) := by decide +kernel
theorem d9_37 : decode method_2_code 37 = .ok (.invokevirtual 7, 3) := by decide +kernel
theorem d9_40 : decode method_2_code 40 = .ok (.aload_n 0, 1) := by decide +kernel
theorem d9_41 : decode method_2_code 41 = .ok (.iload_n 1, 1) := by decide +kernel
theorem d9_42 : decode method_2_code 42 = .ok (.bipush 6, 2) := by decide +kernel
theorem d9_44 : decode method_2_code 44 = .ok (.iadd, 1) := by decide +kernel
theorem d9_45 : decode method_2_code 45 = .ok (.invokevirtual 7, 3) := by decide +kernel
theorem d9_48 : decode method_2_code 48 = .ok (.aload_n 0, 1) := by decide +kernel
theorem d9_49 : decode method_2_code 49 = .ok (.iload_n 1, 1) := by decide +kernel
theorem d9_50 : decode method_2_code 50 = .ok (.bipush 7, 2) := by decide +kernel
theorem d9_52 : decode method_2_code 52 = .ok (.iadd, 1) := by decide +kernel
theorem d9_53 : decode method_2_code 53 = .ok (.invokevirtual 7, 3) := by decide +kernel
theorem d9_56 : decode method_2_code 56 = .ok (.return_, 1) := by decide +kernel
abbrev y10 : MethodName := ⟨"java/util/Arrays", "copyOf", "([II)[I"⟩
theorem d10_0 : decode jdk_65_method_123_code 0 = .ok (.iload_n 1, 1) := by decide +kernel
theorem d10_1 : decode jdk_65_method_123_code 1 = .ok (.aload_n 0, 1) := by decide +kernel
theorem d10_2 : decode jdk_65_method_123_code 2 = .ok (.arraylength, 1) := by decide +kernel
theorem d10_3 : decode jdk_65_method_123_code 3 = .ok (.if_icmp .ne 11, 3) := by decide +kernel
theorem d10_6 : decode jdk_65_method_123_code 6 = .ok (.aload_n 0, 1) := by decide +kernel
theorem d10_7 : decode jdk_65_method_123_code 7 = .ok (.invokevirtual 316, 3) := by decide +kernel
theorem d10_10 : decode jdk_65_method_123_code 10 = .ok (.checkcast 317, 3) := by decide +kernel
theorem d10_13 : decode jdk_65_method_123_code 13 = .ok (.areturn, 1) := by decide +kernel
theorem d10_14 : decode jdk_65_method_123_code 14 = .ok (.iload_n 1, 1) := by decide +kernel
theorem d10_15 : decode jdk_65_method_123_code 15 = .ok (.newarray .int, 2) := by decide +kernel
theorem d10_17 : decode jdk_65_method_123_code 17 = .ok (.astore_n 2, 1) := by decide +kernel
theorem d10_18 : decode jdk_65_method_123_code 18 = .ok (.aload_n 0, 1) := by decide +kernel
theorem d10_19 : decode jdk_65_method_123_code 19 = .ok (.iconst 0, 1) := by decide +kernel
theorem d10_20 : decode jdk_65_method_123_code 20 = .ok (.aload_n 2, 1) := by decide +kernel
theorem d10_21 : decode jdk_65_method_123_code 21 = .ok (.iconst 0, 1) := by decide +kernel
theorem d10_22 : decode jdk_65_method_123_code 22 = .ok (.aload_n 0, 1) := by decide +kernel
theorem d10_23 : decode jdk_65_method_123_code 23 = .ok (.arraylength, 1) := by decide +kernel
theorem d10_24 : decode jdk_65_method_123_code 24 = .ok (.iload_n 1, 1) := by decide +kernel
theorem d10_25 : decode jdk_65_method_123_code 25 = .ok (.invokestatic 304, 3) := by decide +kernel
theorem d10_28 : decode jdk_65_method_123_code 28 = .ok (.invokestatic 150, 3) := by decide +kernel
theorem d10_31 : decode jdk_65_method_123_code 31 = .ok (.aload_n 2, 1) := by decide +kernel
theorem d10_32 : decode jdk_65_method_123_code 32 = .ok (.areturn, 1) := by decide +kernel
abbrev y11 : MethodName := ⟨"java/lang/Math", "min", "(II)I"⟩
theorem d11_0 : decode jdk_29_method_69_code 0 = .ok (.iload_n 0, 1) := by decide +kernel
theorem d11_1 : decode jdk_29_method_69_code 1 = .ok (.iload_n 1, 1) := by decide +kernel
theorem d11_2 : decode jdk_29_method_69_code 2 = .ok (.if_icmp .gt 7, 3) := by decide +kernel
theorem d11_5 : decode jdk_29_method_69_code 5 = .ok (.iload_n 0, 1) := by decide +kernel
theorem d11_6 : decode jdk_29_method_69_code 6 = .ok (.goto 4, 3) := by decide +kernel
theorem d11_9 : decode jdk_29_method_69_code 9 = .ok (.iload_n 1, 1) := by decide +kernel
theorem d11_10 : decode jdk_29_method_69_code 10 = .ok (.ireturn, 1) := by decide +kernel
theorem pf_0 : plainFor x = true := by first | exact plainFor_of_name (by first | (simp [plainName, overriddenIn, x]; done) | decide +kernel) | decide +kernel
theorem pd_0 : parseMethodDescriptor "(IIII)Z" = some ⟨[.int, .int, .int, .int], some .boolean⟩ := by decide +kernel
theorem pf_1 : plainFor y1 = true := by first | exact plainFor_of_name (by first | (simp [plainName, overriddenIn, y1]; done) | decide +kernel) | decide +kernel
theorem pd_1 : parseMethodDescriptor "()V" = some ⟨[], none⟩ := by decide +kernel
theorem pf_3 : plainFor y3 = true := by first | exact plainFor_of_name (by first | (simp [plainName, overriddenIn, y3]; done) | decide +kernel) | decide +kernel
theorem pd_3 : parseMethodDescriptor "(I)V" = some ⟨[.int], none⟩ := by decide +kernel
theorem pf_4 : plainFor y4 = true := by first | exact plainFor_of_name (by first | (simp [plainName, overriddenIn, y4]; done) | decide +kernel) | decide +kernel
theorem pd_4 : parseMethodDescriptor "()I" = some ⟨[], some .int⟩ := by decide +kernel
theorem pf_5 : plainFor y5 = true := by first | exact plainFor_of_name (by first | (simp [plainName, overriddenIn, y5]; done) | decide +kernel) | decide +kernel
theorem pd_5 : parseMethodDescriptor "()V" = some ⟨[], none⟩ := by decide +kernel
theorem pf_6 : plainFor y6 = true := by first | exact plainFor_of_name (by first | (simp [plainName, overriddenIn, y6]; done) | decide +kernel) | decide +kernel
theorem pd_6 : parseMethodDescriptor "()Z" = some ⟨[], some .boolean⟩ := by decide +kernel
theorem pf_7 : plainFor y7 = true := by first | exact plainFor_of_name (by first | (simp [plainName, overriddenIn, y7]; done) | decide +kernel) | decide +kernel
theorem pd_7 : parseMethodDescriptor "(I)I" = some ⟨[.int], some .int⟩ := by decide +kernel
theorem pf_8 : plainFor y8 = true := by first | exact plainFor_of_name (by first | (simp [plainName, overriddenIn, y8]; done) | decide +kernel) | decide +kernel
theorem pd_8 : parseMethodDescriptor "()I" = some ⟨[], some .int⟩ := by decide +kernel
theorem pf_9 : plainFor y9 = true := by first | exact plainFor_of_name (by first | (simp [plainName, overriddenIn, y9]; done) | decide +kernel) | decide +kernel
theorem pd_9 : parseMethodDescriptor "(Lcom/example/lacewing/lacewing/validation/IntStack;I)V" = some ⟨[(.object "com/example/lacewing/lacewing/validation/IntStack"), .int], none⟩ := by decide +kernel
theorem pf_10 : plainFor y10 = true := by first | exact plainFor_of_name (by first | (simp [plainName, overriddenIn, y10]; done) | decide +kernel) | decide +kernel
theorem pd_10 : parseMethodDescriptor "([II)[I" = some ⟨[(.array .int), .int], some (.array .int)⟩ := by decide +kernel
theorem pf_11 : plainFor y11 = true := by first | exact plainFor_of_name (by first | (simp [plainName, overriddenIn, y11]; done) | decide +kernel) | decide +kernel
theorem pd_11 : parseMethodDescriptor "(II)I" = some ⟨[.int, .int], some .int⟩ := by decide +kernel
theorem ef_rmInit (m : MethodId) (a : Addr) : entryFrame m #[(.ref a)] 1 = mkF m 0 #[.val (.ref a)] [] := by first | (simp [entryFrame, mkF, argsToLocals, Value.category]; done) | rfl
set_option maxRecDepth 65536 in
set_option maxHeartbeats 40000000 in
theorem rmInit (l : Launch) (Z : State) (a0 : Array Value) (hw : ∀ d ∈ tables_1, d.before a0 Z = true) (a : Addr) (h0 : Heap) (n0 : Nat) (Z0 : n0 ≤ Array.size h0) (g0 : n0 ≤ a) (E0 : Exa Z h0 a "com/example/lacewing/lacewing/validation/IntStack") (FV : Fld Z h0 a "com/example/lacewing/lacewing/validation/IntStack" "values" "[I" .null) (FS : Fld Z h0 a "com/example/lacewing/lacewing/validation/IntStack" "size" "I" (.int (0 : Int32))) :
    OMeets l Z y1 prog_122_method_1_code 1 none ({ frames := 1, cells := 1, slots := 16, locals := 12 } : Room) #[(.ref a)] h0 (fun v h L => v = none ∧ Fr n0 L ∧ Keep h0 h [a] ∧ Exa Z h a "com/example/lacewing/lacewing/validation/IntStack" ∧ ∃ b kk, ∃ vs : List Value, n0 ≤ b ∧ a ≠ b ∧ Fld Z h a "com/example/lacewing/lacewing/validation/IntStack" "values" "[I" (.ref b) ∧ Fld Z h a "com/example/lacewing/lacewing/validation/IntStack" "size" "I" (.int (0 : Int32)) ∧ vs.length = 16 ∧ Arv Z h b kk .int (16 : Int32) vs (.int (0 : Int32))) := by
  refine met (Q := fun v h L => v = none ∧ Fr n0 L ∧ Keep h0 h [a] ∧ Exa Z h a "com/example/lacewing/lacewing/validation/IntStack" ∧ ∃ b kk, ∃ vs : List Value, n0 ≤ b ∧ a ≠ b ∧ Fld Z h a "com/example/lacewing/lacewing/validation/IntStack" "values" "[I" (.ref b) ∧ Fld Z h a "com/example/lacewing/lacewing/validation/IntStack" "size" "I" (.int (0 : Int32)) ∧ vs.length = 16 ∧ Arv Z h b kk .int (16 : Int32) vs (.int (0 : Int32))) pf_1 (fun m => ef_rmInit m a) fun p e s m below meth c T0 P0 => ?_
  have N0 := Fr.nil n0
  have K0 := Keep.refl h0 [a]
  refine G.aloadN P0 d1_0 rfl rfl (pc' := 1) rfl ?_
  obtain ⟨T1, X1, e1, s1⟩ := Jvm.RoadKit.initO P0.st P0.x P0.z P0.ow (wk hw 6 rfl) (wk hw 7 rfl) (wk hw 8 rfl) P0.eh (g := (mkF m 1 #[.val (.ref a)] [(.ref a)])) rfl (by rw [P0.mx]; rfl) rfl (hb P0.bt d1_1) (by decide) (W := 0) (by show 2 * 0 + _ ≤ _; exact Nat.le_of_eq rfl) (by decide)
  have P1 := Pos.re P0 X1 e1
  refine Go.via s1 ?_
  show Go p e below _ (T1.setTop (mkF m 4 #[.val (.ref a)] []))
  refine G.aloadN P1 d1_4 rfl rfl (pc' := 5) rfl ?_
  refine G.bipush P1 d1_5 (z := (16 : Int32)) rfl (pc' := 7) rfl ?_
  refine G.newP P1 (wk hw 9 rfl) (by decide) (cap := 16) (by decide) (by decide) (by decide) d1_7 (pc' := 9) rfl fun T2 h2 a2 k2 g2 P2 E2 V2 => ?_
  have n3 : a ≠ a2 := by rw [g2]; exact Nat.ne_of_lt E0.lt
  have g4 : n0 ≤ a2 := by rw [g2]; exact Z0
  have q2 := (Nat.le_trans K0.1 (Nat.le_of_eq g2.symm))
  have K5 := K0.ext E2
  have V2p : Arv Z h2 a2 k2 .int (16 : Int32) [(.int (0 : Int32)), (.int (0 : Int32)), (.int (0 : Int32)), (.int (0 : Int32)), (.int (0 : Int32)), (.int (0 : Int32)), (.int (0 : Int32)), (.int (0 : Int32)), (.int (0 : Int32)), (.int (0 : Int32)), (.int (0 : Int32)), (.int (0 : Int32)), (.int (0 : Int32)), (.int (0 : Int32)), (.int (0 : Int32)), (.int (0 : Int32))] (.int (0 : Int32)) := V2.pad (pad_rep [] _ 16)
  have f6 := (FV.ext E2)
  have f7 := (E0.ext E2)
  refine G.putF P2 (host := "") (Or.inl (wk hw 10 rfl)) Via.refl f6 f7 (Or.inl (wk hw 11 rfl)) (wk hw 1 rfl) (ty := (.array .int)) (by decide) rfl rfl d1_9 (pc' := 12) rfl fun T8 h8 P8 W8 => ?_
  have f8 := f6.same W8
  have N9 := Fr.snoc P8.st N0 g0
  have K10 := K5.wr W8 (Or.inl (List.mem_of_getElem? (i := 0) rfl))
  have f11 := (f7.wr W8)
  have f12 := ((FS.ext E2).other W8 (Or.inr (slot_ne (Or.inl (wk hw 18 rfl)) (Or.inl (wk hw 11 rfl)) (by decide) (t := .int) (t' := (.array .int)) (by decide) (by decide))))
  have f13 := (V2p.other W8 (Ne.symm n3))
  exact G.retV P8 d1_12 (by decide) (by decide) ⟨rfl, N9, K10, f11, _, _, _, g4, n3, f8, f12, rfl, f13⟩

theorem ef_rmPush (m : MethodId) (a : Addr) (x : Int32) : entryFrame m #[(.ref a), (.int x)] 2 = mkF m 0 #[.val (.ref a), .val (.int x)] [] := by first | (simp [entryFrame, mkF, argsToLocals, Value.category]; done) | rfl
set_option maxRecDepth 65536 in
set_option maxHeartbeats 40000000 in
theorem rmPush (l : Launch) (Z : State) (a0 : Array Value) (hw : ∀ d ∈ tables_1, d.before a0 Z = true) (a b : Addr) (x sz len : Int32) (kk : ClassId) (vs : List Value) (h0 : Heap) (n0 : Nat) (Z0 : n0 ≤ Array.size h0) (g0 : n0 ≤ a) (gb : n0 ≤ b) (hab : a ≠ b) (E0 : Exa Z h0 a "com/example/lacewing/lacewing/validation/IntStack") (FV : Fld Z h0 a "com/example/lacewing/lacewing/validation/IntStack" "values" "[I" (.ref b)) (FS : Fld Z h0 a "com/example/lacewing/lacewing/validation/IntStack" "size" "I" (.int sz)) (V : Arv Z h0 b kk .int len vs (.int (0 : Int32))) (hsz : ¬ sz < (0 : Int32) ∧ sz < len) (hne : ¬ sz = len) (hl : sz.toNatClampNeg < vs.length) :
    OMeets l Z y3 prog_122_method_2_code 2 none ({ frames := 0, cells := 0, slots := 0, locals := 0 } : Room) #[(.ref a), (.int x)] h0 (fun v h L => v = none ∧ Fr n0 L ∧ Keep h0 h [a, b] ∧ Exa Z h a "com/example/lacewing/lacewing/validation/IntStack" ∧ Fld Z h a "com/example/lacewing/lacewing/validation/IntStack" "values" "[I" (.ref b) ∧ Fld Z h a "com/example/lacewing/lacewing/validation/IntStack" "size" "I" (.int (sz + (1 : Int32))) ∧ ∃ vs' : List Value, vs' = vs.set (sz.toNatClampNeg) (.int x) ∧ Arv Z h b kk .int len vs' (.int (0 : Int32))) := by
  refine met (Q := fun v h L => v = none ∧ Fr n0 L ∧ Keep h0 h [a, b] ∧ Exa Z h a "com/example/lacewing/lacewing/validation/IntStack" ∧ Fld Z h a "com/example/lacewing/lacewing/validation/IntStack" "values" "[I" (.ref b) ∧ Fld Z h a "com/example/lacewing/lacewing/validation/IntStack" "size" "I" (.int (sz + (1 : Int32))) ∧ ∃ vs' : List Value, vs' = vs.set (sz.toNatClampNeg) (.int x) ∧ Arv Z h b kk .int len vs' (.int (0 : Int32))) pf_3 (fun m => ef_rmPush m a x) fun p e s m below meth c T0 P0 => ?_
  have N0 := Fr.nil n0
  have K0 := Keep.refl h0 [a, b]
  refine G.aloadN P0 d3_0 rfl rfl (pc' := 1) rfl ?_
  refine G.getF P0 (host := "") (Or.inl (wk hw 17 rfl)) Via.refl FS d3_1 (pc' := 4) rfl fun T1 P1 => ?_
  refine G.aloadN P1 d3_4 rfl rfl (pc' := 5) rfl ?_
  refine G.getF P1 (host := "") (Or.inl (wk hw 10 rfl)) Via.refl FV d3_5 (pc' := 8) rfl fun T2 P2 => ?_
  refine G.alen P2 V d3_8 (pc' := 9) rfl ?_
  refine G.icmp_ne P2 d3_9 (by decide) (pcY := 29) (by decide) (pcN := 12) rfl (fun cc => ?_) (fun cc => absurd cc hne)
  refine G.aloadN P2 d3_29 rfl rfl (pc' := 30) rfl ?_
  refine G.getF P2 (host := "") (Or.inl (wk hw 10 rfl)) Via.refl FV d3_30 (pc' := 33) rfl fun T3 P3 => ?_
  refine G.aloadN P3 d3_33 rfl rfl (pc' := 34) rfl ?_
  refine G.getF P3 (host := "") (Or.inl (wk hw 17 rfl)) Via.refl FS d3_34 (pc' := 37) rfl fun T4 P4 => ?_
  refine G.iloadN P4 d3_37 rfl (pc' := 38) rfl ?_
  refine G.stI P4 V (sz.toNatClampNeg) rfl hsz hl d3_38 (pc' := 39) rfl fun T5 h5 P5 W5 V5 => ?_
  have N6 := Fr.snoc P5.st N0 gb
  have K7 := K0.wr W5 (Or.inl (List.mem_of_getElem? (i := 1) rfl))
  refine G.aloadN P5 d3_39 rfl rfl (pc' := 40) rfl ?_
  refine G.dup P5 d3_40 rfl (pc' := 41) rfl ?_
  have f8 := (FS.other W5 (Or.inl hab))
  refine G.getF P5 (host := "") (Or.inl (wk hw 17 rfl)) Via.refl f8 d3_41 (pc' := 44) rfl fun T9 P9 => ?_
  refine G.iconst P9 d3_44 (z := (1 : Int32)) rfl (pc' := 45) rfl ?_
  refine G.iadd P9 d3_45 rfl (pc' := 46) rfl ?_
  have f10 := (E0.wr W5)
  refine G.putF P9 (host := "") (Or.inl (wk hw 17 rfl)) Via.refl f8 f10 (Or.inl (wk hw 18 rfl)) (wk hw 1 rfl) (ty := .int) (by decide) rfl rfl d3_46 (pc' := 49) rfl fun T11 h11 P11 W11 => ?_
  have f11 := f8.same W11
  have N12 := Fr.snoc P11.st N6 g0
  have K13 := K7.wr W11 (Or.inl (List.mem_of_getElem? (i := 0) rfl))
  have f14 := (f10.wr W11)
  have f15 := ((FV.other W5 (Or.inl hab)).other W11 (Or.inr (slot_ne (Or.inl (wk hw 11 rfl)) (Or.inl (wk hw 18 rfl)) (by decide) (t := (.array .int)) (t' := .int) (by decide) (by decide))))
  have f16 := (V5.other W11 (Ne.symm hab))
  exact G.retV P11 d3_49 (by decide) (by decide) ⟨rfl, N12, K13, f14, f15, f11, _, rfl, f16⟩

theorem ef_rmP8_0 (m : MethodId) (a : Addr) (x : Int32) : entryFrame m #[(.ref a), (.int x)] 2 = mkF m 0 #[.val (.ref a), .val (.int x)] [] := by first | (simp [entryFrame, mkF, argsToLocals, Value.category]; done) | rfl
set_option maxRecDepth 65536 in
set_option maxHeartbeats 40000000 in
theorem rmP8_0 (l : Launch) (Z : State) (a0 : Array Value) (hw : ∀ d ∈ tables_1, d.before a0 Z = true) (a b : Addr) (x : Int32) (kk : ClassId) (vs : List Value) (h0 : Heap) (n0 : Nat) (Z0 : n0 ≤ Array.size h0) (g0 : n0 ≤ a) (gb : n0 ≤ b) (hab : a ≠ b) (E0 : Exa Z h0 a "com/example/lacewing/lacewing/validation/IntStack") (FV : Fld Z h0 a "com/example/lacewing/lacewing/validation/IntStack" "values" "[I" (.ref b)) (FS : Fld Z h0 a "com/example/lacewing/lacewing/validation/IntStack" "size" "I" (.int (0 : Int32))) (V : Arv Z h0 b kk .int (16 : Int32) vs (.int (0 : Int32))) (hv : vs.length = 16) :
    OMeets l Z y9 method_2_code 2 none ({ frames := 1, cells := 0, slots := 0, locals := 13 } : Room) #[(.ref a), (.int x)] h0 (fun v h L => v = none ∧ Fr n0 L ∧ Keep h0 h [a, b] ∧ Exa Z h a "com/example/lacewing/lacewing/validation/IntStack" ∧ Fld Z h a "com/example/lacewing/lacewing/validation/IntStack" "values" "[I" (.ref b) ∧ Fld Z h a "com/example/lacewing/lacewing/validation/IntStack" "size" "I" (.int (8 : Int32)) ∧ ∃ vs' : List Value, vs'.length = 16 ∧ Arv Z h b kk .int (16 : Int32) vs' (.int (0 : Int32))) := by
  refine met (Q := fun v h L => v = none ∧ Fr n0 L ∧ Keep h0 h [a, b] ∧ Exa Z h a "com/example/lacewing/lacewing/validation/IntStack" ∧ Fld Z h a "com/example/lacewing/lacewing/validation/IntStack" "values" "[I" (.ref b) ∧ Fld Z h a "com/example/lacewing/lacewing/validation/IntStack" "size" "I" (.int (8 : Int32)) ∧ ∃ vs' : List Value, vs'.length = 16 ∧ Arv Z h b kk .int (16 : Int32) vs' (.int (0 : Int32))) pf_9 (fun m => ef_rmP8_0 m a x) fun p e s m below meth c T0 P0 => ?_
  have N0 := Fr.nil n0
  have K0 := Keep.refl h0 [a, b]
  refine G.aloadN P0 d9_0 rfl rfl (pc' := 1) rfl ?_
  refine G.iloadN P0 d9_1 rfl (pc' := 2) rfl ?_
  refine G.callV P0 (rmPush l Z a0 hw a b x (0 : Int32) (16 : Int32) kk vs h0 n0 Z0 g0 gb hab E0 FV FS V (by decide) (by decide) (by rw [hv]; decide)) (wk hw 12 rfl) (wk hw 13 rfl) (wk hw 15 rfl) rfl (wk hw 14 rfl) (wk hw 2 rfl) (wk hw 16 rfl) (by decide) E0 pd_3 (argsL := [(.int x)]) (rest := []) rfl rfl rfl rfl (W := 0) (Nat.le_of_eq rfl) (by decide) d9_2 (pc' := 5) rfl fun T1 L1 v1 P1 Q1 => ?_
  obtain ⟨rfl, N1, K1, E1, B1, O1, vs1, e1, V1⟩ := Q1
  have N2 := Fr.app N0 N1
  have K3 := K0.trans K1 (allS (Or.inl (List.mem_of_getElem? (i := 0) rfl)) (allS (Or.inl (List.mem_of_getElem? (i := 1) rfl)) all0))
  show Go p e below _ (T1.setTop (mkF m 5 #[.val (.ref a), .val (.int x)] []))
  have O1p : Fld Z T1.heap a "com/example/lacewing/lacewing/validation/IntStack" "size" "I" (.int (1 : Int32)) := O1
  have hv1 : vs1.length = 16 := by rw [e1, List.length_set]; exact hv
  refine G.aloadN P1 d9_5 rfl rfl (pc' := 6) rfl ?_
  refine G.iloadN P1 d9_6 rfl (pc' := 7) rfl ?_
  refine G.iconst P1 d9_7 (z := (1 : Int32)) rfl (pc' := 8) rfl ?_
  refine G.iadd P1 d9_8 rfl (pc' := 9) rfl ?_
  have z4 : n0 ≤ Array.size T1.heap := (Nat.le_trans Z0 K1.1)
  refine G.callV P1 (rmPush l Z a0 hw a b (x + (1 : Int32)) (1 : Int32) (16 : Int32) kk vs1 T1.heap n0 z4 g0 gb hab E1 B1 O1p V1 (by decide) (by decide) (by rw [hv1]; decide)) (wk hw 12 rfl) (wk hw 13 rfl) (wk hw 15 rfl) rfl (wk hw 14 rfl) (wk hw 2 rfl) (wk hw 16 rfl) (by decide) E1 pd_3 (argsL := [(.int (x + (1 : Int32)))]) (rest := []) rfl rfl rfl rfl (W := 0) (Nat.le_of_eq rfl) (by decide) d9_9 (pc' := 12) rfl fun T5 L5 v5 P5 Q5 => ?_
  obtain ⟨rfl, N5, K5, E5, B5, O5, vs5, e5, V5⟩ := Q5
  have N6 := Fr.app N2 N5
  have K7 := K3.trans K5 (allS (Or.inl (List.mem_of_getElem? (i := 0) rfl)) (allS (Or.inl (List.mem_of_getElem? (i := 1) rfl)) all0))
  show Go p e below _ (T5.setTop (mkF m 12 #[.val (.ref a), .val (.int x)] []))
  have O5p : Fld Z T5.heap a "com/example/lacewing/lacewing/validation/IntStack" "size" "I" (.int (2 : Int32)) := O5
  have hv5 : vs5.length = 16 := by rw [e5, List.length_set]; exact hv1
  refine G.aloadN P5 d9_12 rfl rfl (pc' := 13) rfl ?_
  refine G.iloadN P5 d9_13 rfl (pc' := 14) rfl ?_
  refine G.iconst P5 d9_14 (z := (2 : Int32)) rfl (pc' := 15) rfl ?_
  refine G.iadd P5 d9_15 rfl (pc' := 16) rfl ?_
  have z8 : n0 ≤ Array.size T5.heap := (Nat.le_trans z4 K5.1)
  refine G.callV P5 (rmPush l Z a0 hw a b (x + (2 : Int32)) (2 : Int32) (16 : Int32) kk vs5 T5.heap n0 z8 g0 gb hab E5 B5 O5p V5 (by decide) (by decide) (by rw [hv5]; decide)) (wk hw 12 rfl) (wk hw 13 rfl) (wk hw 15 rfl) rfl (wk hw 14 rfl) (wk hw 2 rfl) (wk hw 16 rfl) (by decide) E5 pd_3 (argsL := [(.int (x + (2 : Int32)))]) (rest := []) rfl rfl rfl rfl (W := 0) (Nat.le_of_eq rfl) (by decide) d9_16 (pc' := 19) rfl fun T9 L9 v9 P9 Q9 => ?_
  obtain ⟨rfl, N9, K9, E9, B9, O9, vs9, e9, V9⟩ := Q9
  have N10 := Fr.app N6 N9
  have K11 := K7.trans K9 (allS (Or.inl (List.mem_of_getElem? (i := 0) rfl)) (allS (Or.inl (List.mem_of_getElem? (i := 1) rfl)) all0))
  show Go p e below _ (T9.setTop (mkF m 19 #[.val (.ref a), .val (.int x)] []))
  have O9p : Fld Z T9.heap a "com/example/lacewing/lacewing/validation/IntStack" "size" "I" (.int (3 : Int32)) := O9
  have hv9 : vs9.length = 16 := by rw [e9, List.length_set]; exact hv5
  refine G.aloadN P9 d9_19 rfl rfl (pc' := 20) rfl ?_
  refine G.iloadN P9 d9_20 rfl (pc' := 21) rfl ?_
  refine G.iconst P9 d9_21 (z := (3 : Int32)) rfl (pc' := 22) rfl ?_
  refine G.iadd P9 d9_22 rfl (pc' := 23) rfl ?_
  have z12 : n0 ≤ Array.size T9.heap := (Nat.le_trans z8 K9.1)
  refine G.callV P9 (rmPush l Z a0 hw a b (x + (3 : Int32)) (3 : Int32) (16 : Int32) kk vs9 T9.heap n0 z12 g0 gb hab E9 B9 O9p V9 (by decide) (by decide) (by rw [hv9]; decide)) (wk hw 12 rfl) (wk hw 13 rfl) (wk hw 15 rfl) rfl (wk hw 14 rfl) (wk hw 2 rfl) (wk hw 16 rfl) (by decide) E9 pd_3 (argsL := [(.int (x + (3 : Int32)))]) (rest := []) rfl rfl rfl rfl (W := 0) (Nat.le_of_eq rfl) (by decide) d9_23 (pc' := 26) rfl fun T13 L13 v13 P13 Q13 => ?_
  obtain ⟨rfl, N13, K13, E13, B13, O13, vs13, e13, V13⟩ := Q13
  have N14 := Fr.app N10 N13
  have K15 := K11.trans K13 (allS (Or.inl (List.mem_of_getElem? (i := 0) rfl)) (allS (Or.inl (List.mem_of_getElem? (i := 1) rfl)) all0))
  show Go p e below _ (T13.setTop (mkF m 26 #[.val (.ref a), .val (.int x)] []))
  have O13p : Fld Z T13.heap a "com/example/lacewing/lacewing/validation/IntStack" "size" "I" (.int (4 : Int32)) := O13
  have hv13 : vs13.length = 16 := by rw [e13, List.length_set]; exact hv9
  refine G.aloadN P13 d9_26 rfl rfl (pc' := 27) rfl ?_
  refine G.iloadN P13 d9_27 rfl (pc' := 28) rfl ?_
  refine G.iconst P13 d9_28 (z := (4 : Int32)) rfl (pc' := 29) rfl ?_
  refine G.iadd P13 d9_29 rfl (pc' := 30) rfl ?_
  have z16 : n0 ≤ Array.size T13.heap := (Nat.le_trans z12 K13.1)
  refine G.callV P13 (rmPush l Z a0 hw a b (x + (4 : Int32)) (4 : Int32) (16 : Int32) kk vs13 T13.heap n0 z16 g0 gb hab E13 B13 O13p V13 (by decide) (by decide) (by rw [hv13]; decide)) (wk hw 12 rfl) (wk hw 13 rfl) (wk hw 15 rfl) rfl (wk hw 14 rfl) (wk hw 2 rfl) (wk hw 16 rfl) (by decide) E13 pd_3 (argsL := [(.int (x + (4 : Int32)))]) (rest := []) rfl rfl rfl rfl (W := 0) (Nat.le_of_eq rfl) (by decide) d9_30 (pc' := 33) rfl fun T17 L17 v17 P17 Q17 => ?_
  obtain ⟨rfl, N17, K17, E17, B17, O17, vs17, e17, V17⟩ := Q17
  have N18 := Fr.app N14 N17
  have K19 := K15.trans K17 (allS (Or.inl (List.mem_of_getElem? (i := 0) rfl)) (allS (Or.inl (List.mem_of_getElem? (i := 1) rfl)) all0))
  show Go p e below _ (T17.setTop (mkF m 33 #[.val (.ref a), .val (.int x)] []))
  have O17p : Fld Z T17.heap a "com/example/lacewing/lacewing/validation/IntStack" "size" "I" (.int (5 : Int32)) := O17
  have hv17 : vs17.length = 16 := by rw [e17, List.length_set]; exact hv13
  refine G.aloadN P17 d9_33 rfl rfl (pc' := 34) rfl ?_
  refine G.iloadN P17 d9_34 rfl (pc' := 35) rfl ?_
  refine G.iconst P17 d9_35 (z := (5 : Int32)) rfl (pc' := 36) rfl ?_
  refine G.iadd P17 d9_36 rfl (pc' := 37) rfl ?_
  have z20 : n0 ≤ Array.size T17.heap := (Nat.le_trans z16 K17.1)
  refine G.callV P17 (rmPush l Z a0 hw a b (x + (5 : Int32)) (5 : Int32) (16 : Int32) kk vs17 T17.heap n0 z20 g0 gb hab E17 B17 O17p V17 (by decide) (by decide) (by rw [hv17]; decide)) (wk hw 12 rfl) (wk hw 13 rfl) (wk hw 15 rfl) rfl (wk hw 14 rfl) (wk hw 2 rfl) (wk hw 16 rfl) (by decide) E17 pd_3 (argsL := [(.int (x + (5 : Int32)))]) (rest := []) rfl rfl rfl rfl (W := 0) (Nat.le_of_eq rfl) (by decide) d9_37 (pc' := 40) rfl fun T21 L21 v21 P21 Q21 => ?_
  obtain ⟨rfl, N21, K21, E21, B21, O21, vs21, e21, V21⟩ := Q21
  have N22 := Fr.app N18 N21
  have K23 := K19.trans K21 (allS (Or.inl (List.mem_of_getElem? (i := 0) rfl)) (allS (Or.inl (List.mem_of_getElem? (i := 1) rfl)) all0))
  show Go p e below _ (T21.setTop (mkF m 40 #[.val (.ref a), .val (.int x)] []))
  have O21p : Fld Z T21.heap a "com/example/lacewing/lacewing/validation/IntStack" "size" "I" (.int (6 : Int32)) := O21
  have hv21 : vs21.length = 16 := by rw [e21, List.length_set]; exact hv17
  refine G.aloadN P21 d9_40 rfl rfl (pc' := 41) rfl ?_
  refine G.iloadN P21 d9_41 rfl (pc' := 42) rfl ?_
  refine G.bipush P21 d9_42 (z := (6 : Int32)) rfl (pc' := 44) rfl ?_
  refine G.iadd P21 d9_44 rfl (pc' := 45) rfl ?_
  have z24 : n0 ≤ Array.size T21.heap := (Nat.le_trans z20 K21.1)
  refine G.callV P21 (rmPush l Z a0 hw a b (x + (6 : Int32)) (6 : Int32) (16 : Int32) kk vs21 T21.heap n0 z24 g0 gb hab E21 B21 O21p V21 (by decide) (by decide) (by rw [hv21]; decide)) (wk hw 12 rfl) (wk hw 13 rfl) (wk hw 15 rfl) rfl (wk hw 14 rfl) (wk hw 2 rfl) (wk hw 16 rfl) (by decide) E21 pd_3 (argsL := [(.int (x + (6 : Int32)))]) (rest := []) rfl rfl rfl rfl (W := 0) (Nat.le_of_eq rfl) (by decide) d9_45 (pc' := 48) rfl fun T25 L25 v25 P25 Q25 => ?_
  obtain ⟨rfl, N25, K25, E25, B25, O25, vs25, e25, V25⟩ := Q25
  have N26 := Fr.app N22 N25
  have K27 := K23.trans K25 (allS (Or.inl (List.mem_of_getElem? (i := 0) rfl)) (allS (Or.inl (List.mem_of_getElem? (i := 1) rfl)) all0))
  show Go p e below _ (T25.setTop (mkF m 48 #[.val (.ref a), .val (.int x)] []))
  have O25p : Fld Z T25.heap a "com/example/lacewing/lacewing/validation/IntStack" "size" "I" (.int (7 : Int32)) := O25
  have hv25 : vs25.length = 16 := by rw [e25, List.length_set]; exact hv21
  refine G.aloadN P25 d9_48 rfl rfl (pc' := 49) rfl ?_
  refine G.iloadN P25 d9_49 rfl (pc' := 50) rfl ?_
  refine G.bipush P25 d9_50 (z := (7 : Int32)) rfl (pc' := 52) rfl ?_
  refine G.iadd P25 d9_52 rfl (pc' := 53) rfl ?_
  have z28 : n0 ≤ Array.size T25.heap := (Nat.le_trans z24 K25.1)
  refine G.callV P25 (rmPush l Z a0 hw a b (x + (7 : Int32)) (7 : Int32) (16 : Int32) kk vs25 T25.heap n0 z28 g0 gb hab E25 B25 O25p V25 (by decide) (by decide) (by rw [hv25]; decide)) (wk hw 12 rfl) (wk hw 13 rfl) (wk hw 15 rfl) rfl (wk hw 14 rfl) (wk hw 2 rfl) (wk hw 16 rfl) (by decide) E25 pd_3 (argsL := [(.int (x + (7 : Int32)))]) (rest := []) rfl rfl rfl rfl (W := 0) (Nat.le_of_eq rfl) (by decide) d9_53 (pc' := 56) rfl fun T29 L29 v29 P29 Q29 => ?_
  obtain ⟨rfl, N29, K29, E29, B29, O29, vs29, e29, V29⟩ := Q29
  have N30 := Fr.app N26 N29
  have K31 := K27.trans K29 (allS (Or.inl (List.mem_of_getElem? (i := 0) rfl)) (allS (Or.inl (List.mem_of_getElem? (i := 1) rfl)) all0))
  show Go p e below _ (T29.setTop (mkF m 56 #[.val (.ref a), .val (.int x)] []))
  have O29p : Fld Z T29.heap a "com/example/lacewing/lacewing/validation/IntStack" "size" "I" (.int (8 : Int32)) := O29
  have hv29 : vs29.length = 16 := by rw [e29, List.length_set]; exact hv25
  exact G.retV P29 d9_56 (by decide) (by decide) ⟨rfl, N30, K31, E29, B29, O29p, _, hv29, V29⟩

theorem ef_rmP8_8 (m : MethodId) (a : Addr) (x : Int32) : entryFrame m #[(.ref a), (.int x)] 2 = mkF m 0 #[.val (.ref a), .val (.int x)] [] := by first | (simp [entryFrame, mkF, argsToLocals, Value.category]; done) | rfl
set_option maxRecDepth 65536 in
set_option maxHeartbeats 40000000 in
theorem rmP8_8 (l : Launch) (Z : State) (a0 : Array Value) (hw : ∀ d ∈ tables_1, d.before a0 Z = true) (a b : Addr) (x : Int32) (kk : ClassId) (vs : List Value) (h0 : Heap) (n0 : Nat) (Z0 : n0 ≤ Array.size h0) (g0 : n0 ≤ a) (gb : n0 ≤ b) (hab : a ≠ b) (E0 : Exa Z h0 a "com/example/lacewing/lacewing/validation/IntStack") (FV : Fld Z h0 a "com/example/lacewing/lacewing/validation/IntStack" "values" "[I" (.ref b)) (FS : Fld Z h0 a "com/example/lacewing/lacewing/validation/IntStack" "size" "I" (.int (8 : Int32))) (V : Arv Z h0 b kk .int (16 : Int32) vs (.int (0 : Int32))) (hv : vs.length = 16) :
    OMeets l Z y9 method_2_code 2 none ({ frames := 1, cells := 0, slots := 0, locals := 13 } : Room) #[(.ref a), (.int x)] h0 (fun v h L => v = none ∧ Fr n0 L ∧ Keep h0 h [a, b] ∧ Exa Z h a "com/example/lacewing/lacewing/validation/IntStack" ∧ Fld Z h a "com/example/lacewing/lacewing/validation/IntStack" "values" "[I" (.ref b) ∧ Fld Z h a "com/example/lacewing/lacewing/validation/IntStack" "size" "I" (.int (16 : Int32)) ∧ ∃ vs' : List Value, vs'.length = 16 ∧ Arv Z h b kk .int (16 : Int32) vs' (.int (0 : Int32))) := by
  refine met (Q := fun v h L => v = none ∧ Fr n0 L ∧ Keep h0 h [a, b] ∧ Exa Z h a "com/example/lacewing/lacewing/validation/IntStack" ∧ Fld Z h a "com/example/lacewing/lacewing/validation/IntStack" "values" "[I" (.ref b) ∧ Fld Z h a "com/example/lacewing/lacewing/validation/IntStack" "size" "I" (.int (16 : Int32)) ∧ ∃ vs' : List Value, vs'.length = 16 ∧ Arv Z h b kk .int (16 : Int32) vs' (.int (0 : Int32))) pf_9 (fun m => ef_rmP8_8 m a x) fun p e s m below meth c T0 P0 => ?_
  have N0 := Fr.nil n0
  have K0 := Keep.refl h0 [a, b]
  refine G.aloadN P0 d9_0 rfl rfl (pc' := 1) rfl ?_
  refine G.iloadN P0 d9_1 rfl (pc' := 2) rfl ?_
  refine G.callV P0 (rmPush l Z a0 hw a b x (8 : Int32) (16 : Int32) kk vs h0 n0 Z0 g0 gb hab E0 FV FS V (by decide) (by decide) (by rw [hv]; decide)) (wk hw 12 rfl) (wk hw 13 rfl) (wk hw 15 rfl) rfl (wk hw 14 rfl) (wk hw 2 rfl) (wk hw 16 rfl) (by decide) E0 pd_3 (argsL := [(.int x)]) (rest := []) rfl rfl rfl rfl (W := 0) (Nat.le_of_eq rfl) (by decide) d9_2 (pc' := 5) rfl fun T1 L1 v1 P1 Q1 => ?_
  obtain ⟨rfl, N1, K1, E1, B1, O1, vs1, e1, V1⟩ := Q1
  have N2 := Fr.app N0 N1
  have K3 := K0.trans K1 (allS (Or.inl (List.mem_of_getElem? (i := 0) rfl)) (allS (Or.inl (List.mem_of_getElem? (i := 1) rfl)) all0))
  show Go p e below _ (T1.setTop (mkF m 5 #[.val (.ref a), .val (.int x)] []))
  have O1p : Fld Z T1.heap a "com/example/lacewing/lacewing/validation/IntStack" "size" "I" (.int (9 : Int32)) := O1
  have hv1 : vs1.length = 16 := by rw [e1, List.length_set]; exact hv
  refine G.aloadN P1 d9_5 rfl rfl (pc' := 6) rfl ?_
  refine G.iloadN P1 d9_6 rfl (pc' := 7) rfl ?_
  refine G.iconst P1 d9_7 (z := (1 : Int32)) rfl (pc' := 8) rfl ?_
  refine G.iadd P1 d9_8 rfl (pc' := 9) rfl ?_
  have z4 : n0 ≤ Array.size T1.heap := (Nat.le_trans Z0 K1.1)
  refine G.callV P1 (rmPush l Z a0 hw a b (x + (1 : Int32)) (9 : Int32) (16 : Int32) kk vs1 T1.heap n0 z4 g0 gb hab E1 B1 O1p V1 (by decide) (by decide) (by rw [hv1]; decide)) (wk hw 12 rfl) (wk hw 13 rfl) (wk hw 15 rfl) rfl (wk hw 14 rfl) (wk hw 2 rfl) (wk hw 16 rfl) (by decide) E1 pd_3 (argsL := [(.int (x + (1 : Int32)))]) (rest := []) rfl rfl rfl rfl (W := 0) (Nat.le_of_eq rfl) (by decide) d9_9 (pc' := 12) rfl fun T5 L5 v5 P5 Q5 => ?_
  obtain ⟨rfl, N5, K5, E5, B5, O5, vs5, e5, V5⟩ := Q5
  have N6 := Fr.app N2 N5
  have K7 := K3.trans K5 (allS (Or.inl (List.mem_of_getElem? (i := 0) rfl)) (allS (Or.inl (List.mem_of_getElem? (i := 1) rfl)) all0))
  show Go p e below _ (T5.setTop (mkF m 12 #[.val (.ref a), .val (.int x)] []))
  have O5p : Fld Z T5.heap a "com/example/lacewing/lacewing/validation/IntStack" "size" "I" (.int (10 : Int32)) := O5
  have hv5 : vs5.length = 16 := by rw [e5, List.length_set]; exact hv1
  refine G.aloadN P5 d9_12 rfl rfl (pc' := 13) rfl ?_
  refine G.iloadN P5 d9_13 rfl (pc' := 14) rfl ?_
  refine G.iconst P5 d9_14 (z := (2 : Int32)) rfl (pc' := 15) rfl ?_
  refine G.iadd P5 d9_15 rfl (pc' := 16) rfl ?_
  have z8 : n0 ≤ Array.size T5.heap := (Nat.le_trans z4 K5.1)
  refine G.callV P5 (rmPush l Z a0 hw a b (x + (2 : Int32)) (10 : Int32) (16 : Int32) kk vs5 T5.heap n0 z8 g0 gb hab E5 B5 O5p V5 (by decide) (by decide) (by rw [hv5]; decide)) (wk hw 12 rfl) (wk hw 13 rfl) (wk hw 15 rfl) rfl (wk hw 14 rfl) (wk hw 2 rfl) (wk hw 16 rfl) (by decide) E5 pd_3 (argsL := [(.int (x + (2 : Int32)))]) (rest := []) rfl rfl rfl rfl (W := 0) (Nat.le_of_eq rfl) (by decide) d9_16 (pc' := 19) rfl fun T9 L9 v9 P9 Q9 => ?_
  obtain ⟨rfl, N9, K9, E9, B9, O9, vs9, e9, V9⟩ := Q9
  have N10 := Fr.app N6 N9
  have K11 := K7.trans K9 (allS (Or.inl (List.mem_of_getElem? (i := 0) rfl)) (allS (Or.inl (List.mem_of_getElem? (i := 1) rfl)) all0))
  show Go p e below _ (T9.setTop (mkF m 19 #[.val (.ref a), .val (.int x)] []))
  have O9p : Fld Z T9.heap a "com/example/lacewing/lacewing/validation/IntStack" "size" "I" (.int (11 : Int32)) := O9
  have hv9 : vs9.length = 16 := by rw [e9, List.length_set]; exact hv5
  refine G.aloadN P9 d9_19 rfl rfl (pc' := 20) rfl ?_
  refine G.iloadN P9 d9_20 rfl (pc' := 21) rfl ?_
  refine G.iconst P9 d9_21 (z := (3 : Int32)) rfl (pc' := 22) rfl ?_
  refine G.iadd P9 d9_22 rfl (pc' := 23) rfl ?_
  have z12 : n0 ≤ Array.size T9.heap := (Nat.le_trans z8 K9.1)
  refine G.callV P9 (rmPush l Z a0 hw a b (x + (3 : Int32)) (11 : Int32) (16 : Int32) kk vs9 T9.heap n0 z12 g0 gb hab E9 B9 O9p V9 (by decide) (by decide) (by rw [hv9]; decide)) (wk hw 12 rfl) (wk hw 13 rfl) (wk hw 15 rfl) rfl (wk hw 14 rfl) (wk hw 2 rfl) (wk hw 16 rfl) (by decide) E9 pd_3 (argsL := [(.int (x + (3 : Int32)))]) (rest := []) rfl rfl rfl rfl (W := 0) (Nat.le_of_eq rfl) (by decide) d9_23 (pc' := 26) rfl fun T13 L13 v13 P13 Q13 => ?_
  obtain ⟨rfl, N13, K13, E13, B13, O13, vs13, e13, V13⟩ := Q13
  have N14 := Fr.app N10 N13
  have K15 := K11.trans K13 (allS (Or.inl (List.mem_of_getElem? (i := 0) rfl)) (allS (Or.inl (List.mem_of_getElem? (i := 1) rfl)) all0))
  show Go p e below _ (T13.setTop (mkF m 26 #[.val (.ref a), .val (.int x)] []))
  have O13p : Fld Z T13.heap a "com/example/lacewing/lacewing/validation/IntStack" "size" "I" (.int (12 : Int32)) := O13
  have hv13 : vs13.length = 16 := by rw [e13, List.length_set]; exact hv9
  refine G.aloadN P13 d9_26 rfl rfl (pc' := 27) rfl ?_
  refine G.iloadN P13 d9_27 rfl (pc' := 28) rfl ?_
  refine G.iconst P13 d9_28 (z := (4 : Int32)) rfl (pc' := 29) rfl ?_
  refine G.iadd P13 d9_29 rfl (pc' := 30) rfl ?_
  have z16 : n0 ≤ Array.size T13.heap := (Nat.le_trans z12 K13.1)
  refine G.callV P13 (rmPush l Z a0 hw a b (x + (4 : Int32)) (12 : Int32) (16 : Int32) kk vs13 T13.heap n0 z16 g0 gb hab E13 B13 O13p V13 (by decide) (by decide) (by rw [hv13]; decide)) (wk hw 12 rfl) (wk hw 13 rfl) (wk hw 15 rfl) rfl (wk hw 14 rfl) (wk hw 2 rfl) (wk hw 16 rfl) (by decide) E13 pd_3 (argsL := [(.int (x + (4 : Int32)))]) (rest := []) rfl rfl rfl rfl (W := 0) (Nat.le_of_eq rfl) (by decide) d9_30 (pc' := 33) rfl fun T17 L17 v17 P17 Q17 => ?_
  obtain ⟨rfl, N17, K17, E17, B17, O17, vs17, e17, V17⟩ := Q17
  have N18 := Fr.app N14 N17
  have K19 := K15.trans K17 (allS (Or.inl (List.mem_of_getElem? (i := 0) rfl)) (allS (Or.inl (List.mem_of_getElem? (i := 1) rfl)) all0))
  show Go p e below _ (T17.setTop (mkF m 33 #[.val (.ref a), .val (.int x)] []))
  have O17p : Fld Z T17.heap a "com/example/lacewing/lacewing/validation/IntStack" "size" "I" (.int (13 : Int32)) := O17
  have hv17 : vs17.length = 16 := by rw [e17, List.length_set]; exact hv13
  refine G.aloadN P17 d9_33 rfl rfl (pc' := 34) rfl ?_
  refine G.iloadN P17 d9_34 rfl (pc' := 35) rfl ?_
  refine G.iconst P17 d9_35 (z := (5 : Int32)) rfl (pc' := 36) rfl ?_
  refine G.iadd P17 d9_36 rfl (pc' := 37) rfl ?_
  have z20 : n0 ≤ Array.size T17.heap := (Nat.le_trans z16 K17.1)
  refine G.callV P17 (rmPush l Z a0 hw a b (x + (5 : Int32)) (13 : Int32) (16 : Int32) kk vs17 T17.heap n0 z20 g0 gb hab E17 B17 O17p V17 (by decide) (by decide) (by rw [hv17]; decide)) (wk hw 12 rfl) (wk hw 13 rfl) (wk hw 15 rfl) rfl (wk hw 14 rfl) (wk hw 2 rfl) (wk hw 16 rfl) (by decide) E17 pd_3 (argsL := [(.int (x + (5 : Int32)))]) (rest := []) rfl rfl rfl rfl (W := 0) (Nat.le_of_eq rfl) (by decide) d9_37 (pc' := 40) rfl fun T21 L21 v21 P21 Q21 => ?_
  obtain ⟨rfl, N21, K21, E21, B21, O21, vs21, e21, V21⟩ := Q21
  have N22 := Fr.app N18 N21
  have K23 := K19.trans K21 (allS (Or.inl (List.mem_of_getElem? (i := 0) rfl)) (allS (Or.inl (List.mem_of_getElem? (i := 1) rfl)) all0))
  show Go p e below _ (T21.setTop (mkF m 40 #[.val (.ref a), .val (.int x)] []))
  have O21p : Fld Z T21.heap a "com/example/lacewing/lacewing/validation/IntStack" "size" "I" (.int (14 : Int32)) := O21
  have hv21 : vs21.length = 16 := by rw [e21, List.length_set]; exact hv17
  refine G.aloadN P21 d9_40 rfl rfl (pc' := 41) rfl ?_
  refine G.iloadN P21 d9_41 rfl (pc' := 42) rfl ?_
  refine G.bipush P21 d9_42 (z := (6 : Int32)) rfl (pc' := 44) rfl ?_
  refine G.iadd P21 d9_44 rfl (pc' := 45) rfl ?_
  have z24 : n0 ≤ Array.size T21.heap := (Nat.le_trans z20 K21.1)
  refine G.callV P21 (rmPush l Z a0 hw a b (x + (6 : Int32)) (14 : Int32) (16 : Int32) kk vs21 T21.heap n0 z24 g0 gb hab E21 B21 O21p V21 (by decide) (by decide) (by rw [hv21]; decide)) (wk hw 12 rfl) (wk hw 13 rfl) (wk hw 15 rfl) rfl (wk hw 14 rfl) (wk hw 2 rfl) (wk hw 16 rfl) (by decide) E21 pd_3 (argsL := [(.int (x + (6 : Int32)))]) (rest := []) rfl rfl rfl rfl (W := 0) (Nat.le_of_eq rfl) (by decide) d9_45 (pc' := 48) rfl fun T25 L25 v25 P25 Q25 => ?_
  obtain ⟨rfl, N25, K25, E25, B25, O25, vs25, e25, V25⟩ := Q25
  have N26 := Fr.app N22 N25
  have K27 := K23.trans K25 (allS (Or.inl (List.mem_of_getElem? (i := 0) rfl)) (allS (Or.inl (List.mem_of_getElem? (i := 1) rfl)) all0))
  show Go p e below _ (T25.setTop (mkF m 48 #[.val (.ref a), .val (.int x)] []))
  have O25p : Fld Z T25.heap a "com/example/lacewing/lacewing/validation/IntStack" "size" "I" (.int (15 : Int32)) := O25
  have hv25 : vs25.length = 16 := by rw [e25, List.length_set]; exact hv21
  refine G.aloadN P25 d9_48 rfl rfl (pc' := 49) rfl ?_
  refine G.iloadN P25 d9_49 rfl (pc' := 50) rfl ?_
  refine G.bipush P25 d9_50 (z := (7 : Int32)) rfl (pc' := 52) rfl ?_
  refine G.iadd P25 d9_52 rfl (pc' := 53) rfl ?_
  have z28 : n0 ≤ Array.size T25.heap := (Nat.le_trans z24 K25.1)
  refine G.callV P25 (rmPush l Z a0 hw a b (x + (7 : Int32)) (15 : Int32) (16 : Int32) kk vs25 T25.heap n0 z28 g0 gb hab E25 B25 O25p V25 (by decide) (by decide) (by rw [hv25]; decide)) (wk hw 12 rfl) (wk hw 13 rfl) (wk hw 15 rfl) rfl (wk hw 14 rfl) (wk hw 2 rfl) (wk hw 16 rfl) (by decide) E25 pd_3 (argsL := [(.int (x + (7 : Int32)))]) (rest := []) rfl rfl rfl rfl (W := 0) (Nat.le_of_eq rfl) (by decide) d9_53 (pc' := 56) rfl fun T29 L29 v29 P29 Q29 => ?_
  obtain ⟨rfl, N29, K29, E29, B29, O29, vs29, e29, V29⟩ := Q29
  have N30 := Fr.app N26 N29
  have K31 := K27.trans K29 (allS (Or.inl (List.mem_of_getElem? (i := 0) rfl)) (allS (Or.inl (List.mem_of_getElem? (i := 1) rfl)) all0))
  show Go p e below _ (T29.setTop (mkF m 56 #[.val (.ref a), .val (.int x)] []))
  have O29p : Fld Z T29.heap a "com/example/lacewing/lacewing/validation/IntStack" "size" "I" (.int (16 : Int32)) := O29
  have hv29 : vs29.length = 16 := by rw [e29, List.length_set]; exact hv25
  exact G.retV P29 d9_56 (by decide) (by decide) ⟨rfl, N30, K31, E29, B29, O29p, _, hv29, V29⟩

def own_min (x y : Int32) : Int32 := if y < x then y else x

theorem ef_rmMin (m : MethodId) (x0 x1 : Int32) : entryFrame m #[(.int x0), (.int x1)] 2 = mkF m 0 #[.val (.int x0), .val (.int x1)] [] := by first | (simp [entryFrame, mkF, argsToLocals, Value.category]; done) | rfl
set_option maxRecDepth 65536 in
set_option maxHeartbeats 40000000 in
theorem rmMin (l : Launch) (Z : State) (a0 : Array Value) (hw : ∀ d ∈ tables_1, d.before a0 Z = true) (x0 x1 : Int32) (h0 : Heap) :
    OMeets l Z y11 jdk_29_method_69_code 2 (some .int) ({ frames := 0, cells := 0, slots := 0, locals := 0 } : Room) #[(.int x0), (.int x1)] h0 (OPure (some (.int (own_min x0 x1))) h0) := by
  refine met (Q := OPure (some (.int (own_min x0 x1))) h0) pf_11 (fun m => ef_rmMin m x0 x1) fun p e s m below meth c T0 P0 => ?_
  refine G.iloadN P0 d11_0 rfl (pc' := 1) rfl ?_
  refine G.iloadN P0 d11_1 rfl (pc' := 2) rfl ?_
  refine G.icmp_gt P0 d11_2 (by decide) (pcY := 9) (by decide) (pcN := 5) rfl (fun c1 => ?_) (fun c1 => ?_)
  · --
    refine G.iloadN P0 d11_9 rfl (pc' := 10) rfl ?_
    have e_ : x1 = own_min x0 x1 := (if_pos c1).symm
    exact G.retI P0 d11_10 (by decide) (by decide) ⟨sI e_, rfl, rfl⟩
  · --
    refine G.iloadN P0 d11_5 rfl (pc' := 6) rfl ?_
    refine G.goto P0 d11_6 (by decide) (pc' := 10) (by decide) ?_
    have e_ : x0 = own_min x0 x1 := (if_neg c1).symm
    exact G.retI P0 d11_10 (by decide) (by decide) ⟨sI e_, rfl, rfl⟩

theorem ef_rmCopy (m : MethodId) (b : Addr) : entryFrame m #[(.ref b), (.int (32 : Int32))] 3 = mkF m 0 #[.val (.ref b), .val (.int (32 : Int32)), .unset] [] := by first | (simp [entryFrame, mkF, argsToLocals, Value.category]; done) | rfl
set_option maxRecDepth 65536 in
set_option maxHeartbeats 40000000 in
theorem rmCopy (l : Launch) (Z : State) (a0 : Array Value) (hw : ∀ d ∈ tables_1, d.before a0 Z = true) (b : Addr) (kk : ClassId) (vs : List Value) (h0 : Heap) (n0 : Nat) (Z0 : n0 ≤ Array.size h0) (gb : n0 ≤ b) (V : Arv Z h0 b kk .int (16 : Int32) vs (.int (0 : Int32))) :
    OMeets l Z y10 jdk_65_method_123_code 3 (some (.array .int)) ({ frames := 1, cells := 1, slots := 32, locals := 18 } : Room) #[(.ref b), (.int (32 : Int32))] h0 (fun v h L => ∃ c kk', ∃ vs' : List Value, v = some (.ref c) ∧ Fr n0 L ∧ Keep h0 h [] ∧ n0 ≤ c ∧ h0.size ≤ c ∧ vs'.length = 32 ∧ Arv Z h c kk' .int (32 : Int32) vs' (.int (0 : Int32))) := by
  refine met (Q := fun v h L => ∃ c kk', ∃ vs' : List Value, v = some (.ref c) ∧ Fr n0 L ∧ Keep h0 h [] ∧ n0 ≤ c ∧ h0.size ≤ c ∧ vs'.length = 32 ∧ Arv Z h c kk' .int (32 : Int32) vs' (.int (0 : Int32))) pf_10 (fun m => ef_rmCopy m b) fun p e s m below meth c T0 P0 => ?_
  have N0 := Fr.nil n0
  have K0 := Keep.refl h0 []
  refine G.iloadN P0 d10_0 rfl (pc' := 1) rfl ?_
  refine G.aloadN P0 d10_1 rfl rfl (pc' := 2) rfl ?_
  refine G.alen P0 V d10_2 (pc' := 3) rfl ?_
  refine G.icmp_ne P0 d10_3 (by decide) (pcY := 14) (by decide) (pcN := 6) rfl (fun c1 => ?_) (fun c1 => absurd c1 (by decide))
  refine G.iloadN P0 d10_14 rfl (pc' := 15) rfl ?_
  refine G.newP P0 (wk hw 9 rfl) (by decide) (cap := 32) (by decide) (by decide) (by decide) d10_15 (pc' := 17) rfl fun T2 h2 a2 k2 g2 P2 E2 V2 => ?_
  have n3 : b ≠ a2 := by rw [g2]; exact Nat.ne_of_lt V.lt
  have g4 : n0 ≤ a2 := by rw [g2]; exact Z0
  have q2 := (Nat.le_trans K0.1 (Nat.le_of_eq g2.symm))
  have K5 := K0.ext E2
  have V2p : Arv Z h2 a2 k2 .int (32 : Int32) [(.int (0 : Int32)), (.int (0 : Int32)), (.int (0 : Int32)), (.int (0 : Int32)), (.int (0 : Int32)), (.int (0 : Int32)), (.int (0 : Int32)), (.int (0 : Int32)), (.int (0 : Int32)), (.int (0 : Int32)), (.int (0 : Int32)), (.int (0 : Int32)), (.int (0 : Int32)), (.int (0 : Int32)), (.int (0 : Int32)), (.int (0 : Int32)), (.int (0 : Int32)), (.int (0 : Int32)), (.int (0 : Int32)), (.int (0 : Int32)), (.int (0 : Int32)), (.int (0 : Int32)), (.int (0 : Int32)), (.int (0 : Int32)), (.int (0 : Int32)), (.int (0 : Int32)), (.int (0 : Int32)), (.int (0 : Int32)), (.int (0 : Int32)), (.int (0 : Int32)), (.int (0 : Int32)), (.int (0 : Int32))] (.int (0 : Int32)) := V2.pad (pad_rep [] _ 32)
  refine G.astoreN P2 d10_17 rfl (l' := #[.val (.ref b), .val (.int (32 : Int32)), .val (.ref a2)]) rfl (pc' := 18) rfl ?_
  refine G.aloadN P2 d10_18 rfl rfl (pc' := 19) rfl ?_
  refine G.iconst P2 d10_19 (z := (0 : Int32)) rfl (pc' := 20) rfl ?_
  refine G.aloadN P2 d10_20 rfl rfl (pc' := 21) rfl ?_
  refine G.iconst P2 d10_21 (z := (0 : Int32)) rfl (pc' := 22) rfl ?_
  refine G.aloadN P2 d10_22 rfl rfl (pc' := 23) rfl ?_
  have f6 := (V.ext E2)
  refine G.alen P2 f6 d10_23 (pc' := 24) rfl ?_
  refine G.iloadN P2 d10_24 rfl (pc' := 25) rfl ?_
  refine G.callSP P2 (rmMin l Z a0 hw (16 : Int32) (32 : Int32) h2) (wk hw 52 rfl) (wk hw 53 rfl) (wk hw 54 rfl) (wk hw 55 rfl) (by decide) pd_11 (argsL := [(.int (16 : Int32)), (.int (32 : Int32))]) (rest := [(.int (0 : Int32)), (.ref a2), (.int (0 : Int32)), (.ref b)]) rfl rfl rfl rfl (W := 4) (Nat.le_of_eq rfl) (by decide) d10_25 (pc' := 28) rfl fun T7 P7 => ?_
  show Go p e below _ (T7.setTop (mkF m 28 #[.val (.ref b), .val (.int (32 : Int32)), .val (.ref a2)] [(.int (own_min (16 : Int32) (32 : Int32))), (.int (0 : Int32)), (.ref a2), (.int (0 : Int32)), (.ref b)]))
  rw [show own_min (16 : Int32) (32 : Int32) = (16 : Int32) from by decide]
  refine G.acopy P7 (wk hw 56 rfl) (wk hw 59 rfl) (wk hw 57 rfl) (wk hw 58 rfl) f6 V2p (sp := (0 : Int32)) (dp := (0 : Int32)) (nn := (16 : Int32)) (Or.inl ⟨rfl, rfl⟩) (by decide) (by decide) (by decide) (by decide) (by decide) rfl (by decide) N0 g4 rfl (W := 0) (Nat.le_of_eq rfl) (by decide) d10_28 (pc' := 31) rfl fun T8 h8 L8 P8 N8 K8 V8 => ?_
  have K9 := K5.trans K8 (allS (Or.inr q2) all0)
  refine G.aloadN P8 d10_31 rfl rfl (pc' := 32) rfl ?_
  exact G.retA P8 rfl rfl rfl d10_32 (by decide) (by decide) ⟨_, _, _, rfl, N8, K9, g4, q2, (by first | rfl | simp), V8⟩

theorem ef_rmGrow (m : MethodId) (a : Addr) (x : Int32) : entryFrame m #[(.ref a), (.int x)] 2 = mkF m 0 #[.val (.ref a), .val (.int x)] [] := by first | (simp [entryFrame, mkF, argsToLocals, Value.category]; done) | rfl
set_option maxRecDepth 65536 in
set_option maxHeartbeats 40000000 in
theorem rmGrow (l : Launch) (Z : State) (a0 : Array Value) (hw : ∀ d ∈ tables_1, d.before a0 Z = true) (a b : Addr) (x : Int32) (kk : ClassId) (vs : List Value) (h0 : Heap) (n0 : Nat) (Z0 : n0 ≤ Array.size h0) (g0 : n0 ≤ a) (gb : n0 ≤ b) (hab : a ≠ b) (E0 : Exa Z h0 a "com/example/lacewing/lacewing/validation/IntStack") (FV : Fld Z h0 a "com/example/lacewing/lacewing/validation/IntStack" "values" "[I" (.ref b)) (FS : Fld Z h0 a "com/example/lacewing/lacewing/validation/IntStack" "size" "I" (.int (16 : Int32))) (V : Arv Z h0 b kk .int (16 : Int32) vs (.int (0 : Int32))) :
    OMeets l Z y3 prog_122_method_2_code 2 none ({ frames := 2, cells := 1, slots := 32, locals := 33 } : Room) #[(.ref a), (.int x)] h0 (fun v h L => v = none ∧ Fr n0 L ∧ Keep h0 h [a] ∧ Exa Z h a "com/example/lacewing/lacewing/validation/IntStack" ∧ ∃ c kk', ∃ vs' : List Value, n0 ≤ c ∧ a ≠ c ∧ Fld Z h a "com/example/lacewing/lacewing/validation/IntStack" "values" "[I" (.ref c) ∧ Fld Z h a "com/example/lacewing/lacewing/validation/IntStack" "size" "I" (.int (17 : Int32)) ∧ Arv Z h c kk' .int (32 : Int32) vs' (.int (0 : Int32))) := by
  refine met (Q := fun v h L => v = none ∧ Fr n0 L ∧ Keep h0 h [a] ∧ Exa Z h a "com/example/lacewing/lacewing/validation/IntStack" ∧ ∃ c kk', ∃ vs' : List Value, n0 ≤ c ∧ a ≠ c ∧ Fld Z h a "com/example/lacewing/lacewing/validation/IntStack" "values" "[I" (.ref c) ∧ Fld Z h a "com/example/lacewing/lacewing/validation/IntStack" "size" "I" (.int (17 : Int32)) ∧ Arv Z h c kk' .int (32 : Int32) vs' (.int (0 : Int32))) pf_3 (fun m => ef_rmGrow m a x) fun p e s m below meth c T0 P0 => ?_
  have N0 := Fr.nil n0
  have K0 := Keep.refl h0 [a]
  refine G.aloadN P0 d3_0 rfl rfl (pc' := 1) rfl ?_
  refine G.getF P0 (host := "") (Or.inl (wk hw 17 rfl)) Via.refl FS d3_1 (pc' := 4) rfl fun T1 P1 => ?_
  refine G.aloadN P1 d3_4 rfl rfl (pc' := 5) rfl ?_
  refine G.getF P1 (host := "") (Or.inl (wk hw 10 rfl)) Via.refl FV d3_5 (pc' := 8) rfl fun T2 P2 => ?_
  refine G.alen P2 V d3_8 (pc' := 9) rfl ?_
  refine G.icmp_ne P2 d3_9 (by decide) (pcY := 29) (by decide) (pcN := 12) rfl (fun c3 => absurd c3 (by decide)) (fun c3 => ?_)
  refine G.aloadN P2 d3_12 rfl rfl (pc' := 13) rfl ?_
  refine G.aloadN P2 d3_13 rfl rfl (pc' := 14) rfl ?_
  refine G.getF P2 (host := "") (Or.inl (wk hw 10 rfl)) Via.refl FV d3_14 (pc' := 17) rfl fun T4 P4 => ?_
  refine G.iconst P4 d3_17 (z := (2 : Int32)) rfl (pc' := 18) rfl ?_
  refine G.aloadN P4 d3_18 rfl rfl (pc' := 19) rfl ?_
  refine G.getF P4 (host := "") (Or.inl (wk hw 17 rfl)) Via.refl FS d3_19 (pc' := 22) rfl fun T5 P5 => ?_
  refine G.imul P5 d3_22 (z := (32 : Int32)) (by decide) (pc' := 23) rfl ?_
  refine G.callS P5 (rmCopy l Z a0 hw b kk vs h0 n0 Z0 gb V) (wk hw 48 rfl) (wk hw 49 rfl) (wk hw 50 rfl) (wk hw 51 rfl) (by decide) pd_10 (argsL := [(.ref b), (.int (32 : Int32))]) (rest := [(.ref a)]) rfl rfl rfl rfl (W := 1) (Nat.le_of_eq rfl) (by decide) d3_23 (pc' := 26) rfl fun T6 L6 v6 P6 Q6 => ?_
  obtain ⟨c6, kk6, vs6, rfl, N6, K6, gc6, hc6, hl6, V6⟩ := Q6
  have N7 := Fr.app N0 N6
  have K8 := K0.trans K6 all0
  show Go p e below _ (T6.setTop (mkF m 26 #[.val (.ref a), .val (.int x)] [(.ref c6), (.ref a)]))
  have nac : a ≠ c6 := Nat.ne_of_lt (Nat.lt_of_lt_of_le E0.lt hc6)
  have f9 := (FV.keep K6 nin0)
  have f10 := (E0.keep K6)
  refine G.putF P6 (host := "") (Or.inl (wk hw 10 rfl)) Via.refl f9 f10 (Or.inl (wk hw 11 rfl)) (wk hw 1 rfl) (ty := (.array .int)) (by decide) rfl rfl d3_26 (pc' := 29) rfl fun T11 h11 P11 W11 => ?_
  have f11 := f9.same W11
  have N12 := Fr.snoc P11.st N7 g0
  have K13 := K8.wr W11 (Or.inl (List.mem_of_getElem? (i := 0) rfl))
  refine G.aloadN P11 d3_29 rfl rfl (pc' := 30) rfl ?_
  refine G.getF P11 (host := "") (Or.inl (wk hw 10 rfl)) Via.refl f11 d3_30 (pc' := 33) rfl fun T14 P14 => ?_
  refine G.aloadN P14 d3_33 rfl rfl (pc' := 34) rfl ?_
  have f15 := ((FS.keep K6 nin0).other W11 (Or.inr (slot_ne (Or.inl (wk hw 18 rfl)) (Or.inl (wk hw 11 rfl)) (by decide) (t := .int) (t' := (.array .int)) (by decide) (by decide))))
  refine G.getF P14 (host := "") (Or.inl (wk hw 17 rfl)) Via.refl f15 d3_34 (pc' := 37) rfl fun T16 P16 => ?_
  refine G.iloadN P16 d3_37 rfl (pc' := 38) rfl ?_
  have f17 := (V6.other W11 (Ne.symm nac))
  refine G.stI P16 f17 (16) rfl (by decide) (by rw [hl6]; decide) d3_38 (pc' := 39) rfl fun T18 h18 P18 W18 V18 => ?_
  have N19 := Fr.snoc P18.st N12 gc6
  have K20 := K13.wr W18 (Or.inr hc6)
  refine G.aloadN P18 d3_39 rfl rfl (pc' := 40) rfl ?_
  refine G.dup P18 d3_40 rfl (pc' := 41) rfl ?_
  have f21 := (f15.other W18 (Or.inl nac))
  refine G.getF P18 (host := "") (Or.inl (wk hw 17 rfl)) Via.refl f21 d3_41 (pc' := 44) rfl fun T22 P22 => ?_
  refine G.iconst P22 d3_44 (z := (1 : Int32)) rfl (pc' := 45) rfl ?_
  refine G.iadd P22 d3_45 (z := (17 : Int32)) (by decide) (pc' := 46) rfl ?_
  have f23 := ((f10.wr W11).wr W18)
  refine G.putF P22 (host := "") (Or.inl (wk hw 17 rfl)) Via.refl f21 f23 (Or.inl (wk hw 18 rfl)) (wk hw 1 rfl) (ty := .int) (by decide) rfl rfl d3_46 (pc' := 49) rfl fun T24 h24 P24 W24 => ?_
  have f24 := f21.same W24
  have N25 := Fr.snoc P24.st N19 g0
  have K26 := K20.wr W24 (Or.inl (List.mem_of_getElem? (i := 0) rfl))
  have f27 := (f23.wr W24)
  have f28 := ((f11.other W18 (Or.inl nac)).other W24 (Or.inr (slot_ne (Or.inl (wk hw 11 rfl)) (Or.inl (wk hw 18 rfl)) (by decide) (t := (.array .int)) (t' := .int) (by decide) (by decide))))
  have f29 := (V18.other W24 (Ne.symm nac))
  exact G.retV P24 d3_49 (by decide) (by decide) ⟨rfl, N25, K26, f27, _, _, _, gc6, nac, f28, f24, f29⟩

theorem ef_rmKeepS (m : MethodId) (a : Addr) : entryFrame m #[(.ref a)] 1 = mkF m 0 #[.val (.ref a)] [] := by first | (simp [entryFrame, mkF, argsToLocals, Value.category]; done) | rfl
set_option maxRecDepth 65536 in
set_option maxHeartbeats 40000000 in
theorem rmKeepS (l : Launch) (Z : State) (a0 : Array Value) (hw : ∀ d ∈ tables_1, d.before a0 Z = true) (a b : Addr) (sz : Int32) (kk : ClassId) (vs : List Value) (h0 : Heap) (n0 : Nat) (Z0 : n0 ≤ Array.size h0) (g0 : n0 ≤ a) (gb : n0 ≤ b) (hab : a ≠ b) (E0 : Exa Z h0 a "com/example/lacewing/lacewing/validation/IntStack") (FV : Fld Z h0 a "com/example/lacewing/lacewing/validation/IntStack" "values" "[I" (.ref b)) (FS : Fld Z h0 a "com/example/lacewing/lacewing/validation/IntStack" "size" "I" (.int sz)) (V : Arv Z h0 b kk .int (16 : Int32) vs (.int (0 : Int32))) :
    OMeets l Z y5 prog_122_method_8_code 1 none ({ frames := 0, cells := 0, slots := 0, locals := 0 } : Room) #[(.ref a)] h0 (fun v h L => v = none ∧ Fr n0 L ∧ Keep h0 h [a] ∧ Exa Z h a "com/example/lacewing/lacewing/validation/IntStack" ∧ Fld Z h a "com/example/lacewing/lacewing/validation/IntStack" "values" "[I" (.ref b) ∧ Fld Z h a "com/example/lacewing/lacewing/validation/IntStack" "size" "I" (.int (0 : Int32))) := by
  refine met (Q := fun v h L => v = none ∧ Fr n0 L ∧ Keep h0 h [a] ∧ Exa Z h a "com/example/lacewing/lacewing/validation/IntStack" ∧ Fld Z h a "com/example/lacewing/lacewing/validation/IntStack" "values" "[I" (.ref b) ∧ Fld Z h a "com/example/lacewing/lacewing/validation/IntStack" "size" "I" (.int (0 : Int32))) pf_5 (fun m => ef_rmKeepS m a) fun p e s m below meth c T0 P0 => ?_
  have N0 := Fr.nil n0
  have K0 := Keep.refl h0 [a]
  refine G.aloadN P0 d5_0 rfl rfl (pc' := 1) rfl ?_
  refine G.iconst P0 d5_1 (z := (0 : Int32)) rfl (pc' := 2) rfl ?_
  refine G.putF P0 (host := "") (Or.inl (wk hw 17 rfl)) Via.refl FS E0 (Or.inl (wk hw 18 rfl)) (wk hw 1 rfl) (ty := .int) (by decide) rfl rfl d5_2 (pc' := 5) rfl fun T1 h1 P1 W1 => ?_
  have f1 := FS.same W1
  have N2 := Fr.snoc P1.st N0 g0
  have K3 := K0.wr W1 (Or.inl (List.mem_of_getElem? (i := 0) rfl))
  refine G.aloadN P1 d5_5 rfl rfl (pc' := 6) rfl ?_
  have f4 := (FV.other W1 (Or.inr (slot_ne (Or.inl (wk hw 11 rfl)) (Or.inl (wk hw 18 rfl)) (by decide) (t := (.array .int)) (t' := .int) (by decide) (by decide))))
  refine G.getF P1 (host := "") (Or.inl (wk hw 10 rfl)) Via.refl f4 d5_6 (pc' := 9) rfl fun T5 P5 => ?_
  have f6 := (V.other W1 (Ne.symm hab))
  refine G.alen P5 f6 d5_9 (pc' := 10) rfl ?_
  refine G.bipush P5 d5_10 (z := (16 : Int32)) rfl (pc' := 12) rfl ?_
  refine G.icmp_le P5 d5_12 (by decide) (pcY := 23) (by decide) (pcN := 15) rfl (fun c7 => ?_) (fun c7 => absurd c7 (by decide))
  have f8 := (E0.wr W1)
  exact G.retV P5 d5_23 (by decide) (by decide) ⟨rfl, N2, K3, f8, f4, f1⟩

theorem ef_rmKeepG (m : MethodId) (a : Addr) : entryFrame m #[(.ref a)] 1 = mkF m 0 #[.val (.ref a)] [] := by first | (simp [entryFrame, mkF, argsToLocals, Value.category]; done) | rfl
set_option maxRecDepth 65536 in
set_option maxHeartbeats 40000000 in
theorem rmKeepG (l : Launch) (Z : State) (a0 : Array Value) (hw : ∀ d ∈ tables_1, d.before a0 Z = true) (a b : Addr) (sz : Int32) (kk : ClassId) (vs : List Value) (h0 : Heap) (n0 : Nat) (Z0 : n0 ≤ Array.size h0) (g0 : n0 ≤ a) (gb : n0 ≤ b) (hab : a ≠ b) (E0 : Exa Z h0 a "com/example/lacewing/lacewing/validation/IntStack") (FV : Fld Z h0 a "com/example/lacewing/lacewing/validation/IntStack" "values" "[I" (.ref b)) (FS : Fld Z h0 a "com/example/lacewing/lacewing/validation/IntStack" "size" "I" (.int sz)) (V : Arv Z h0 b kk .int (32 : Int32) vs (.int (0 : Int32))) :
    OMeets l Z y5 prog_122_method_8_code 1 none ({ frames := 0, cells := 1, slots := 16, locals := 0 } : Room) #[(.ref a)] h0 (fun v h L => v = none ∧ Fr n0 L ∧ Keep h0 h [a] ∧ Exa Z h a "com/example/lacewing/lacewing/validation/IntStack" ∧ ∃ c kk', ∃ vs' : List Value, n0 ≤ c ∧ a ≠ c ∧ Fld Z h a "com/example/lacewing/lacewing/validation/IntStack" "values" "[I" (.ref c) ∧ Fld Z h a "com/example/lacewing/lacewing/validation/IntStack" "size" "I" (.int (0 : Int32)) ∧ vs'.length = 16 ∧ Arv Z h c kk' .int (16 : Int32) vs' (.int (0 : Int32))) := by
  refine met (Q := fun v h L => v = none ∧ Fr n0 L ∧ Keep h0 h [a] ∧ Exa Z h a "com/example/lacewing/lacewing/validation/IntStack" ∧ ∃ c kk', ∃ vs' : List Value, n0 ≤ c ∧ a ≠ c ∧ Fld Z h a "com/example/lacewing/lacewing/validation/IntStack" "values" "[I" (.ref c) ∧ Fld Z h a "com/example/lacewing/lacewing/validation/IntStack" "size" "I" (.int (0 : Int32)) ∧ vs'.length = 16 ∧ Arv Z h c kk' .int (16 : Int32) vs' (.int (0 : Int32))) pf_5 (fun m => ef_rmKeepG m a) fun p e s m below meth c T0 P0 => ?_
  have N0 := Fr.nil n0
  have K0 := Keep.refl h0 [a]
  refine G.aloadN P0 d5_0 rfl rfl (pc' := 1) rfl ?_
  refine G.iconst P0 d5_1 (z := (0 : Int32)) rfl (pc' := 2) rfl ?_
  refine G.putF P0 (host := "") (Or.inl (wk hw 17 rfl)) Via.refl FS E0 (Or.inl (wk hw 18 rfl)) (wk hw 1 rfl) (ty := .int) (by decide) rfl rfl d5_2 (pc' := 5) rfl fun T1 h1 P1 W1 => ?_
  have f1 := FS.same W1
  have N2 := Fr.snoc P1.st N0 g0
  have K3 := K0.wr W1 (Or.inl (List.mem_of_getElem? (i := 0) rfl))
  refine G.aloadN P1 d5_5 rfl rfl (pc' := 6) rfl ?_
  have f4 := (FV.other W1 (Or.inr (slot_ne (Or.inl (wk hw 11 rfl)) (Or.inl (wk hw 18 rfl)) (by decide) (t := (.array .int)) (t' := .int) (by decide) (by decide))))
  refine G.getF P1 (host := "") (Or.inl (wk hw 10 rfl)) Via.refl f4 d5_6 (pc' := 9) rfl fun T5 P5 => ?_
  have f6 := (V.other W1 (Ne.symm hab))
  refine G.alen P5 f6 d5_9 (pc' := 10) rfl ?_
  refine G.bipush P5 d5_10 (z := (16 : Int32)) rfl (pc' := 12) rfl ?_
  refine G.icmp_le P5 d5_12 (by decide) (pcY := 23) (by decide) (pcN := 15) rfl (fun c7 => absurd c7 (by decide)) (fun c7 => ?_)
  refine G.aloadN P5 d5_15 rfl rfl (pc' := 16) rfl ?_
  refine G.bipush P5 d5_16 (z := (16 : Int32)) rfl (pc' := 18) rfl ?_
  have f8 := (E0.wr W1)
  have z9 : n0 ≤ Array.size h1 := (Nat.le_trans Z0 (Nat.le_of_eq W1.size.symm))
  refine G.newP P5 (wk hw 9 rfl) (by decide) (cap := 16) (by decide) (by decide) (by decide) d5_18 (pc' := 20) rfl fun T10 h10 a10 k10 g10 P10 E10 V10 => ?_
  have n11 : a ≠ a10 := by rw [g10]; exact Nat.ne_of_lt f8.lt
  have n12 : b ≠ a10 := by rw [g10]; exact Nat.ne_of_lt f6.lt
  have g13 : n0 ≤ a10 := by rw [g10]; exact z9
  have q10 := (Nat.le_trans K3.1 (Nat.le_of_eq g10.symm))
  have K14 := K3.ext E10
  have V10p : Arv Z h10 a10 k10 .int (16 : Int32) [(.int (0 : Int32)), (.int (0 : Int32)), (.int (0 : Int32)), (.int (0 : Int32)), (.int (0 : Int32)), (.int (0 : Int32)), (.int (0 : Int32)), (.int (0 : Int32)), (.int (0 : Int32)), (.int (0 : Int32)), (.int (0 : Int32)), (.int (0 : Int32)), (.int (0 : Int32)), (.int (0 : Int32)), (.int (0 : Int32)), (.int (0 : Int32))] (.int (0 : Int32)) := V10.pad (pad_rep [] _ 16)
  have f15 := (f4.ext E10)
  have f16 := (f8.ext E10)
  refine G.putF P10 (host := "") (Or.inl (wk hw 10 rfl)) Via.refl f15 f16 (Or.inl (wk hw 11 rfl)) (wk hw 1 rfl) (ty := (.array .int)) (by decide) rfl rfl d5_20 (pc' := 23) rfl fun T17 h17 P17 W17 => ?_
  have f17 := f15.same W17
  have N18 := Fr.snoc P17.st N2 g0
  have K19 := K14.wr W17 (Or.inl (List.mem_of_getElem? (i := 0) rfl))
  have f20 := (f16.wr W17)
  have f21 := ((f1.ext E10).other W17 (Or.inr (slot_ne (Or.inl (wk hw 18 rfl)) (Or.inl (wk hw 11 rfl)) (by decide) (t := .int) (t' := (.array .int)) (by decide) (by decide))))
  have f22 := (V10p.other W17 (Ne.symm n11))
  exact G.retV P17 d5_23 (by decide) (by decide) ⟨rfl, N18, K19, f20, _, _, _, g13, n11, f17, f21, rfl, f22⟩

theorem ef_rmSize (m : MethodId) (a : Addr) : entryFrame m #[(.ref a)] 1 = mkF m 0 #[.val (.ref a)] [] := by first | (simp [entryFrame, mkF, argsToLocals, Value.category]; done) | rfl
set_option maxRecDepth 65536 in
set_option maxHeartbeats 40000000 in
theorem rmSize (l : Launch) (Z : State) (a0 : Array Value) (hw : ∀ d ∈ tables_1, d.before a0 Z = true) (a : Addr) (sz : Int32) (h0 : Heap) (FS : Fld Z h0 a "com/example/lacewing/lacewing/validation/IntStack" "size" "I" (.int sz)) :
    OMeets l Z y4 prog_122_method_5_code 1 (some .int) ({ frames := 0, cells := 0, slots := 0, locals := 0 } : Room) #[(.ref a)] h0 (OPure (some (.int sz)) h0) := by
  refine met (Q := OPure (some (.int sz)) h0) pf_4 (fun m => ef_rmSize m a) fun p e s m below meth c T0 P0 => ?_
  refine G.aloadN P0 d4_0 rfl rfl (pc' := 1) rfl ?_
  refine G.getF P0 (host := "") (Or.inl (wk hw 17 rfl)) Via.refl FS d4_1 (pc' := 4) rfl fun T1 P1 => ?_
  exact G.retI P1 d4_4 (by decide) (by decide) ⟨rfl, rfl, rfl⟩

theorem ef_rmEmpty (m : MethodId) (a : Addr) : entryFrame m #[(.ref a)] 1 = mkF m 0 #[.val (.ref a)] [] := by first | (simp [entryFrame, mkF, argsToLocals, Value.category]; done) | rfl
set_option maxRecDepth 65536 in
set_option maxHeartbeats 40000000 in
theorem rmEmpty (l : Launch) (Z : State) (a0 : Array Value) (hw : ∀ d ∈ tables_1, d.before a0 Z = true) (a : Addr) (sz : Int32) (h0 : Heap) (FS : Fld Z h0 a "com/example/lacewing/lacewing/validation/IntStack" "size" "I" (.int sz)) :
    OMeets l Z y6 prog_122_method_6_code 1 (some .boolean) ({ frames := 0, cells := 0, slots := 0, locals := 0 } : Room) #[(.ref a)] h0 (OPure (some (.int (if sz = (0 : Int32) then (1 : Int32) else (0 : Int32)))) h0) := by
  refine met (Q := OPure (some (.int (if sz = (0 : Int32) then (1 : Int32) else (0 : Int32)))) h0) pf_6 (fun m => ef_rmEmpty m a) fun p e s m below meth c T0 P0 => ?_
  refine G.aloadN P0 d6_0 rfl rfl (pc' := 1) rfl ?_
  refine G.getF P0 (host := "") (Or.inl (wk hw 17 rfl)) Via.refl FS d6_1 (pc' := 4) rfl fun T1 P1 => ?_
  refine G.if_ne P1 d6_4 (by decide) (pcY := 11) (by decide) (pcN := 7) rfl (fun c2 => ?_) (fun c2 => ?_)
  · --
    refine G.iconst P1 d6_11 (z := (0 : Int32)) rfl (pc' := 12) rfl ?_
    have e_ : (0 : Int32) = (if sz = (0 : Int32) then (1 : Int32) else (0 : Int32)) := (if_neg c2).symm
    exact G.retN P1 (t := .boolean) rfl (by simp) d6_12 (by decide) (by decide) ⟨sI e_, rfl, rfl⟩
  · --
    refine G.iconst P1 d6_7 (z := (1 : Int32)) rfl (pc' := 8) rfl ?_
    refine G.goto P1 d6_8 (by decide) (pc' := 12) (by decide) ?_
    have e_ : (1 : Int32) = (if sz = (0 : Int32) then (1 : Int32) else (0 : Int32)) := (if_pos c2).symm
    exact G.retN P1 (t := .boolean) rfl (by simp) d6_12 (by decide) (by decide) ⟨sI e_, rfl, rfl⟩

theorem ef_rmGet (m : MethodId) (a : Addr) (j : Int32) : entryFrame m #[(.ref a), (.int j)] 2 = mkF m 0 #[.val (.ref a), .val (.int j)] [] := by first | (simp [entryFrame, mkF, argsToLocals, Value.category]; done) | rfl
set_option maxRecDepth 65536 in
set_option maxHeartbeats 40000000 in
theorem rmGet (l : Launch) (Z : State) (a0 : Array Value) (hw : ∀ d ∈ tables_1, d.before a0 Z = true) (a b : Addr) (j y len : Int32) (kk : ClassId) (vs : List Value) (h0 : Heap) (FV : Fld Z h0 a "com/example/lacewing/lacewing/validation/IntStack" "values" "[I" (.ref b)) (V : Arv Z h0 b kk .int len vs (.int (0 : Int32))) (hin : ¬ j < (0 : Int32) ∧ j < len) (hy : vs.getD j.toNatClampNeg (.int (0 : Int32)) = .int y) :
    OMeets l Z y7 prog_122_method_4_code 2 (some .int) ({ frames := 0, cells := 0, slots := 0, locals := 0 } : Room) #[(.ref a), (.int j)] h0 (OPure (some (.int y)) h0) := by
  refine met (Q := OPure (some (.int y)) h0) pf_7 (fun m => ef_rmGet m a j) fun p e s m below meth c T0 P0 => ?_
  refine G.aloadN P0 d7_0 rfl rfl (pc' := 1) rfl ?_
  refine G.getF P0 (host := "") (Or.inl (wk hw 10 rfl)) Via.refl FV d7_1 (pc' := 4) rfl fun T1 P1 => ?_
  refine G.iloadN P1 d7_4 rfl (pc' := 5) rfl ?_
  refine G.iaload P1 V (j := j) (v := .int y) hin hy d7_5 (pc' := 6) rfl ?_
  exact G.retI P1 d7_6 (by decide) (by decide) ⟨rfl, rfl, rfl⟩

theorem ef_rmPop2 (m : MethodId) (a : Addr) : entryFrame m #[(.ref a)] 1 = mkF m 0 #[.val (.ref a)] [] := by first | (simp [entryFrame, mkF, argsToLocals, Value.category]; done) | rfl
set_option maxRecDepth 65536 in
set_option maxHeartbeats 40000000 in
theorem rmPop2 (l : Launch) (Z : State) (a0 : Array Value) (hw : ∀ d ∈ tables_1, d.before a0 Z = true) (a b : Addr) (y : Int32) (kk : ClassId) (vs : List Value) (h0 : Heap) (n0 : Nat) (Z0 : n0 ≤ Array.size h0) (g0 : n0 ≤ a) (gb : n0 ≤ b) (hab : a ≠ b) (E0 : Exa Z h0 a "com/example/lacewing/lacewing/validation/IntStack") (FV : Fld Z h0 a "com/example/lacewing/lacewing/validation/IntStack" "values" "[I" (.ref b)) (FS : Fld Z h0 a "com/example/lacewing/lacewing/validation/IntStack" "size" "I" (.int (2 : Int32))) (V : Arv Z h0 b kk .int (16 : Int32) vs (.int (0 : Int32))) (hy : vs.getD ((1 : Int32)).toNatClampNeg (.int (0 : Int32)) = .int y) :
    OMeets l Z y8 prog_122_method_3_code 1 (some .int) ({ frames := 0, cells := 0, slots := 0, locals := 0 } : Room) #[(.ref a)] h0 (fun v h L => v = some (.int y) ∧ Fr n0 L ∧ Keep h0 h [a] ∧ Exa Z h a "com/example/lacewing/lacewing/validation/IntStack" ∧ Fld Z h a "com/example/lacewing/lacewing/validation/IntStack" "values" "[I" (.ref b) ∧ Fld Z h a "com/example/lacewing/lacewing/validation/IntStack" "size" "I" (.int (1 : Int32))) := by
  refine met (Q := fun v h L => v = some (.int y) ∧ Fr n0 L ∧ Keep h0 h [a] ∧ Exa Z h a "com/example/lacewing/lacewing/validation/IntStack" ∧ Fld Z h a "com/example/lacewing/lacewing/validation/IntStack" "values" "[I" (.ref b) ∧ Fld Z h a "com/example/lacewing/lacewing/validation/IntStack" "size" "I" (.int (1 : Int32))) pf_8 (fun m => ef_rmPop2 m a) fun p e s m below meth c T0 P0 => ?_
  have N0 := Fr.nil n0
  have K0 := Keep.refl h0 [a]
  refine G.aloadN P0 d8_0 rfl rfl (pc' := 1) rfl ?_
  refine G.dup P0 d8_1 rfl (pc' := 2) rfl ?_
  refine G.getF P0 (host := "") (Or.inl (wk hw 17 rfl)) Via.refl FS d8_2 (pc' := 5) rfl fun T1 P1 => ?_
  refine G.iconst P1 d8_5 (z := (1 : Int32)) rfl (pc' := 6) rfl ?_
  refine G.isub P1 d8_6 (z := (1 : Int32)) (by decide) (pc' := 7) rfl ?_
  refine G.putF P1 (host := "") (Or.inl (wk hw 17 rfl)) Via.refl FS E0 (Or.inl (wk hw 18 rfl)) (wk hw 1 rfl) (ty := .int) (by decide) rfl rfl d8_7 (pc' := 10) rfl fun T2 h2 P2 W2 => ?_
  have f2 := FS.same W2
  have N3 := Fr.snoc P2.st N0 g0
  have K4 := K0.wr W2 (Or.inl (List.mem_of_getElem? (i := 0) rfl))
  refine G.aloadN P2 d8_10 rfl rfl (pc' := 11) rfl ?_
  have f5 := (FV.other W2 (Or.inr (slot_ne (Or.inl (wk hw 11 rfl)) (Or.inl (wk hw 18 rfl)) (by decide) (t := (.array .int)) (t' := .int) (by decide) (by decide))))
  refine G.getF P2 (host := "") (Or.inl (wk hw 10 rfl)) Via.refl f5 d8_11 (pc' := 14) rfl fun T6 P6 => ?_
  refine G.aloadN P6 d8_14 rfl rfl (pc' := 15) rfl ?_
  refine G.getF P6 (host := "") (Or.inl (wk hw 17 rfl)) Via.refl f2 d8_15 (pc' := 18) rfl fun T7 P7 => ?_
  have f8 := (V.other W2 (Ne.symm hab))
  refine G.iaload P7 f8 (j := (1 : Int32)) (v := .int y) (by decide) hy d8_18 (pc' := 19) rfl ?_
  have f9 := (E0.wr W2)
  exact G.retI P7 d8_19 (by decide) (by decide) ⟨rfl, N3, K4, f9, f5, f2⟩

theorem ef_rmPop1 (m : MethodId) (a : Addr) : entryFrame m #[(.ref a)] 1 = mkF m 0 #[.val (.ref a)] [] := by first | (simp [entryFrame, mkF, argsToLocals, Value.category]; done) | rfl
set_option maxRecDepth 65536 in
set_option maxHeartbeats 40000000 in
theorem rmPop1 (l : Launch) (Z : State) (a0 : Array Value) (hw : ∀ d ∈ tables_1, d.before a0 Z = true) (a b : Addr) (y : Int32) (kk : ClassId) (vs : List Value) (h0 : Heap) (n0 : Nat) (Z0 : n0 ≤ Array.size h0) (g0 : n0 ≤ a) (gb : n0 ≤ b) (hab : a ≠ b) (E0 : Exa Z h0 a "com/example/lacewing/lacewing/validation/IntStack") (FV : Fld Z h0 a "com/example/lacewing/lacewing/validation/IntStack" "values" "[I" (.ref b)) (FS : Fld Z h0 a "com/example/lacewing/lacewing/validation/IntStack" "size" "I" (.int (1 : Int32))) (V : Arv Z h0 b kk .int (16 : Int32) vs (.int (0 : Int32))) (hy : vs.getD ((0 : Int32)).toNatClampNeg (.int (0 : Int32)) = .int y) :
    OMeets l Z y8 prog_122_method_3_code 1 (some .int) ({ frames := 0, cells := 0, slots := 0, locals := 0 } : Room) #[(.ref a)] h0 (fun v h L => v = some (.int y) ∧ Fr n0 L ∧ Keep h0 h [a] ∧ Exa Z h a "com/example/lacewing/lacewing/validation/IntStack" ∧ Fld Z h a "com/example/lacewing/lacewing/validation/IntStack" "values" "[I" (.ref b) ∧ Fld Z h a "com/example/lacewing/lacewing/validation/IntStack" "size" "I" (.int (0 : Int32))) := by
  refine met (Q := fun v h L => v = some (.int y) ∧ Fr n0 L ∧ Keep h0 h [a] ∧ Exa Z h a "com/example/lacewing/lacewing/validation/IntStack" ∧ Fld Z h a "com/example/lacewing/lacewing/validation/IntStack" "values" "[I" (.ref b) ∧ Fld Z h a "com/example/lacewing/lacewing/validation/IntStack" "size" "I" (.int (0 : Int32))) pf_8 (fun m => ef_rmPop1 m a) fun p e s m below meth c T0 P0 => ?_
  have N0 := Fr.nil n0
  have K0 := Keep.refl h0 [a]
  refine G.aloadN P0 d8_0 rfl rfl (pc' := 1) rfl ?_
  refine G.dup P0 d8_1 rfl (pc' := 2) rfl ?_
  refine G.getF P0 (host := "") (Or.inl (wk hw 17 rfl)) Via.refl FS d8_2 (pc' := 5) rfl fun T1 P1 => ?_
  refine G.iconst P1 d8_5 (z := (1 : Int32)) rfl (pc' := 6) rfl ?_
  refine G.isub P1 d8_6 (z := (0 : Int32)) (by decide) (pc' := 7) rfl ?_
  refine G.putF P1 (host := "") (Or.inl (wk hw 17 rfl)) Via.refl FS E0 (Or.inl (wk hw 18 rfl)) (wk hw 1 rfl) (ty := .int) (by decide) rfl rfl d8_7 (pc' := 10) rfl fun T2 h2 P2 W2 => ?_
  have f2 := FS.same W2
  have N3 := Fr.snoc P2.st N0 g0
  have K4 := K0.wr W2 (Or.inl (List.mem_of_getElem? (i := 0) rfl))
  refine G.aloadN P2 d8_10 rfl rfl (pc' := 11) rfl ?_
  have f5 := (FV.other W2 (Or.inr (slot_ne (Or.inl (wk hw 11 rfl)) (Or.inl (wk hw 18 rfl)) (by decide) (t := (.array .int)) (t' := .int) (by decide) (by decide))))
  refine G.getF P2 (host := "") (Or.inl (wk hw 10 rfl)) Via.refl f5 d8_11 (pc' := 14) rfl fun T6 P6 => ?_
  refine G.aloadN P6 d8_14 rfl rfl (pc' := 15) rfl ?_
  refine G.getF P6 (host := "") (Or.inl (wk hw 17 rfl)) Via.refl f2 d8_15 (pc' := 18) rfl fun T7 P7 => ?_
  have f8 := (V.other W2 (Ne.symm hab))
  refine G.iaload P7 f8 (j := (0 : Int32)) (v := .int y) (by decide) hy d8_18 (pc' := 19) rfl ?_
  have f9 := (E0.wr W2)
  exact G.retI P7 d8_19 (by decide) (by decide) ⟨rfl, N3, K4, f9, f5, f2⟩

theorem own_get {vs vs1 vs2 : List Value} {y1 y2 : Int32} (h : vs.length = 16) (h1 : vs1 = vs.set ((0 : Int32).toNatClampNeg) (.int y1)) (h2 : vs2 = vs1.set ((1 : Int32).toNatClampNeg) (.int y2)) : vs2.getD (0 : Int32).toNatClampNeg (.int (0 : Int32)) = .int y1 ∧ vs2.getD (1 : Int32).toNatClampNeg (.int (0 : Int32)) = .int y2 := by
  subst h1 h2
  have e0 : (0 : Int32).toNatClampNeg = 0 := by decide
  have e1 : (1 : Int32).toNatClampNeg = 1 := by decide
  rw [e0, e1]
  match vs, h with
  | _ :: _ :: _, _ => exact ⟨rfl, rfl⟩

set_option maxRecDepth 65536 in
set_option maxHeartbeats 40000000 in
theorem own_tail {p : Program} {l : Launch} {e : Env} {s : State} {m : MethodId} {args : Array Value} {below : List Frame} {meth : Method} {c : Code} {Z : State} {T0 : State} {h0 : Heap} {locs : List Loc} {n0 : Nat} (a0 : Array Value) (hw : ∀ d ∈ tables_1, d.before a0 Z = true) (x0 x1 x2 x3 md nn : Int32) (a b : Addr) (kk : ClassId) (vs : List Value) (P0 : Pos p l e room_1 s m args below meth c Z x.cls code maxLocals ret x.name T0 h0 locs 4 66) (Z0 : n0 ≤ Array.size h0) (g0 : n0 ≤ a) (gb : n0 ≤ b) (hab : a ≠ b) (E0 : Exa Z h0 a "com/example/lacewing/lacewing/validation/IntStack") (FV : Fld Z h0 a "com/example/lacewing/lacewing/validation/IntStack" "values" "[I" (.ref b)) (FS : Fld Z h0 a "com/example/lacewing/lacewing/validation/IntStack" "size" "I" (.int (0 : Int32))) (V : Arv Z h0 b kk .int (16 : Int32) vs (.int (0 : Int32))) (N0 : Fr n0 locs) (hv : vs.length = 16) :
    Go p e below (NF s room_1.cells room_1.slots (fun v h L => v = some (.int 1) ∧ Fr n0 L)) (T0.setTop (mkF m 116 #[.val (.int x0), .val (.int x1), .val (.int x2), .val (.int x3), .val (.ref a), .val (.int md), .val (.int nn)] [])) := by
  refine G.iloadN P0 at_116 rfl (pc' := 117) rfl ?_
  refine G.iconst P0 at_117 (z := (4 : Int32)) rfl (pc' := 118) rfl ?_
  refine G.iand P0 at_118 rfl (pc' := 119) rfl ?_
  refine G.if_eq P0 at_119 (by decide) (pcY := 127) (by decide) (pcN := 122) rfl (fun c1 => ?_) (fun c1 => ?_)
  · --
    refine G.aload P0 at_127 rfl rfl (pc' := 129) rfl ?_
    refine G.callVP P0 (rmSize l Z a0 hw a (0 : Int32) h0 FS) (wk hw 19 rfl) (wk hw 20 rfl) (wk hw 22 rfl) rfl (wk hw 21 rfl) (wk hw 2 rfl) (wk hw 23 rfl) (by decide) E0 pd_4 (argsL := []) (rest := []) rfl rfl rfl rfl (W := 0) (Nat.le_of_eq rfl) (by decide) at_129 (pc' := 132) rfl fun T2 P2 => ?_
    show Go p e below _ (T2.setTop (mkF m 132 #[.val (.int x0), .val (.int x1), .val (.int x2), .val (.int x3), .val (.ref a), .val (.int md), .val (.int nn)] [(.int (0 : Int32))]))
    refine G.if_ne P2 at_132 (by decide) (pcY := 143) (by decide) (pcN := 135) rfl (fun c3 => absurd c3 (by decide)) (fun c3 => ?_)
    refine G.aload P2 at_135 rfl rfl (pc' := 137) rfl ?_
    refine G.callVP P2 (rmEmpty l Z a0 hw a (0 : Int32) h0 FS) (wk hw 29 rfl) (wk hw 30 rfl) (wk hw 32 rfl) rfl (wk hw 31 rfl) (wk hw 2 rfl) (wk hw 33 rfl) (by decide) E0 pd_6 (argsL := []) (rest := []) rfl rfl rfl rfl (W := 0) (Nat.le_of_eq rfl) (by decide) at_137 (pc' := 140) rfl fun T4 P4 => ?_
    show Go p e below _ (T4.setTop (mkF m 140 #[.val (.int x0), .val (.int x1), .val (.int x2), .val (.int x3), .val (.ref a), .val (.int md), .val (.int nn)] [(.int (if (0 : Int32) = (0 : Int32) then (1 : Int32) else (0 : Int32)))]))
    rw [show (if (0 : Int32) = (0 : Int32) then (1 : Int32) else (0 : Int32)) = (1 : Int32) from by decide]
    refine G.if_ne P4 at_140 (by decide) (pcY := 145) (by decide) (pcN := 143) rfl (fun c5 => ?_) (fun c5 => absurd c5 (by decide))
    refine G.aload P4 at_145 rfl rfl (pc' := 147) rfl ?_
    refine G.iloadN P4 at_147 rfl (pc' := 148) rfl ?_
    refine G.callV P4 (rmPush l Z a0 hw a b x1 (0 : Int32) (16 : Int32) kk vs h0 n0 Z0 g0 gb hab E0 FV FS V (by decide) (by decide) (by rw [hv]; decide)) (wk hw 12 rfl) (wk hw 13 rfl) (wk hw 15 rfl) rfl (wk hw 14 rfl) (wk hw 2 rfl) (wk hw 16 rfl) (by decide) E0 pd_3 (argsL := [(.int x1)]) (rest := []) rfl rfl rfl rfl (W := 0) (Nat.le_of_eq rfl) (by decide) at_148 (pc' := 151) rfl fun T6 L6 v6 P6 Q6 => ?_
    obtain ⟨rfl, N6, K6, E6, B6, O6, vs6, e6, V6⟩ := Q6
    have N7 := Fr.app N0 N6
    show Go p e below _ (T6.setTop (mkF m 151 #[.val (.int x0), .val (.int x1), .val (.int x2), .val (.int x3), .val (.ref a), .val (.int md), .val (.int nn)] []))
    have O6p : Fld Z T6.heap a "com/example/lacewing/lacewing/validation/IntStack" "size" "I" (.int (1 : Int32)) := O6
    have hv6 : vs6.length = 16 := by rw [e6, List.length_set]; exact hv
    refine G.aload P6 at_151 rfl rfl (pc' := 153) rfl ?_
    refine G.iloadN P6 at_153 rfl (pc' := 154) rfl ?_
    have z8 : n0 ≤ Array.size T6.heap := (Nat.le_trans Z0 K6.1)
    refine G.callV P6 (rmPush l Z a0 hw a b x2 (1 : Int32) (16 : Int32) kk vs6 T6.heap n0 z8 g0 gb hab E6 B6 O6p V6 (by decide) (by decide) (by rw [hv6]; decide)) (wk hw 12 rfl) (wk hw 13 rfl) (wk hw 15 rfl) rfl (wk hw 14 rfl) (wk hw 2 rfl) (wk hw 16 rfl) (by decide) E6 pd_3 (argsL := [(.int x2)]) (rest := []) rfl rfl rfl rfl (W := 0) (Nat.le_of_eq rfl) (by decide) at_154 (pc' := 157) rfl fun T9 L9 v9 P9 Q9 => ?_
    obtain ⟨rfl, N9, K9, E9, B9, O9, vs9, e9, V9⟩ := Q9
    have N10 := Fr.app N7 N9
    show Go p e below _ (T9.setTop (mkF m 157 #[.val (.int x0), .val (.int x1), .val (.int x2), .val (.int x3), .val (.ref a), .val (.int md), .val (.int nn)] []))
    have O9p : Fld Z T9.heap a "com/example/lacewing/lacewing/validation/IntStack" "size" "I" (.int (2 : Int32)) := O9
    have hv9 : vs9.length = 16 := by rw [e9, List.length_set]; exact hv6
    have gg := own_get hv e6 e9
    refine G.aload P9 at_157 rfl rfl (pc' := 159) rfl ?_
    refine G.callVP P9 (rmSize l Z a0 hw a (2 : Int32) T9.heap O9p) (wk hw 19 rfl) (wk hw 20 rfl) (wk hw 22 rfl) rfl (wk hw 21 rfl) (wk hw 2 rfl) (wk hw 23 rfl) (by decide) E9 pd_4 (argsL := []) (rest := []) rfl rfl rfl rfl (W := 0) (Nat.le_of_eq rfl) (by decide) at_159 (pc' := 162) rfl fun T11 P11 => ?_
    show Go p e below _ (T11.setTop (mkF m 162 #[.val (.int x0), .val (.int x1), .val (.int x2), .val (.int x3), .val (.ref a), .val (.int md), .val (.int nn)] [(.int (2 : Int32))]))
    refine G.iconst P11 at_162 (z := (2 : Int32)) rfl (pc' := 163) rfl ?_
    refine G.icmp_ne P11 at_163 (by decide) (pcY := 174) (by decide) (pcN := 166) rfl (fun c12 => absurd c12 (by decide)) (fun c12 => ?_)
    refine G.aload P11 at_166 rfl rfl (pc' := 168) rfl ?_
    refine G.callVP P11 (rmEmpty l Z a0 hw a (2 : Int32) T9.heap O9p) (wk hw 29 rfl) (wk hw 30 rfl) (wk hw 32 rfl) rfl (wk hw 31 rfl) (wk hw 2 rfl) (wk hw 33 rfl) (by decide) E9 pd_6 (argsL := []) (rest := []) rfl rfl rfl rfl (W := 0) (Nat.le_of_eq rfl) (by decide) at_168 (pc' := 171) rfl fun T13 P13 => ?_
    show Go p e below _ (T13.setTop (mkF m 171 #[.val (.int x0), .val (.int x1), .val (.int x2), .val (.int x3), .val (.ref a), .val (.int md), .val (.int nn)] [(.int (if (2 : Int32) = (0 : Int32) then (1 : Int32) else (0 : Int32)))]))
    rw [show (if (2 : Int32) = (0 : Int32) then (1 : Int32) else (0 : Int32)) = (0 : Int32) from by decide]
    refine G.if_eq P13 at_171 (by decide) (pcY := 176) (by decide) (pcN := 174) rfl (fun c14 => ?_) (fun c14 => absurd c14 (by decide))
    refine G.aload P13 at_176 rfl rfl (pc' := 178) rfl ?_
    refine G.iconst P13 at_178 (z := (0 : Int32)) rfl (pc' := 179) rfl ?_
    refine G.callVP P13 (rmGet l Z a0 hw a b (0 : Int32) x1 (16 : Int32) kk vs9 T9.heap B9 V9 (by decide) gg.1) (wk hw 34 rfl) (wk hw 35 rfl) (wk hw 37 rfl) rfl (wk hw 36 rfl) (wk hw 2 rfl) (wk hw 38 rfl) (by decide) E9 pd_7 (argsL := [(.int (0 : Int32))]) (rest := []) rfl rfl rfl rfl (W := 0) (Nat.le_of_eq rfl) (by decide) at_179 (pc' := 182) rfl fun T15 P15 => ?_
    show Go p e below _ (T15.setTop (mkF m 182 #[.val (.int x0), .val (.int x1), .val (.int x2), .val (.int x3), .val (.ref a), .val (.int md), .val (.int nn)] [(.int x1)]))
    refine G.iloadN P15 at_182 rfl (pc' := 183) rfl ?_
    refine G.icmp_ne P15 at_183 (by decide) (pcY := 196) (by decide) (pcN := 186) rfl (fun cc => absurd rfl cc) (fun cc => ?_)
    refine G.aload P15 at_186 rfl rfl (pc' := 188) rfl ?_
    refine G.iconst P15 at_188 (z := (1 : Int32)) rfl (pc' := 189) rfl ?_
    refine G.callVP P15 (rmGet l Z a0 hw a b (1 : Int32) x2 (16 : Int32) kk vs9 T9.heap B9 V9 (by decide) gg.2) (wk hw 34 rfl) (wk hw 35 rfl) (wk hw 37 rfl) rfl (wk hw 36 rfl) (wk hw 2 rfl) (wk hw 38 rfl) (by decide) E9 pd_7 (argsL := [(.int (1 : Int32))]) (rest := []) rfl rfl rfl rfl (W := 0) (Nat.le_of_eq rfl) (by decide) at_189 (pc' := 192) rfl fun T16 P16 => ?_
    show Go p e below _ (T16.setTop (mkF m 192 #[.val (.int x0), .val (.int x1), .val (.int x2), .val (.int x3), .val (.ref a), .val (.int md), .val (.int nn)] [(.int x2)]))
    refine G.iloadN P16 at_192 rfl (pc' := 193) rfl ?_
    refine G.icmp_eq P16 at_193 (by decide) (pcY := 198) (by decide) (pcN := 196) rfl (fun cc => ?_) (fun cc => absurd rfl cc)
    refine G.aload P16 at_198 rfl rfl (pc' := 200) rfl ?_
    have z17 : n0 ≤ Array.size T9.heap := (Nat.le_trans z8 K9.1)
    refine G.callV P16 (rmPop2 l Z a0 hw a b x2 kk vs9 T9.heap n0 z17 g0 gb hab E9 B9 O9p V9 gg.2) (wk hw 39 rfl) (wk hw 40 rfl) (wk hw 42 rfl) rfl (wk hw 41 rfl) (wk hw 2 rfl) (wk hw 43 rfl) (by decide) E9 pd_8 (argsL := []) (rest := []) rfl rfl rfl rfl (W := 0) (Nat.le_of_eq rfl) (by decide) at_200 (pc' := 203) rfl fun T18 L18 v18 P18 Q18 => ?_
    obtain ⟨rfl, N18, K18, E18, B18, O18⟩ := Q18
    have N19 := Fr.app N10 N18
    show Go p e below _ (T18.setTop (mkF m 203 #[.val (.int x0), .val (.int x1), .val (.int x2), .val (.int x3), .val (.ref a), .val (.int md), .val (.int nn)] [(.int x2)]))
    refine G.iloadN P18 at_203 rfl (pc' := 204) rfl ?_
    refine G.icmp_eq P18 at_204 (by decide) (pcY := 209) (by decide) (pcN := 207) rfl (fun cc => ?_) (fun cc => absurd rfl cc)
    refine G.aload P18 at_209 rfl rfl (pc' := 211) rfl ?_
    have f20 := (V9.keep K18 (ninS (Ne.symm hab) nin0))
    have z21 : n0 ≤ Array.size T18.heap := (Nat.le_trans z17 K18.1)
    refine G.callV P18 (rmPop1 l Z a0 hw a b x1 kk vs9 T18.heap n0 z21 g0 gb hab E18 B18 O18 f20 gg.1) (wk hw 39 rfl) (wk hw 40 rfl) (wk hw 42 rfl) rfl (wk hw 41 rfl) (wk hw 2 rfl) (wk hw 43 rfl) (by decide) E18 pd_8 (argsL := []) (rest := []) rfl rfl rfl rfl (W := 0) (Nat.le_of_eq rfl) (by decide) at_211 (pc' := 214) rfl fun T22 L22 v22 P22 Q22 => ?_
    obtain ⟨rfl, N22, K22, E22, B22, O22⟩ := Q22
    have N23 := Fr.app N19 N22
    show Go p e below _ (T22.setTop (mkF m 214 #[.val (.int x0), .val (.int x1), .val (.int x2), .val (.int x3), .val (.ref a), .val (.int md), .val (.int nn)] [(.int x1)]))
    refine G.iloadN P22 at_214 rfl (pc' := 215) rfl ?_
    refine G.icmp_eq P22 at_215 (by decide) (pcY := 220) (by decide) (pcN := 218) rfl (fun cc => ?_) (fun cc => absurd rfl cc)
    refine G.aload P22 at_220 rfl rfl (pc' := 222) rfl ?_
    refine G.callVP P22 (rmEmpty l Z a0 hw a (0 : Int32) T22.heap O22) (wk hw 29 rfl) (wk hw 30 rfl) (wk hw 32 rfl) rfl (wk hw 31 rfl) (wk hw 2 rfl) (wk hw 33 rfl) (by decide) E22 pd_6 (argsL := []) (rest := []) rfl rfl rfl rfl (W := 0) (Nat.le_of_eq rfl) (by decide) at_222 (pc' := 225) rfl fun T24 P24 => ?_
    show Go p e below _ (T24.setTop (mkF m 225 #[.val (.int x0), .val (.int x1), .val (.int x2), .val (.int x3), .val (.ref a), .val (.int md), .val (.int nn)] [(.int (if (0 : Int32) = (0 : Int32) then (1 : Int32) else (0 : Int32)))]))
    rw [show (if (0 : Int32) = (0 : Int32) then (1 : Int32) else (0 : Int32)) = (1 : Int32) from by decide]
    refine G.if_eq P24 at_225 (by decide) (pcY := 240) (by decide) (pcN := 228) rfl (fun c25 => absurd c25 (by decide)) (fun c25 => ?_)
    refine G.aload P24 at_228 rfl rfl (pc' := 230) rfl ?_
    refine G.callVP P24 (rmSize l Z a0 hw a (0 : Int32) T22.heap O22) (wk hw 19 rfl) (wk hw 20 rfl) (wk hw 22 rfl) rfl (wk hw 21 rfl) (wk hw 2 rfl) (wk hw 23 rfl) (by decide) E22 pd_4 (argsL := []) (rest := []) rfl rfl rfl rfl (W := 0) (Nat.le_of_eq rfl) (by decide) at_230 (pc' := 233) rfl fun T26 P26 => ?_
    show Go p e below _ (T26.setTop (mkF m 233 #[.val (.int x0), .val (.int x1), .val (.int x2), .val (.int x3), .val (.ref a), .val (.int md), .val (.int nn)] [(.int (0 : Int32))]))
    refine G.if_ne P26 at_233 (by decide) (pcY := 240) (by decide) (pcN := 236) rfl (fun c27 => absurd c27 (by decide)) (fun c27 => ?_)
    refine G.iconst P26 at_236 (z := (1 : Int32)) rfl (pc' := 237) rfl ?_
    refine G.goto P26 at_237 (by decide) (pc' := 241) (by decide) ?_
    exact G.retN P26 (t := .boolean) rfl (by simp) at_241 (by decide) (by decide) ⟨rfl, N23⟩
  · --
    refine G.aload P0 at_122 rfl rfl (pc' := 124) rfl ?_
    refine G.callV P0 (rmKeepS l Z a0 hw a b (0 : Int32) kk vs h0 n0 Z0 g0 gb hab E0 FV FS V) (wk hw 24 rfl) (wk hw 25 rfl) (wk hw 27 rfl) rfl (wk hw 26 rfl) (wk hw 2 rfl) (wk hw 28 rfl) (by decide) E0 pd_5 (argsL := []) (rest := []) rfl rfl rfl rfl (W := 0) (Nat.le_of_eq rfl) (by decide) at_124 (pc' := 127) rfl fun T28 L28 v28 P28 Q28 => ?_
    obtain ⟨rfl, N28, K28, E28, B28, O28⟩ := Q28
    have N29 := Fr.app N0 N28
    show Go p e below _ (T28.setTop (mkF m 127 #[.val (.int x0), .val (.int x1), .val (.int x2), .val (.int x3), .val (.ref a), .val (.int md), .val (.int nn)] []))
    refine G.aload P28 at_127 rfl rfl (pc' := 129) rfl ?_
    refine G.callVP P28 (rmSize l Z a0 hw a (0 : Int32) T28.heap O28) (wk hw 19 rfl) (wk hw 20 rfl) (wk hw 22 rfl) rfl (wk hw 21 rfl) (wk hw 2 rfl) (wk hw 23 rfl) (by decide) E28 pd_4 (argsL := []) (rest := []) rfl rfl rfl rfl (W := 0) (Nat.le_of_eq rfl) (by decide) at_129 (pc' := 132) rfl fun T30 P30 => ?_
    show Go p e below _ (T30.setTop (mkF m 132 #[.val (.int x0), .val (.int x1), .val (.int x2), .val (.int x3), .val (.ref a), .val (.int md), .val (.int nn)] [(.int (0 : Int32))]))
    refine G.if_ne P30 at_132 (by decide) (pcY := 143) (by decide) (pcN := 135) rfl (fun c31 => absurd c31 (by decide)) (fun c31 => ?_)
    refine G.aload P30 at_135 rfl rfl (pc' := 137) rfl ?_
    refine G.callVP P30 (rmEmpty l Z a0 hw a (0 : Int32) T28.heap O28) (wk hw 29 rfl) (wk hw 30 rfl) (wk hw 32 rfl) rfl (wk hw 31 rfl) (wk hw 2 rfl) (wk hw 33 rfl) (by decide) E28 pd_6 (argsL := []) (rest := []) rfl rfl rfl rfl (W := 0) (Nat.le_of_eq rfl) (by decide) at_137 (pc' := 140) rfl fun T32 P32 => ?_
    show Go p e below _ (T32.setTop (mkF m 140 #[.val (.int x0), .val (.int x1), .val (.int x2), .val (.int x3), .val (.ref a), .val (.int md), .val (.int nn)] [(.int (if (0 : Int32) = (0 : Int32) then (1 : Int32) else (0 : Int32)))]))
    rw [show (if (0 : Int32) = (0 : Int32) then (1 : Int32) else (0 : Int32)) = (1 : Int32) from by decide]
    refine G.if_ne P32 at_140 (by decide) (pcY := 145) (by decide) (pcN := 143) rfl (fun c33 => ?_) (fun c33 => absurd c33 (by decide))
    refine G.aload P32 at_145 rfl rfl (pc' := 147) rfl ?_
    refine G.iloadN P32 at_147 rfl (pc' := 148) rfl ?_
    have f34 := (V.keep K28 (ninS (Ne.symm hab) nin0))
    have z35 : n0 ≤ Array.size T28.heap := (Nat.le_trans Z0 K28.1)
    refine G.callV P32 (rmPush l Z a0 hw a b x1 (0 : Int32) (16 : Int32) kk vs T28.heap n0 z35 g0 gb hab E28 B28 O28 f34 (by decide) (by decide) (by rw [hv]; decide)) (wk hw 12 rfl) (wk hw 13 rfl) (wk hw 15 rfl) rfl (wk hw 14 rfl) (wk hw 2 rfl) (wk hw 16 rfl) (by decide) E28 pd_3 (argsL := [(.int x1)]) (rest := []) rfl rfl rfl rfl (W := 0) (Nat.le_of_eq rfl) (by decide) at_148 (pc' := 151) rfl fun T36 L36 v36 P36 Q36 => ?_
    obtain ⟨rfl, N36, K36, E36, B36, O36, vs36, e36, V36⟩ := Q36
    have N37 := Fr.app N29 N36
    show Go p e below _ (T36.setTop (mkF m 151 #[.val (.int x0), .val (.int x1), .val (.int x2), .val (.int x3), .val (.ref a), .val (.int md), .val (.int nn)] []))
    have O36p : Fld Z T36.heap a "com/example/lacewing/lacewing/validation/IntStack" "size" "I" (.int (1 : Int32)) := O36
    have hv36 : vs36.length = 16 := by rw [e36, List.length_set]; exact hv
    refine G.aload P36 at_151 rfl rfl (pc' := 153) rfl ?_
    refine G.iloadN P36 at_153 rfl (pc' := 154) rfl ?_
    have z38 : n0 ≤ Array.size T36.heap := (Nat.le_trans z35 K36.1)
    refine G.callV P36 (rmPush l Z a0 hw a b x2 (1 : Int32) (16 : Int32) kk vs36 T36.heap n0 z38 g0 gb hab E36 B36 O36p V36 (by decide) (by decide) (by rw [hv36]; decide)) (wk hw 12 rfl) (wk hw 13 rfl) (wk hw 15 rfl) rfl (wk hw 14 rfl) (wk hw 2 rfl) (wk hw 16 rfl) (by decide) E36 pd_3 (argsL := [(.int x2)]) (rest := []) rfl rfl rfl rfl (W := 0) (Nat.le_of_eq rfl) (by decide) at_154 (pc' := 157) rfl fun T39 L39 v39 P39 Q39 => ?_
    obtain ⟨rfl, N39, K39, E39, B39, O39, vs39, e39, V39⟩ := Q39
    have N40 := Fr.app N37 N39
    show Go p e below _ (T39.setTop (mkF m 157 #[.val (.int x0), .val (.int x1), .val (.int x2), .val (.int x3), .val (.ref a), .val (.int md), .val (.int nn)] []))
    have O39p : Fld Z T39.heap a "com/example/lacewing/lacewing/validation/IntStack" "size" "I" (.int (2 : Int32)) := O39
    have hv39 : vs39.length = 16 := by rw [e39, List.length_set]; exact hv36
    have gg := own_get hv e36 e39
    refine G.aload P39 at_157 rfl rfl (pc' := 159) rfl ?_
    refine G.callVP P39 (rmSize l Z a0 hw a (2 : Int32) T39.heap O39p) (wk hw 19 rfl) (wk hw 20 rfl) (wk hw 22 rfl) rfl (wk hw 21 rfl) (wk hw 2 rfl) (wk hw 23 rfl) (by decide) E39 pd_4 (argsL := []) (rest := []) rfl rfl rfl rfl (W := 0) (Nat.le_of_eq rfl) (by decide) at_159 (pc' := 162) rfl fun T41 P41 => ?_
    show Go p e below _ (T41.setTop (mkF m 162 #[.val (.int x0), .val (.int x1), .val (.int x2), .val (.int x3), .val (.ref a), .val (.int md), .val (.int nn)] [(.int (2 : Int32))]))
    refine G.iconst P41 at_162 (z := (2 : Int32)) rfl (pc' := 163) rfl ?_
    refine G.icmp_ne P41 at_163 (by decide) (pcY := 174) (by decide) (pcN := 166) rfl (fun c42 => absurd c42 (by decide)) (fun c42 => ?_)
    refine G.aload P41 at_166 rfl rfl (pc' := 168) rfl ?_
    refine G.callVP P41 (rmEmpty l Z a0 hw a (2 : Int32) T39.heap O39p) (wk hw 29 rfl) (wk hw 30 rfl) (wk hw 32 rfl) rfl (wk hw 31 rfl) (wk hw 2 rfl) (wk hw 33 rfl) (by decide) E39 pd_6 (argsL := []) (rest := []) rfl rfl rfl rfl (W := 0) (Nat.le_of_eq rfl) (by decide) at_168 (pc' := 171) rfl fun T43 P43 => ?_
    show Go p e below _ (T43.setTop (mkF m 171 #[.val (.int x0), .val (.int x1), .val (.int x2), .val (.int x3), .val (.ref a), .val (.int md), .val (.int nn)] [(.int (if (2 : Int32) = (0 : Int32) then (1 : Int32) else (0 : Int32)))]))
    rw [show (if (2 : Int32) = (0 : Int32) then (1 : Int32) else (0 : Int32)) = (0 : Int32) from by decide]
    refine G.if_eq P43 at_171 (by decide) (pcY := 176) (by decide) (pcN := 174) rfl (fun c44 => ?_) (fun c44 => absurd c44 (by decide))
    refine G.aload P43 at_176 rfl rfl (pc' := 178) rfl ?_
    refine G.iconst P43 at_178 (z := (0 : Int32)) rfl (pc' := 179) rfl ?_
    refine G.callVP P43 (rmGet l Z a0 hw a b (0 : Int32) x1 (16 : Int32) kk vs39 T39.heap B39 V39 (by decide) gg.1) (wk hw 34 rfl) (wk hw 35 rfl) (wk hw 37 rfl) rfl (wk hw 36 rfl) (wk hw 2 rfl) (wk hw 38 rfl) (by decide) E39 pd_7 (argsL := [(.int (0 : Int32))]) (rest := []) rfl rfl rfl rfl (W := 0) (Nat.le_of_eq rfl) (by decide) at_179 (pc' := 182) rfl fun T45 P45 => ?_
    show Go p e below _ (T45.setTop (mkF m 182 #[.val (.int x0), .val (.int x1), .val (.int x2), .val (.int x3), .val (.ref a), .val (.int md), .val (.int nn)] [(.int x1)]))
    refine G.iloadN P45 at_182 rfl (pc' := 183) rfl ?_
    refine G.icmp_ne P45 at_183 (by decide) (pcY := 196) (by decide) (pcN := 186) rfl (fun cc => absurd rfl cc) (fun cc => ?_)
    refine G.aload P45 at_186 rfl rfl (pc' := 188) rfl ?_
    refine G.iconst P45 at_188 (z := (1 : Int32)) rfl (pc' := 189) rfl ?_
    refine G.callVP P45 (rmGet l Z a0 hw a b (1 : Int32) x2 (16 : Int32) kk vs39 T39.heap B39 V39 (by decide) gg.2) (wk hw 34 rfl) (wk hw 35 rfl) (wk hw 37 rfl) rfl (wk hw 36 rfl) (wk hw 2 rfl) (wk hw 38 rfl) (by decide) E39 pd_7 (argsL := [(.int (1 : Int32))]) (rest := []) rfl rfl rfl rfl (W := 0) (Nat.le_of_eq rfl) (by decide) at_189 (pc' := 192) rfl fun T46 P46 => ?_
    show Go p e below _ (T46.setTop (mkF m 192 #[.val (.int x0), .val (.int x1), .val (.int x2), .val (.int x3), .val (.ref a), .val (.int md), .val (.int nn)] [(.int x2)]))
    refine G.iloadN P46 at_192 rfl (pc' := 193) rfl ?_
    refine G.icmp_eq P46 at_193 (by decide) (pcY := 198) (by decide) (pcN := 196) rfl (fun cc => ?_) (fun cc => absurd rfl cc)
    refine G.aload P46 at_198 rfl rfl (pc' := 200) rfl ?_
    have z47 : n0 ≤ Array.size T39.heap := (Nat.le_trans z38 K39.1)
    refine G.callV P46 (rmPop2 l Z a0 hw a b x2 kk vs39 T39.heap n0 z47 g0 gb hab E39 B39 O39p V39 gg.2) (wk hw 39 rfl) (wk hw 40 rfl) (wk hw 42 rfl) rfl (wk hw 41 rfl) (wk hw 2 rfl) (wk hw 43 rfl) (by decide) E39 pd_8 (argsL := []) (rest := []) rfl rfl rfl rfl (W := 0) (Nat.le_of_eq rfl) (by decide) at_200 (pc' := 203) rfl fun T48 L48 v48 P48 Q48 => ?_
    obtain ⟨rfl, N48, K48, E48, B48, O48⟩ := Q48
    have N49 := Fr.app N40 N48
    show Go p e below _ (T48.setTop (mkF m 203 #[.val (.int x0), .val (.int x1), .val (.int x2), .val (.int x3), .val (.ref a), .val (.int md), .val (.int nn)] [(.int x2)]))
    refine G.iloadN P48 at_203 rfl (pc' := 204) rfl ?_
    refine G.icmp_eq P48 at_204 (by decide) (pcY := 209) (by decide) (pcN := 207) rfl (fun cc => ?_) (fun cc => absurd rfl cc)
    refine G.aload P48 at_209 rfl rfl (pc' := 211) rfl ?_
    have f50 := (V39.keep K48 (ninS (Ne.symm hab) nin0))
    have z51 : n0 ≤ Array.size T48.heap := (Nat.le_trans z47 K48.1)
    refine G.callV P48 (rmPop1 l Z a0 hw a b x1 kk vs39 T48.heap n0 z51 g0 gb hab E48 B48 O48 f50 gg.1) (wk hw 39 rfl) (wk hw 40 rfl) (wk hw 42 rfl) rfl (wk hw 41 rfl) (wk hw 2 rfl) (wk hw 43 rfl) (by decide) E48 pd_8 (argsL := []) (rest := []) rfl rfl rfl rfl (W := 0) (Nat.le_of_eq rfl) (by decide) at_211 (pc' := 214) rfl fun T52 L52 v52 P52 Q52 => ?_
    obtain ⟨rfl, N52, K52, E52, B52, O52⟩ := Q52
    have N53 := Fr.app N49 N52
    show Go p e below _ (T52.setTop (mkF m 214 #[.val (.int x0), .val (.int x1), .val (.int x2), .val (.int x3), .val (.ref a), .val (.int md), .val (.int nn)] [(.int x1)]))
    refine G.iloadN P52 at_214 rfl (pc' := 215) rfl ?_
    refine G.icmp_eq P52 at_215 (by decide) (pcY := 220) (by decide) (pcN := 218) rfl (fun cc => ?_) (fun cc => absurd rfl cc)
    refine G.aload P52 at_220 rfl rfl (pc' := 222) rfl ?_
    refine G.callVP P52 (rmEmpty l Z a0 hw a (0 : Int32) T52.heap O52) (wk hw 29 rfl) (wk hw 30 rfl) (wk hw 32 rfl) rfl (wk hw 31 rfl) (wk hw 2 rfl) (wk hw 33 rfl) (by decide) E52 pd_6 (argsL := []) (rest := []) rfl rfl rfl rfl (W := 0) (Nat.le_of_eq rfl) (by decide) at_222 (pc' := 225) rfl fun T54 P54 => ?_
    show Go p e below _ (T54.setTop (mkF m 225 #[.val (.int x0), .val (.int x1), .val (.int x2), .val (.int x3), .val (.ref a), .val (.int md), .val (.int nn)] [(.int (if (0 : Int32) = (0 : Int32) then (1 : Int32) else (0 : Int32)))]))
    rw [show (if (0 : Int32) = (0 : Int32) then (1 : Int32) else (0 : Int32)) = (1 : Int32) from by decide]
    refine G.if_eq P54 at_225 (by decide) (pcY := 240) (by decide) (pcN := 228) rfl (fun c55 => absurd c55 (by decide)) (fun c55 => ?_)
    refine G.aload P54 at_228 rfl rfl (pc' := 230) rfl ?_
    refine G.callVP P54 (rmSize l Z a0 hw a (0 : Int32) T52.heap O52) (wk hw 19 rfl) (wk hw 20 rfl) (wk hw 22 rfl) rfl (wk hw 21 rfl) (wk hw 2 rfl) (wk hw 23 rfl) (by decide) E52 pd_4 (argsL := []) (rest := []) rfl rfl rfl rfl (W := 0) (Nat.le_of_eq rfl) (by decide) at_230 (pc' := 233) rfl fun T56 P56 => ?_
    show Go p e below _ (T56.setTop (mkF m 233 #[.val (.int x0), .val (.int x1), .val (.int x2), .val (.int x3), .val (.ref a), .val (.int md), .val (.int nn)] [(.int (0 : Int32))]))
    refine G.if_ne P56 at_233 (by decide) (pcY := 240) (by decide) (pcN := 236) rfl (fun c57 => absurd c57 (by decide)) (fun c57 => ?_)
    refine G.iconst P56 at_236 (z := (1 : Int32)) rfl (pc' := 237) rfl ?_
    refine G.goto P56 at_237 (by decide) (pc' := 241) (by decide) ?_
    exact G.retN P56 (t := .boolean) rfl (by simp) at_241 (by decide) (by decide) ⟨rfl, N53⟩

theorem ef_0 (m : MethodId) (x0 : Int32) (x1 : Int32) (x2 : Int32) (x3 : Int32) : entryFrame m #[(.int x0), (.int x1), (.int x2), (.int x3)] maxLocals = mkF m 0 #[.val (.int x0), .val (.int x1), .val (.int x2), .val (.int x3), .unset, .unset, .unset] [] := by first | (simp [entryFrame, mkF, argsToLocals, Value.category, maxLocals]; done) | rfl
set_option maxRecDepth 65536 in
set_option maxHeartbeats 40000000 in
theorem rm0 (l : Launch) (Z : State) (a0 : Array Value) (hw : ∀ d ∈ tables_1, d.before a0 Z = true) (x0 : Int32) (x1 : Int32) (x2 : Int32) (x3 : Int32) (h0 : Heap) (n0 : Nat) (Z0 : n0 ≤ Array.size h0) :
    MetFree l x (head1 (Jvm.Cond.code x code maxLocals ret :: tables_1) room_1) (fun a U => a = #[(.int x0), (.int x1), (.int x2), (.int x3)] ∧ Z.Warmed39 U.vm ∧ U.heap = h0) (fun _ _ _ _ _ => True) (fun _ U o U' => ∃ v L, o = .returned v ∧ (fun v h L => v = some (.int 1) ∧ Fr n0 L) v U'.heap L ∧ FrameEnd U o U' L room_1.cells room_1.slots) := by
  refine met (Q := fun v h L => v = some (.int 1) ∧ Fr n0 L) pf_0 (fun m => ef_0 m x0 x1 x2 x3) fun p e s m below meth c T0 P0 => ?_
  have N0 := Fr.nil n0
  refine G.newO P0 (wk hw 0 rfl) (wk hw 1 rfl) (wk hw 2 rfl) at_0 (by decide) (pc' := 3) rfl fun T1 h1 a1 g1 P1 E1 A1 D1 => ?_
  have g2 : n0 ≤ a1 := by rw [g1]; exact Z0
  have f3 : Fld Z h1 a1 "com/example/lacewing/lacewing/validation/IntStack" "values" "[I" .null := D1 (Or.inl (wk hw 11 rfl)) (ty := (.array .int)) (by decide)
  have f4 : Fld Z h1 a1 "com/example/lacewing/lacewing/validation/IntStack" "size" "I" (.int (0 : Int32)) := D1 (Or.inl (wk hw 18 rfl)) (ty := .int) (by decide)
  refine G.dup P1 at_3 rfl (pc' := 4) rfl ?_
  have z5 : n0 ≤ Array.size h1 := (Nat.le_trans Z0 E1.1)
  refine G.callI P1 (rmInit l Z a0 hw a1 h1 n0 z5 g2 A1 f3 f4) rfl (wk hw 3 rfl) (wk hw 4 rfl) (wk hw 2 rfl) (wk hw 5 rfl) (by decide) pd_1 (argsL := []) (rest := [(.ref a1)]) rfl rfl rfl rfl (W := 1) (Nat.le_of_eq rfl) (by decide) at_4 (pc' := 7) rfl fun T6 L6 v6 P6 Q6 => ?_
  obtain ⟨rfl, N6, K6, E6, b6, kk6, vs6, gb6, ne6, B6, O6, hv6, V6⟩ := Q6
  have N7 := Fr.app N0 N6
  show Go p e below _ (T6.setTop (mkF m 7 #[.val (.int x0), .val (.int x1), .val (.int x2), .val (.int x3), .unset, .unset, .unset] [(.ref a1)]))
  refine G.astore P6 at_7 rfl (l' := #[.val (.int x0), .val (.int x1), .val (.int x2), .val (.int x3), .val (.ref a1), .unset, .unset]) rfl (pc' := 9) rfl ?_
  refine G.iloadN P6 at_9 rfl (pc' := 10) rfl ?_
  refine G.iconst P6 at_10 (z := (3 : Int32)) rfl (pc' := 11) rfl ?_
  obtain ⟨md, h_md⟩ : ∃ z : Int32, (x3 &&& (3 : Int32)) = z := ⟨_, rfl⟩
  refine G.iand P6 at_11 (z := md) h_md (pc' := 12) rfl ?_
  refine G.istore P6 at_12 (l' := #[.val (.int x0), .val (.int x1), .val (.int x2), .val (.int x3), .val (.ref a1), .val (.int md), .unset]) rfl (pc' := 14) rfl ?_
  refine G.iload P6 at_14 rfl (pc' := 16) rfl ?_
  refine G.if_ne P6 at_16 (by decide) (pcY := 25) (by decide) (pcN := 19) rfl (fun c8 => ?_) (fun c8 => ?_)
  · --
    refine G.iload P6 at_25 rfl (pc' := 27) rfl ?_
    refine G.iconst P6 at_27 (z := (1 : Int32)) rfl (pc' := 28) rfl ?_
    refine G.icmp_ne P6 at_28 (by decide) (pcY := 43) (by decide) (pcN := 31) rfl (fun c9 => ?_) (fun c9 => ?_)
    · --
      refine G.iload P6 at_43 rfl (pc' := 45) rfl ?_
      refine G.iconst P6 at_45 (z := (2 : Int32)) rfl (pc' := 46) rfl ?_
      refine G.icmp_ne P6 at_46 (by decide) (pcY := 71) (by decide) (pcN := 49) rfl (fun c10 => ?_) (fun c10 => ?_)
      · --
        refine G.aload P6 at_71 rfl rfl (pc' := 73) rfl ?_
        refine G.iloadN P6 at_73 rfl (pc' := 74) rfl ?_
        have z11 : n0 ≤ Array.size T6.heap := (Nat.le_trans z5 K6.1)
        refine G.callS P6 (rmP8_0 l Z a0 hw a1 b6 x0 kk6 vs6 T6.heap n0 z11 g2 gb6 ne6 E6 B6 O6 V6 hv6) (wk hw 44 rfl) (wk hw 45 rfl) (wk hw 46 rfl) (wk hw 47 rfl) (by decide) pd_9 (argsL := [(.ref a1), (.int x0)]) (rest := []) rfl rfl rfl rfl (W := 0) (Nat.le_of_eq rfl) (by decide) at_74 (pc' := 77) rfl fun T12 L12 v12 P12 Q12 => ?_
        obtain ⟨rfl, N12, K12, E12, B12, O12, vs12, hv12, V12⟩ := Q12
        have N13 := Fr.app N7 N12
        show Go p e below _ (T12.setTop (mkF m 77 #[.val (.int x0), .val (.int x1), .val (.int x2), .val (.int x3), .val (.ref a1), .val (.int md), .unset] []))
        refine G.aload P12 at_77 rfl rfl (pc' := 79) rfl ?_
        refine G.iloadN P12 at_79 rfl (pc' := 80) rfl ?_
        refine G.bipush P12 at_80 (z := (8 : Int32)) rfl (pc' := 82) rfl ?_
        refine G.iadd P12 at_82 rfl (pc' := 83) rfl ?_
        have z14 : n0 ≤ Array.size T12.heap := (Nat.le_trans z11 K12.1)
        refine G.callS P12 (rmP8_8 l Z a0 hw a1 b6 (x0 + (8 : Int32)) kk6 vs12 T12.heap n0 z14 g2 gb6 ne6 E12 B12 O12 V12 hv12) (wk hw 44 rfl) (wk hw 45 rfl) (wk hw 46 rfl) (wk hw 47 rfl) (by decide) pd_9 (argsL := [(.ref a1), (.int (x0 + (8 : Int32)))]) (rest := []) rfl rfl rfl rfl (W := 0) (Nat.le_of_eq rfl) (by decide) at_83 (pc' := 86) rfl fun T15 L15 v15 P15 Q15 => ?_
        obtain ⟨rfl, N15, K15, E15, B15, O15, vs15, hv15, V15⟩ := Q15
        have N16 := Fr.app N13 N15
        show Go p e below _ (T15.setTop (mkF m 86 #[.val (.int x0), .val (.int x1), .val (.int x2), .val (.int x3), .val (.ref a1), .val (.int md), .unset] []))
        refine G.aload P15 at_86 rfl rfl (pc' := 88) rfl ?_
        refine G.iloadN P15 at_88 rfl (pc' := 89) rfl ?_
        refine G.bipush P15 at_89 (z := (16 : Int32)) rfl (pc' := 91) rfl ?_
        refine G.iadd P15 at_91 rfl (pc' := 92) rfl ?_
        have z17 : n0 ≤ Array.size T15.heap := (Nat.le_trans z14 K15.1)
        refine G.callV P15 (rmGrow l Z a0 hw a1 b6 (x0 + (16 : Int32)) kk6 vs15 T15.heap n0 z17 g2 gb6 ne6 E15 B15 O15 V15) (wk hw 12 rfl) (wk hw 13 rfl) (wk hw 15 rfl) rfl (wk hw 14 rfl) (wk hw 2 rfl) (wk hw 16 rfl) (by decide) E15 pd_3 (argsL := [(.int (x0 + (16 : Int32)))]) (rest := []) rfl rfl rfl rfl (W := 0) (Nat.le_of_eq rfl) (by decide) at_92 (pc' := 95) rfl fun T18 L18 v18 P18 Q18 => ?_
        obtain ⟨rfl, N18, K18, E18, c18, kk18, vs18, gc18, ne18, B18, O18, V18⟩ := Q18
        have N19 := Fr.app N16 N18
        show Go p e below _ (T18.setTop (mkF m 95 #[.val (.int x0), .val (.int x1), .val (.int x2), .val (.int x3), .val (.ref a1), .val (.int md), .unset] []))
        refine G.bipush P18 at_95 (z := (17 : Int32)) rfl (pc' := 97) rfl ?_
        refine G.istore P18 at_97 (l' := #[.val (.int x0), .val (.int x1), .val (.int x2), .val (.int x3), .val (.ref a1), .val (.int md), .val (.int (17 : Int32))]) rfl (pc' := 99) rfl ?_
        refine G.aload P18 at_99 rfl rfl (pc' := 101) rfl ?_
        refine G.callVP P18 (rmSize l Z a0 hw a1 (17 : Int32) T18.heap O18) (wk hw 19 rfl) (wk hw 20 rfl) (wk hw 22 rfl) rfl (wk hw 21 rfl) (wk hw 2 rfl) (wk hw 23 rfl) (by decide) E18 pd_4 (argsL := []) (rest := []) rfl rfl rfl rfl (W := 0) (Nat.le_of_eq rfl) (by decide) at_101 (pc' := 104) rfl fun T20 P20 => ?_
        show Go p e below _ (T20.setTop (mkF m 104 #[.val (.int x0), .val (.int x1), .val (.int x2), .val (.int x3), .val (.ref a1), .val (.int md), .val (.int (17 : Int32))] [(.int (17 : Int32))]))
        refine G.iload P20 at_104 rfl (pc' := 106) rfl ?_
        refine G.icmp_eq P20 at_106 (by decide) (pcY := 111) (by decide) (pcN := 109) rfl (fun c21 => ?_) (fun c21 => absurd c21 (by decide))
        refine G.aload P20 at_111 rfl rfl (pc' := 113) rfl ?_
        have z22 : n0 ≤ Array.size T18.heap := (Nat.le_trans z17 K18.1)
        refine G.callV P20 (rmKeepG l Z a0 hw a1 c18 (17 : Int32) kk18 vs18 T18.heap n0 z22 g2 gc18 ne18 E18 B18 O18 V18) (wk hw 24 rfl) (wk hw 25 rfl) (wk hw 27 rfl) rfl (wk hw 26 rfl) (wk hw 2 rfl) (wk hw 28 rfl) (by decide) E18 pd_5 (argsL := []) (rest := []) rfl rfl rfl rfl (W := 0) (Nat.le_of_eq rfl) (by decide) at_113 (pc' := 116) rfl fun T23 L23 v23 P23 Q23 => ?_
        obtain ⟨rfl, N23, K23, E23, c23, kk23, vs23, gc23, ne23, B23, O23, hv23, V23⟩ := Q23
        have N24 := Fr.app N19 N23
        show Go p e below _ (T23.setTop (mkF m 116 #[.val (.int x0), .val (.int x1), .val (.int x2), .val (.int x3), .val (.ref a1), .val (.int md), .val (.int (17 : Int32))] []))
        have z25 : n0 ≤ Array.size T23.heap := (Nat.le_trans z22 K23.1)
        exact own_tail a0 hw x0 x1 x2 x3 md (17 : Int32) a1 c23 kk23 vs23 (P23.more (by decide) (by decide)) z25 g2 gc23 ne23 E23 B23 O23 V23 N24 hv23
      · --
        refine G.aload P6 at_49 rfl rfl (pc' := 51) rfl ?_
        refine G.iloadN P6 at_51 rfl (pc' := 52) rfl ?_
        have z26 : n0 ≤ Array.size T6.heap := (Nat.le_trans z5 K6.1)
        refine G.callS P6 (rmP8_0 l Z a0 hw a1 b6 x0 kk6 vs6 T6.heap n0 z26 g2 gb6 ne6 E6 B6 O6 V6 hv6) (wk hw 44 rfl) (wk hw 45 rfl) (wk hw 46 rfl) (wk hw 47 rfl) (by decide) pd_9 (argsL := [(.ref a1), (.int x0)]) (rest := []) rfl rfl rfl rfl (W := 0) (Nat.le_of_eq rfl) (by decide) at_52 (pc' := 55) rfl fun T27 L27 v27 P27 Q27 => ?_
        obtain ⟨rfl, N27, K27, E27, B27, O27, vs27, hv27, V27⟩ := Q27
        have N28 := Fr.app N7 N27
        show Go p e below _ (T27.setTop (mkF m 55 #[.val (.int x0), .val (.int x1), .val (.int x2), .val (.int x3), .val (.ref a1), .val (.int md), .unset] []))
        refine G.aload P27 at_55 rfl rfl (pc' := 57) rfl ?_
        refine G.iloadN P27 at_57 rfl (pc' := 58) rfl ?_
        refine G.bipush P27 at_58 (z := (8 : Int32)) rfl (pc' := 60) rfl ?_
        refine G.iadd P27 at_60 rfl (pc' := 61) rfl ?_
        have z29 : n0 ≤ Array.size T27.heap := (Nat.le_trans z26 K27.1)
        refine G.callS P27 (rmP8_8 l Z a0 hw a1 b6 (x0 + (8 : Int32)) kk6 vs27 T27.heap n0 z29 g2 gb6 ne6 E27 B27 O27 V27 hv27) (wk hw 44 rfl) (wk hw 45 rfl) (wk hw 46 rfl) (wk hw 47 rfl) (by decide) pd_9 (argsL := [(.ref a1), (.int (x0 + (8 : Int32)))]) (rest := []) rfl rfl rfl rfl (W := 0) (Nat.le_of_eq rfl) (by decide) at_61 (pc' := 64) rfl fun T30 L30 v30 P30 Q30 => ?_
        obtain ⟨rfl, N30, K30, E30, B30, O30, vs30, hv30, V30⟩ := Q30
        have N31 := Fr.app N28 N30
        show Go p e below _ (T30.setTop (mkF m 64 #[.val (.int x0), .val (.int x1), .val (.int x2), .val (.int x3), .val (.ref a1), .val (.int md), .unset] []))
        refine G.bipush P30 at_64 (z := (16 : Int32)) rfl (pc' := 66) rfl ?_
        refine G.istore P30 at_66 (l' := #[.val (.int x0), .val (.int x1), .val (.int x2), .val (.int x3), .val (.ref a1), .val (.int md), .val (.int (16 : Int32))]) rfl (pc' := 68) rfl ?_
        refine G.goto P30 at_68 (by decide) (pc' := 99) (by decide) ?_
        refine G.aload P30 at_99 rfl rfl (pc' := 101) rfl ?_
        refine G.callVP P30 (rmSize l Z a0 hw a1 (16 : Int32) T30.heap O30) (wk hw 19 rfl) (wk hw 20 rfl) (wk hw 22 rfl) rfl (wk hw 21 rfl) (wk hw 2 rfl) (wk hw 23 rfl) (by decide) E30 pd_4 (argsL := []) (rest := []) rfl rfl rfl rfl (W := 0) (Nat.le_of_eq rfl) (by decide) at_101 (pc' := 104) rfl fun T32 P32 => ?_
        show Go p e below _ (T32.setTop (mkF m 104 #[.val (.int x0), .val (.int x1), .val (.int x2), .val (.int x3), .val (.ref a1), .val (.int md), .val (.int (16 : Int32))] [(.int (16 : Int32))]))
        refine G.iload P32 at_104 rfl (pc' := 106) rfl ?_
        refine G.icmp_eq P32 at_106 (by decide) (pcY := 111) (by decide) (pcN := 109) rfl (fun c33 => ?_) (fun c33 => absurd c33 (by decide))
        refine G.aload P32 at_111 rfl rfl (pc' := 113) rfl ?_
        have z34 : n0 ≤ Array.size T30.heap := (Nat.le_trans z29 K30.1)
        refine G.callV P32 (rmKeepS l Z a0 hw a1 b6 (16 : Int32) kk6 vs30 T30.heap n0 z34 g2 gb6 ne6 E30 B30 O30 V30) (wk hw 24 rfl) (wk hw 25 rfl) (wk hw 27 rfl) rfl (wk hw 26 rfl) (wk hw 2 rfl) (wk hw 28 rfl) (by decide) E30 pd_5 (argsL := []) (rest := []) rfl rfl rfl rfl (W := 0) (Nat.le_of_eq rfl) (by decide) at_113 (pc' := 116) rfl fun T35 L35 v35 P35 Q35 => ?_
        obtain ⟨rfl, N35, K35, E35, B35, O35⟩ := Q35
        have N36 := Fr.app N31 N35
        show Go p e below _ (T35.setTop (mkF m 116 #[.val (.int x0), .val (.int x1), .val (.int x2), .val (.int x3), .val (.ref a1), .val (.int md), .val (.int (16 : Int32))] []))
        have f37 := (V30.keep K35 (ninS (Ne.symm ne6) nin0))
        have z38 : n0 ≤ Array.size T35.heap := (Nat.le_trans z34 K35.1)
        exact own_tail a0 hw x0 x1 x2 x3 md (16 : Int32) a1 b6 kk6 vs30 (P35.more (by decide) (by decide)) z38 g2 gb6 ne6 E35 B35 O35 f37 N36 hv30
    · --
      refine G.aload P6 at_31 rfl rfl (pc' := 33) rfl ?_
      refine G.iloadN P6 at_33 rfl (pc' := 34) rfl ?_
      have z39 : n0 ≤ Array.size T6.heap := (Nat.le_trans z5 K6.1)
      refine G.callV P6 (rmPush l Z a0 hw a1 b6 x0 (0 : Int32) (16 : Int32) kk6 vs6 T6.heap n0 z39 g2 gb6 ne6 E6 B6 O6 V6 (by decide) (by decide) (by rw [hv6]; decide)) (wk hw 12 rfl) (wk hw 13 rfl) (wk hw 15 rfl) rfl (wk hw 14 rfl) (wk hw 2 rfl) (wk hw 16 rfl) (by decide) E6 pd_3 (argsL := [(.int x0)]) (rest := []) rfl rfl rfl rfl (W := 0) (Nat.le_of_eq rfl) (by decide) at_34 (pc' := 37) rfl fun T40 L40 v40 P40 Q40 => ?_
      obtain ⟨rfl, N40, K40, E40, B40, O40, vs40, e40, V40⟩ := Q40
      have N41 := Fr.app N7 N40
      show Go p e below _ (T40.setTop (mkF m 37 #[.val (.int x0), .val (.int x1), .val (.int x2), .val (.int x3), .val (.ref a1), .val (.int md), .unset] []))
      have O40p : Fld Z T40.heap a1 "com/example/lacewing/lacewing/validation/IntStack" "size" "I" (.int (1 : Int32)) := O40
      have hv40 : vs40.length = 16 := by rw [e40, List.length_set]; exact hv6
      refine G.iconst P40 at_37 (z := (1 : Int32)) rfl (pc' := 38) rfl ?_
      refine G.istore P40 at_38 (l' := #[.val (.int x0), .val (.int x1), .val (.int x2), .val (.int x3), .val (.ref a1), .val (.int md), .val (.int (1 : Int32))]) rfl (pc' := 40) rfl ?_
      refine G.goto P40 at_40 (by decide) (pc' := 99) (by decide) ?_
      refine G.aload P40 at_99 rfl rfl (pc' := 101) rfl ?_
      refine G.callVP P40 (rmSize l Z a0 hw a1 (1 : Int32) T40.heap O40p) (wk hw 19 rfl) (wk hw 20 rfl) (wk hw 22 rfl) rfl (wk hw 21 rfl) (wk hw 2 rfl) (wk hw 23 rfl) (by decide) E40 pd_4 (argsL := []) (rest := []) rfl rfl rfl rfl (W := 0) (Nat.le_of_eq rfl) (by decide) at_101 (pc' := 104) rfl fun T42 P42 => ?_
      show Go p e below _ (T42.setTop (mkF m 104 #[.val (.int x0), .val (.int x1), .val (.int x2), .val (.int x3), .val (.ref a1), .val (.int md), .val (.int (1 : Int32))] [(.int (1 : Int32))]))
      refine G.iload P42 at_104 rfl (pc' := 106) rfl ?_
      refine G.icmp_eq P42 at_106 (by decide) (pcY := 111) (by decide) (pcN := 109) rfl (fun c43 => ?_) (fun c43 => absurd c43 (by decide))
      refine G.aload P42 at_111 rfl rfl (pc' := 113) rfl ?_
      have z44 : n0 ≤ Array.size T40.heap := (Nat.le_trans z39 K40.1)
      refine G.callV P42 (rmKeepS l Z a0 hw a1 b6 (1 : Int32) kk6 vs40 T40.heap n0 z44 g2 gb6 ne6 E40 B40 O40p V40) (wk hw 24 rfl) (wk hw 25 rfl) (wk hw 27 rfl) rfl (wk hw 26 rfl) (wk hw 2 rfl) (wk hw 28 rfl) (by decide) E40 pd_5 (argsL := []) (rest := []) rfl rfl rfl rfl (W := 0) (Nat.le_of_eq rfl) (by decide) at_113 (pc' := 116) rfl fun T45 L45 v45 P45 Q45 => ?_
      obtain ⟨rfl, N45, K45, E45, B45, O45⟩ := Q45
      have N46 := Fr.app N41 N45
      show Go p e below _ (T45.setTop (mkF m 116 #[.val (.int x0), .val (.int x1), .val (.int x2), .val (.int x3), .val (.ref a1), .val (.int md), .val (.int (1 : Int32))] []))
      have f47 := (V40.keep K45 (ninS (Ne.symm ne6) nin0))
      have z48 : n0 ≤ Array.size T45.heap := (Nat.le_trans z44 K45.1)
      exact own_tail a0 hw x0 x1 x2 x3 md (1 : Int32) a1 b6 kk6 vs40 (P45.more (by decide) (by decide)) z48 g2 gb6 ne6 E45 B45 O45 f47 N46 hv40
  · --
    refine G.iconst P6 at_19 (z := (0 : Int32)) rfl (pc' := 20) rfl ?_
    refine G.istore P6 at_20 (l' := #[.val (.int x0), .val (.int x1), .val (.int x2), .val (.int x3), .val (.ref a1), .val (.int md), .val (.int (0 : Int32))]) rfl (pc' := 22) rfl ?_
    refine G.goto P6 at_22 (by decide) (pc' := 99) (by decide) ?_
    refine G.aload P6 at_99 rfl rfl (pc' := 101) rfl ?_
    refine G.callVP P6 (rmSize l Z a0 hw a1 (0 : Int32) T6.heap O6) (wk hw 19 rfl) (wk hw 20 rfl) (wk hw 22 rfl) rfl (wk hw 21 rfl) (wk hw 2 rfl) (wk hw 23 rfl) (by decide) E6 pd_4 (argsL := []) (rest := []) rfl rfl rfl rfl (W := 0) (Nat.le_of_eq rfl) (by decide) at_101 (pc' := 104) rfl fun T49 P49 => ?_
    show Go p e below _ (T49.setTop (mkF m 104 #[.val (.int x0), .val (.int x1), .val (.int x2), .val (.int x3), .val (.ref a1), .val (.int md), .val (.int (0 : Int32))] [(.int (0 : Int32))]))
    refine G.iload P49 at_104 rfl (pc' := 106) rfl ?_
    refine G.icmp_eq P49 at_106 (by decide) (pcY := 111) (by decide) (pcN := 109) rfl (fun c50 => ?_) (fun c50 => absurd c50 (by decide))
    refine G.aload P49 at_111 rfl rfl (pc' := 113) rfl ?_
    have z51 : n0 ≤ Array.size T6.heap := (Nat.le_trans z5 K6.1)
    refine G.callV P49 (rmKeepS l Z a0 hw a1 b6 (0 : Int32) kk6 vs6 T6.heap n0 z51 g2 gb6 ne6 E6 B6 O6 V6) (wk hw 24 rfl) (wk hw 25 rfl) (wk hw 27 rfl) rfl (wk hw 26 rfl) (wk hw 2 rfl) (wk hw 28 rfl) (by decide) E6 pd_5 (argsL := []) (rest := []) rfl rfl rfl rfl (W := 0) (Nat.le_of_eq rfl) (by decide) at_113 (pc' := 116) rfl fun T52 L52 v52 P52 Q52 => ?_
    obtain ⟨rfl, N52, K52, E52, B52, O52⟩ := Q52
    have N53 := Fr.app N7 N52
    show Go p e below _ (T52.setTop (mkF m 116 #[.val (.int x0), .val (.int x1), .val (.int x2), .val (.int x3), .val (.ref a1), .val (.int md), .val (.int (0 : Int32))] []))
    have f54 := (V6.keep K52 (ninS (Ne.symm ne6) nin0))
    have z55 : n0 ≤ Array.size T52.heap := (Nat.le_trans z51 K52.1)
    exact own_tail a0 hw x0 x1 x2 x3 md (0 : Int32) a1 b6 kk6 vs6 (P52.more (by decide) (by decide)) z55 g2 gb6 ne6 E52 B52 O52 f54 N53 hv6

set_option maxRecDepth 65536 in
set_option maxHeartbeats 40000000 in
theorem comes_1 {Post : Tables → Env → Array Value → State → Outcome → State → Prop} (hpost : ∀ tb e args s v u, (limb_1_1.after args s (.returned v) u = true ∧ limb_1_2.after args s (.returned v) u = true ∧ True) → FrameEnd s (.returned v) u (Jvm.fieldLocs frame_1_writes args s ++ Jvm.arrayLocs frame_1_arrays args s ++ Jvm.staticLocs frame_1_statics s) 16 256 → Post tb e args s (.returned v) u) :
    ArmFor flags0 classFile x code maxLocals ret World_1 tables_1 room_1 Calls_1 rest_1 Pre_1 Post := by
  intro l hfl _ _ p e ha hc hk s m args below hf hA hF happ hP
  obtain ⟨hcalls, hrest, hpre⟩ := hP
  obtain ⟨-, -, -, hnamed, -, -, -, hat⟩ := (Spec.applies_iff hf).mp happ
  obtain ⟨hg, hn⟩ := and_e (Cond.before_iff.mp (show (Jvm.Cond.and given_1 narrow_1).before args s = true from hpre))
  obtain ⟨h1, hg1⟩ := and_e hg
  obtain ⟨i0, hg2⟩ := and_e hg1
  obtain ⟨i1, hg3⟩ := and_e hg2
  obtain ⟨i2, hg4⟩ := and_e hg3
  have i3 := hg4
  obtain ⟨w0, w1, w2, w3, rfl⟩ : ∃ w0 w1 w2 w3 : Value, args = #[w0, w1, w2, w3] := by
    have hs : args.size = 4 := by simpa [Cond.value, given_1] using h1
    obtain ⟨L⟩ := args
    match L, hs with
    | [w0, w1, w2, w3], _ => exact ⟨w0, w1, w2, w3, rfl⟩
  have hw := fun d (hd : d ∈ tables_1) => atoms_spec (ws := Jvm.Cond.code x code maxLocals ret :: tables_1) hat d (List.mem_cons_of_mem _ hd)
  obtain ⟨x0, e0⟩ := is_v i0
  obtain rfl : w0 = (.int x0) := Option.some.inj e0
  obtain ⟨x1, e1⟩ := is_v i1
  obtain rfl : w1 = (.int x1) := Option.some.inj e1
  obtain ⟨x2, e2⟩ := is_v i2
  obtain rfl : w2 = (.int x2) := Option.some.inj e2
  obtain ⟨x3, e3⟩ := is_v i3
  obtain rfl : w3 = (.int x3) := Option.some.inj e3
  obtain ⟨n, o, h1, h2, h3, _, L, rfl, ⟨rfl, N⟩, hq⟩ := rm0 l s _ hw x0 x1 x2 x3 s.heap s.heap.size (Nat.le_refl _)  p e ha hc hk s m _ below hf ((Spec.applies_iff_loose hf).mp happ).1 ⟨rfl, State.Warmed39.refl s, rfl⟩ trivial
  refine ⟨n, _, h1, h2, h3, hpost _ _ _ _ _ _ ⟨Cond.after_iff.mpr rfl, Cond.after_iff.mpr (eq_i res_at (Term.int_eval (1)) rfl), trivial⟩ ⟨hq.1, hq.2.1, (hq.2.2.sift fun y hy => Or.inr (N y hy)).mono (by decide) (by decide)⟩⟩
theorem main_1_1 : Claimed_1_1 := comes_1 fun _ _ _ _ _ _ h hF => ⟨h.1, hF⟩
theorem main_1_2 : Claimed_1_2 := comes_1 fun _ _ _ _ _ _ h hF => ⟨h.2.1, hF⟩
end Jvm.Pilot.@@N@@
namespace Jvm.Pilot.@@N@@
open Jvm Jvm.ClassFile Sem Op Lib Jvm.Free Jvm.Stand Jvm.Pilot.@@N@@.Jvm.D
/-! MADE BY PROGRAM (witnessworld.py) out of the Statement's table words and the real class files: 12 classes; the members and pool entries that the words name. The judged class is class 1, her method 2. -/
namespace start1
open Jvm.ClassFile
def u (s : String) : CpInfo := .utf8 (stringToUtf16 s)
/-- a pool by its gaps: so many unusable entries, then the entry; so many at the end -/
def gap : Nat → List CpInfo → List CpInfo
  | 0, r => r
  | n + 1, r => .unusable :: gap n r
def poolList (es : List (Nat × CpInfo)) (last : Nat) : List CpInfo := es.foldr (fun e r => gap e.1 (e.2 :: r)) (gap last [])
def pool (es : List (Nat × CpInfo)) (last : Nat) : Array CpInfo := ⟨poolList es last⟩
def fileOf (pool : Array CpInfo) (this : Nat) (attrs : Array Attribute := #[]) (ms : Array MethodInfo := #[]) (fl : Nat := 33) (sup : Nat := 0) (ifs : Array Nat := #[]) (fds : Array FieldInfo := #[]) : ClassFile where
  minorVersion := 0
  majorVersion := 65
  constantPool := pool
  accessFlags := fl
  thisClass := this
  superClass := sup
  interfaces := ifs
  fields := fds
  methods := ms
  attributes := attrs
def plain (name : String) (sup : Option ClassId) : Class where
  name := name
  kind := .ordinary
  loader := none
  accessFlags := 33
  super := sup
  interfaces := #[]
  cf := none
  fields := #[]
  methods := #[]
  instanceTypes := #[]
  staticTypes := #[]
  resolved := #[]
  callSites := []
  init := .initialized
  statics := none
  mirror := none

def pool0 : Array CpInfo := pool [(5, u "<init>"), (0, u "()V"), (1, .class_ 10), (1, u "java/lang/Object")] 113

def k0c0 : Code := { maxStack := 0, maxLocals := 1, code := object_method_1_code, exceptionTable := #[], attributes := #[] }
def k0m0 : Method := { name := "<init>", desc := "()V", sig := { parameters := [], returnType := none }, accessFlags := 1, code := some k0c0 }
/-- java/lang/Object -/
def k0 : Class := { plain "java/lang/Object" none with
  accessFlags := 33
  interfaces := #[]
  cf := some (fileOf pool0 8 #[] #[{ accessFlags := 1, nameIndex := 5, descriptorIndex := 6, attributes := #[] }] 33 0 #[] #[])
  fields := #[]
  methods := #[k0m0]
  instanceTypes := #[]
  staticTypes := #[]
  resolved := Array.replicate 124 none
  statics := none }

def pool1 : Array CpInfo := pool [(2, .class_ 4), (0, .nameAndType 5 6), (0, u "java/lang/Object"), (0, u "<init>"), (0, u "()V"), (0, .methodref 8 9), (0, .class_ 10), (0, .nameAndType 11 12), (0, u "com/example/lacewing/lacewing/validation/IntStack"), (0, u "push"), (0, u "(I)V"), (0, .methodref 8 3), (0, .methodref 15 16), (0, .class_ 17), (0, .nameAndType 18 19), (0, u "com/example/lacewing/lacewing/validation/IntStackKeepSmallPinLaw"), (0, u "push8"), (0, u "(Lcom/example/lacewing/lacewing/validation/IntStack;I)V"), (0, .methodref 8 21), (0, .nameAndType 22 23), (0, u "size"), (0, u "()I"), (0, .methodref 8 25), (0, .nameAndType 26 6), (0, u "keepSmall"), (0, .methodref 8 28), (0, .nameAndType 29 30), (0, u "isEmpty"), (0, u "()Z"), (0, .methodref 8 32), (0, .nameAndType 33 34), (0, u "get"), (0, u "(I)I"), (0, .methodref 8 36), (0, .nameAndType 37 23), (0, u "pop"), (2, u "law"), (0, u "(IIII)Z")] 3

def k1m0 : Method := { name := "<init>", desc := "()V", sig := { parameters := [], returnType := none }, accessFlags := 1, code := none }
def k1c1 : Code := { maxStack := 3, maxLocals := 2, code := method_2_code, exceptionTable := #[], attributes := #[] }
def k1m1 : Method := { name := "push8", desc := "(Lcom/example/lacewing/lacewing/validation/IntStack;I)V", sig := { parameters := [(.object "com/example/lacewing/lacewing/validation/IntStack"), .int], returnType := none }, accessFlags := 10, code := some k1c1 }
def k1c2 : Code := { maxStack := 3, maxLocals := 7, code := code, exceptionTable := #[], attributes := #[] }
def k1m2 : Method := { name := "law", desc := "(IIII)Z", sig := { parameters := [.int, .int, .int, .int], returnType := some .boolean }, accessFlags := 9, code := some k1c2 }
/-- com/example/lacewing/lacewing/validation/IntStackKeepSmallPinLaw -/
def k1 : Class := { plain "com/example/lacewing/lacewing/validation/IntStackKeepSmallPinLaw" (some 0) with
  accessFlags := 49
  interfaces := #[]
  cf := some (fileOf pool1 15 #[] #[{ accessFlags := 1, nameIndex := 5, descriptorIndex := 6, attributes := #[] }, { accessFlags := 10, nameIndex := 18, descriptorIndex := 19, attributes := #[] }, { accessFlags := 9, nameIndex := 40, descriptorIndex := 41, attributes := #[] }] 49 2 #[] #[])
  fields := #[]
  methods := #[k1m0, k1m1, k1m2]
  instanceTypes := #[]
  staticTypes := #[]
  resolved := Array.replicate 45 none
  statics := none }

def pool2 : Array CpInfo := pool [(1, .methodref 2 3), (0, .class_ 4), (0, .nameAndType 5 6), (0, u "java/lang/Object"), (0, u "<init>"), (0, u "()V"), (0, .class_ 8), (0, u "com/example/lacewing/lacewing/validation/IntStack"), (0, .fieldref 7 10), (0, .nameAndType 11 12), (0, u "values"), (0, u "[I"), (0, .fieldref 7 14), (0, .nameAndType 15 16), (0, u "size"), (0, u "I"), (0, .methodref 18 19), (0, .class_ 20), (0, .nameAndType 21 22), (0, u "java/util/Arrays"), (0, u "copyOf"), (0, u "([II)[I"), (0, u "KEPT"), (4, u "push"), (0, u "(I)V"), (1, u "pop"), (0, u "()I"), (0, u "get"), (0, u "(I)I"), (0, u "isEmpty"), (0, u "()Z"), (1, u "keepSmall")] 2

def k2c0 : Code := { maxStack := 2, maxLocals := 1, code := prog_122_method_1_code, exceptionTable := #[], attributes := #[] }
def k2m0 : Method := { name := "<init>", desc := "()V", sig := { parameters := [], returnType := none }, accessFlags := 0, code := some k2c0 }
def k2c1 : Code := { maxStack := 4, maxLocals := 2, code := prog_122_method_2_code, exceptionTable := #[], attributes := #[] }
def k2m1 : Method := { name := "push", desc := "(I)V", sig := { parameters := [.int], returnType := none }, accessFlags := 0, code := some k2c1 }
def k2c2 : Code := { maxStack := 3, maxLocals := 1, code := prog_122_method_3_code, exceptionTable := #[], attributes := #[] }
def k2m2 : Method := { name := "pop", desc := "()I", sig := { parameters := [], returnType := some .int }, accessFlags := 0, code := some k2c2 }
def k2c3 : Code := { maxStack := 2, maxLocals := 2, code := prog_122_method_4_code, exceptionTable := #[], attributes := #[] }
def k2m3 : Method := { name := "get", desc := "(I)I", sig := { parameters := [.int], returnType := some .int }, accessFlags := 0, code := some k2c3 }
def k2c4 : Code := { maxStack := 1, maxLocals := 1, code := prog_122_method_5_code, exceptionTable := #[], attributes := #[] }
def k2m4 : Method := { name := "size", desc := "()I", sig := { parameters := [], returnType := some .int }, accessFlags := 0, code := some k2c4 }
def k2c5 : Code := { maxStack := 1, maxLocals := 1, code := prog_122_method_6_code, exceptionTable := #[], attributes := #[] }
def k2m5 : Method := { name := "isEmpty", desc := "()Z", sig := { parameters := [], returnType := some .boolean }, accessFlags := 0, code := some k2c5 }
def k2c6 : Code := { maxStack := 2, maxLocals := 1, code := prog_122_method_8_code, exceptionTable := #[], attributes := #[] }
def k2m6 : Method := { name := "keepSmall", desc := "()V", sig := { parameters := [], returnType := none }, accessFlags := 0, code := some k2c6 }
/-- com/example/lacewing/lacewing/validation/IntStack -/
def k2 : Class := { plain "com/example/lacewing/lacewing/validation/IntStack" (some 0) with
  accessFlags := 48
  interfaces := #[]
  cf := some (fileOf pool2 7 #[] #[{ accessFlags := 0, nameIndex := 5, descriptorIndex := 6, attributes := #[] }, { accessFlags := 0, nameIndex := 28, descriptorIndex := 29, attributes := #[] }, { accessFlags := 0, nameIndex := 31, descriptorIndex := 32, attributes := #[] }, { accessFlags := 0, nameIndex := 33, descriptorIndex := 34, attributes := #[] }, { accessFlags := 0, nameIndex := 15, descriptorIndex := 32, attributes := #[] }, { accessFlags := 0, nameIndex := 35, descriptorIndex := 36, attributes := #[] }, { accessFlags := 0, nameIndex := 38, descriptorIndex := 6, attributes := #[] }] 48 2 #[] #[{ accessFlags := 26, nameIndex := 23, descriptorIndex := 16, attributes := #[] }, { accessFlags := 2, nameIndex := 11, descriptorIndex := 12, attributes := #[] }, { accessFlags := 2, nameIndex := 15, descriptorIndex := 16, attributes := #[] }])
  fields := #[{ name := "KEPT", type := .int, accessFlags := 26, slot := 0, constantValue := 0 }, { name := "values", type := (.array .int), accessFlags := 2, slot := 0, constantValue := 0 }, { name := "size", type := .int, accessFlags := 2, slot := 1, constantValue := 0 }]
  methods := #[k2m0, k2m1, k2m2, k2m3, k2m4, k2m5, k2m6]
  instanceTypes := #[(.array .int), .int]
  staticTypes := #[.int]
  resolved := Array.replicate 41 none
  statics := none }

def pool3 : Array CpInfo := pool [(2, .class_ 4), (1, u "java/lang/Object"), (0, u "<init>"), (0, u "()V"), (7, .class_ 16), (1, u "java/util/Arrays"), (57, .class_ 76), (1, u "java/util/Arrays$NaturalOrder"), (36, .class_ 115), (1, u "java/util/Arrays$LegacyMergeSort"), (1, u "Z"), (32, .methodref 151 152), (0, .class_ 153), (0, .nameAndType 154 155), (0, u "java/lang/System"), (0, u "arraycopy"), (0, u "(Ljava/lang/Object;ILjava/lang/Object;II)V"), (146, u "copyOf"), (1, .methodref 305 306), (0, .class_ 307), (0, .nameAndType 308 309), (0, u "java/lang/Math"), (0, u "min"), (0, u "(II)I"), (65, .class_ 376), (0, u "java/util/Arrays$ArrayList"), (68, u "$assertionsDisabled"), (269, u "MIN_ARRAY_SORT_GRAN"), (0, u "I"), (2, u "INSERTIONSORT_THRESHOLD"), (151, u "([II)[I"), (103, .class_ 976), (0, u "java/util/Arrays$ArrayItr")] 52

def k3m0 : Method := { name := "<init>", desc := "()V", sig := { parameters := [], returnType := none }, accessFlags := 2, code := none }
def k3c1 : Code := { maxStack := 6, maxLocals := 3, code := jdk_65_method_123_code, exceptionTable := #[], attributes := #[] }
def k3m1 : Method := { name := "copyOf", desc := "([II)[I", sig := { parameters := [(.array .int), .int], returnType := some (.array .int) }, accessFlags := 9, code := some k3c1 }
/-- java/util/Arrays -/
def k3 : Class := { plain "java/util/Arrays" (some 0) with
  accessFlags := 49
  interfaces := #[]
  cf := some (fileOf pool3 14 #[.nestMembers #[975, 375, 113, 74]] #[{ accessFlags := 2, nameIndex := 5, descriptorIndex := 6, attributes := #[] }, { accessFlags := 9, nameIndex := 302, descriptorIndex := 871, attributes := #[] }] 49 2 #[] #[{ accessFlags := 26, nameIndex := 715, descriptorIndex := 716, attributes := #[] }, { accessFlags := 26, nameIndex := 719, descriptorIndex := 716, attributes := #[] }, { accessFlags := 4120, nameIndex := 445, descriptorIndex := 117, attributes := #[] }])
  fields := #[{ name := "MIN_ARRAY_SORT_GRAN", type := .int, accessFlags := 26, slot := 0, constantValue := 0 }, { name := "INSERTIONSORT_THRESHOLD", type := .int, accessFlags := 26, slot := 1, constantValue := 0 }, { name := "$assertionsDisabled", type := .boolean, accessFlags := 4120, slot := 2, constantValue := 0 }]
  methods := #[k3m0, k3m1]
  instanceTypes := #[]
  staticTypes := #[.int, .int, .boolean]
  resolved := Array.replicate 1029 none
  statics := none }

def pool4 : Array CpInfo := pool [(1, .class_ 2), (0, u "java/lang/Math"), (1, .class_ 6), (1, u "java/lang/Object"), (0, u "<init>"), (0, u "()V"), (89, .class_ 100), (1, u "java/lang/Math$RandomNumberGeneratorHolder"), (71, u "negativeZeroFloatBits"), (0, u "J"), (2, u "negativeZeroDoubleBits"), (24, u "min"), (43, u "$assertionsDisabled"), (0, u "Z"), (88, u "(II)I"), (2, u "twoToTheDoubleScaleDown"), (0, u "D"), (4, u "twoToTheDoubleScaleUp"), (9, u "E"), (3, u "PI"), (2, u "TAU"), (2, u "DEGREES_TO_RADIANS"), (0, u "RADIANS_TO_DEGREES")] 94

def k4m0 : Method := { name := "<init>", desc := "()V", sig := { parameters := [], returnType := none }, accessFlags := 2, code := none }
def k4c1 : Code := { maxStack := 2, maxLocals := 2, code := jdk_29_method_69_code, exceptionTable := #[], attributes := #[] }
def k4m1 : Method := { name := "min", desc := "(II)I", sig := { parameters := [.int, .int], returnType := some .int }, accessFlags := 9, code := some k4c1 }
/-- java/lang/Math -/
def k4 : Class := { plain "java/lang/Math" (some 0) with
  accessFlags := 49
  interfaces := #[]
  cf := some (fileOf pool4 1 #[.nestMembers #[98]] #[{ accessFlags := 2, nameIndex := 7, descriptorIndex := 8, attributes := #[] }, { accessFlags := 9, nameIndex := 201, descriptorIndex := 335, attributes := #[] }] 49 4 #[] #[{ accessFlags := 25, nameIndex := 354, descriptorIndex := 339, attributes := #[] }, { accessFlags := 25, nameIndex := 358, descriptorIndex := 339, attributes := #[] }, { accessFlags := 25, nameIndex := 361, descriptorIndex := 339, attributes := #[] }, { accessFlags := 26, nameIndex := 364, descriptorIndex := 339, attributes := #[] }, { accessFlags := 26, nameIndex := 365, descriptorIndex := 339, attributes := #[] }, { accessFlags := 26, nameIndex := 172, descriptorIndex := 173, attributes := #[] }, { accessFlags := 26, nameIndex := 176, descriptorIndex := 173, attributes := #[] }, { accessFlags := 8, nameIndex := 344, descriptorIndex := 339, attributes := #[] }, { accessFlags := 8, nameIndex := 338, descriptorIndex := 339, attributes := #[] }, { accessFlags := 4120, nameIndex := 245, descriptorIndex := 246, attributes := #[] }])
  fields := #[{ name := "E", type := .double, accessFlags := 25, slot := 0, constantValue := 0 }, { name := "PI", type := .double, accessFlags := 25, slot := 1, constantValue := 0 }, { name := "TAU", type := .double, accessFlags := 25, slot := 2, constantValue := 0 }, { name := "DEGREES_TO_RADIANS", type := .double, accessFlags := 26, slot := 3, constantValue := 0 }, { name := "RADIANS_TO_DEGREES", type := .double, accessFlags := 26, slot := 4, constantValue := 0 }, { name := "negativeZeroFloatBits", type := .long, accessFlags := 26, slot := 5, constantValue := 0 }, { name := "negativeZeroDoubleBits", type := .long, accessFlags := 26, slot := 6, constantValue := 0 }, { name := "twoToTheDoubleScaleUp", type := .double, accessFlags := 8, slot := 7, constantValue := 0 }, { name := "twoToTheDoubleScaleDown", type := .double, accessFlags := 8, slot := 8, constantValue := 0 }, { name := "$assertionsDisabled", type := .boolean, accessFlags := 4120, slot := 9, constantValue := 0 }]
  methods := #[k4m0, k4m1]
  instanceTypes := #[]
  staticTypes := #[.double, .double, .double, .double, .double, .long, .long, .double, .double, .boolean]
  resolved := Array.replicate 460 none
  statics := none }

def pool5 : Array CpInfo := pool [(2, .class_ 4), (1, u "java/lang/Object"), (0, u "<init>"), (0, u "()V"), (1, .class_ 10), (1, u "java/lang/System"), (0, u "allowSecurityManager"), (0, u "I"), (16, u "cons"), (0, u "Ljava/io/Console;"), (77, .class_ 110), (1, u "java/lang/System$CallersHolder"), (43, u "initialErrStream"), (0, u "Ljava/io/PrintStream;"), (19, u "security"), (0, u "Ljava/lang/SecurityManager;"), (31, .class_ 209), (0, u "java/lang/System$1"), (7, u "props"), (0, u "Ljava/util/Properties;"), (2, u "lineSeparator"), (0, u "Ljava/lang/String;"), (96, .class_ 321), (1, u "java/lang/System$LoggerFinder"), (5, .class_ 328), (0, u "java/lang/System$Logger"), (67, u "err"), (2, u "out"), (91, u "notSupportedJnuEncoding"), (15, u "in"), (17, u "initialIn"), (0, u "Ljava/io/InputStream;"), (35, u "bootLayer"), (0, u "Ljava/lang/ModuleLayer;"), (99, .class_ 664), (0, u "java/lang/System$2"), (9, u "NEVER"), (2, u "MAYBE"), (49, u "arraycopy"), (0, u "(Ljava/lang/Object;ILjava/lang/Object;II)V"), (72, .class_ 802), (0, u "java/lang/System$Logger$Level")] 31

def k5m0 : Method := { name := "<init>", desc := "()V", sig := { parameters := [], returnType := none }, accessFlags := 2, code := none }
def k5m1 : Method := { name := "arraycopy", desc := "(Ljava/lang/Object;ILjava/lang/Object;II)V", sig := { parameters := [(.object "java/lang/Object"), .int, (.object "java/lang/Object"), .int, .int], returnType := none }, accessFlags := 265, code := none }
/-- java/lang/System -/
def k5 : Class := { plain "java/lang/System" (some 0) with
  accessFlags := 49
  interfaces := #[]
  cf := some (fileOf pool5 8 #[.nestMembers #[319, 327, 801, 108, 663, 208]] #[{ accessFlags := 2, nameIndex := 5, descriptorIndex := 6, attributes := #[] }, { accessFlags := 265, nameIndex := 727, descriptorIndex := 728, attributes := #[] }] 49 2 #[] #[{ accessFlags := 25, nameIndex := 507, descriptorIndex := 526, attributes := #[] }, { accessFlags := 25, nameIndex := 399, descriptorIndex := 155, attributes := #[] }, { accessFlags := 25, nameIndex := 396, descriptorIndex := 155, attributes := #[] }, { accessFlags := 10, nameIndex := 525, descriptorIndex := 526, attributes := #[] }, { accessFlags := 26, nameIndex := 674, descriptorIndex := 12, attributes := #[] }, { accessFlags := 26, nameIndex := 677, descriptorIndex := 12, attributes := #[] }, { accessFlags := 10, nameIndex := 11, descriptorIndex := 12, attributes := #[] }, { accessFlags := 74, nameIndex := 175, descriptorIndex := 176, attributes := #[] }, { accessFlags := 10, nameIndex := 491, descriptorIndex := 222, attributes := #[] }, { accessFlags := 74, nameIndex := 29, descriptorIndex := 30, attributes := #[] }, { accessFlags := 74, nameIndex := 154, descriptorIndex := 155, attributes := #[] }, { accessFlags := 10, nameIndex := 217, descriptorIndex := 218, attributes := #[] }, { accessFlags := 10, nameIndex := 221, descriptorIndex := 222, attributes := #[] }, { accessFlags := 8, nameIndex := 562, descriptorIndex := 563, attributes := #[] }])
  fields := #[{ name := "in", type := (.object "java/io/InputStream"), accessFlags := 25, slot := 0, constantValue := 0 }, { name := "out", type := (.object "java/io/PrintStream"), accessFlags := 25, slot := 1, constantValue := 0 }, { name := "err", type := (.object "java/io/PrintStream"), accessFlags := 25, slot := 2, constantValue := 0 }, { name := "initialIn", type := (.object "java/io/InputStream"), accessFlags := 10, slot := 3, constantValue := 0 }, { name := "NEVER", type := .int, accessFlags := 26, slot := 4, constantValue := 0 }, { name := "MAYBE", type := .int, accessFlags := 26, slot := 5, constantValue := 0 }, { name := "allowSecurityManager", type := .int, accessFlags := 10, slot := 6, constantValue := 0 }, { name := "security", type := (.object "java/lang/SecurityManager"), accessFlags := 74, slot := 7, constantValue := 0 }, { name := "notSupportedJnuEncoding", type := (.object "java/lang/String"), accessFlags := 10, slot := 8, constantValue := 0 }, { name := "cons", type := (.object "java/io/Console"), accessFlags := 74, slot := 9, constantValue := 0 }, { name := "initialErrStream", type := (.object "java/io/PrintStream"), accessFlags := 74, slot := 10, constantValue := 0 }, { name := "props", type := (.object "java/util/Properties"), accessFlags := 10, slot := 11, constantValue := 0 }, { name := "lineSeparator", type := (.object "java/lang/String"), accessFlags := 10, slot := 12, constantValue := 0 }, { name := "bootLayer", type := (.object "java/lang/ModuleLayer"), accessFlags := 8, slot := 13, constantValue := 0 }]
  methods := #[k5m0, k5m1]
  instanceTypes := #[]
  staticTypes := #[(.object "java/io/InputStream"), (.object "java/io/PrintStream"), (.object "java/io/PrintStream"), (.object "java/io/InputStream"), .int, .int, .int, (.object "java/lang/SecurityManager"), (.object "java/lang/String"), (.object "java/io/Console"), (.object "java/io/PrintStream"), (.object "java/util/Properties"), (.object "java/lang/String"), (.object "java/lang/ModuleLayer")]
  resolved := Array.replicate 834 none
  statics := none }

def pool6 : Array CpInfo := pool [(1, u "java/lang/Cloneable"), (0, .class_ 1), (0, u "java/lang/Object"), (0, .class_ 3)] 3

/-- java/lang/Cloneable -/
def k6 : Class := { plain "java/lang/Cloneable" (some 0) with
  accessFlags := 1537
  interfaces := #[]
  cf := some (fileOf pool6 2 #[] #[] 1537 4 #[] #[])
  fields := #[]
  methods := #[]
  instanceTypes := #[]
  staticTypes := #[]
  resolved := Array.replicate 8 none
  statics := none }

def pool7 : Array CpInfo := pool [(1, u "java/io/Serializable"), (0, .class_ 1), (0, u "java/lang/Object"), (0, .class_ 3)] 3

/-- java/io/Serializable -/
def k7 : Class := { plain "java/io/Serializable" (some 0) with
  accessFlags := 1537
  interfaces := #[]
  cf := some (fileOf pool7 2 #[] #[] 1537 4 #[] #[])
  fields := #[]
  methods := #[]
  instanceTypes := #[]
  staticTypes := #[]
  resolved := Array.replicate 8 none
  statics := none }

/-- the primitive byte -/
def k8 : Class := { plain "byte" none with kind := .primitive 'B', accessFlags := 0x411 }
/-- [B -/
def k9 : Class := { plain "[B" (some 0) with kind := .array 8 .byte, interfaces := #[6, 7], accessFlags := 1041 }

/-- the primitive int -/
def k10 : Class := { plain "int" none with kind := .primitive 'I', accessFlags := 0x411 }
/-- [I -/
def k11 : Class := { plain "[I" (some 0) with kind := .array 10 .int, interfaces := #[6, 7], accessFlags := 1041 }

def heap : Heap := #[]
def classes : Array Class := #[k0, k1, k2, k3, k4, k5, k6, k7, k8, k9, k10, k11]
def interned : List (Array UInt16 × Addr) := []
def slotsUsed : Nat := 0
def theMethod : MethodId := ⟨1, 2⟩
def args0 : Array Value := #[.int 2, .int 256, .int 77, .int 7]
def aboutOver (below : List Frame) : State where
  vm := { classes := classes, interned := interned.toArray }
  heap := heap
  slotsUsed := slotsUsed
  threads := #[{ frames := .invoking theMethod args0 :: below }]
def below0 : List Frame := [.native { method := ⟨0, 0⟩, args := #[] }]
def about1 : State := aboutOver below0
def p0 : Program := .bare "" "" ""
def e0 : Env := launch0.env 0 0 0
theorem w_frames : about1.frames = Frame.invoking theMethod args0 :: below0 := rfl
set_option maxRecDepth 65536 in
theorem w_args : argsFit about1.vm theMethod args0 = true := by decide +kernel
set_option maxRecDepth 65536 in
theorem w_heap : heapFits about1 = true := by decide +kernel
set_option maxRecDepth 65536 in
theorem w_runnable : about1.curStatus? = some .runnable := by decide +kernel
set_option maxRecDepth 65536 in
theorem w_alone : about1.alone = true := by decide +kernel
set_option maxRecDepth 65536 in
theorem w_named : about1.methodNamed? x = some theMethod := by decide +kernel
set_option maxRecDepth 65536 in
theorem w_hears : about1.hears theMethod below0 = true := by decide +kernel
set_option maxRecDepth 65536 in
theorem w_ripe : about1.ripe theMethod args0 below0 = true := by decide +kernel
theorem w_running : about1.status = .running := rfl
set_option maxRecDepth 65536 in
theorem w_room : about1.hasRoom e0.platform room_1 = true :=
  launch0.hasRoom_least _ room_1 (by decide +kernel) (by decide +kernel) (by decide +kernel) (by decide +kernel) (by decide +kernel) (by decide +kernel)
theorem allAtoms_all (ts : List Jvm.Cond) (a : Array Jvm.Value) (st : Jvm.State) : (allAtoms ts).before a st = ts.all (fun c => c.before a st) := by
  induction ts with
  | nil => rfl
  | cons c t ih =>
    show (Jvm.Cond.and c (allAtoms t)).before a st = _
    rw [Jvm.Cond.before_and, ih, List.all_cons]
def words1 : List Jvm.Cond := Jvm.Cond.code x code maxLocals ret :: tables_1
/-- a 'code' word, met by the world's own term for the bytes: nothing is compared byte by byte -/
theorem code_word {y : MethodName} {bytes : ByteArray} {mx : Nat} {rt : Option FieldType} {a : Array Value} {s : State} {m : MethodId} {meth : Method} {c : Code} (h1 : s.methodNamed? y = some m) (h2 : s.vm.method? m = some meth) (h3 : meth.code = some c) (h4 : c.code = bytes)
    (h5 : (c.maxLocals == mx && c.exceptionTable.isEmpty && decide (c.maxStack ≤ mostOperands) && decide (meth.sig.returnType = rt) && !meth.locks && decide (parseMethodDescriptor y.desc = some meth.sig)) = true) : (Jvm.Cond.code y bytes mx rt).before a s = true := by
  simp only [Bool.and_eq_true, beq_iff_eq, Bool.not_eq_true', decide_eq_true_eq] at h5
  obtain ⟨⟨⟨⟨⟨g1, g2⟩, g3⟩, g4⟩, g5⟩, g6⟩ := h5
  simp [Cond.before, Cond.holds, Cond.value, h1, h2, h3, h4, g1, g2, g3, g4, g5, g6]
def isCode : Jvm.Cond → Bool
  | .code _ _ _ _ => true
  | _ => false
theorem all_split {L : List Jvm.Cond} {P : Jvm.Cond → Bool} (h1 : L.all (fun c => isCode c || P c) = true) (h2 : ∀ c ∈ L.filter isCode, P c = true) : L.all P = true := by
  refine List.all_eq_true.mpr fun c hc => ?_
  have h := List.all_eq_true.mp h1 c hc
  rcases Bool.eq_false_or_eq_true (isCode c) with hi | hi
  · exact h2 c (List.mem_filter.mpr ⟨hc, hi⟩)
  · simpa [hi] using h
set_option maxRecDepth 65536 in
theorem w_c0 : (Jvm.Cond.code x code maxLocals ret).before args0 about1 = true := code_word (m := ⟨1, 2⟩) (meth := k1m2) (c := k1c2) (by decide +kernel) rfl rfl rfl (by decide +kernel)
set_option maxRecDepth 65536 in
theorem w_c1 : (Jvm.Cond.code ({ cls := "com/example/lacewing/lacewing/validation/IntStack", name := "<init>", desc := "()V" } : Jvm.MethodName) prog_122_method_1_code (1 : Nat) (Option.none : Option Jvm.ClassFile.FieldType)).before args0 about1 = true := code_word (m := ⟨2, 0⟩) (meth := k2m0) (c := k2c0) (by decide +kernel) rfl rfl rfl (by decide +kernel)
set_option maxRecDepth 65536 in
theorem w_c2 : (Jvm.Cond.code ({ cls := "java/lang/Object", name := "<init>", desc := "()V" } : Jvm.MethodName) object_method_1_code (1 : Nat) (Option.none : Option Jvm.ClassFile.FieldType)).before args0 about1 = true := code_word (m := ⟨0, 0⟩) (meth := k0m0) (c := k0c0) (by decide +kernel) rfl rfl rfl (by decide +kernel)
set_option maxRecDepth 65536 in
theorem w_c3 : (Jvm.Cond.code ({ cls := "com/example/lacewing/lacewing/validation/IntStack", name := "push", desc := "(I)V" } : Jvm.MethodName) prog_122_method_2_code (2 : Nat) (Option.none : Option Jvm.ClassFile.FieldType)).before args0 about1 = true := code_word (m := ⟨2, 1⟩) (meth := k2m1) (c := k2c1) (by decide +kernel) rfl rfl rfl (by decide +kernel)
set_option maxRecDepth 65536 in
theorem w_c4 : (Jvm.Cond.code ({ cls := "com/example/lacewing/lacewing/validation/IntStack", name := "size", desc := "()I" } : Jvm.MethodName) prog_122_method_5_code (1 : Nat) (Option.some Jvm.ClassFile.FieldType.int)).before args0 about1 = true := code_word (m := ⟨2, 4⟩) (meth := k2m4) (c := k2c4) (by decide +kernel) rfl rfl rfl (by decide +kernel)
set_option maxRecDepth 65536 in
theorem w_c5 : (Jvm.Cond.code ({ cls := "com/example/lacewing/lacewing/validation/IntStack", name := "keepSmall", desc := "()V" } : Jvm.MethodName) prog_122_method_8_code (1 : Nat) (Option.none : Option Jvm.ClassFile.FieldType)).before args0 about1 = true := code_word (m := ⟨2, 6⟩) (meth := k2m6) (c := k2c6) (by decide +kernel) rfl rfl rfl (by decide +kernel)
set_option maxRecDepth 65536 in
theorem w_c6 : (Jvm.Cond.code ({ cls := "com/example/lacewing/lacewing/validation/IntStack", name := "isEmpty", desc := "()Z" } : Jvm.MethodName) prog_122_method_6_code (1 : Nat) (Option.some Jvm.ClassFile.FieldType.boolean)).before args0 about1 = true := code_word (m := ⟨2, 5⟩) (meth := k2m5) (c := k2c5) (by decide +kernel) rfl rfl rfl (by decide +kernel)
set_option maxRecDepth 65536 in
theorem w_c7 : (Jvm.Cond.code ({ cls := "com/example/lacewing/lacewing/validation/IntStack", name := "get", desc := "(I)I" } : Jvm.MethodName) prog_122_method_4_code (2 : Nat) (Option.some Jvm.ClassFile.FieldType.int)).before args0 about1 = true := code_word (m := ⟨2, 3⟩) (meth := k2m3) (c := k2c3) (by decide +kernel) rfl rfl rfl (by decide +kernel)
set_option maxRecDepth 65536 in
theorem w_c8 : (Jvm.Cond.code ({ cls := "com/example/lacewing/lacewing/validation/IntStack", name := "pop", desc := "()I" } : Jvm.MethodName) prog_122_method_3_code (1 : Nat) (Option.some Jvm.ClassFile.FieldType.int)).before args0 about1 = true := code_word (m := ⟨2, 2⟩) (meth := k2m2) (c := k2c2) (by decide +kernel) rfl rfl rfl (by decide +kernel)
set_option maxRecDepth 65536 in
theorem w_c9 : (Jvm.Cond.code ({ cls := "com/example/lacewing/lacewing/validation/IntStackKeepSmallPinLaw", name := "push8", desc := "(Lcom/example/lacewing/lacewing/validation/IntStack;I)V" } : Jvm.MethodName) method_2_code (2 : Nat) (Option.none : Option Jvm.ClassFile.FieldType)).before args0 about1 = true := code_word (m := ⟨1, 1⟩) (meth := k1m1) (c := k1c1) (by decide +kernel) rfl rfl rfl (by decide +kernel)
set_option maxRecDepth 65536 in
theorem w_c10 : (Jvm.Cond.code ({ cls := "java/util/Arrays", name := "copyOf", desc := "([II)[I" } : Jvm.MethodName) jdk_65_method_123_code (3 : Nat) (Option.some (Jvm.ClassFile.FieldType.array Jvm.ClassFile.FieldType.int))).before args0 about1 = true := code_word (m := ⟨3, 1⟩) (meth := k3m1) (c := k3c1) (by decide +kernel) rfl rfl rfl (by decide +kernel)
set_option maxRecDepth 65536 in
theorem w_c11 : (Jvm.Cond.code ({ cls := "java/lang/Math", name := "min", desc := "(II)I" } : Jvm.MethodName) jdk_29_method_69_code (2 : Nat) (Option.some Jvm.ClassFile.FieldType.int)).before args0 about1 = true := code_word (m := ⟨4, 1⟩) (meth := k4m1) (c := k4c1) (by decide +kernel) rfl rfl rfl (by decide +kernel)
def codes1 : List Jvm.Cond := [Jvm.Cond.code x code maxLocals ret, Jvm.Cond.code ({ cls := "com/example/lacewing/lacewing/validation/IntStack", name := "<init>", desc := "()V" } : Jvm.MethodName) prog_122_method_1_code (1 : Nat) (Option.none : Option Jvm.ClassFile.FieldType), Jvm.Cond.code ({ cls := "java/lang/Object", name := "<init>", desc := "()V" } : Jvm.MethodName) object_method_1_code (1 : Nat) (Option.none : Option Jvm.ClassFile.FieldType), Jvm.Cond.code ({ cls := "com/example/lacewing/lacewing/validation/IntStack", name := "push", desc := "(I)V" } : Jvm.MethodName) prog_122_method_2_code (2 : Nat) (Option.none : Option Jvm.ClassFile.FieldType), Jvm.Cond.code ({ cls := "com/example/lacewing/lacewing/validation/IntStack", name := "size", desc := "()I" } : Jvm.MethodName) prog_122_method_5_code (1 : Nat) (Option.some Jvm.ClassFile.FieldType.int), Jvm.Cond.code ({ cls := "com/example/lacewing/lacewing/validation/IntStack", name := "keepSmall", desc := "()V" } : Jvm.MethodName) prog_122_method_8_code (1 : Nat) (Option.none : Option Jvm.ClassFile.FieldType), Jvm.Cond.code ({ cls := "com/example/lacewing/lacewing/validation/IntStack", name := "isEmpty", desc := "()Z" } : Jvm.MethodName) prog_122_method_6_code (1 : Nat) (Option.some Jvm.ClassFile.FieldType.boolean), Jvm.Cond.code ({ cls := "com/example/lacewing/lacewing/validation/IntStack", name := "get", desc := "(I)I" } : Jvm.MethodName) prog_122_method_4_code (2 : Nat) (Option.some Jvm.ClassFile.FieldType.int), Jvm.Cond.code ({ cls := "com/example/lacewing/lacewing/validation/IntStack", name := "pop", desc := "()I" } : Jvm.MethodName) prog_122_method_3_code (1 : Nat) (Option.some Jvm.ClassFile.FieldType.int), Jvm.Cond.code ({ cls := "com/example/lacewing/lacewing/validation/IntStackKeepSmallPinLaw", name := "push8", desc := "(Lcom/example/lacewing/lacewing/validation/IntStack;I)V" } : Jvm.MethodName) method_2_code (2 : Nat) (Option.none : Option Jvm.ClassFile.FieldType), Jvm.Cond.code ({ cls := "java/util/Arrays", name := "copyOf", desc := "([II)[I" } : Jvm.MethodName) jdk_65_method_123_code (3 : Nat) (Option.some (Jvm.ClassFile.FieldType.array Jvm.ClassFile.FieldType.int)), Jvm.Cond.code ({ cls := "java/lang/Math", name := "min", desc := "(II)I" } : Jvm.MethodName) jdk_29_method_69_code (2 : Nat) (Option.some Jvm.ClassFile.FieldType.int)]
set_option maxRecDepth 65536 in
theorem codes_eq : words1.filter isCode = codes1 := rfl
theorem w_codes : ∀ c ∈ words1.filter isCode, c.before args0 about1 = true := by
  rw [codes_eq]
  intro c hc
  simp only [codes1, List.mem_cons, List.not_mem_nil, or_false] at hc
  rcases hc with rfl | rfl | rfl | rfl | rfl | rfl | rfl | rfl | rfl | rfl | rfl | rfl
  · exact w_c0
  · exact w_c1
  · exact w_c2
  · exact w_c3
  · exact w_c4
  · exact w_c5
  · exact w_c6
  · exact w_c7
  · exact w_c8
  · exact w_c9
  · exact w_c10
  · exact w_c11
set_option maxRecDepth 65536 in
theorem w_t1 : (words1.take 24).all (fun c => isCode c || c.before args0 about1) = true := by decide +kernel
set_option maxRecDepth 65536 in
theorem w_t2 : ((words1.drop 24).take 24).all (fun c => isCode c || c.before args0 about1) = true := by decide +kernel
set_option maxRecDepth 65536 in
theorem w_t3 : ((words1.drop 24).drop 24).all (fun c => isCode c || c.before args0 about1) = true := by decide +kernel
theorem w_tables : (allAtoms (Jvm.Cond.code x code maxLocals ret :: tables_1)).before args0 about1 = true := by
  rw [allAtoms_all]
  show words1.all (fun c => c.before args0 about1) = true
  refine all_split ?_ w_codes
  rw [← List.take_append_drop 24 words1, List.all_append, w_t1, ← List.take_append_drop 24 (words1.drop 24), List.all_append, w_t2, w_t3]
  rfl
set_option maxRecDepth 65536 in
theorem w_case : (Jvm.Cond.and given_1 narrow_1).before args0 about1 = true := by decide +kernel
theorem w_applies : (headSpec (Jvm.Cond.code x code maxLocals ret :: tables_1) room_1).applies x e0.platform about1 = true :=
  (Spec.applies_iff w_frames).mpr ⟨w_running, w_runnable, w_alone, w_named, w_hears, w_ripe, w_room, w_tables⟩
theorem atStart : AtStart classFile x code maxLocals ret World_1 tables_1 room_1 Calls_1 rest_1 Pre_1 launch0 p0 e0 about1 theMethod args0 below0 :=
  ⟨lists_1, trivial, launch0.admits_env _ _ _, launch0.least_env, fairChoices_fair.cas, fairChoices_fair.clock, w_frames, w_args, w_heap, w_applies, trivial, trivial, w_case⟩
end start1
theorem witness_1 : WitnessClaimed_1 := ⟨start1.p0, start1.e0, start1.about1, start1.theMethod, start1.args0, start1.below0, start1.atStart⟩
end Jvm.Pilot.@@N@@
