import JvmDerived
import JvmDerived.Pilot.@@N@@Statement
import JvmDerived.Pilot.@@N@@Code
set_option linter.unusedVariables false
set_option linter.unusedSimpArgs false
namespace Jvm.RoadKit
open Sem ClassFile Op Lib Jvm.Stand Jvm.Free Jvm.LawKit
section OwnA
variable {p : Program} {l : Launch} {e : Env} {R : Room} {s : State} {m : MethodId} {args : Array Value} {below : List Frame} {meth : Method} {c : Code} {T : State} {locs : List Loc} {cells slots : Nat} {Z : State} {a0 : Array Value} {h : Heap}
/-- from T the run comes to an end of which K speaks -/
def Go (p : Program) (e : Env) (below : List Frame) (K : Outcome → State → Prop) (T : State) : Prop :=
  ∃ s₂ o, Steps p.tables e below T s₂ ∧ s₂.status = .running ∧ Ended s₂ below o ∧ K o s₂
theorem Go.of {K : Outcome → State → Prop} {T T' : State} (st : ∀ t, Steps p.tables e below T' t → Steps p.tables e below T t) (k : Go p e below K T') : Go p e below K T := by
  obtain ⟨t, o, h1, h2⟩ := k
  exact ⟨t, o, st t h1, h2⟩
/-- what stands through a whole body -/
def Cx (p : Program) (s : State) (m : MethodId) (meth : Method) (c : Code) (Z : State) (own : String) (bytes : ByteArray) (maxL : Nat) (ret : Option FieldType) (nm : String) : Prop :=
  p.tables.exec = Jvm.exec ∧ Z.Warmed39 s.vm ∧ c.code = bytes ∧ c.maxLocals = maxL ∧ s.vm.findClass own = some m.cls ∧ meth.sig.returnType = ret ∧ meth.name = nm ∧ meth.locks = false
variable {own nm : String} {bytes : ByteArray} {maxL : Nat} {ret : Option FieldType} {K : Outcome → State → Prop}
theorem Cx.hx (C : Cx p s m meth c Z own bytes maxL ret nm) : p.tables.exec = Jvm.exec := C.1
theorem Cx.hZ (C : Cx p s m meth c Z own bytes maxL ret nm) : Z.Warmed39 s.vm := C.2.1
theorem Cx.hby (C : Cx p s m meth c Z own bytes maxL ret nm) : c.code = bytes := C.2.2.1
theorem Cx.hml (C : Cx p s m meth c Z own bytes maxL ret nm) : c.maxLocals = maxL := C.2.2.2.1
theorem Cx.hown (C : Cx p s m meth c Z own bytes maxL ret nm) : s.vm.findClass own = some m.cls := C.2.2.2.2.1
theorem Cx.hret (C : Cx p s m meth c Z own bytes maxL ret nm) : meth.sig.returnType = ret := C.2.2.2.2.2.1
theorem Cx.hnm (C : Cx p s m meth c Z own bytes maxL ret nm) : meth.name = nm := C.2.2.2.2.2.2.1
theorem Cx.hlk (C : Cx p s m meth c Z own bytes maxL ret nm) : meth.locks = false := C.2.2.2.2.2.2.2
/-- the end of a body: what it returned, the heap, the places written -/
def EndQ (s : State) (Q : Option Value → Heap → List Loc → Prop) (k n : Nat) (o : Outcome) (t : State) : Prop := ∃ v L, o = .returned v ∧ Q v t.heap L ∧ FrameEnd s o t L k n
/-- a body's contract -/
def Ctr (l : Launch) (Z : State) (y : MethodName) (bytes : ByteArray) (maxL : Nat) (ret : Option FieldType) (rm : Room) (as' : Array Value) (h : Heap) (Q : Option Value → Heap → List Loc → Prop) : Prop :=
  ∀ ws, MetFree l y (head1 (Cond.code y bytes maxL ret :: ws) rm) (fun a U => a = as' ∧ Z.Warmed39 U.vm ∧ U.heap = h) (fun _ _ _ _ _ => True) (fun _ U o U' => EndQ U Q rm.cells rm.slots o U')
theorem Ctr.mk {y : MethodName} {rm : Room} {as' : Array Value} {Q : Option Value → Heap → List Loc → Prop} (hp : plainFor y = true) {ls : Array Slot} (hE : ∀ m : MethodId, entryFrame m as' maxL = mkF m 0 ls [])
    (body : ∀ (p : Program) (e : Env) (s : State) (m : MethodId) (below : List Frame) (meth : Method) (c : Code) (T : State), Cx p s m meth c Z y.cls bytes maxL ret y.name → Stand p l e rm s m as' below meth c T [] 0 0 → T.heap = h → s.heap = h → Go p e below (EndQ s Q rm.cells rm.slots) (T.setTop (mkF m 0 ls []))) :
    Ctr l Z y bytes maxL ret rm as' h Q := by
  intro ws
  refine MetFree.of_bodySF hp hisR ?_
  intro p e s m args below meth c s₁ Bd hml0 hP hK
  obtain ⟨rfl, hZ, hh⟩ := hP
  have q := body p e s m below meth c s₁ ⟨Bd.exec, hZ, Bd.bytes, hml0, findClass_of_methodNamed Bd.named, Bd.returns, (name_of_methodNamed Bd.named Bd.method).1, BodyLoose.notSynchronized Bd⟩ (Stand.of_body Bd) (by rw [← hh, Bd.state]; rfl) hh
  rw [← hE m] at q
  exact q
theorem Ctr.mono {y : MethodName} {rm : Room} {as' : Array Value} {Q Q' : Option Value → Heap → List Loc → Prop} (h1 : Ctr l Z y bytes maxL ret rm as' h Q) (h2 : ∀ v h' L, Q v h' L → Q' v h' L) : Ctr l Z y bytes maxL ret rm as' h Q' :=
  fun ws p e ha hc hk s m args below hf happ hP hK => by
    obtain ⟨n, o, g1, g2, g3, v, L, g4, g5, g6⟩ := h1 ws p e ha hc hk s m args below hf happ hP hK
    exact ⟨n, o, g1, g2, g3, v, L, g4, h2 _ _ _ g5, g6⟩
theorem Go.fin (C : Cx p s m meth c Z own bytes maxL ret nm) (X : Stand p l e R s m args below meth c T locs cells slots) (eT : T.heap = h) {v : Option Value} (hv : ret = none → v = none) {Q : Option Value → Heap → List Loc → Prop} {k n : Nat} (hQ : Q v h locs) (hc : cells ≤ k) (hn : slots ≤ n) {g : JFrame}
    (st : ∀ fs, (∀ (f : JFrame) (acts : List Action), f.method = m → f.locked = none → f.entered = [] → (doReturn e (T.setTop f) acts v).1 = T.setFrames fs) → Steps p.tables e below (T.setTop g) (T.setFrames fs)) : Go p e below (EndQ s Q k n) (T.setTop g) := by
  obtain ⟨fs, hr, hrun, hended, hW, hsame⟩ := X.leave (v := v) (fun h => hv (C.hret ▸ h)) C.hlk
  subst eT
  exact ⟨_, _, st fs hr, hrun, hended, _, _, rfl, hQ, ⟨_, rfl⟩, hW, hsame.mono hc hn⟩
theorem Go.ret0 (C : Cx p s m meth c Z own bytes maxL none nm) (X : Stand p l e R s m args below meth c T locs cells slots) (eT : T.heap = h) {pc : Nat} {ls : Array Slot} {Q : Option Value → Heap → List Loc → Prop} {k n : Nat} (hd : decode bytes pc = .ok (.return_, 1)) (hc : cells ≤ k) (hn : slots ≤ n) (hQ : Q none h locs) : Go p e below (EndQ s Q k n) (T.setTop (mkF m pc ls [])) :=
  Go.fin C X eT (v := none) (fun _ => rfl) hQ hc hn fun fs hr => X.returnOut C.hx C.hret (hb C.hby hd) hr
theorem Go.retI (C : Cx p s m meth c Z own bytes maxL (some .int) nm) (X : Stand p l e R s m args below meth c T locs cells slots) (eT : T.heap = h) {pc : Nat} {ls : Array Slot} {z : Int32} {rest : List Value} {Q : Option Value → Heap → List Loc → Prop} {k n : Nat} (hd : decode bytes pc = .ok (.ireturn, 1)) (hc : cells ≤ k) (hn : slots ≤ n) (hQ : Q (some (.int z)) h locs) : Go p e below (EndQ s Q k n) (T.setTop (mkF m pc ls (.int z :: rest))) :=
  Go.fin C X eT (v := some (.int z)) (fun h => nomatch h) hQ hc hn fun fs hr => retOut X C.hx C.hret rfl (Or.inl ⟨rfl, Or.inl rfl, z, rfl⟩) (hb C.hby hd) hr
theorem Go.retJ (C : Cx p s m meth c Z own bytes maxL (some .long) nm) (X : Stand p l e R s m args below meth c T locs cells slots) (eT : T.heap = h) {pc : Nat} {ls : Array Slot} {z : Int64} {rest : List Value} {Q : Option Value → Heap → List Loc → Prop} {k n : Nat} (hd : decode bytes pc = .ok (.lreturn, 1)) (hc : cells ≤ k) (hn : slots ≤ n) (hQ : Q (some (.long z)) h locs) : Go p e below (EndQ s Q k n) (T.setTop (mkF m pc ls (.long z :: rest))) :=
  Go.fin C X eT (v := some (.long z)) (fun h => nomatch h) hQ hc hn fun fs hr => retOut X C.hx C.hret rfl (Or.inr (Or.inl ⟨rfl, rfl, z, rfl⟩)) (hb C.hby hd) hr
theorem Go.retA {t : FieldType} (C : Cx p s m meth c Z own bytes maxL (some t) nm) (X : Stand p l e R s m args below meth c T locs cells slots) (eT : T.heap = h) {pc : Nat} {ls : Array Slot} {w : Value} {rest : List Value} {Q : Option Value → Heap → List Loc → Prop} {k n : Nat} (ht : t.isReference = true) (hn0 : narrow t w = w) (hw : w.isRef = true) (hd : decode bytes pc = .ok (.areturn, 1)) (hc : cells ≤ k) (hn : slots ≤ n) (hQ : Q (some w) h locs) : Go p e below (EndQ s Q k n) (T.setTop (mkF m pc ls (w :: rest))) :=
  Go.fin C X eT (v := some w) (fun h => nomatch h) hQ hc hn fun fs hr => retOut X C.hx C.hret hn0 (Or.inr (Or.inr (Or.inr (Or.inr ⟨rfl, ht, hw⟩)))) (hb C.hby hd) hr
theorem Go.retN {t : FieldType} (C : Cx p s m meth c Z own bytes maxL (some t) nm) (X : Stand p l e R s m args below meth c T locs cells slots) (eT : T.heap = h) {pc : Nat} {ls : Array Slot} {z w : Int32} {rest : List Value} {Q : Option Value → Heap → List Loc → Prop} {k n : Nat} (ht : t = .boolean ∨ t = .byte ∨ t = .char ∨ t = .short) (hw : nar t z = w) (hd : decode bytes pc = .ok (.ireturn, 1)) (hc : cells ≤ k) (hn : slots ≤ n) (hQ : Q (some (.int w)) h locs) : Go p e below (EndQ s Q k n) (T.setTop (mkF m pc ls (.int z :: rest))) := by
  subst hw
  exact Go.fin C X eT (v := some (.int (nar t z))) (fun h => nomatch h) hQ hc hn fun fs hr => Jvm.RoadKit.retN X C.hx C.hret ht (hb C.hby hd) hr
theorem Go.iloadN (C : Cx p s m meth c Z own bytes maxL ret nm) (X : Stand p l e R s m args below meth c T locs cells slots) {pc n : Nat} {ls : Array Slot} {rest : List Value} {k : Fin 4} {v : Int32} (hd : decode bytes pc = .ok (.iload_n k, 1)) (hn : pc + 1 = n) (hl : ls[k.val]? = some (.val (.int v))) (k : Go p e below K (T.setTop (mkF m n ls (.int v :: rest)))) : Go p e below K (T.setTop (mkF m pc ls (rest))) := by
  subst hn
  exact Go.of (fun t q => XS.iloadN X.here C.hx rfl (hb C.hby hd) hl q) k
theorem Go.iload (C : Cx p s m meth c Z own bytes maxL ret nm) (X : Stand p l e R s m args below meth c T locs cells slots) {pc n : Nat} {ls : Array Slot} {rest : List Value} {k : Nat} {v : Int32} (hd : decode bytes pc = .ok (.iload k, 2)) (hn : pc + 2 = n) (hl : ls[k]? = some (.val (.int v))) (k : Go p e below K (T.setTop (mkF m n ls (.int v :: rest)))) : Go p e below K (T.setTop (mkF m pc ls (rest))) := by
  subst hn
  exact Go.of (fun t q => XS.iload X.here C.hx rfl (hb C.hby hd) hl q) k
theorem Go.istoreN (C : Cx p s m meth c Z own bytes maxL ret nm) (X : Stand p l e R s m args below meth c T locs cells slots) {pc n : Nat} {ls : Array Slot} {rest : List Value} {k : Fin 4} {v : Int32} {l' : Array Slot} (hd : decode bytes pc = .ok (.istore_n k, 1)) (hn : pc + 1 = n) (hl : storeLocals ls k.val (.int v) = some l') (k : Go p e below K (T.setTop (mkF m n l' (rest)))) : Go p e below K (T.setTop (mkF m pc ls (.int v :: rest))) := by
  subst hn
  exact Go.of (fun t q => XS.istoreN X.here C.hx rfl (hb C.hby hd) rfl hl q) k
theorem Go.istore (C : Cx p s m meth c Z own bytes maxL ret nm) (X : Stand p l e R s m args below meth c T locs cells slots) {pc n : Nat} {ls : Array Slot} {rest : List Value} {k : Nat} {v : Int32} {l' : Array Slot} (hd : decode bytes pc = .ok (.istore k, 2)) (hn : pc + 2 = n) (hl : storeLocals ls k (.int v) = some l') (k : Go p e below K (T.setTop (mkF m n l' (rest)))) : Go p e below K (T.setTop (mkF m pc ls (.int v :: rest))) := by
  subst hn
  exact Go.of (fun t q => XS.istore X.here C.hx rfl (hb C.hby hd) rfl hl q) k
theorem Go.lloadN (C : Cx p s m meth c Z own bytes maxL ret nm) (X : Stand p l e R s m args below meth c T locs cells slots) {pc n : Nat} {ls : Array Slot} {rest : List Value} {k : Fin 4} {v : Int64} (hd : decode bytes pc = .ok (.lload_n k, 1)) (hn : pc + 1 = n) (hl : ls[k.val]? = some (.val (.long v))) (k : Go p e below K (T.setTop (mkF m n ls (.long v :: rest)))) : Go p e below K (T.setTop (mkF m pc ls (rest))) := by
  subst hn
  exact Go.of (fun t q => XT.lloadN X.here C.hx rfl (hb C.hby hd) hl q) k
theorem Go.lload (C : Cx p s m meth c Z own bytes maxL ret nm) (X : Stand p l e R s m args below meth c T locs cells slots) {pc n : Nat} {ls : Array Slot} {rest : List Value} {k : Nat} {v : Int64} (hd : decode bytes pc = .ok (.lload k, 2)) (hn : pc + 2 = n) (hl : ls[k]? = some (.val (.long v))) (k : Go p e below K (T.setTop (mkF m n ls (.long v :: rest)))) : Go p e below K (T.setTop (mkF m pc ls (rest))) := by
  subst hn
  exact Go.of (fun t q => XT.lload X.here C.hx rfl (hb C.hby hd) hl q) k
theorem Go.lstoreN (C : Cx p s m meth c Z own bytes maxL ret nm) (X : Stand p l e R s m args below meth c T locs cells slots) {pc n : Nat} {ls : Array Slot} {rest : List Value} {k : Fin 4} {v : Int64} {l' : Array Slot} (hd : decode bytes pc = .ok (.lstore_n k, 1)) (hn : pc + 1 = n) (hl : storeLocals ls k.val (.long v) = some l') (k : Go p e below K (T.setTop (mkF m n l' (rest)))) : Go p e below K (T.setTop (mkF m pc ls (.long v :: rest))) := by
  subst hn
  exact Go.of (fun t q => XT.lstoreN X.here C.hx rfl (hb C.hby hd) rfl hl q) k
theorem Go.lstore (C : Cx p s m meth c Z own bytes maxL ret nm) (X : Stand p l e R s m args below meth c T locs cells slots) {pc n : Nat} {ls : Array Slot} {rest : List Value} {k : Nat} {v : Int64} {l' : Array Slot} (hd : decode bytes pc = .ok (.lstore k, 2)) (hn : pc + 2 = n) (hl : storeLocals ls k (.long v) = some l') (k : Go p e below K (T.setTop (mkF m n l' (rest)))) : Go p e below K (T.setTop (mkF m pc ls (.long v :: rest))) := by
  subst hn
  exact Go.of (fun t q => XT.lstore X.here C.hx rfl (hb C.hby hd) rfl hl q) k
theorem Go.aloadN (C : Cx p s m meth c Z own bytes maxL ret nm) (X : Stand p l e R s m args below meth c T locs cells slots) {pc n : Nat} {ls : Array Slot} {rest : List Value} {k : Fin 4} {v : Value} (hd : decode bytes pc = .ok (.aload_n k, 1)) (hn : pc + 1 = n) (hl : ls[k.val]? = some (.val v)) (hv : v.isRef = true) (k : Go p e below K (T.setTop (mkF m n ls (v :: rest)))) : Go p e below K (T.setTop (mkF m pc ls (rest))) := by
  subst hn
  exact Go.of (fun t q => XS.aloadN X.here C.hx rfl (hb C.hby hd) hl hv q) k
theorem Go.aload (C : Cx p s m meth c Z own bytes maxL ret nm) (X : Stand p l e R s m args below meth c T locs cells slots) {pc n : Nat} {ls : Array Slot} {rest : List Value} {k : Nat} {v : Value} (hd : decode bytes pc = .ok (.aload k, 2)) (hn : pc + 2 = n) (hl : ls[k]? = some (.val v)) (hv : v.isRef = true) (k : Go p e below K (T.setTop (mkF m n ls (v :: rest)))) : Go p e below K (T.setTop (mkF m pc ls (rest))) := by
  subst hn
  exact Go.of (fun t q => XS.aload X.here C.hx rfl (hb C.hby hd) hl hv q) k
theorem Go.astoreN (C : Cx p s m meth c Z own bytes maxL ret nm) (X : Stand p l e R s m args below meth c T locs cells slots) {pc n : Nat} {ls : Array Slot} {rest : List Value} {k : Fin 4} {v : Value} {l' : Array Slot} (hd : decode bytes pc = .ok (.astore_n k, 1)) (hn : pc + 1 = n) (hv : v.isRef = true) (hl : storeLocals ls k.val v = some l') (k : Go p e below K (T.setTop (mkF m n l' (rest)))) : Go p e below K (T.setTop (mkF m pc ls (v :: rest))) := by
  subst hn
  exact Go.of (fun t q => XS.astoreN X.here C.hx rfl (hb C.hby hd) rfl hv hl q) k
theorem Go.astore (C : Cx p s m meth c Z own bytes maxL ret nm) (X : Stand p l e R s m args below meth c T locs cells slots) {pc n : Nat} {ls : Array Slot} {rest : List Value} {k : Nat} {v : Value} {l' : Array Slot} (hd : decode bytes pc = .ok (.astore k, 2)) (hn : pc + 2 = n) (hv : v.isRef = true) (hl : storeLocals ls k v = some l') (k : Go p e below K (T.setTop (mkF m n l' (rest)))) : Go p e below K (T.setTop (mkF m pc ls (v :: rest))) := by
  subst hn
  exact Go.of (fun t q => XS.astore X.here C.hx rfl (hb C.hby hd) rfl hv hl q) k
theorem Go.iconst (C : Cx p s m meth c Z own bytes maxL ret nm) (X : Stand p l e R s m args below meth c T locs cells slots) {pc n : Nat} {ls : Array Slot} {rest : List Value} {i : Int} {v : Int32} (hd : decode bytes pc = .ok (.iconst i, 1)) (hn : pc + 1 = n) (hv : Int32.ofInt i = v) (k : Go p e below K (T.setTop (mkF m n ls (.int v :: rest)))) : Go p e below K (T.setTop (mkF m pc ls (rest))) := by
  subst hn
  exact Go.of (fun t q => XT.iconstV X.here C.hx rfl v (hb C.hby hd) hv q) k
theorem Go.bipush (C : Cx p s m meth c Z own bytes maxL ret nm) (X : Stand p l e R s m args below meth c T locs cells slots) {pc n : Nat} {ls : Array Slot} {rest : List Value} {i : Int} {v : Int32} (hd : decode bytes pc = .ok (.bipush i, 2)) (hn : pc + 2 = n) (hv : (Int8.ofInt i).toInt32 = v) (k : Go p e below K (T.setTop (mkF m n ls (.int v :: rest)))) : Go p e below K (T.setTop (mkF m pc ls (rest))) := by
  subst hn
  exact Go.of (fun t q => XT.bipushV X.here C.hx rfl v (hb C.hby hd) hv q) k
theorem Go.sipush (C : Cx p s m meth c Z own bytes maxL ret nm) (X : Stand p l e R s m args below meth c T locs cells slots) {pc n : Nat} {ls : Array Slot} {rest : List Value} {i : Int} {v : Int32} (hd : decode bytes pc = .ok (.sipush i, 3)) (hn : pc + 3 = n) (hv : (Int16.ofInt i).toInt32 = v) (k : Go p e below K (T.setTop (mkF m n ls (.int v :: rest)))) : Go p e below K (T.setTop (mkF m pc ls (rest))) := by
  subst hn
  exact Go.of (fun t q => XT.sipushV X.here C.hx rfl v (hb C.hby hd) hv q) k
theorem Go.lconst (C : Cx p s m meth c Z own bytes maxL ret nm) (X : Stand p l e R s m args below meth c T locs cells slots) {pc n : Nat} {ls : Array Slot} {rest : List Value} {i : Fin 2} {v : Int64} (hd : decode bytes pc = .ok (.lconst i, 1)) (hn : pc + 1 = n) (hv : Int64.ofNat i = v) (k : Go p e below K (T.setTop (mkF m n ls (.long v :: rest)))) : Go p e below K (T.setTop (mkF m pc ls (rest))) := by
  subst hn
  exact Go.of (fun t q => XT.lconstV X.here C.hx rfl v (hb C.hby hd) hv q) k
theorem Go.aconstNull (C : Cx p s m meth c Z own bytes maxL ret nm) (X : Stand p l e R s m args below meth c T locs cells slots) {pc n : Nat} {ls : Array Slot} {rest : List Value}  (hd : decode bytes pc = .ok (.aconst_null, 1)) (hn : pc + 1 = n) (k : Go p e below K (T.setTop (mkF m n ls (.null :: rest)))) : Go p e below K (T.setTop (mkF m pc ls (rest))) := by
  subst hn
  exact Go.of (fun t q => XS.aconstNull X.here C.hx rfl (hb C.hby hd) q) k
theorem Go.iadd (C : Cx p s m meth c Z own bytes maxL ret nm) (X : Stand p l e R s m args below meth c T locs cells slots) {pc n : Nat} {ls : Array Slot} {rest : List Value} {x y : Int32} (hd : decode bytes pc = .ok (.iadd, 1)) (hn : pc + 1 = n) (k : Go p e below K (T.setTop (mkF m n ls (.int (x + y) :: rest)))) : Go p e below K (T.setTop (mkF m pc ls (.int y :: .int x :: rest))) := by
  subst hn
  exact Go.of (fun t q => XS.iadd X.here C.hx rfl (hb C.hby hd) rfl q) k
theorem Go.ladd (C : Cx p s m meth c Z own bytes maxL ret nm) (X : Stand p l e R s m args below meth c T locs cells slots) {pc n : Nat} {ls : Array Slot} {rest : List Value} {x y : Int64} (hd : decode bytes pc = .ok (.ladd, 1)) (hn : pc + 1 = n) (k : Go p e below K (T.setTop (mkF m n ls (.long (x + y) :: rest)))) : Go p e below K (T.setTop (mkF m pc ls (.long y :: .long x :: rest))) := by
  subst hn
  exact Go.of (fun t q => XT.ladd X.here C.hx rfl (hb C.hby hd) rfl q) k
theorem Go.isub (C : Cx p s m meth c Z own bytes maxL ret nm) (X : Stand p l e R s m args below meth c T locs cells slots) {pc n : Nat} {ls : Array Slot} {rest : List Value} {x y : Int32} (hd : decode bytes pc = .ok (.isub, 1)) (hn : pc + 1 = n) (k : Go p e below K (T.setTop (mkF m n ls (.int (x - y) :: rest)))) : Go p e below K (T.setTop (mkF m pc ls (.int y :: .int x :: rest))) := by
  subst hn
  exact Go.of (fun t q => XS.isub X.here C.hx rfl (hb C.hby hd) rfl q) k
theorem Go.lsub (C : Cx p s m meth c Z own bytes maxL ret nm) (X : Stand p l e R s m args below meth c T locs cells slots) {pc n : Nat} {ls : Array Slot} {rest : List Value} {x y : Int64} (hd : decode bytes pc = .ok (.lsub, 1)) (hn : pc + 1 = n) (k : Go p e below K (T.setTop (mkF m n ls (.long (x - y) :: rest)))) : Go p e below K (T.setTop (mkF m pc ls (.long y :: .long x :: rest))) := by
  subst hn
  exact Go.of (fun t q => XT.lsub X.here C.hx rfl (hb C.hby hd) rfl q) k
theorem Go.imul (C : Cx p s m meth c Z own bytes maxL ret nm) (X : Stand p l e R s m args below meth c T locs cells slots) {pc n : Nat} {ls : Array Slot} {rest : List Value} {x y : Int32} (hd : decode bytes pc = .ok (.imul, 1)) (hn : pc + 1 = n) (k : Go p e below K (T.setTop (mkF m n ls (.int (x * y) :: rest)))) : Go p e below K (T.setTop (mkF m pc ls (.int y :: .int x :: rest))) := by
  subst hn
  exact Go.of (fun t q => XS.imul X.here C.hx rfl (hb C.hby hd) rfl q) k
theorem Go.lmul (C : Cx p s m meth c Z own bytes maxL ret nm) (X : Stand p l e R s m args below meth c T locs cells slots) {pc n : Nat} {ls : Array Slot} {rest : List Value} {x y : Int64} (hd : decode bytes pc = .ok (.lmul, 1)) (hn : pc + 1 = n) (k : Go p e below K (T.setTop (mkF m n ls (.long (x * y) :: rest)))) : Go p e below K (T.setTop (mkF m pc ls (.long y :: .long x :: rest))) := by
  subst hn
  exact Go.of (fun t q => XT.lmul X.here C.hx rfl (hb C.hby hd) rfl q) k
theorem Go.iand (C : Cx p s m meth c Z own bytes maxL ret nm) (X : Stand p l e R s m args below meth c T locs cells slots) {pc n : Nat} {ls : Array Slot} {rest : List Value} {x y : Int32} (hd : decode bytes pc = .ok (.iand, 1)) (hn : pc + 1 = n) (k : Go p e below K (T.setTop (mkF m n ls (.int (x &&& y) :: rest)))) : Go p e below K (T.setTop (mkF m pc ls (.int y :: .int x :: rest))) := by
  subst hn
  exact Go.of (fun t q => XS.iand X.here C.hx rfl (hb C.hby hd) rfl q) k
theorem Go.land (C : Cx p s m meth c Z own bytes maxL ret nm) (X : Stand p l e R s m args below meth c T locs cells slots) {pc n : Nat} {ls : Array Slot} {rest : List Value} {x y : Int64} (hd : decode bytes pc = .ok (.land, 1)) (hn : pc + 1 = n) (k : Go p e below K (T.setTop (mkF m n ls (.long (x &&& y) :: rest)))) : Go p e below K (T.setTop (mkF m pc ls (.long y :: .long x :: rest))) := by
  subst hn
  exact Go.of (fun t q => XT.land X.here C.hx rfl (hb C.hby hd) rfl q) k
theorem Go.ior (C : Cx p s m meth c Z own bytes maxL ret nm) (X : Stand p l e R s m args below meth c T locs cells slots) {pc n : Nat} {ls : Array Slot} {rest : List Value} {x y : Int32} (hd : decode bytes pc = .ok (.ior, 1)) (hn : pc + 1 = n) (k : Go p e below K (T.setTop (mkF m n ls (.int (x ||| y) :: rest)))) : Go p e below K (T.setTop (mkF m pc ls (.int y :: .int x :: rest))) := by
  subst hn
  exact Go.of (fun t q => XT.ior X.here C.hx rfl (hb C.hby hd) rfl q) k
theorem Go.lor (C : Cx p s m meth c Z own bytes maxL ret nm) (X : Stand p l e R s m args below meth c T locs cells slots) {pc n : Nat} {ls : Array Slot} {rest : List Value} {x y : Int64} (hd : decode bytes pc = .ok (.lor, 1)) (hn : pc + 1 = n) (k : Go p e below K (T.setTop (mkF m n ls (.long (x ||| y) :: rest)))) : Go p e below K (T.setTop (mkF m pc ls (.long y :: .long x :: rest))) := by
  subst hn
  exact Go.of (fun t q => XT.lor X.here C.hx rfl (hb C.hby hd) rfl q) k
theorem Go.ixor (C : Cx p s m meth c Z own bytes maxL ret nm) (X : Stand p l e R s m args below meth c T locs cells slots) {pc n : Nat} {ls : Array Slot} {rest : List Value} {x y : Int32} (hd : decode bytes pc = .ok (.ixor, 1)) (hn : pc + 1 = n) (k : Go p e below K (T.setTop (mkF m n ls (.int (x ^^^ y) :: rest)))) : Go p e below K (T.setTop (mkF m pc ls (.int y :: .int x :: rest))) := by
  subst hn
  exact Go.of (fun t q => XT.ixor X.here C.hx rfl (hb C.hby hd) rfl q) k
theorem Go.lxor (C : Cx p s m meth c Z own bytes maxL ret nm) (X : Stand p l e R s m args below meth c T locs cells slots) {pc n : Nat} {ls : Array Slot} {rest : List Value} {x y : Int64} (hd : decode bytes pc = .ok (.lxor, 1)) (hn : pc + 1 = n) (k : Go p e below K (T.setTop (mkF m n ls (.long (x ^^^ y) :: rest)))) : Go p e below K (T.setTop (mkF m pc ls (.long y :: .long x :: rest))) := by
  subst hn
  exact Go.of (fun t q => XT.lxor X.here C.hx rfl (hb C.hby hd) rfl q) k
theorem Go.ishl (C : Cx p s m meth c Z own bytes maxL ret nm) (X : Stand p l e R s m args below meth c T locs cells slots) {pc n : Nat} {ls : Array Slot} {rest : List Value} {x y : Int32} (hd : decode bytes pc = .ok (.ishl, 1)) (hn : pc + 1 = n) (k : Go p e below K (T.setTop (mkF m n ls (.int (x <<< (y &&& 31)) :: rest)))) : Go p e below K (T.setTop (mkF m pc ls (.int y :: .int x :: rest))) := by
  subst hn
  exact Go.of (fun t q => XT.ishl X.here C.hx rfl (hb C.hby hd) rfl q) k
theorem Go.ishr (C : Cx p s m meth c Z own bytes maxL ret nm) (X : Stand p l e R s m args below meth c T locs cells slots) {pc n : Nat} {ls : Array Slot} {rest : List Value} {x y : Int32} (hd : decode bytes pc = .ok (.ishr, 1)) (hn : pc + 1 = n) (k : Go p e below K (T.setTop (mkF m n ls (.int (x >>> (y &&& 31)) :: rest)))) : Go p e below K (T.setTop (mkF m pc ls (.int y :: .int x :: rest))) := by
  subst hn
  exact Go.of (fun t q => XT.ishr X.here C.hx rfl (hb C.hby hd) rfl q) k
theorem Go.iushr (C : Cx p s m meth c Z own bytes maxL ret nm) (X : Stand p l e R s m args below meth c T locs cells slots) {pc n : Nat} {ls : Array Slot} {rest : List Value} {x y : Int32} (hd : decode bytes pc = .ok (.iushr, 1)) (hn : pc + 1 = n) (k : Go p e below K (T.setTop (mkF m n ls (.int (XT.ushr x y) :: rest)))) : Go p e below K (T.setTop (mkF m pc ls (.int y :: .int x :: rest))) := by
  subst hn
  exact Go.of (fun t q => XT.iushr X.here C.hx rfl (hb C.hby hd) rfl q) k
theorem Go.idiv (C : Cx p s m meth c Z own bytes maxL ret nm) (X : Stand p l e R s m args below meth c T locs cells slots) {pc n : Nat} {ls : Array Slot} {rest : List Value} {x y : Int32} (hd : decode bytes pc = .ok (.idiv, 1)) (hn : pc + 1 = n) (hy : y ≠ 0) (k : Go p e below K (T.setTop (mkF m n ls (.int (x / y) :: rest)))) : Go p e below K (T.setTop (mkF m pc ls (.int y :: .int x :: rest))) := by
  subst hn
  exact Go.of (fun t q => XS.idiv X.here C.hx rfl (hb C.hby hd) rfl hy q) k
theorem Go.irem (C : Cx p s m meth c Z own bytes maxL ret nm) (X : Stand p l e R s m args below meth c T locs cells slots) {pc n : Nat} {ls : Array Slot} {rest : List Value} {x y : Int32} (hd : decode bytes pc = .ok (.irem, 1)) (hn : pc + 1 = n) (hy : y ≠ 0) (k : Go p e below K (T.setTop (mkF m n ls (.int (x % y) :: rest)))) : Go p e below K (T.setTop (mkF m pc ls (.int y :: .int x :: rest))) := by
  subst hn
  exact Go.of (fun t q => iremM X C.hx rfl (hb C.hby hd) rfl hy q) k
theorem Go.ldiv (C : Cx p s m meth c Z own bytes maxL ret nm) (X : Stand p l e R s m args below meth c T locs cells slots) {pc n : Nat} {ls : Array Slot} {rest : List Value} {x y : Int64} (hd : decode bytes pc = .ok (.ldiv, 1)) (hn : pc + 1 = n) (hy : y ≠ 0) (k : Go p e below K (T.setTop (mkF m n ls (.long (x / y) :: rest)))) : Go p e below K (T.setTop (mkF m pc ls (.long y :: .long x :: rest))) := by
  subst hn
  exact Go.of (fun t q => XT.ldiv X.here C.hx rfl (hb C.hby hd) rfl hy q) k
theorem Go.lrem (C : Cx p s m meth c Z own bytes maxL ret nm) (X : Stand p l e R s m args below meth c T locs cells slots) {pc n : Nat} {ls : Array Slot} {rest : List Value} {x y : Int64} (hd : decode bytes pc = .ok (.lrem, 1)) (hn : pc + 1 = n) (hy : y ≠ 0) (k : Go p e below K (T.setTop (mkF m n ls (.long (x - (x / y) * y) :: rest)))) : Go p e below K (T.setTop (mkF m pc ls (.long y :: .long x :: rest))) := by
  subst hn
  exact Go.of (fun t q => XT.lrem X.here C.hx rfl (hb C.hby hd) rfl hy q) k
theorem Go.ineg (C : Cx p s m meth c Z own bytes maxL ret nm) (X : Stand p l e R s m args below meth c T locs cells slots) {pc n : Nat} {ls : Array Slot} {rest : List Value} {x : Int32} (hd : decode bytes pc = .ok (.ineg, 1)) (hn : pc + 1 = n) (k : Go p e below K (T.setTop (mkF m n ls (.int (-x) :: rest)))) : Go p e below K (T.setTop (mkF m pc ls (.int x :: rest))) := by
  subst hn
  exact Go.of (fun t q => XS.ineg X.here C.hx rfl (hb C.hby hd) rfl q) k
theorem Go.i2l (C : Cx p s m meth c Z own bytes maxL ret nm) (X : Stand p l e R s m args below meth c T locs cells slots) {pc n : Nat} {ls : Array Slot} {rest : List Value} {x : Int32} (hd : decode bytes pc = .ok (.i2l, 1)) (hn : pc + 1 = n) (k : Go p e below K (T.setTop (mkF m n ls (.long (x.toInt64) :: rest)))) : Go p e below K (T.setTop (mkF m pc ls (.int x :: rest))) := by
  subst hn
  exact Go.of (fun t q => XT.i2l X.here C.hx rfl (hb C.hby hd) rfl q) k
theorem Go.i2b (C : Cx p s m meth c Z own bytes maxL ret nm) (X : Stand p l e R s m args below meth c T locs cells slots) {pc n : Nat} {ls : Array Slot} {rest : List Value} {x : Int32} (hd : decode bytes pc = .ok (.i2b, 1)) (hn : pc + 1 = n) (k : Go p e below K (T.setTop (mkF m n ls (.int (x.toInt8.toInt32) :: rest)))) : Go p e below K (T.setTop (mkF m pc ls (.int x :: rest))) := by
  subst hn
  exact Go.of (fun t q => XT.i2b X.here C.hx rfl (hb C.hby hd) rfl q) k
theorem Go.i2c (C : Cx p s m meth c Z own bytes maxL ret nm) (X : Stand p l e R s m args below meth c T locs cells slots) {pc n : Nat} {ls : Array Slot} {rest : List Value} {x : Int32} (hd : decode bytes pc = .ok (.i2c, 1)) (hn : pc + 1 = n) (k : Go p e below K (T.setTop (mkF m n ls (.int (x.toUInt32.toUInt16.toUInt32.toInt32) :: rest)))) : Go p e below K (T.setTop (mkF m pc ls (.int x :: rest))) := by
  subst hn
  exact Go.of (fun t q => XT.i2c X.here C.hx rfl (hb C.hby hd) rfl q) k
theorem Go.i2s (C : Cx p s m meth c Z own bytes maxL ret nm) (X : Stand p l e R s m args below meth c T locs cells slots) {pc n : Nat} {ls : Array Slot} {rest : List Value} {x : Int32} (hd : decode bytes pc = .ok (.i2s, 1)) (hn : pc + 1 = n) (k : Go p e below K (T.setTop (mkF m n ls (.int (x.toInt16.toInt32) :: rest)))) : Go p e below K (T.setTop (mkF m pc ls (.int x :: rest))) := by
  subst hn
  exact Go.of (fun t q => XT.i2s X.here C.hx rfl (hb C.hby hd) rfl q) k
theorem Go.l2i (C : Cx p s m meth c Z own bytes maxL ret nm) (X : Stand p l e R s m args below meth c T locs cells slots) {pc n : Nat} {ls : Array Slot} {rest : List Value} {x : Int64} (hd : decode bytes pc = .ok (.l2i, 1)) (hn : pc + 1 = n) (k : Go p e below K (T.setTop (mkF m n ls (.int (x.toInt32) :: rest)))) : Go p e below K (T.setTop (mkF m pc ls (.long x :: rest))) := by
  subst hn
  exact Go.of (fun t q => XT.l2i X.here C.hx rfl (hb C.hby hd) rfl q) k
theorem Go.lcmp (C : Cx p s m meth c Z own bytes maxL ret nm) (X : Stand p l e R s m args below meth c T locs cells slots) {pc n : Nat} {ls : Array Slot} {rest : List Value} {x y : Int64} (hd : decode bytes pc = .ok (.lcmp, 1)) (hn : pc + 1 = n) (k : Go p e below K (T.setTop (mkF m n ls (.int (XT.cmpL x y) :: rest)))) : Go p e below K (T.setTop (mkF m pc ls (.long y :: .long x :: rest))) := by
  subst hn
  exact Go.of (fun t q => XT.lcmp X.here C.hx rfl (hb C.hby hd) rfl q) k
theorem Go.iinc (C : Cx p s m meth c Z own bytes maxL ret nm) (X : Stand p l e R s m args below meth c T locs cells slots) {pc n : Nat} {ls : Array Slot} {rest : List Value} {k : Nat} {cst : Int} {x v : Int32} {l' : Array Slot} (hd : decode bytes pc = .ok (.iinc k cst, 3)) (hn : pc + 3 = n) (hv : Int32.ofInt cst = v) (hl : ls[k]? = some (.val (.int x))) (hl' : storeLocals ls k (.int (x + v)) = some l') (k : Go p e below K (T.setTop (mkF m n l' (rest)))) : Go p e below K (T.setTop (mkF m pc ls (rest))) := by
  subst hn
  exact Go.of (fun t q => XT.iincV X.here C.hx rfl v (hb C.hby hd) hv hl hl' q) k
theorem Go.dup (C : Cx p s m meth c Z own bytes maxL ret nm) (X : Stand p l e R s m args below meth c T locs cells slots) {pc n : Nat} {ls : Array Slot} {rest : List Value} {x : Value} (hd : decode bytes pc = .ok (.dup, 1)) (hn : pc + 1 = n) (hc : x.category = 1) (k : Go p e below K (T.setTop (mkF m n ls (x :: x :: rest)))) : Go p e below K (T.setTop (mkF m pc ls (x :: rest))) := by
  subst hn
  exact Go.of (fun t q => XS.dup X.here C.hx rfl (hb C.hby hd) rfl hc q) k
theorem Go.dupX1 (C : Cx p s m meth c Z own bytes maxL ret nm) (X : Stand p l e R s m args below meth c T locs cells slots) {pc n : Nat} {ls : Array Slot} {rest : List Value} {x y : Value} (hd : decode bytes pc = .ok (.dup_x1, 1)) (hn : pc + 1 = n) (hc : x.category = 1) (hc' : y.category = 1) (k : Go p e below K (T.setTop (mkF m n ls (x :: y :: x :: rest)))) : Go p e below K (T.setTop (mkF m pc ls (x :: y :: rest))) := by
  subst hn
  exact Go.of (fun t q => XT.dupX1 X.here C.hx rfl (hb C.hby hd) rfl hc hc' q) k
theorem Go.dup2 (C : Cx p s m meth c Z own bytes maxL ret nm) (X : Stand p l e R s m args below meth c T locs cells slots) {pc n : Nat} {ls : Array Slot} {rest : List Value} {x y : Value} (hd : decode bytes pc = .ok (.dup2, 1)) (hn : pc + 1 = n) (hc : x.category = 1) (hc' : y.category = 1) (k : Go p e below K (T.setTop (mkF m n ls (x :: y :: x :: y :: rest)))) : Go p e below K (T.setTop (mkF m pc ls (x :: y :: rest))) := by
  subst hn
  exact Go.of (fun t q => XT.dup2 X.here C.hx rfl (hb C.hby hd) rfl hc hc' q) k
theorem Go.pop (C : Cx p s m meth c Z own bytes maxL ret nm) (X : Stand p l e R s m args below meth c T locs cells slots) {pc n : Nat} {ls : Array Slot} {rest : List Value} {x : Value} (hd : decode bytes pc = .ok (.pop, 1)) (hn : pc + 1 = n) (hc : x.category = 1) (k : Go p e below K (T.setTop (mkF m n ls (rest)))) : Go p e below K (T.setTop (mkF m pc ls (x :: rest))) := by
  subst hn
  exact Go.of (fun t q => XT.pop X.here C.hx rfl (hb C.hby hd) rfl hc q) k
theorem Go.dupX2 (C : Cx p s m meth c Z own bytes maxL ret nm) (X : Stand p l e R s m args below meth c T locs cells slots) {pc n : Nat} {ls : Array Slot} {rest : List Value} {x y z : Value} (hd : decode bytes pc = .ok (.dup_x2, 1)) (hn : pc + 1 = n) (hc : x.category = 1) (hc' : y.category = 1) (hc'' : z.category = 1) (k : Go p e below K (T.setTop (mkF m n ls (x :: y :: z :: x :: rest)))) : Go p e below K (T.setTop (mkF m pc ls (x :: y :: z :: rest))) := by
  subst hn
  exact Go.of (fun t q => by jvm_step X.here [X.here.top, C.hx, (hb C.hby hd), hc, hc', hc'']; exact q) k
theorem Go.goto (C : Cx p s m meth c Z own bytes maxL ret nm) (X : Stand p l e R s m args below meth c T locs cells slots) {pc n : Nat} {ls : Array Slot} {rest : List Value} {o : Int} (hd : decode bytes pc = .ok (.goto o, 3)) (ho : 0 ≤ (pc : Int) + o) (hn : ((pc : Int) + o).toNat = n) (k : Go p e below K (T.setTop (mkF m n ls rest))) : Go p e below K (T.setTop (mkF m pc ls rest)) :=
  Go.of (fun t q => XS.goto X.here C.hx rfl rfl (hb C.hby hd) ho hn q) k
theorem Go.ldcI (C : Cx p s m meth c Z own bytes maxL ret nm) (X : Stand p l e R s m args below meth c T locs cells slots) {pc n : Nat} {ls : Array Slot} {rest : List Value} {index : Nat} {v : Int32} (w : (Cond.constant own index v).before a0 Z = true) (hd : decode bytes pc = .ok (.ldc index, 2)) (hn : pc + 2 = n) (k : Go p e below K (T.setTop (mkF m n ls (.int v :: rest)))) : Go p e below K (T.setTop (mkF m pc ls rest)) := by
  subst hn
  exact Go.of (fun t q => Jvm.Stand.ldcI X C.hx C.hown (mv C.hZ w) rfl (hb C.hby hd) q) k
theorem Go.icmp_eq (C : Cx p s m meth c Z own bytes maxL ret nm) (X : Stand p l e R s m args below meth c T locs cells slots) {pc n1 n2 : Nat} {ls : Array Slot} {rest : List Value} {x y : Int32} {o : Int} (hd : decode bytes pc = .ok (.if_icmp .eq o, 3)) (ho : 0 ≤ (pc : Int) + o) (h1 : ((pc : Int) + o).toNat = n1) (h2 : pc + 3 = n2)
    (ky : x = y → Go p e below K (T.setTop (mkF m n1 ls rest))) (kn : ¬ x = y → Go p e below K (T.setTop (mkF m n2 ls rest))) : Go p e below K (T.setTop (mkF m pc ls (.int y :: .int x :: rest))) := by
  subst h2
  by_cases q : x = y
  · exact Go.of (fun t z => XS.icmpYes X.here C.hx rfl rfl (hb C.hby hd) rfl (XT.ii_eq_t q) ho h1 z) (ky q)
  · exact Go.of (fun t z => XS.icmpNo X.here C.hx rfl (hb C.hby hd) rfl (XT.ii_eq_f q) z) (kn q)
theorem Go.if0_eq (C : Cx p s m meth c Z own bytes maxL ret nm) (X : Stand p l e R s m args below meth c T locs cells slots) {pc n1 n2 : Nat} {ls : Array Slot} {rest : List Value} {x : Int32} {o : Int} (hd : decode bytes pc = .ok (.ifCond .eq o, 3)) (ho : 0 ≤ (pc : Int) + o) (h1 : ((pc : Int) + o).toNat = n1) (h2 : pc + 3 = n2)
    (ky : x = 0 → Go p e below K (T.setTop (mkF m n1 ls rest))) (kn : ¬ x = 0 → Go p e below K (T.setTop (mkF m n2 ls rest))) : Go p e below K (T.setTop (mkF m pc ls (.int x :: rest))) := by
  subst h2
  by_cases q : x = 0
  · exact Go.of (fun t z => XS.ifYes X.here C.hx rfl rfl (hb C.hby hd) rfl (XT.i0_eq_t q) ho h1 z) (ky q)
  · exact Go.of (fun t z => XS.ifNo X.here C.hx rfl (hb C.hby hd) rfl (XT.i0_eq_f q) z) (kn q)
theorem Go.lcmp_eq (C : Cx p s m meth c Z own bytes maxL ret nm) (X : Stand p l e R s m args below meth c T locs cells slots) {pc n1 n2 : Nat} {ls : Array Slot} {rest : List Value} {x y : Int64} {o : Int} (hd : decode bytes pc = .ok (.ifCond .eq o, 3)) (ho : 0 ≤ (pc : Int) + o) (h1 : ((pc : Int) + o).toNat = n1) (h2 : pc + 3 = n2)
    (ky : x = y → Go p e below K (T.setTop (mkF m n1 ls rest))) (kn : ¬ x = y → Go p e below K (T.setTop (mkF m n2 ls rest))) : Go p e below K (T.setTop (mkF m pc ls (.int (XT.cmpL x y) :: rest))) := by
  subst h2
  by_cases q : x = y
  · exact Go.of (fun t z => XS.ifYes X.here C.hx rfl rfl (hb C.hby hd) rfl (XT.ll_eq_t q) ho h1 z) (ky q)
  · exact Go.of (fun t z => XS.ifNo X.here C.hx rfl (hb C.hby hd) rfl (XT.ll_eq_f q) z) (kn q)
theorem Go.icmp_ne (C : Cx p s m meth c Z own bytes maxL ret nm) (X : Stand p l e R s m args below meth c T locs cells slots) {pc n1 n2 : Nat} {ls : Array Slot} {rest : List Value} {x y : Int32} {o : Int} (hd : decode bytes pc = .ok (.if_icmp .ne o, 3)) (ho : 0 ≤ (pc : Int) + o) (h1 : ((pc : Int) + o).toNat = n1) (h2 : pc + 3 = n2)
    (ky : ¬ x = y → Go p e below K (T.setTop (mkF m n1 ls rest))) (kn : x = y → Go p e below K (T.setTop (mkF m n2 ls rest))) : Go p e below K (T.setTop (mkF m pc ls (.int y :: .int x :: rest))) := by
  subst h2
  by_cases q : x = y
  · exact Go.of (fun t z => XS.icmpNo X.here C.hx rfl (hb C.hby hd) rfl (XT.ii_ne_f q) z) (kn q)
  · exact Go.of (fun t z => XS.icmpYes X.here C.hx rfl rfl (hb C.hby hd) rfl (XT.ii_ne_t q) ho h1 z) (ky q)
theorem Go.if0_ne (C : Cx p s m meth c Z own bytes maxL ret nm) (X : Stand p l e R s m args below meth c T locs cells slots) {pc n1 n2 : Nat} {ls : Array Slot} {rest : List Value} {x : Int32} {o : Int} (hd : decode bytes pc = .ok (.ifCond .ne o, 3)) (ho : 0 ≤ (pc : Int) + o) (h1 : ((pc : Int) + o).toNat = n1) (h2 : pc + 3 = n2)
    (ky : ¬ x = 0 → Go p e below K (T.setTop (mkF m n1 ls rest))) (kn : x = 0 → Go p e below K (T.setTop (mkF m n2 ls rest))) : Go p e below K (T.setTop (mkF m pc ls (.int x :: rest))) := by
  subst h2
  by_cases q : x = 0
  · exact Go.of (fun t z => XS.ifNo X.here C.hx rfl (hb C.hby hd) rfl (XT.i0_ne_f q) z) (kn q)
  · exact Go.of (fun t z => XS.ifYes X.here C.hx rfl rfl (hb C.hby hd) rfl (XT.i0_ne_t q) ho h1 z) (ky q)
theorem Go.lcmp_ne (C : Cx p s m meth c Z own bytes maxL ret nm) (X : Stand p l e R s m args below meth c T locs cells slots) {pc n1 n2 : Nat} {ls : Array Slot} {rest : List Value} {x y : Int64} {o : Int} (hd : decode bytes pc = .ok (.ifCond .ne o, 3)) (ho : 0 ≤ (pc : Int) + o) (h1 : ((pc : Int) + o).toNat = n1) (h2 : pc + 3 = n2)
    (ky : ¬ x = y → Go p e below K (T.setTop (mkF m n1 ls rest))) (kn : x = y → Go p e below K (T.setTop (mkF m n2 ls rest))) : Go p e below K (T.setTop (mkF m pc ls (.int (XT.cmpL x y) :: rest))) := by
  subst h2
  by_cases q : x = y
  · exact Go.of (fun t z => XS.ifNo X.here C.hx rfl (hb C.hby hd) rfl (XT.ll_ne_f q) z) (kn q)
  · exact Go.of (fun t z => XS.ifYes X.here C.hx rfl rfl (hb C.hby hd) rfl (XT.ll_ne_t q) ho h1 z) (ky q)
theorem Go.icmp_lt (C : Cx p s m meth c Z own bytes maxL ret nm) (X : Stand p l e R s m args below meth c T locs cells slots) {pc n1 n2 : Nat} {ls : Array Slot} {rest : List Value} {x y : Int32} {o : Int} (hd : decode bytes pc = .ok (.if_icmp .lt o, 3)) (ho : 0 ≤ (pc : Int) + o) (h1 : ((pc : Int) + o).toNat = n1) (h2 : pc + 3 = n2)
    (ky : x < y → Go p e below K (T.setTop (mkF m n1 ls rest))) (kn : ¬ x < y → Go p e below K (T.setTop (mkF m n2 ls rest))) : Go p e below K (T.setTop (mkF m pc ls (.int y :: .int x :: rest))) := by
  subst h2
  by_cases q : x < y
  · exact Go.of (fun t z => XS.icmpYes X.here C.hx rfl rfl (hb C.hby hd) rfl (XT.ii_lt_t q) ho h1 z) (ky q)
  · exact Go.of (fun t z => XS.icmpNo X.here C.hx rfl (hb C.hby hd) rfl (XT.ii_lt_f q) z) (kn q)
theorem Go.if0_lt (C : Cx p s m meth c Z own bytes maxL ret nm) (X : Stand p l e R s m args below meth c T locs cells slots) {pc n1 n2 : Nat} {ls : Array Slot} {rest : List Value} {x : Int32} {o : Int} (hd : decode bytes pc = .ok (.ifCond .lt o, 3)) (ho : 0 ≤ (pc : Int) + o) (h1 : ((pc : Int) + o).toNat = n1) (h2 : pc + 3 = n2)
    (ky : x < 0 → Go p e below K (T.setTop (mkF m n1 ls rest))) (kn : ¬ x < 0 → Go p e below K (T.setTop (mkF m n2 ls rest))) : Go p e below K (T.setTop (mkF m pc ls (.int x :: rest))) := by
  subst h2
  by_cases q : x < 0
  · exact Go.of (fun t z => XS.ifYes X.here C.hx rfl rfl (hb C.hby hd) rfl (XT.i0_lt_t q) ho h1 z) (ky q)
  · exact Go.of (fun t z => XS.ifNo X.here C.hx rfl (hb C.hby hd) rfl (XT.i0_lt_f q) z) (kn q)
theorem Go.lcmp_lt (C : Cx p s m meth c Z own bytes maxL ret nm) (X : Stand p l e R s m args below meth c T locs cells slots) {pc n1 n2 : Nat} {ls : Array Slot} {rest : List Value} {x y : Int64} {o : Int} (hd : decode bytes pc = .ok (.ifCond .lt o, 3)) (ho : 0 ≤ (pc : Int) + o) (h1 : ((pc : Int) + o).toNat = n1) (h2 : pc + 3 = n2)
    (ky : x < y → Go p e below K (T.setTop (mkF m n1 ls rest))) (kn : ¬ x < y → Go p e below K (T.setTop (mkF m n2 ls rest))) : Go p e below K (T.setTop (mkF m pc ls (.int (XT.cmpL x y) :: rest))) := by
  subst h2
  by_cases q : x < y
  · exact Go.of (fun t z => XS.ifYes X.here C.hx rfl rfl (hb C.hby hd) rfl (XT.ll_lt_t q) ho h1 z) (ky q)
  · exact Go.of (fun t z => XS.ifNo X.here C.hx rfl (hb C.hby hd) rfl (XT.ll_lt_f q) z) (kn q)
theorem Go.icmp_ge (C : Cx p s m meth c Z own bytes maxL ret nm) (X : Stand p l e R s m args below meth c T locs cells slots) {pc n1 n2 : Nat} {ls : Array Slot} {rest : List Value} {x y : Int32} {o : Int} (hd : decode bytes pc = .ok (.if_icmp .ge o, 3)) (ho : 0 ≤ (pc : Int) + o) (h1 : ((pc : Int) + o).toNat = n1) (h2 : pc + 3 = n2)
    (ky : ¬ x < y → Go p e below K (T.setTop (mkF m n1 ls rest))) (kn : x < y → Go p e below K (T.setTop (mkF m n2 ls rest))) : Go p e below K (T.setTop (mkF m pc ls (.int y :: .int x :: rest))) := by
  subst h2
  by_cases q : x < y
  · exact Go.of (fun t z => XS.icmpNo X.here C.hx rfl (hb C.hby hd) rfl (XT.ii_ge_f q) z) (kn q)
  · exact Go.of (fun t z => XS.icmpYes X.here C.hx rfl rfl (hb C.hby hd) rfl (XT.ii_ge_t q) ho h1 z) (ky q)
theorem Go.if0_ge (C : Cx p s m meth c Z own bytes maxL ret nm) (X : Stand p l e R s m args below meth c T locs cells slots) {pc n1 n2 : Nat} {ls : Array Slot} {rest : List Value} {x : Int32} {o : Int} (hd : decode bytes pc = .ok (.ifCond .ge o, 3)) (ho : 0 ≤ (pc : Int) + o) (h1 : ((pc : Int) + o).toNat = n1) (h2 : pc + 3 = n2)
    (ky : ¬ x < 0 → Go p e below K (T.setTop (mkF m n1 ls rest))) (kn : x < 0 → Go p e below K (T.setTop (mkF m n2 ls rest))) : Go p e below K (T.setTop (mkF m pc ls (.int x :: rest))) := by
  subst h2
  by_cases q : x < 0
  · exact Go.of (fun t z => XS.ifNo X.here C.hx rfl (hb C.hby hd) rfl (XT.i0_ge_f q) z) (kn q)
  · exact Go.of (fun t z => XS.ifYes X.here C.hx rfl rfl (hb C.hby hd) rfl (XT.i0_ge_t q) ho h1 z) (ky q)
theorem Go.lcmp_ge (C : Cx p s m meth c Z own bytes maxL ret nm) (X : Stand p l e R s m args below meth c T locs cells slots) {pc n1 n2 : Nat} {ls : Array Slot} {rest : List Value} {x y : Int64} {o : Int} (hd : decode bytes pc = .ok (.ifCond .ge o, 3)) (ho : 0 ≤ (pc : Int) + o) (h1 : ((pc : Int) + o).toNat = n1) (h2 : pc + 3 = n2)
    (ky : ¬ x < y → Go p e below K (T.setTop (mkF m n1 ls rest))) (kn : x < y → Go p e below K (T.setTop (mkF m n2 ls rest))) : Go p e below K (T.setTop (mkF m pc ls (.int (XT.cmpL x y) :: rest))) := by
  subst h2
  by_cases q : x < y
  · exact Go.of (fun t z => XS.ifNo X.here C.hx rfl (hb C.hby hd) rfl (XT.ll_ge_f q) z) (kn q)
  · exact Go.of (fun t z => XS.ifYes X.here C.hx rfl rfl (hb C.hby hd) rfl (XT.ll_ge_t q) ho h1 z) (ky q)
theorem Go.icmp_gt (C : Cx p s m meth c Z own bytes maxL ret nm) (X : Stand p l e R s m args below meth c T locs cells slots) {pc n1 n2 : Nat} {ls : Array Slot} {rest : List Value} {x y : Int32} {o : Int} (hd : decode bytes pc = .ok (.if_icmp .gt o, 3)) (ho : 0 ≤ (pc : Int) + o) (h1 : ((pc : Int) + o).toNat = n1) (h2 : pc + 3 = n2)
    (ky : y < x → Go p e below K (T.setTop (mkF m n1 ls rest))) (kn : ¬ y < x → Go p e below K (T.setTop (mkF m n2 ls rest))) : Go p e below K (T.setTop (mkF m pc ls (.int y :: .int x :: rest))) := by
  subst h2
  by_cases q : y < x
  · exact Go.of (fun t z => XS.icmpYes X.here C.hx rfl rfl (hb C.hby hd) rfl (XT.ii_gt_t q) ho h1 z) (ky q)
  · exact Go.of (fun t z => XS.icmpNo X.here C.hx rfl (hb C.hby hd) rfl (XT.ii_gt_f q) z) (kn q)
theorem Go.if0_gt (C : Cx p s m meth c Z own bytes maxL ret nm) (X : Stand p l e R s m args below meth c T locs cells slots) {pc n1 n2 : Nat} {ls : Array Slot} {rest : List Value} {x : Int32} {o : Int} (hd : decode bytes pc = .ok (.ifCond .gt o, 3)) (ho : 0 ≤ (pc : Int) + o) (h1 : ((pc : Int) + o).toNat = n1) (h2 : pc + 3 = n2)
    (ky : 0 < x → Go p e below K (T.setTop (mkF m n1 ls rest))) (kn : ¬ 0 < x → Go p e below K (T.setTop (mkF m n2 ls rest))) : Go p e below K (T.setTop (mkF m pc ls (.int x :: rest))) := by
  subst h2
  by_cases q : 0 < x
  · exact Go.of (fun t z => XS.ifYes X.here C.hx rfl rfl (hb C.hby hd) rfl (XT.i0_gt_t q) ho h1 z) (ky q)
  · exact Go.of (fun t z => XS.ifNo X.here C.hx rfl (hb C.hby hd) rfl (XT.i0_gt_f q) z) (kn q)
theorem Go.lcmp_gt (C : Cx p s m meth c Z own bytes maxL ret nm) (X : Stand p l e R s m args below meth c T locs cells slots) {pc n1 n2 : Nat} {ls : Array Slot} {rest : List Value} {x y : Int64} {o : Int} (hd : decode bytes pc = .ok (.ifCond .gt o, 3)) (ho : 0 ≤ (pc : Int) + o) (h1 : ((pc : Int) + o).toNat = n1) (h2 : pc + 3 = n2)
    (ky : y < x → Go p e below K (T.setTop (mkF m n1 ls rest))) (kn : ¬ y < x → Go p e below K (T.setTop (mkF m n2 ls rest))) : Go p e below K (T.setTop (mkF m pc ls (.int (XT.cmpL x y) :: rest))) := by
  subst h2
  by_cases q : y < x
  · exact Go.of (fun t z => XS.ifYes X.here C.hx rfl rfl (hb C.hby hd) rfl (XT.ll_gt_t q) ho h1 z) (ky q)
  · exact Go.of (fun t z => XS.ifNo X.here C.hx rfl (hb C.hby hd) rfl (XT.ll_gt_f q) z) (kn q)
theorem Go.icmp_le (C : Cx p s m meth c Z own bytes maxL ret nm) (X : Stand p l e R s m args below meth c T locs cells slots) {pc n1 n2 : Nat} {ls : Array Slot} {rest : List Value} {x y : Int32} {o : Int} (hd : decode bytes pc = .ok (.if_icmp .le o, 3)) (ho : 0 ≤ (pc : Int) + o) (h1 : ((pc : Int) + o).toNat = n1) (h2 : pc + 3 = n2)
    (ky : ¬ y < x → Go p e below K (T.setTop (mkF m n1 ls rest))) (kn : y < x → Go p e below K (T.setTop (mkF m n2 ls rest))) : Go p e below K (T.setTop (mkF m pc ls (.int y :: .int x :: rest))) := by
  subst h2
  by_cases q : y < x
  · exact Go.of (fun t z => XS.icmpNo X.here C.hx rfl (hb C.hby hd) rfl (XT.ii_le_f q) z) (kn q)
  · exact Go.of (fun t z => XS.icmpYes X.here C.hx rfl rfl (hb C.hby hd) rfl (XT.ii_le_t q) ho h1 z) (ky q)
theorem Go.if0_le (C : Cx p s m meth c Z own bytes maxL ret nm) (X : Stand p l e R s m args below meth c T locs cells slots) {pc n1 n2 : Nat} {ls : Array Slot} {rest : List Value} {x : Int32} {o : Int} (hd : decode bytes pc = .ok (.ifCond .le o, 3)) (ho : 0 ≤ (pc : Int) + o) (h1 : ((pc : Int) + o).toNat = n1) (h2 : pc + 3 = n2)
    (ky : ¬ 0 < x → Go p e below K (T.setTop (mkF m n1 ls rest))) (kn : 0 < x → Go p e below K (T.setTop (mkF m n2 ls rest))) : Go p e below K (T.setTop (mkF m pc ls (.int x :: rest))) := by
  subst h2
  by_cases q : 0 < x
  · exact Go.of (fun t z => XS.ifNo X.here C.hx rfl (hb C.hby hd) rfl (XT.i0_le_f q) z) (kn q)
  · exact Go.of (fun t z => XS.ifYes X.here C.hx rfl rfl (hb C.hby hd) rfl (XT.i0_le_t q) ho h1 z) (ky q)
theorem Go.lcmp_le (C : Cx p s m meth c Z own bytes maxL ret nm) (X : Stand p l e R s m args below meth c T locs cells slots) {pc n1 n2 : Nat} {ls : Array Slot} {rest : List Value} {x y : Int64} {o : Int} (hd : decode bytes pc = .ok (.ifCond .le o, 3)) (ho : 0 ≤ (pc : Int) + o) (h1 : ((pc : Int) + o).toNat = n1) (h2 : pc + 3 = n2)
    (ky : ¬ y < x → Go p e below K (T.setTop (mkF m n1 ls rest))) (kn : y < x → Go p e below K (T.setTop (mkF m n2 ls rest))) : Go p e below K (T.setTop (mkF m pc ls (.int (XT.cmpL x y) :: rest))) := by
  subst h2
  by_cases q : y < x
  · exact Go.of (fun t z => XS.ifNo X.here C.hx rfl (hb C.hby hd) rfl (XT.ll_le_f q) z) (kn q)
  · exact Go.of (fun t z => XS.ifYes X.here C.hx rfl rfl (hb C.hby hd) rfl (XT.ll_le_t q) ho h1 z) (ky q)
theorem Go.ifnullN (C : Cx p s m meth c Z own bytes maxL ret nm) (X : Stand p l e R s m args below meth c T locs cells slots) {pc n : Nat} {ls : Array Slot} {rest : List Value} {o : Int} (hd : decode bytes pc = .ok (.ifnull o, 3)) (ho : 0 ≤ (pc : Int) + o) (hn : ((pc : Int) + o).toNat = n) (k : Go p e below K (T.setTop (mkF m n ls rest))) : Go p e below K (T.setTop (mkF m pc ls (.null :: rest))) :=
  Go.of (fun t q => XS.ifnullYes X.here C.hx rfl rfl (hb C.hby hd) rfl ho hn q) k
theorem Go.ifnullR (C : Cx p s m meth c Z own bytes maxL ret nm) (X : Stand p l e R s m args below meth c T locs cells slots) {pc n : Nat} {ls : Array Slot} {rest : List Value} {o : Int} {b : Addr} (hd : decode bytes pc = .ok (.ifnull o, 3)) (hn : pc + 3 = n) (k : Go p e below K (T.setTop (mkF m n ls rest))) : Go p e below K (T.setTop (mkF m pc ls (.ref b :: rest))) := by
  subst hn
  exact Go.of (fun t q => XS.ifnullNo X.here C.hx rfl (hb C.hby hd) rfl q) k
theorem Go.ifnonnullN (C : Cx p s m meth c Z own bytes maxL ret nm) (X : Stand p l e R s m args below meth c T locs cells slots) {pc n : Nat} {ls : Array Slot} {rest : List Value} {o : Int} (hd : decode bytes pc = .ok (.ifnonnull o, 3)) (hn : pc + 3 = n) (k : Go p e below K (T.setTop (mkF m n ls rest))) : Go p e below K (T.setTop (mkF m pc ls (.null :: rest))) := by
  subst hn
  exact Go.of (fun t q => XT.ifnonnullNo X.here C.hx rfl (hb C.hby hd) rfl q) k
theorem Go.ifnonnullR (C : Cx p s m meth c Z own bytes maxL ret nm) (X : Stand p l e R s m args below meth c T locs cells slots) {pc n : Nat} {ls : Array Slot} {rest : List Value} {o : Int} {b : Addr} (hd : decode bytes pc = .ok (.ifnonnull o, 3)) (ho : 0 ≤ (pc : Int) + o) (hn : ((pc : Int) + o).toNat = n) (k : Go p e below K (T.setTop (mkF m n ls rest))) : Go p e below K (T.setTop (mkF m pc ls (.ref b :: rest))) :=
  Go.of (fun t q => XT.ifnonnullYes X.here C.hx rfl rfl (hb C.hby hd) rfl ho hn q) k
theorem Go.acmp_eq (C : Cx p s m meth c Z own bytes maxL ret nm) (X : Stand p l e R s m args below meth c T locs cells slots) {pc n1 n2 : Nat} {ls : Array Slot} {rest : List Value} {x y : Value} {o : Int} (hx' : x.isRef = true) (hy' : y.isRef = true) (hd : decode bytes pc = .ok (.if_acmp .eq o, 3)) (ho : 0 ≤ (pc : Int) + o) (h1 : ((pc : Int) + o).toNat = n1) (h2 : pc + 3 = n2)
    (ky : x = y → Go p e below K (T.setTop (mkF m n1 ls rest))) (kn : ¬ x = y → Go p e below K (T.setTop (mkF m n2 ls rest))) : Go p e below K (T.setTop (mkF m pc ls (y :: x :: rest))) := by
  subst h2
  by_cases q : x = y
  · exact Go.of (fun t z => XT.acmpYes X.here C.hx rfl rfl (hb C.hby hd) rfl hx' hy' (XT.aa_eq_t q) ho h1 z) (ky q)
  · exact Go.of (fun t z => XT.acmpNo X.here C.hx rfl (hb C.hby hd) rfl hx' hy' (XT.aa_eq_f q) z) (kn q)
theorem Go.acmp_ne (C : Cx p s m meth c Z own bytes maxL ret nm) (X : Stand p l e R s m args below meth c T locs cells slots) {pc n1 n2 : Nat} {ls : Array Slot} {rest : List Value} {x y : Value} {o : Int} (hx' : x.isRef = true) (hy' : y.isRef = true) (hd : decode bytes pc = .ok (.if_acmp .ne o, 3)) (ho : 0 ≤ (pc : Int) + o) (h1 : ((pc : Int) + o).toNat = n1) (h2 : pc + 3 = n2)
    (ky : ¬ x = y → Go p e below K (T.setTop (mkF m n1 ls rest))) (kn : x = y → Go p e below K (T.setTop (mkF m n2 ls rest))) : Go p e below K (T.setTop (mkF m pc ls (y :: x :: rest))) := by
  subst h2
  by_cases q : x = y
  · exact Go.of (fun t z => XT.acmpNo X.here C.hx rfl (hb C.hby hd) rfl hx' hy' (XT.aa_ne_f q) z) (kn q)
  · exact Go.of (fun t z => XT.acmpYes X.here C.hx rfl rfl (hb C.hby hd) rfl hx' hy' (XT.aa_ne_t q) ho h1 z) (ky q)
theorem Go.iaload (C : Cx p s m meth c Z own bytes maxL ret nm) (X : Stand p l e R s m args below meth c T locs cells slots) {pc n : Nat} {ls : Array Slot} {rest : List Value} (eT : T.heap = h) {a : Addr} {cl : Cell} {j : Int32} {v : Value} (A : Arr Z h a cl .int) (hj : ¬ (j < 0 ∨ cl.slots.size ≤ j.toNatClampNeg)) (hv : cl.slots[j.toNatClampNeg]? = some v) (hd : decode bytes pc = .ok (.iaload, 1)) (hn : pc + 1 = n) (k : Go p e below K (T.setTop (mkF m n ls (v :: rest)))) : Go p e below K (T.setTop (mkF m pc ls (.int j :: .ref a :: rest))) := by
  subst hn
  have hc : T.heap[a]? = some cl := by rw [eT]; exact A.1
  have ha := State.isArrayOf_alike (T := s) C.hZ.alike A.2.1
  exact Go.of (fun t q => X.iaload C.hx hc ha A.2.2 hj hv (g := mkF m pc ls (.int j :: .ref a :: rest)) rfl rfl (hb C.hby hd) t q) k
theorem Go.caload (C : Cx p s m meth c Z own bytes maxL ret nm) (X : Stand p l e R s m args below meth c T locs cells slots) {pc n : Nat} {ls : Array Slot} {rest : List Value} (eT : T.heap = h) {a : Addr} {cl : Cell} {j : Int32} {v : Value} (A : Arr Z h a cl .char) (hj : ¬ (j < 0 ∨ cl.slots.size ≤ j.toNatClampNeg)) (hv : cl.slots[j.toNatClampNeg]? = some v) (hd : decode bytes pc = .ok (.caload, 1)) (hn : pc + 1 = n) (k : Go p e below K (T.setTop (mkF m n ls (v :: rest)))) : Go p e below K (T.setTop (mkF m pc ls (.int j :: .ref a :: rest))) := by
  subst hn
  have hc : T.heap[a]? = some cl := by rw [eT]; exact A.1
  have ha := State.isArrayOf_alike (T := s) C.hZ.alike A.2.1
  exact Go.of (fun t q => X.caload C.hx hc ha A.2.2 hj hv (g := mkF m pc ls (.int j :: .ref a :: rest)) rfl rfl (hb C.hby hd) t q) k
theorem Go.baloadB (C : Cx p s m meth c Z own bytes maxL ret nm) (X : Stand p l e R s m args below meth c T locs cells slots) {pc n : Nat} {ls : Array Slot} {rest : List Value} (eT : T.heap = h) {a : Addr} {cl : Cell} {j : Int32} {v : Value} (A : Arr Z h a cl .byte) (hj : ¬ (j < 0 ∨ cl.slots.size ≤ j.toNatClampNeg)) (hv : cl.slots[j.toNatClampNeg]? = some v) (hd : decode bytes pc = .ok (.baload, 1)) (hn : pc + 1 = n) (k : Go p e below K (T.setTop (mkF m n ls (v :: rest)))) : Go p e below K (T.setTop (mkF m pc ls (.int j :: .ref a :: rest))) := by
  subst hn
  have hc : T.heap[a]? = some cl := by rw [eT]; exact A.1
  have ha := State.isArrayOf_alike (T := s) C.hZ.alike A.2.1
  exact Go.of (fun t q => X.baloadBytes C.hx hc ha A.2.2 hj hv (g := mkF m pc ls (.int j :: .ref a :: rest)) rfl rfl (hb C.hby hd) t q) k
theorem Go.aaload (C : Cx p s m meth c Z own bytes maxL ret nm) (X : Stand p l e R s m args below meth c T locs cells slots) {pc n : Nat} {ls : Array Slot} {rest : List Value} (eT : T.heap = h) {a : Addr} {cl : Cell} {j : Int32} {v : Value} {ty : FieldType} (hty : ty.isReference = true) (A : Arr Z h a cl ty) (hj : ¬ (j < 0 ∨ cl.slots.size ≤ j.toNatClampNeg)) (hv : cl.slots[j.toNatClampNeg]? = some v) (hd : decode bytes pc = .ok (.aaload, 1)) (hn : pc + 1 = n) (k : Go p e below K (T.setTop (mkF m n ls (v :: rest)))) : Go p e below K (T.setTop (mkF m pc ls (.int j :: .ref a :: rest))) := by
  subst hn
  have hc : T.heap[a]? = some cl := by rw [eT]; exact A.1
  have ha := State.isArrayOf_alike (T := s) C.hZ.alike A.2.1
  exact Go.of (fun t q => X.aaload C.hx hc ha hty A.2.2 hj hv (g := mkF m pc ls (.int j :: .ref a :: rest)) rfl rfl (hb C.hby hd) t q) k
theorem Go.arraylength (C : Cx p s m meth c Z own bytes maxL ret nm) (X : Stand p l e R s m args below meth c T locs cells slots) {pc n : Nat} {ls : Array Slot} {rest : List Value} (eT : T.heap = h) {a : Addr} {cl : Cell} {ty : FieldType} {z : Int32} (A : Arr Z h a cl ty) (hz : cl.slots.size.toInt32 = z) (hd : decode bytes pc = .ok (.arraylength, 1)) (hn : pc + 1 = n) (k : Go p e below K (T.setTop (mkF m n ls (.int z :: rest)))) : Go p e below K (T.setTop (mkF m pc ls (.ref a :: rest))) := by
  subst hn hz
  have hc : T.heap[a]? = some cl := by rw [eT]; exact A.1
  have ha := State.isArrayOf_alike (T := s) C.hZ.alike A.2.1
  exact Go.of (fun t q => X.arraylength C.hx hc ha (g := mkF m pc ls (.ref a :: rest)) rfl rfl (hb C.hby hd) t q) k
theorem Go.iastore (C : Cx p s m meth c Z own bytes maxL ret nm) (X : Stand p l e R s m args below meth c T locs cells slots) {pc n : Nat} {ls : Array Slot} {rest : List Value} (eT : T.heap = h) {a : Addr} {cl : Cell} {j : Int32} {x : Int32} (A : Arr Z h a cl .int) (hj : ¬ (j < 0 ∨ cl.slots.size ≤ j.toNatClampNeg)) (hd : decode bytes pc = .ok (.iastore, 1)) (hn : pc + 1 = n) (k : ∀ T' h', Stand p l e R s m args below meth c T' (locs ++ [⟨a, j.toNatClampNeg⟩]) cells slots → T'.heap = h' → Wr h h' a j.toNatClampNeg (.int x) → Go p e below K (T'.setTop (mkF m n ls rest))) : Go p e below K (T.setTop (mkF m pc ls (.int x :: .int j :: .ref a :: rest))) := by
  subst hn
  obtain ⟨T', h', X', e', W, st⟩ := stI X C.hx C.hZ eT A hj (g := mkF m pc ls (.int x :: .int j :: .ref a :: rest)) rfl rfl (hb C.hby hd)
  exact Go.of st (k T' h' X' e' W)
theorem Go.castore (C : Cx p s m meth c Z own bytes maxL ret nm) (X : Stand p l e R s m args below meth c T locs cells slots) {pc n : Nat} {ls : Array Slot} {rest : List Value} (eT : T.heap = h) {a : Addr} {cl : Cell} {j : Int32} {x : Int32} (A : Arr Z h a cl .char) (hj : ¬ (j < 0 ∨ cl.slots.size ≤ j.toNatClampNeg)) (hd : decode bytes pc = .ok (.castore, 1)) (hn : pc + 1 = n) (k : ∀ T' h', Stand p l e R s m args below meth c T' (locs ++ [⟨a, j.toNatClampNeg⟩]) cells slots → T'.heap = h' → Wr h h' a j.toNatClampNeg (.int (nar .char x)) → Go p e below K (T'.setTop (mkF m n ls rest))) : Go p e below K (T.setTop (mkF m pc ls (.int x :: .int j :: .ref a :: rest))) := by
  subst hn
  obtain ⟨T', h', X', e', W, st⟩ := stC X C.hx C.hZ eT A hj (g := mkF m pc ls (.int x :: .int j :: .ref a :: rest)) rfl rfl (hb C.hby hd)
  exact Go.of st (k T' h' X' e' W)
theorem Go.bastoreB (C : Cx p s m meth c Z own bytes maxL ret nm) (X : Stand p l e R s m args below meth c T locs cells slots) {pc n : Nat} {ls : Array Slot} {rest : List Value} (eT : T.heap = h) {a : Addr} {cl : Cell} {j : Int32} {x : Int32} (A : Arr Z h a cl .byte) (hj : ¬ (j < 0 ∨ cl.slots.size ≤ j.toNatClampNeg)) (hd : decode bytes pc = .ok (.bastore, 1)) (hn : pc + 1 = n) (k : ∀ T' h', Stand p l e R s m args below meth c T' (locs ++ [⟨a, j.toNatClampNeg⟩]) cells slots → T'.heap = h' → Wr h h' a j.toNatClampNeg (.int (nar .byte x)) → Go p e below K (T'.setTop (mkF m n ls rest))) : Go p e below K (T.setTop (mkF m pc ls (.int x :: .int j :: .ref a :: rest))) := by
  subst hn
  obtain ⟨T', h', X', e', W, st⟩ := stB X C.hx C.hZ eT A hj (g := mkF m pc ls (.int x :: .int j :: .ref a :: rest)) rfl rfl (hb C.hby hd)
  exact Go.of st (k T' h' X' e' W)
theorem Go.aastore (C : Cx p s m meth c Z own bytes maxL ret nm) (X : Stand p l e R s m args below meth c T locs cells slots) {pc n : Nat} {ls : Array Slot} {rest : List Value} (eT : T.heap = h) {a : Addr} {cl : Cell} {j : Int32} {v : Value} {ty : FieldType} (A : Arr Z h a cl ty) (hj : ¬ (j < 0 ∨ cl.slots.size ≤ j.toNatClampNeg)) (hty : ty.isReference = true) (F : Sto Z h a v) (hd : decode bytes pc = .ok (.aastore, 1)) (hn : pc + 1 = n) (k : ∀ T' h', Stand p l e R s m args below meth c T' (locs ++ [⟨a, j.toNatClampNeg⟩]) cells slots → T'.heap = h' → Wr h h' a j.toNatClampNeg v → Go p e below K (T'.setTop (mkF m n ls rest))) : Go p e below K (T.setTop (mkF m pc ls (v :: .int j :: .ref a :: rest))) := by
  subst hn
  obtain ⟨T', h', X', e', W, st⟩ := stR X C.hx C.hZ eT A hj hty F (g := mkF m pc ls (v :: .int j :: .ref a :: rest)) rfl rfl (hb C.hby hd)
  exact Go.of st (k T' h' X' e' W)
theorem Go.getF (C : Cx p s m meth c Z own bytes maxL ret nm) (X : Stand p l e R s m args below meth c T locs cells slots) {pc n : Nat} {ls : Array Slot} {rest : List Value} (eT : T.heap = h) {R0 O n0 d : String} {index : Nat} {a : Addr} {v : Value} (w : (Cond.fieldLink own index R0 n0 d).before a0 Z = true) (via : Via Z R0 O n0 d) (F : Fld Z h a O n0 d v) (hd : decode bytes pc = .ok (.getfield index, 3)) (hn : pc + 3 = n) (k : ∀ T', Stand p l e R s m args below meth c T' locs cells slots → T'.heap = h → Go p e below K (T'.setTop (mkF m n ls (v :: rest)))) : Go p e below K (T.setTop (mkF m pc ls (.ref a :: rest))) := by
  subst hn
  obtain ⟨T', X', e', st⟩ := Jvm.RoadKit.getF X C.hx C.hZ C.hown (host := "") (Or.inl w) via eT F (g := mkF m pc ls (.ref a :: rest)) rfl rfl (hb C.hby hd)
  exact Go.of st (k T' X' e')
theorem Go.putF (C : Cx p s m meth c Z own bytes maxL ret nm) (X : Stand p l e R s m args below meth c T locs cells slots) {pc n : Nat} {ls : Array Slot} {rest : List Value} (eT : T.heap = h) {R0 O n0 d C0 : String} {index kk : Nat} {ty : FieldType} {a : Addr} {v v' old : Value} (w : (Cond.fieldLink own index R0 n0 d).before a0 Z = true) (via : Via Z R0 O n0 d) (F : Fld Z h a O n0 d old) (E : Exa Z h a C0) (L : (Cond.lays C0 O n0 d).before a0 Z = true ∨ ((Cond.laysFinal C0 O n0 d).before a0 Z = true ∧ own = O ∧ nm = "<init>")) (wi : (Cond.instantiable C0 kk).before a0 Z = true) (hty : parseFieldDescriptor d = some ty) (hnv : narrow ty v = v') (hf : fits ty v' = true) (hd : decode bytes pc = .ok (.putfield index, 3)) (hn : pc + 3 = n)
    (k : ∀ T' h', Stand p l e R s m args below meth c T' (locs ++ [⟨a, slotOf Z O n0 d⟩]) cells slots → T'.heap = h' → Wr h h' a (slotOf Z O n0 d) v' → Go p e below K (T'.setTop (mkF m n ls rest))) : Go p e below K (T.setTop (mkF m pc ls (v :: .ref a :: rest))) := by
  subst hn
  obtain ⟨T', h', X', e', W, st⟩ := Jvm.RoadKit.putFN X C.hx C.hZ C.hown w via eT F E (L.imp id fun z => ⟨z.1, z.2.1, C.hnm.trans z.2.2⟩) wi hty hnv hf (g := mkF m pc ls (v :: .ref a :: rest)) rfl rfl (hb C.hby hd)
  exact Go.of st (k T' h' X' e' W)
theorem Go.getS (C : Cx p s m meth c Z own bytes maxL ret nm) (X : Stand p l e R s m args below meth c T locs cells slots) {pc n : Nat} {ls : Array Slot} {rest : List Value} (eT : T.heap = h) {R0 O n0 d : String} {index : Nat} {v : Value} (w : (Cond.fieldLink own index R0 n0 d).before a0 Z = true) (via : Via Z R0 O n0 d) (F : Sta Z h O n0 d v) (hd : decode bytes pc = .ok (.getstatic index, 3)) (hn : pc + 3 = n) (k : ∀ T', Stand p l e R s m args below meth c T' locs cells slots → T'.heap = h → Go p e below K (T'.setTop (mkF m n ls (v :: rest)))) : Go p e below K (T.setTop (mkF m pc ls rest)) := by
  subst hn
  obtain ⟨T', X', e', st⟩ := Jvm.RoadKit.getS X C.hx C.hZ C.hown (host := "") w via eT F (g := mkF m pc ls rest) rfl (hb C.hby hd)
  exact Go.of st (k T' X' e')
theorem Go.newO (C : Cx p s m meth c Z own bytes maxL ret nm) (X : Stand p l e R s m args below meth c T locs cells slots) {pc n : Nat} {ls : Array Slot} {rest : List Value} (eT : T.heap = h) {C0 : String} {index n0 : Nat} (w : (Cond.classLink own index C0).before a0 Z = true) (wi : (Cond.instantiable C0 n0).before a0 Z = true) (wz : (Cond.initialized C0).before a0 Z = true) (hd : decode bytes pc = .ok (.new index, 3)) (hn : pc + 3 = n) (hc : cells + 1 ≤ R.cells) (hl : slots + n0 ≤ R.slots)
    (k : ∀ T' h' a, a = h.size → Stand p l e R s m args below meth c T' locs (cells + 1) (slots + n0) → T'.heap = h' → Ext h h' → Exa Z h' a C0 → (∀ {O nm d : String} {ty : FieldType}, Laid Z a0 C0 O nm d → parseFieldDescriptor d = some ty → Fld Z h' a O nm d (defaultValue ty)) → Go p e below K (T'.setTop (mkF m n ls (.ref a :: rest)))) : Go p e below K (T.setTop (mkF m pc ls rest)) := by
  subst hn
  obtain ⟨T', h', X', e', E', A', D', -, st⟩ := Jvm.RoadKit.newO X C.hx C.hZ C.hown w wi wz eT (g := mkF m pc ls rest) rfl (hb C.hby hd) hc hl
  exact Go.of st (k T' h' _ rfl X' e' E' A' D')
theorem Go.newP (C : Cx p s m meth c Z own bytes maxL ret nm) (X : Stand p l e R s m args below meth c T locs cells slots) {pc n : Nat} {ls : Array Slot} {rest : List Value} (eT : T.heap = h) {aty : ArrayType} (w : (Cond.arrayClass (newarray.typeOf aty)).before a0 Z = true) {z : Int32} (hd : decode bytes pc = .ok (.newarray aty, 2)) (hn : pc + 2 = n) (hz : ¬ z < 0) (cap : Nat) (hcap : z.toNatClampNeg ≤ cap) (hb8 : cap * 8 ≤ 536870912) (hc : cells + 1 ≤ R.cells) (hl : slots + cap ≤ R.slots)
    (k : ∀ T' h' a cA, a = h.size → Stand p l e R s m args below meth c T' locs (cells + 1) (slots + cap) → T'.heap = h' → Ext h h' → Arr Z h' a (newA cA (newarray.typeOf aty) z) (newarray.typeOf aty) → Go p e below K (T'.setTop (mkF m n ls (.ref a :: rest)))) : Go p e below K (T.setTop (mkF m pc ls (.int z :: rest))) := by
  subst hn
  obtain ⟨T', h', cA, X', e', E', A', st⟩ := Jvm.RoadKit.newP X C.hx C.hZ w eT (g := mkF m pc ls (.int z :: rest)) rfl (hb C.hby hd) rfl hz hcap hb8 hc hl
  exact Go.of st (k T' h' _ cA rfl X' e' E' A')
theorem Go.newR (C : Cx p s m meth c Z own bytes maxL ret nm) (X : Stand p l e R s m args below meth c T locs cells slots) {pc n : Nat} {ls : Array Slot} {rest : List Value} (eT : T.heap = h) {C0 : String} {index : Nat} (w1 : (Cond.classLink own index C0).before a0 Z = true) (w2 : (Cond.arrayOver (.object C0)).before a0 Z = true) {z : Int32} (hd : decode bytes pc = .ok (.anewarray index, 3)) (hn : pc + 3 = n) (hz : ¬ z < 0) (cap : Nat) (hcap : z.toNatClampNeg ≤ cap) (hb8 : cap * 8 ≤ 536870912) (hc : cells + 1 ≤ R.cells) (hl : slots + cap ≤ R.slots)
    (k : ∀ T' h' a cA, a = h.size → Stand p l e R s m args below meth c T' locs (cells + 1) (slots + cap) → T'.heap = h' → Ext h h' → Arr Z h' a (newA cA (.object C0) z) (.object C0) → Ovr Z cA C0 → Go p e below K (T'.setTop (mkF m n ls (.ref a :: rest)))) : Go p e below K (T.setTop (mkF m pc ls (.int z :: rest))) := by
  subst hn
  obtain ⟨T', h', cA, X', e', E', A', O', st⟩ := Jvm.RoadKit.newR X C.hx C.hZ C.hown w1 w2 eT (g := mkF m pc ls (.int z :: rest)) rfl (hb C.hby hd) rfl hz hcap hb8 hc hl
  exact Go.of st (k T' h' _ cA rfl X' e' E' A' O')
theorem Go.initO (C : Cx p s m meth c Z own bytes maxL ret nm) (X : Stand p l e R s m args below meth c T locs cells slots) {pc n : Nat} {ls : Array Slot} {rest : List Value} (eT : T.heap = h) {index : Nat} {a : Addr} (w1 : (Cond.methodLink own index Lib.objectInit).before a0 Z = true) (w2 : (Cond.instanceMethod Lib.objectInit).before a0 Z = true) (w3 : (Cond.code Lib.objectInit ⟨#[0xb1]⟩ 1 none).before a0 Z = true) (hd : decode bytes pc = .ok (.invokespecial index, 3)) (hn : pc + 3 = n) (hsz : ls.size = maxL) (hf : 1 ≤ R.frames) {W : Nat} (hW : (rest.map fun v => v.category).sum = W) (hl : W + 12 ≤ R.locals)
    (k : ∀ T', Stand p l e R s m args below meth c T' locs cells slots → T'.heap = h → Go p e below K (T'.setTop (mkF m n ls rest))) : Go p e below K (T.setTop (mkF m pc ls (.ref a :: rest))) := by
  subst hn
  obtain ⟨T', X', e', st⟩ := Jvm.RoadKit.initO X C.hx C.hZ C.hown w1 w2 w3 eT (g := mkF m pc ls (.ref a :: rest)) rfl (hsz.trans C.hml.symm) rfl (hb C.hby hd) hf (W := W) (by show 2 * 0 + _ ≤ _; omega) hl
  exact Go.of st (k T' X' e')
theorem Go.castY (C : Cx p s m meth c Z own bytes maxL ret nm) (X : Stand p l e R s m args below meth c T locs cells slots) {pc n : Nat} {ls : Array Slot} {rest : List Value} (eT : T.heap = h) {K0 : String} {index : Nat} {a : Addr} (w : (Cond.classLink own index K0).before a0 Z = true) (F : Ins Z h a K0 true) (hd : decode bytes pc = .ok (.checkcast index, 3)) (hn : pc + 3 = n) (k : ∀ T', Stand p l e R s m args below meth c T' locs cells slots → T'.heap = h → Go p e below K (T'.setTop (mkF m n ls (.ref a :: rest)))) : Go p e below K (T.setTop (mkF m pc ls (.ref a :: rest))) := by
  subst hn
  obtain ⟨T', X', e', st⟩ := Jvm.RoadKit.castY X C.hx C.hZ C.hown w eT F (g := mkF m pc ls (.ref a :: rest)) rfl rfl (hb C.hby hd)
  exact Go.of st (k T' X' e')
theorem Go.instY (C : Cx p s m meth c Z own bytes maxL ret nm) (X : Stand p l e R s m args below meth c T locs cells slots) {pc n : Nat} {ls : Array Slot} {rest : List Value} (eT : T.heap = h) {K0 : String} {index : Nat} {a : Addr} (w : (Cond.classLink own index K0).before a0 Z = true) (F : Ins Z h a K0 true) (hd : decode bytes pc = .ok (.instanceof index, 3)) (hn : pc + 3 = n) (k : ∀ T', Stand p l e R s m args below meth c T' locs cells slots → T'.heap = h → Go p e below K (T'.setTop (mkF m n ls (.int 1 :: rest)))) : Go p e below K (T.setTop (mkF m pc ls (.ref a :: rest))) := by
  subst hn
  obtain ⟨T', X', e', st⟩ := Jvm.RoadKit.instY X C.hx C.hZ C.hown w eT F (g := mkF m pc ls (.ref a :: rest)) rfl rfl (hb C.hby hd)
  exact Go.of st (k T' X' e')
theorem Go.newPE (C : Cx p s m meth c Z own bytes maxL ret nm) (X : Stand p l e R s m args below meth c T locs cells slots) {pc n : Nat} {ls : Array Slot} {rest : List Value} (eT : T.heap = h) {aty : ArrayType} (w : (Cond.arrayClass (newarray.typeOf aty)).before a0 Z = true) {z : Int32} (hd : decode bytes pc = .ok (.newarray aty, 2)) (hn : pc + 2 = n) (hz : ¬ z < 0) (cap : Nat) (hcap : z.toNatClampNeg ≤ cap) (hb8 : cap * 8 ≤ 536870912) (hc : cells + 1 ≤ R.cells) (hl : slots + cap ≤ R.slots) {ad : String} (had : "[" ++ (newarray.typeOf aty).toString = ad)
    (k : ∀ T' h' a cA, a = h.size → Stand p l e R s m args below meth c T' locs (cells + 1) (slots + cap) → T'.heap = h' → Ext h h' → Arr Z h' a (newA cA (newarray.typeOf aty) z) (newarray.typeOf aty) → Exa Z h' a ad → Go p e below K (T'.setTop (mkF m n ls (.ref a :: rest)))) : Go p e below K (T.setTop (mkF m pc ls (.int z :: rest))) := by
  subst hn
  obtain ⟨T', h', cA, X', e', E', A', x', st⟩ := Jvm.RoadKit.newPE X C.hx C.hZ w eT (g := mkF m pc ls (.int z :: rest)) rfl (hb C.hby hd) rfl hz hcap hb8 hc hl had
  exact Go.of st (k T' h' _ cA rfl X' e' E' A' x')
theorem Go.cloneA (C : Cx p s m meth c Z own bytes maxL ret nm) (X : Stand p l e R s m args below meth c T locs cells slots) {pc n : Nat} {ls : Array Slot} {rest : List Value} (eT : T.heap = h) {index : Nat} {a : Addr} {ad : String} {cl : Cell} {ty : FieldType} (w1 : (Cond.methodLink own index ⟨ad, "clone", "()Ljava/lang/Object;"⟩).before a0 Z = true) (w2 : (Cond.sameMethod ad "java/lang/Object" "clone" "()Ljava/lang/Object;").before a0 Z = true) (w3 : (Cond.native ⟨"java/lang/Object", "clone", "()Ljava/lang/Object;"⟩).before a0 Z = true) (w4 : (Cond.instanceMethod ⟨"java/lang/Object", "clone", "()Ljava/lang/Object;"⟩).before a0 Z = true) (w5 : (Cond.selects ad ⟨ad, "clone", "()Ljava/lang/Object;"⟩ ⟨"java/lang/Object", "clone", "()Ljava/lang/Object;"⟩).before a0 Z = true) (w6 : (Cond.castable ad "java/lang/Cloneable").before a0 Z = true)
    (A : Arr Z h a cl ty) (E : Exa Z h a ad) (F : FitC Z cl) (hd : decode bytes pc = .ok (.invokevirtual index, 3)) (hn : pc + 3 = n) (hsz : ls.size = maxL) (hf : 1 ≤ R.frames) {W : Nat} (hW : (rest.map fun v => v.category).sum = W) (hl : W + 14 ≤ R.locals) (cap : Nat) (hcap : cl.slots.size ≤ cap) (hc : cells + 1 ≤ R.cells) (hsl : slots + cap ≤ R.slots)
    (k : ∀ T' h' b, b = h.size → Stand p l e R s m args below meth c T' locs (cells + 1) (slots + cap) → T'.heap = h' → Ext h h' → Arr Z h' b (cloneOf cl) ty → Exa Z h' b ad → Go p e below K (T'.setTop (mkF m n ls (.ref b :: rest)))) : Go p e below K (T.setTop (mkF m pc ls (.ref a :: rest))) := by
  subst hn
  obtain ⟨T', h', X', e', E', A', x', st⟩ := Jvm.RoadKit.cloneA X C.hx C.hZ C.hown w1 w2 w3 w4 w5 w6 eT A E F (g := mkF m pc ls (.ref a :: rest)) rfl (hsz.trans C.hml.symm) rfl (hb C.hby hd) hf (W := W) (by show 2 * 0 + _ ≤ _; omega) hl hcap hc hsl
  exact Go.of st (k T' h' _ rfl X' e' E' A' x')
theorem Go.stat (C : Cx p s m meth c Z own bytes maxL ret nm) (X : Stand p l e R s m args below meth c T locs cells slots) {pc n : Nat} {ls : Array Slot} {rest : List Value} (eT : T.heap = h) {index yL W : Nat} {ybytes : ByteArray} {yret : Option FieldType} {rm : Room} {Q : Option Value → Heap → List Loc → Prop} {argsL : List Value} {st : List Value} {y : MethodName} (hC : Ctr l Z y ybytes yL yret rm argsL.toArray h Q) (wl : (Cond.methodLink own index y).before a0 Z = true) (ws : (Cond.static y).before a0 Z = true) (wi : (Cond.initialized y.cls).before a0 Z = true) (wc : (Cond.code y ybytes yL yret).before a0 Z = true) (hy : y.cls ≠ "java/lang/invoke/MethodHandle" ∧ y.cls ≠ "java/lang/invoke/VarHandle")
    (hlen : ∀ sig, parseMethodDescriptor y.desc = some sig → argsL.length = sig.parameters.length) (hst : st = argsL.reverse ++ rest) (hd : decode bytes pc = .ok (.invokestatic index, 3)) (hn : pc + 3 = n) (hsz : ls.size = maxL) (hf : rm.frames + 1 ≤ R.frames) (hW : (rest.map fun v => v.category).sum = W) (hl : W + (yL + 11) + rm.locals ≤ R.locals) (hcl : cells + rm.cells ≤ R.cells) (hsl : slots + rm.slots ≤ R.slots) 
    (k : ∀ T' h' v L, Stand p l e R s m args below meth c T' (locs ++ L) (cells + rm.cells) (slots + rm.slots) → T'.heap = h' → Q v h' L → Go p e below K (T'.setTop (mkF m n ls (v.toList ++ rest)))) : Go p e below K (T.setTop (mkF m pc ls st)) := by
  subst hn hst
  obtain ⟨v, _, ⟨T', L', k', n'⟩, -, X', ⟨L1, hQ, l1, y1, z1⟩, stp⟩ := Jvm.LawKit.callS X C.hx (y := y) C.hown (mvT C.hZ wl) (mvT C.hZ ws) (mvT C.hZ wi) (mvT C.hZ wc) hy (backOf (W := W) (hC []) C.hZ wc wi hf hl) (g := mkF m pc ls (argsL.reverse ++ rest)) rfl (hsz.trans C.hml.symm) (argsL := argsL) (rest := rest) hlen rfl (by show 2 * 0 + _ ≤ _; omega) (hb C.hby hd) (fun _ _ => ⟨rfl, eT, hcl, hsl⟩)
  dsimp only [Pt.U, Pt.locs, Pt.cells, Pt.slots] at X' l1 y1 z1 stp hQ
  subst l1 y1 z1
  exact Go.of stp (k T' T'.heap v L1 X' rfl hQ)
theorem Go.spec (C : Cx p s m meth c Z own bytes maxL ret nm) (X : Stand p l e R s m args below meth c T locs cells slots) {pc n : Nat} {ls : Array Slot} {rest : List Value} (eT : T.heap = h) {index yL W : Nat} {ybytes : ByteArray} {rm : Room} {Q : Option Value → Heap → List Loc → Prop} {argsL : List Value} {st : List Value} {y : MethodName} {a : Addr} (hC : Ctr l Z y ybytes yL none rm (.ref a :: argsL).toArray h Q) (hy1 : y.name = "<init>") (wl : (Cond.methodLink own index y).before a0 Z = true) (wm : (Cond.instanceMethod y).before a0 Z = true) (wi : (Cond.initialized y.cls).before a0 Z = true) (wc : (Cond.code y ybytes yL none).before a0 Z = true) (hy : y.cls ≠ "java/lang/invoke/MethodHandle" ∧ y.cls ≠ "java/lang/invoke/VarHandle")
    (hlen : ∀ sig, parseMethodDescriptor y.desc = some sig → argsL.length = sig.parameters.length) (hst : st = argsL.reverse ++ .ref a :: rest) (hd : decode bytes pc = .ok (.invokespecial index, 3)) (hn : pc + 3 = n) (hsz : ls.size = maxL) (hf : rm.frames + 1 ≤ R.frames) (hW : (rest.map fun v => v.category).sum = W) (hl : W + (yL + 11) + rm.locals ≤ R.locals) (hcl : cells + rm.cells ≤ R.cells) (hsl : slots + rm.slots ≤ R.slots) 
    (k : ∀ T' h' v L, Stand p l e R s m args below meth c T' (locs ++ L) (cells + rm.cells) (slots + rm.slots) → T'.heap = h' → Q v h' L → Go p e below K (T'.setTop (mkF m n ls (v.toList ++ rest)))) : Go p e below K (T.setTop (mkF m pc ls st)) := by
  subst hn hst
  obtain ⟨v, _, ⟨T', L', k', n'⟩, -, X', ⟨L1, hQ, l1, y1, z1⟩, stp⟩ := X.specialBack C.hx (y := y) hy1 C.hown (mvT C.hZ wl) (mvT C.hZ wm) (mvT C.hZ wc) hy (backOf (W := W) (hC []) C.hZ wc wi hf hl) (g := mkF m pc ls (argsL.reverse ++ .ref a :: rest)) rfl (hsz.trans C.hml.symm) (Steps.refl _) (a := a) (argsL := argsL) (rest := rest) hlen rfl (by show 2 * 0 + _ ≤ _; omega) (hb C.hby hd) (fun _ _ => ⟨rfl, eT, hcl, hsl⟩)
  dsimp only [Pt.U, Pt.locs, Pt.cells, Pt.slots] at X' l1 y1 z1 stp hQ
  subst l1 y1 z1
  exact Go.of (fun t q => stp.trans q) (k T' T'.heap v L1 X' rfl hQ)
theorem Go.virt (C : Cx p s m meth c Z own bytes maxL ret nm) (X : Stand p l e R s m args below meth c T locs cells slots) {pc n : Nat} {ls : Array Slot} {rest : List Value} (eT : T.heap = h) {index yL W : Nat} {ybytes : ByteArray} {yret : Option FieldType} {rm : Room} {Q : Option Value → Heap → List Loc → Prop} {argsL : List Value} {st : List Value} {y z : MethodName} {a : Addr} {C0 : String} (hC : Ctr l Z z ybytes yL yret rm (.ref a :: argsL).toArray h Q) (wl : (Cond.methodLink own index y).before a0 Z = true) (wd : (Cond.declares y).before a0 Z = true) (nf : NotFace s y) (wsel : (Cond.selects C0 y z).before a0 Z = true) (wm : (Cond.instanceMethod z).before a0 Z = true) (wi : (Cond.initialized z.cls).before a0 Z = true) (wc : (Cond.code z ybytes yL yret).before a0 Z = true) (hy : y.cls ≠ "java/lang/invoke/MethodHandle" ∧ y.cls ≠ "java/lang/invoke/VarHandle") (E : Exa Z h a C0)
    (hlen : ∀ sig, parseMethodDescriptor y.desc = some sig → argsL.length = sig.parameters.length) (hst : st = argsL.reverse ++ .ref a :: rest) (hd : decode bytes pc = .ok (.invokevirtual index, 3)) (hn : pc + 3 = n) (hsz : ls.size = maxL) (hf : rm.frames + 1 ≤ R.frames) (hW : (rest.map fun v => v.category).sum = W) (hl : W + (yL + 11) + rm.locals ≤ R.locals) (hcl : cells + rm.cells ≤ R.cells) (hsl : slots + rm.slots ≤ R.slots) 
    (k : ∀ T' h' v L, Stand p l e R s m args below meth c T' (locs ++ L) (cells + rm.cells) (slots + rm.slots) → T'.heap = h' → Q v h' L → Go p e below K (T'.setTop (mkF m n ls (v.toList ++ rest)))) : Go p e below K (T.setTop (mkF m pc ls st)) := by
  subst hn hst
  obtain ⟨cq, kq, q1, q2, q3⟩ := isOf C.hZ eT E
  obtain ⟨v, _, ⟨T', L', k', n'⟩, -, X', ⟨L1, hQ, l1, y1, z1⟩, stp⟩ := X.virtualBack C.hx (y := y) (z := z) C.hown (mvT C.hZ wl) (mvT C.hZ wd) nf (mvT C.hZ wsel) (mvT C.hZ wm) hy (backOf (W := W) (hC []) C.hZ wc wi hf hl) q1 q3 (g := mkF m pc ls (argsL.reverse ++ .ref a :: rest)) rfl (hsz.trans C.hml.symm) (Steps.refl _) (argsL := argsL) (rest := rest) hlen rfl (by show 2 * 0 + _ ≤ _; omega) (hb C.hby hd) (fun _ _ => ⟨rfl, eT, hcl, hsl⟩)
  dsimp only [Pt.U, Pt.locs, Pt.cells, Pt.slots] at X' l1 y1 z1 stp hQ
  subst l1 y1 z1
  exact Go.of (fun t q => stp.trans q) (k T' T'.heap v L1 X' rfl hQ)
theorem Go.priv (C : Cx p s m meth c Z own bytes maxL ret nm) (X : Stand p l e R s m args below meth c T locs cells slots) {pc n : Nat} {ls : Array Slot} {rest : List Value} (eT : T.heap = h) {index yL W : Nat} {ybytes : ByteArray} {yret : Option FieldType} {rm : Room} {Q : Option Value → Heap → List Loc → Prop} {argsL : List Value} {st : List Value} {y : MethodName} {a : Addr} {C0 : String} (hC : Ctr l Z y ybytes yL yret rm (.ref a :: argsL).toArray h Q) (wl : (Cond.methodLink own index y).before a0 Z = true) (wm : (Cond.instanceMethod y).before a0 Z = true) {kk : Nat} (wk : (Cond.instantiable y.cls kk).before a0 Z = true) (wp : (Cond.privateMethod y).before a0 Z = true) (wi : (Cond.initialized y.cls).before a0 Z = true) (wc : (Cond.code y ybytes yL yret).before a0 Z = true) (hy : y.cls ≠ "java/lang/invoke/MethodHandle" ∧ y.cls ≠ "java/lang/invoke/VarHandle") (E : Exa Z h a C0)
    (hlen : ∀ sig, parseMethodDescriptor y.desc = some sig → argsL.length = sig.parameters.length) (hst : st = argsL.reverse ++ .ref a :: rest) (hd : decode bytes pc = .ok (.invokevirtual index, 3)) (hn : pc + 3 = n) (hsz : ls.size = maxL) (hf : rm.frames + 1 ≤ R.frames) (hW : (rest.map fun v => v.category).sum = W) (hl : W + (yL + 11) + rm.locals ≤ R.locals) (hcl : cells + rm.cells ≤ R.cells) (hsl : slots + rm.slots ≤ R.slots) 
    (k : ∀ T' h' v L, Stand p l e R s m args below meth c T' (locs ++ L) (cells + rm.cells) (slots + rm.slots) → T'.heap = h' → Q v h' L → Go p e below K (T'.setTop (mkF m n ls (v.toList ++ rest)))) : Go p e below K (T.setTop (mkF m pc ls st)) := by
  subst hn hst
  obtain ⟨cq, q, q'⟩ := E.cell
  obtain ⟨c0, k0, i1, i2, -, i4, -⟩ := Cond.instantiable_spec (mvT C.hZ wk (args := args) : (Cond.instantiable y.cls kk).before args s = true)
  have hni : k0.isInterface = false := by cases hq : k0.isInterface <;> simp [hq] at i4 ⊢
  have hsel := selects_self_of_private (args := args) i1 i2 hni (Cond.privateMethod_at (mvP C.hZ wp (args := #[]))) (mvT C.hZ wm) hy
  obtain ⟨v, _, ⟨T', L', k', n'⟩, -, X', ⟨L1, hQ, l1, y1, z1⟩, stp⟩ := X.privateBack C.hx (y := y) C.hown (mvT C.hZ wl) (mvT C.hZ wm) hsel (Cond.privateMethod_at (mvP C.hZ wp (args := #[]))) (mvT C.hZ wc) hy (backOf (W := W) (hC []) C.hZ wc wi hf hl) (g := mkF m pc ls (argsL.reverse ++ .ref a :: rest)) rfl (hsz.trans C.hml.symm) (Steps.refl _) (a := a) (by rw [eT]; exact q) q' (argsL := argsL) (rest := rest) hlen rfl (by show 2 * 0 + _ ≤ _; omega) (hb C.hby hd) (fun _ _ => ⟨rfl, eT, hcl, hsl⟩)
  dsimp only [Pt.U, Pt.locs, Pt.cells, Pt.slots] at X' l1 y1 z1 stp hQ
  subst l1 y1 z1
  exact Go.of (fun t q => stp.trans q) (k T' T'.heap v L1 X' rfl hQ)
theorem Go.face (C : Cx p s m meth c Z own bytes maxL ret nm) (X : Stand p l e R s m args below meth c T locs cells slots) {pc n : Nat} {ls : Array Slot} {rest : List Value} (eT : T.heap = h) {index yL W : Nat} {ybytes : ByteArray} {yret : Option FieldType} {rm : Room} {Q : Option Value → Heap → List Loc → Prop} {argsL : List Value} {st : List Value} {count : Nat} {xi y : MethodName} {a : Addr} {C0 : String} (hC : Ctr l Z y ybytes yL yret rm (.ref a :: argsL).toArray h Q) (wl : (Cond.methodLink own index xi).before a0 Z = true) (wd : (Cond.declares xi).before a0 Z = true) (wf : (Cond.interfaceMethod xi.cls xi.cls xi.name xi.desc).before a0 Z = true) (wsel : (Cond.selects C0 xi y).before a0 Z = true) (wm : (Cond.instanceMethod y).before a0 Z = true) (wp : (Cond.publicMethod y).before a0 Z = true) (wu : (Cond.unhidden C0 xi.name xi.desc).before a0 Z = true) (wca : (Cond.castable C0 xi.cls).before a0 Z = true) (wi : (Cond.initialized y.cls).before a0 Z = true) (wc : (Cond.code y ybytes yL yret).before a0 Z = true) (hy : xi.cls ≠ "java/lang/invoke/MethodHandle" ∧ xi.cls ≠ "java/lang/invoke/VarHandle") (E : Exa Z h a C0)
    (hlen : ∀ sig, parseMethodDescriptor xi.desc = some sig → argsL.length = sig.parameters.length) (hst : st = argsL.reverse ++ .ref a :: rest) (hd : decode bytes pc = .ok (.invokeinterface index count, 5)) (hn : pc + 5 = n) (hsz : ls.size = maxL) (hf : rm.frames + 1 ≤ R.frames) (hW : (rest.map fun v => v.category).sum = W) (hl : W + (yL + 11) + rm.locals ≤ R.locals) (hcl : cells + rm.cells ≤ R.cells) (hsl : slots + rm.slots ≤ R.slots) 
    (k : ∀ T' h' v L, Stand p l e R s m args below meth c T' (locs ++ L) (cells + rm.cells) (slots + rm.slots) → T'.heap = h' → Q v h' L → Go p e below K (T'.setTop (mkF m n ls (v.toList ++ rest)))) : Go p e below K (T.setTop (mkF m pc ls st)) := by
  subst hn hst
  obtain ⟨cq, kq, q1, q2, q3⟩ := isOf C.hZ eT E
  obtain ⟨v, _, ⟨T', L', k', n'⟩, -, X', ⟨L1, hQ, l1, y1, z1⟩, stp⟩ := X.interfaceBack C.hx (xi := xi) (y := y) C.hown (mvT C.hZ wl) (mvT C.hZ wd) (mvT C.hZ wf (by simp [Cond.onTables, Cond.keepsFace, Cond.keeps, Cond.faceAtom, Cond.steady, hy.1, hy.2])) (mvT C.hZ wsel) (mvT C.hZ wm) (mvT C.hZ wp) (mvT C.hZ wu) (mvT C.hZ wca) hy (backOf (W := W) (hC []) C.hZ wc wi hf hl) q1 q2 q3 (g := mkF m pc ls (argsL.reverse ++ .ref a :: rest)) rfl (hsz.trans C.hml.symm) (Steps.refl _) (argsL := argsL) (rest := rest) hlen rfl (by show 2 * 0 + _ ≤ _; omega) (hb C.hby hd) (fun _ _ => ⟨rfl, eT, hcl, hsl⟩)
  dsimp only [Pt.U, Pt.locs, Pt.cells, Pt.slots] at X' l1 y1 z1 stp hQ
  subst l1 y1 z1
  exact Go.of (fun t q => stp.trans q) (k T' T'.heap v L1 X' rfl hQ)
end OwnA
end Jvm.RoadKit
namespace Jvm.RoadKit
open Sem ClassFile Op Lib Jvm.Stand Jvm.Free Jvm.LawKit
section OwnB
variable {p : Program} {l : Launch} {e : Env} {R : Room} {s : State} {m : MethodId} {args : Array Value} {below : List Frame} {meth : Method} {c : Code} {T : State} {locs : List Loc} {cells slots : Nat} {Z : State} {a0 : Array Value} {h h' : Heap} {a b : Addr} {sl : Nat} {v : Value} {ty : FieldType} {vs : List Value} {ws : List Addr}
variable {own nm : String} {bytes : ByteArray} {maxL : Nat} {ret : Option FieldType} {K : Outcome → State → Prop}
theorem wd {tab : List Jvm.Cond} {a0 : Array Value} {Z : State} (hw : ∀ d ∈ tab, d.before a0 Z = true) (k : Nat) {d : Jvm.Cond} (q : tab[k]? = some d) : d.before a0 Z = true := hw d (List.mem_of_getElem? q)
theorem Old.le {n0 : Nat} (O : Old Z n0 h) : n0 ≤ h.size := O.1 ▸ O.2.1
theorem Fr.one {k i : Nat} (q : k ≤ a) : Fr k [⟨a, i⟩] := fun y hy => by cases List.mem_singleton.mp hy; exact q
theorem Go.weaken {Q Q' : Option Value → Heap → List Loc → Prop} {k n : Nat} (q : ∀ v h L, Q v h L → Q' v h L) (g : Go p e below (EndQ s Q k n) T) : Go p e below (EndQ s Q' k n) T := by
  obtain ⟨t, o, h1, h2, h3, v, L, h4, h5, h6⟩ := g
  exact ⟨t, o, h1, h2, h3, v, L, h4, q _ _ _ h5, h6⟩
/-- an array and its components -/
def Arl (Z : State) (h : Heap) (a : Addr) (ty : FieldType) (vs : List Value) : Prop := ∃ c : Cell, Arr Z h a c ty ∧ c.slots.toList = vs ∧ vs.length < 2 ^ 31
theorem Arl.lt (F : Arl Z h a ty vs) : a < h.size := by obtain ⟨c, A, -⟩ := F; exact A.lt
theorem Arl.ext (F : Arl Z h a ty vs) (E : Ext h h') : Arl Z h' a ty vs := by obtain ⟨c, A, r⟩ := F; exact ⟨c, A.ext E, r⟩
theorem Arl.other (F : Arl Z h b ty vs) (W : Wr h h' a sl v) (q : b ≠ a) : Arl Z h' b ty vs := by obtain ⟨c, A, r⟩ := F; exact ⟨c, A.other W q, r⟩
theorem Arl.keep (F : Arl Z h a ty vs) (K : Keep h h' ws) (q : a ∉ ws) : Arl Z h' a ty vs := by obtain ⟨c, A, r⟩ := F; exact ⟨c, ⟨K.2.1 a c A.1 q, A.2⟩, r⟩
theorem Arl.set (F : Arl Z h a ty vs) (W : Wr h h' a sl v) : Arl Z h' a ty (vs.set sl v) := by
  obtain ⟨c, A, e1, r⟩ := F
  exact ⟨c.setSlot sl v, A.same W, by simp [Cell.setSlot, e1], by simpa using r⟩
theorem Arl.new {k : ClassId} {z : Int32} {n : Nat} (A : Arr Z h a (newA k ty z) ty) (hz : z.toInt = n) : Arl Z h a ty (List.replicate n (defaultValue ty)) := by
  have h1 : z.toNatClampNeg = n := by simp only [Int32.toNatClampNeg]; omega
  have h2 := Int32.toInt_lt z
  exact ⟨_, A, by simp [newA, h1], by simp; omega⟩
theorem nat_idx {j : Int32} {i : Nat} (hj : j.toInt = i) : j.toNatClampNeg = i ∧ ¬ j < 0 := by
  refine ⟨by simp only [Int32.toNatClampNeg]; omega, fun q => ?_⟩
  rw [Int32.lt_iff_toInt_lt] at q
  simp at q; omega
theorem Arl.at (F : Arl Z h a ty vs) {j : Int32} {i : Nat} (hj : j.toInt = i) (hv : vs[i]? = some v) : ∃ c : Cell, Arr Z h a c ty ∧ ¬ (j < 0 ∨ c.slots.size ≤ j.toNatClampNeg) ∧ c.slots[j.toNatClampNeg]? = some v := by
  obtain ⟨c, A, e1, r⟩ := F
  obtain ⟨q1, q2⟩ := nat_idx hj
  subst e1
  rw [Array.getElem?_toList] at hv
  obtain ⟨hlt, -⟩ := Array.getElem?_eq_some_iff.mp hv
  exact ⟨c, A, fun q => q.elim q2 (fun q => by omega), by rw [q1]; exact hv⟩
theorem Arl.in (F : Arl Z h a ty vs) {j : Int32} {i : Nat} (hj : j.toInt = i) (hi : i < vs.length) : ∃ c : Cell, Arr Z h a c ty ∧ ¬ (j < 0 ∨ c.slots.size ≤ j.toNatClampNeg) ∧ j.toNatClampNeg = i := by
  obtain ⟨c, A, e1, r⟩ := F
  obtain ⟨q1, q2⟩ := nat_idx hj
  subst e1
  rw [Array.length_toList] at hi
  exact ⟨c, A, fun q => q.elim q2 (fun q => by omega), q1⟩
section Cxs
variable (C : Cx p s m meth c Z own bytes maxL ret nm) (X : Stand p l e R s m args below meth c T locs cells slots) {pc n : Nat} {ls : Array Slot} {rest : List Value} (eT : T.heap = h) {j : Int32}
theorem Go.ialoadL (C : Cx p s m meth c Z own bytes maxL ret nm) (X : Stand p l e R s m args below meth c T locs cells slots) (eT : T.heap = h) (F : Arl Z h a .int vs) (i : Nat) (hj : j.toInt = i) (hv : vs[i]? = some v) (hd : decode bytes pc = .ok (.iaload, 1)) (hn : pc + 1 = n) (k : Go p e below K (T.setTop (mkF m n ls (v :: rest)))) : Go p e below K (T.setTop (mkF m pc ls (.int j :: .ref a :: rest))) := by
  obtain ⟨cl, A, q1, q2⟩ := F.at hj hv
  exact Go.iaload C X eT A q1 q2 hd hn k
theorem Go.caloadL (C : Cx p s m meth c Z own bytes maxL ret nm) (X : Stand p l e R s m args below meth c T locs cells slots) (eT : T.heap = h) (F : Arl Z h a .char vs) (i : Nat) (hj : j.toInt = i) (hv : vs[i]? = some v) (hd : decode bytes pc = .ok (.caload, 1)) (hn : pc + 1 = n) (k : Go p e below K (T.setTop (mkF m n ls (v :: rest)))) : Go p e below K (T.setTop (mkF m pc ls (.int j :: .ref a :: rest))) := by
  obtain ⟨cl, A, q1, q2⟩ := F.at hj hv
  exact Go.caload C X eT A q1 q2 hd hn k
theorem Go.aaloadL (C : Cx p s m meth c Z own bytes maxL ret nm) (X : Stand p l e R s m args below meth c T locs cells slots) (eT : T.heap = h) (hty : ty.isReference = true) (F : Arl Z h a ty vs) (i : Nat) (hj : j.toInt = i) (hv : vs[i]? = some v) (hd : decode bytes pc = .ok (.aaload, 1)) (hn : pc + 1 = n) (k : Go p e below K (T.setTop (mkF m n ls (v :: rest)))) : Go p e below K (T.setTop (mkF m pc ls (.int j :: .ref a :: rest))) := by
  obtain ⟨cl, A, q1, q2⟩ := F.at hj hv
  exact Go.aaload C X eT hty A q1 q2 hd hn k
theorem Go.lengthL (C : Cx p s m meth c Z own bytes maxL ret nm) (X : Stand p l e R s m args below meth c T locs cells slots) (eT : T.heap = h) (F : Arl Z h a ty vs) {z : Int32} (hz : z.toInt = vs.length) (hd : decode bytes pc = .ok (.arraylength, 1)) (hn : pc + 1 = n) (k : Go p e below K (T.setTop (mkF m n ls (.int z :: rest)))) : Go p e below K (T.setTop (mkF m pc ls (.ref a :: rest))) := by
  obtain ⟨cl, A, q1, q2⟩ := F
  refine Go.arraylength C X eT A ?_ hd hn k
  subst q1
  rw [Array.length_toList] at q2 hz
  exact Int32.toInt_inj.mp (by rw [len_toInt q2, hz])
theorem Go.iastoreL (C : Cx p s m meth c Z own bytes maxL ret nm) (X : Stand p l e R s m args below meth c T locs cells slots) (eT : T.heap = h) {x : Int32} (F : Arl Z h a .int vs) (i : Nat) (hj : j.toInt = i) (hi : i < vs.length) (hd : decode bytes pc = .ok (.iastore, 1)) (hn : pc + 1 = n)
    (k : ∀ T' h', Stand p l e R s m args below meth c T' (locs ++ [⟨a, i⟩]) cells slots → T'.heap = h' → Wr h h' a i (.int x) → Arl Z h' a .int (vs.set i (.int x)) → Go p e below K (T'.setTop (mkF m n ls rest))) : Go p e below K (T.setTop (mkF m pc ls (.int x :: .int j :: .ref a :: rest))) := by
  obtain ⟨cl, A, q1, q2⟩ := F.in hj hi
  refine Go.iastore C X eT A q1 hd hn fun T' h' X' e' W => ?_
  rw [q2] at X' W
  exact k T' h' X' e' W (F.set W)
theorem Go.castoreL (C : Cx p s m meth c Z own bytes maxL ret nm) (X : Stand p l e R s m args below meth c T locs cells slots) (eT : T.heap = h) {x : Int32} (F : Arl Z h a .char vs) (i : Nat) (hj : j.toInt = i) (hi : i < vs.length) (hd : decode bytes pc = .ok (.castore, 1)) (hn : pc + 1 = n)
    (k : ∀ T' h', Stand p l e R s m args below meth c T' (locs ++ [⟨a, i⟩]) cells slots → T'.heap = h' → Wr h h' a i (.int (nar .char x)) → Arl Z h' a .char (vs.set i (.int (nar .char x))) → Go p e below K (T'.setTop (mkF m n ls rest))) : Go p e below K (T.setTop (mkF m pc ls (.int x :: .int j :: .ref a :: rest))) := by
  obtain ⟨cl, A, q1, q2⟩ := F.in hj hi
  refine Go.castore C X eT A q1 hd hn fun T' h' X' e' W => ?_
  rw [q2] at X' W
  exact k T' h' X' e' W (F.set W)
theorem Go.bastoreL (C : Cx p s m meth c Z own bytes maxL ret nm) (X : Stand p l e R s m args below meth c T locs cells slots) (eT : T.heap = h) {x : Int32} (F : Arl Z h a .byte vs) (i : Nat) (hj : j.toInt = i) (hi : i < vs.length) (hd : decode bytes pc = .ok (.bastore, 1)) (hn : pc + 1 = n)
    (k : ∀ T' h', Stand p l e R s m args below meth c T' (locs ++ [⟨a, i⟩]) cells slots → T'.heap = h' → Wr h h' a i (.int (nar .byte x)) → Arl Z h' a .byte (vs.set i (.int (nar .byte x))) → Go p e below K (T'.setTop (mkF m n ls rest))) : Go p e below K (T.setTop (mkF m pc ls (.int x :: .int j :: .ref a :: rest))) := by
  obtain ⟨cl, A, q1, q2⟩ := F.in hj hi
  refine Go.bastoreB C X eT A q1 hd hn fun T' h' X' e' W => ?_
  rw [q2] at X' W
  exact k T' h' X' e' W (F.set W)
theorem Go.newL (C : Cx p s m meth c Z own bytes maxL ret nm) (X : Stand p l e R s m args below meth c T locs cells slots) (eT : T.heap = h) {aty : ArrayType} (w : (Cond.arrayClass (newarray.typeOf aty)).before a0 Z = true) {z : Int32} (i : Nat) (hz : z.toInt = i) (cap : Nat) (hcap : i ≤ cap) (hd : decode bytes pc = .ok (.newarray aty, 2)) (hn : pc + 2 = n) (hb8 : cap * 8 ≤ 536870912) (hc : cells + 1 ≤ R.cells) (hl : slots + cap ≤ R.slots)
    (k : ∀ T' h' a, a = h.size → Stand p l e R s m args below meth c T' locs (cells + 1) (slots + cap) → T'.heap = h' → Ext h h' → Arl Z h' a (newarray.typeOf aty) (List.replicate i (defaultValue (newarray.typeOf aty))) → Go p e below K (T'.setTop (mkF m n ls (.ref a :: rest)))) : Go p e below K (T.setTop (mkF m pc ls (.int z :: rest))) := by
  obtain ⟨q1, q2⟩ := nat_idx hz
  exact Go.newP C X eT w hd hn q2 cap (by rw [q1]; exact hcap) hb8 hc hl fun T' h' a' cA e1 X' e' E A => k T' h' a' e1 X' e' E (Arl.new A hz)
theorem Go.newLE (C : Cx p s m meth c Z own bytes maxL ret nm) (X : Stand p l e R s m args below meth c T locs cells slots) (eT : T.heap = h) {aty : ArrayType} (w : (Cond.arrayClass (newarray.typeOf aty)).before a0 Z = true) {z : Int32} (i : Nat) (hz : z.toInt = i) (cap : Nat) (hcap : i ≤ cap) (hd : decode bytes pc = .ok (.newarray aty, 2)) (hn : pc + 2 = n) (hb8 : cap * 8 ≤ 536870912) (hc : cells + 1 ≤ R.cells) (hl : slots + cap ≤ R.slots) {ad : String} (had : "[" ++ (newarray.typeOf aty).toString = ad)
    (k : ∀ T' h' a, a = h.size → Stand p l e R s m args below meth c T' locs (cells + 1) (slots + cap) → T'.heap = h' → Ext h h' → Arl Z h' a (newarray.typeOf aty) (List.replicate i (defaultValue (newarray.typeOf aty))) → Exa Z h' a ad → Go p e below K (T'.setTop (mkF m n ls (.ref a :: rest)))) : Go p e below K (T.setTop (mkF m pc ls (.int z :: rest))) := by
  obtain ⟨q1, q2⟩ := nat_idx hz
  exact Go.newPE C X eT w hd hn q2 cap (by rw [q1]; exact hcap) hb8 hc hl had fun T' h' a' cA e1 X' e' E A x' => k T' h' a' e1 X' e' E (Arl.new A hz) x'
theorem Go.cloneL (C : Cx p s m meth c Z own bytes maxL ret nm) (X : Stand p l e R s m args below meth c T locs cells slots) (eT : T.heap = h) {index : Nat} {ad : String} (w1 : (Cond.methodLink own index ⟨ad, "clone", "()Ljava/lang/Object;"⟩).before a0 Z = true) (w2 : (Cond.sameMethod ad "java/lang/Object" "clone" "()Ljava/lang/Object;").before a0 Z = true) (w3 : (Cond.native ⟨"java/lang/Object", "clone", "()Ljava/lang/Object;"⟩).before a0 Z = true) (w4 : (Cond.instanceMethod ⟨"java/lang/Object", "clone", "()Ljava/lang/Object;"⟩).before a0 Z = true) (w5 : (Cond.selects ad ⟨ad, "clone", "()Ljava/lang/Object;"⟩ ⟨"java/lang/Object", "clone", "()Ljava/lang/Object;"⟩).before a0 Z = true) (w6 : (Cond.castable ad "java/lang/Cloneable").before a0 Z = true)
    (F : Arl Z h a ty vs) (E : Exa Z h a ad) (hfit : ∀ v ∈ vs, fits ty v = true) (hd : decode bytes pc = .ok (.invokevirtual index, 3)) (hn : pc + 3 = n) (hsz : ls.size = maxL) (hf : 1 ≤ R.frames) {W : Nat} (hW : (rest.map fun v => v.category).sum = W) (hl : W + 14 ≤ R.locals) (cap : Nat) (hcap : vs.length ≤ cap) (hc : cells + 1 ≤ R.cells) (hsl : slots + cap ≤ R.slots)
    (k : ∀ T' h' b, b = h.size → Stand p l e R s m args below meth c T' locs (cells + 1) (slots + cap) → T'.heap = h' → Ext h h' → Arl Z h' b ty vs → Exa Z h' b ad → Go p e below K (T'.setTop (mkF m n ls (.ref b :: rest)))) : Go p e below K (T.setTop (mkF m pc ls (.ref a :: rest))) := by
  obtain ⟨cl, A, q1, q2⟩ := F
  have FC : FitC Z cl := fitC_of A fun i hi v hv => hfit v (by rw [← q1]; exact Array.mem_toList_iff.mpr (Array.mem_of_getElem? hv))
  exact Go.cloneA C X eT w1 w2 w3 w4 w5 w6 A E FC hd hn hsz hf hW hl cap (by rw [← Array.length_toList, q1]; exact hcap) hc hsl fun T' h' b e1 X' e' E' A' x' => k T' h' b e1 X' e' E' ⟨_, A', q1, q2⟩ x'
end Cxs
/-! from the words of a case -/
theorem fldI {args : Array Value} {t : Term} {C f d : String} {k : Int32} (ev : t.eval args s none [] s = some (.ref a)) (q : (Cond.eq (.field t C f d) (.int k)).value args s none s [] = some true) : Fld s s.heap a C f d (.int k) := by
  obtain ⟨x, y, e1, e2, k1, k2⟩ := cmp_v (Or.inl q)
  cases e2
  obtain ⟨z, rfl⟩ := k2
  have e3 : (Term.int k).eval args s none [] s = some (.int k) := rfl
  have q2 : (Cond.eq (.field t C f d) (.int k)).value args s none s [] = some (decide (z = k)) := by simp [Cond.value, e1, e3]
  have q3 := gotT q2 q
  subst q3
  rw [fld_at ev] at e1
  exact Fld.start e1
theorem staE {args : Array Value} {C n d K : String} (q : (Cond.exactly (.static C n d) K).value args s none s [] = some true) (w1 : (Cond.initialized C).before args s = true) (w2 : (Cond.laysStatic C n d).before args s = true) : ∃ a, (Term.static C n d).eval args s none [] s = some (.ref a) ∧ Sta s s.heap C n d (.ref a) ∧ Exa s s.heap a K := by
  obtain ⟨a, ev⟩ := exa_v q
  exact ⟨a, ev, Sta.start ev (Or.inr ⟨w1, w2⟩), Exa.start ev q⟩
end OwnB
end Jvm.RoadKit
@@BLOCK:NumsL.lean.txt@@
namespace Jvm.Pilot.@@N@@
open Jvm Jvm.ClassFile Sem Op Lib Jvm.Free Jvm.Stand Jvm.LawKit Jvm.RoadKit Bundle Jvm.Pilot.@@N@@.Jvm.D
/-! plain functions: the preimages of a list of ints -/
def nI (n : Nat) : Value := .int (Int32.ofNat n)
def zI (z : Int) : Value := .int (Int32.ofInt z)
theorem own_toI {n : Nat} (h : n < 2 ^ 31) : (Int32.ofNat n).toInt = n := Int32.toInt_ofNat_small h
theorem own_toZ {z : Int} (h1 : -2 ^ 31 ≤ z) (h2 : z < 2 ^ 31) : (Int32.ofInt z).toInt = z := Int32.toInt_ofInt_of_le h1 h2
theorem own_addI (a b : Nat) : Int32.ofNat a + Int32.ofNat b = Int32.ofNat (a + b) := (Int32.ofNat_add a b).symm
theorem own_sucI (a : Nat) : Int32.ofNat a + (1 : Int32) = Int32.ofNat (a + 1) := own_addI a 1
theorem own_nat (xs : List Nat) {k : Nat} (hk : k < xs.length) : (xs.map nI)[k]? = some (nI (xs.getD k 0)) := by simp [List.getD_eq_getElem?_getD, hk]
theorem own_int (xs : List Int) {k : Nat} (hk : k < xs.length) : (xs.map zI)[k]? = some (zI (xs.getD k 0)) := by simp [List.getD_eq_getElem?_getD, hk]
theorem own_setI (xs : List Nat) (k v : Nat) : (xs.map nI).set k (.int (Int32.ofNat v)) = (xs.set k v).map nI := by rw [List.map_set]; rfl
theorem own_lt {a b : Nat} (ha : a < 2 ^ 31) (hb : b < 2 ^ 31) : Int32.ofNat a < Int32.ofNat b ↔ a < b := by
  rw [Int32.lt_iff_toInt_lt, own_toI ha, own_toI hb]; omega
theorem own_eq {a b : Nat} (ha : a < 2 ^ 31) (hb : b < 2 ^ 31) : Int32.ofNat a = Int32.ofNat b ↔ a = b := by
  refine ⟨fun q => ?_, fun q => by rw [q]⟩
  have h := congrArg Int32.toInt q
  rw [own_toI ha, own_toI hb] at h; omega
theorem own_zn {z : Int} {n : Nat} (h : z = n) : Int32.ofInt z = Int32.ofNat n := by subst h; rfl
theorem own_zeq {z : Int} {n : Nat} (h1 : -2 ^ 31 ≤ z) (h2 : z < 2 ^ 31) (hn : n < 2 ^ 31) : Int32.ofInt z = Int32.ofNat n ↔ z = n := by
  refine ⟨fun q => ?_, own_zn⟩
  have h := congrArg Int32.toInt q
  rw [own_toZ h1 h2, own_toI hn] at h; exact h
theorem own_zneg {z : Int} (h1 : -2 ^ 31 ≤ z) (h2 : z < 2 ^ 31) : Int32.ofInt z < (0 : Int32) ↔ z < 0 := by
  have h0 : (0 : Int32).toInt = 0 := by decide
  rw [Int32.lt_iff_toInt_lt, own_toZ h1 h2, h0]
/-- the places below i at which zs holds v -/
def rowP (zs : List Int) (i v : Nat) : List Nat := (List.range i).filter fun j => decide (zs.getD j 0 = (v : Int))
def cntP (zs : List Int) (i v : Nat) : Nat := (rowP zs i v).length
def szs (zs : List Int) (vs i : Nat) : List Nat := (List.range vs).map (cntP zs i)
theorem rowP_hit {zs : List Int} {i v : Nat} (h : zs.getD i 0 = (v : Int)) : rowP zs (i + 1) v = rowP zs i v ++ [i] := by simp only [rowP, List.range_succ, List.filter_append, List.filter_cons, h, decide_true, if_true, List.filter_nil]
theorem rowP_miss {zs : List Int} {i v : Nat} (h : ¬ zs.getD i 0 = (v : Int)) : rowP zs (i + 1) v = rowP zs i v := by simp only [rowP, List.range_succ, List.filter_append, List.filter_cons, h, decide_false, List.filter_nil, List.append_nil, Bool.false_eq_true, if_false]
theorem cntP_hit {zs : List Int} {i v : Nat} (h : zs.getD i 0 = (v : Int)) : cntP zs (i + 1) v = cntP zs i v + 1 := by simp [cntP, rowP_hit h]
theorem cntP_miss {zs : List Int} {i v : Nat} (h : ¬ zs.getD i 0 = (v : Int)) : cntP zs (i + 1) v = cntP zs i v := by simp [cntP, rowP_miss h]
theorem cntP_step (zs : List Int) (i v : Nat) : cntP zs i v ≤ cntP zs (i + 1) v := by
  by_cases h : zs.getD i 0 = (v : Int)
  · rw [cntP_hit h]; omega
  · rw [cntP_miss h]; omega
theorem cntP_mono (zs : List Int) (v i k : Nat) : cntP zs i v ≤ cntP zs (i + k) v := by
  induction k with
  | zero => exact Nat.le_refl _
  | succ k ih => exact Nat.le_trans ih (cntP_step zs (i + k) v)
theorem cntP_lt {zs : List Int} {i n v : Nat} (h : zs.getD i 0 = (v : Int)) (hi : i < n) : cntP zs i v < cntP zs n v := by
  have := cntP_mono zs v (i + 1) (n - (i + 1))
  rw [cntP_hit h, show i + 1 + (n - (i + 1)) = n by omega] at this; omega
theorem cntP_le (zs : List Int) (i v : Nat) : cntP zs i v ≤ i := by
  have := List.length_filter_le (fun j => decide (zs.getD j 0 = (v : Int))) (List.range i)
  simpa [cntP, rowP] using this
theorem szs_len (zs : List Int) (vs i : Nat) : (szs zs vs i).length = vs := by simp [szs]
theorem szs_at (zs : List Int) {vs v : Nat} (i : Nat) (h : v < vs) : (szs zs vs i).getD v 0 = cntP zs i v := by simp [szs, List.getD_eq_getElem?_getD, h]
theorem szs_hit {zs : List Int} {vs i v : Nat} (h : zs.getD i 0 = (v : Int)) (hv : v < vs) : (szs zs vs i).set v (cntP zs i v + 1) = szs zs vs (i + 1) := by
  apply List.ext_getElem (by simp [szs])
  intro w h1 h2
  rw [List.getElem_set]
  by_cases q : v = w
  · subst q; simp [szs, cntP_hit h]
  · have q' : ¬ zs.getD i 0 = (w : Int) := fun z => q (by omega)
    simp [szs, q, cntP_miss q']
theorem szs_miss {zs : List Int} {vs i : Nat} (h : zs.getD i 0 < 0) : szs zs vs i = szs zs vs (i + 1) := by
  apply List.ext_getElem (by simp [szs])
  intro w h1 h2
  have q' : ¬ zs.getD i 0 = (w : Int) := fun z => by omega
  simp [szs, cntP_miss q']
theorem szs_zero (zs : List Int) (vs : Nat) : szs zs vs 0 = List.replicate vs 0 := by
  apply List.ext_getElem (by simp [szs])
  intro w h1 h2
  simp [szs, cntP, rowP]
/-- a row when i places have been looked at: the rest is 0 yet -/
def rowS (zs : List Int) (n i v : Nat) : List Nat := rowP zs i v ++ List.replicate (cntP zs n v - cntP zs i v) 0
theorem rowS_len {zs : List Int} {n i v : Nat} (h : i ≤ n) : (rowS zs n i v).length = cntP zs n v := by
  have := cntP_mono zs v i (n - i)
  rw [show i + (n - i) = n by omega] at this
  simp only [rowS, List.length_append, List.length_replicate]
  show cntP zs i v + _ = _; omega
theorem rowS_hit {zs : List Int} {n i v : Nat} (h : zs.getD i 0 = (v : Int)) (hi : i < n) : (rowS zs n i v).set (cntP zs i v) i = rowS zs n (i + 1) v := by
  have h1 := cntP_lt h hi
  obtain ⟨k, hk⟩ : ∃ k, cntP zs n v - cntP zs i v = k + 1 := ⟨cntP zs n v - cntP zs i v - 1, by omega⟩
  have hk2 : cntP zs n v - cntP zs (i + 1) v = k := by rw [cntP_hit h]; omega
  rw [rowS, List.set_append_right _ _ (show (rowP zs i v).length ≤ cntP zs i v from Nat.le_refl _), hk, rowS, hk2, rowP_hit h]
  simp [cntP, List.replicate_succ]
theorem rowS_miss {zs : List Int} {n i v : Nat} (h : ¬ zs.getD i 0 = (v : Int)) : rowS zs n (i + 1) v = rowS zs n i v := by simp only [rowS, rowP_miss h, cntP_miss h]
theorem rowS_zero (zs : List Int) (n v : Nat) : rowS zs n 0 v = List.replicate (cntP zs n v) 0 := by simp [rowS, rowP, cntP]
theorem rowS_end (zs : List Int) (n v : Nat) : rowS zs n n v = rowP zs n v := by simp [rowS]
/-- one step of the law's own count -/
def dj (zs : List Int) (lm : Nat) (v : Nat) (j : Nat) : Nat := if j < lm ∧ zs.getD j 0 = (v : Int) then 1 else 0
theorem dj_yes {zs : List Int} {lm v j : Nat} (h1 : j < lm) (h2 : zs.getD j 0 = (v : Int)) : dj zs lm v j = 1 := if_pos ⟨h1, h2⟩
theorem dj_no1 {zs : List Int} {lm v j : Nat} (h1 : ¬ j < lm) : dj zs lm v j = 0 := if_neg fun q => h1 q.1
theorem dj_no2 {zs : List Int} {lm v j : Nat} (h2 : ¬ zs.getD j 0 = (v : Int)) : dj zs lm v j = 0 := if_neg fun q => h2 q.2
def cntN (zs : List Int) (lm v : Nat) : Nat := ((dj zs lm v 0 + dj zs lm v 1) + dj zs lm v 2) + dj zs lm v 3
theorem cnt_step (zs : List Int) (i v : Nat) : cntP zs (i + 1) v = cntP zs i v + (if zs.getD i 0 = (v : Int) then 1 else 0) := by
  by_cases h : zs.getD i 0 = (v : Int)
  · rw [cntP_hit h, if_pos h]
  · rw [cntP_miss h, if_neg h]; rfl
theorem cnt_zero (zs : List Int) (v : Nat) : cntP zs 0 v = 0 := by simp [cntP, rowP]
theorem cnt_eq (zs : List Int) {lm : Nat} (v : Nat) (h : lm ≤ 4) : cntN zs lm v = cntP zs lm v := by
  rcases (by omega : lm = 0 ∨ lm = 1 ∨ lm = 2 ∨ lm = 3 ∨ lm = 4) with rfl | rfl | rfl | rfl | rfl <;> simp [cntN, dj, cnt_step, cnt_zero]
/-- the place of i in its row -/
theorem row_at {zs : List Int} {i n v : Nat} (h : zs.getD i 0 = (v : Int)) (hi : i < n) : (rowP zs n v)[cntP zs i v]? = some i := by
  have key : ∀ k, (rowP zs (i + 1 + k) v)[cntP zs i v]? = some i := by
    intro k
    induction k with
    | zero => rw [Nat.add_zero, rowP_hit h]; simp [cntP]
    | succ k ih =>
      have hlt := (List.getElem?_eq_some_iff.mp ih).1
      by_cases q : zs.getD (i + 1 + k) 0 = (v : Int)
      · rw [← Nat.add_assoc, rowP_hit q, List.getElem?_append_left hlt]; exact ih
      · rw [← Nat.add_assoc, rowP_miss q]; exact ih
  have := key (n - (i + 1))
  rwa [show i + 1 + (n - (i + 1)) = n by omega] at this
theorem row_take (zs : List Int) {n i : Nat} (v : Nat) (h : i ≤ n) : rowP (zs.take n) i v = rowP zs i v := by
  unfold rowP
  apply List.filter_congr
  intro j hj
  have hj' : j < i := by simpa using hj
  simp [List.getD_eq_getElem?_getD, List.getElem?_take, show j < n by omega]
/-- the rows' arrays -/
def RowsH (Z : State) (h : Heap) (as : List Addr) (f : Nat → List Nat) : Prop := ∀ v, v < as.length → Arl Z h (as.getD v 0) .int ((f v).map nI)
theorem RowsH.ext {Z : State} {h h' : Heap} {as : List Addr} {f : Nat → List Nat} (F : RowsH Z h as f) (E : Ext h h') : RowsH Z h' as f := fun v hv => (F v hv).ext E
theorem RowsH.other {Z : State} {h h' : Heap} {as : List Addr} {f : Nat → List Nat} {a : Addr} {sl : Nat} {w : Value} (F : RowsH Z h as f) (W : Wr h h' a sl w) (q : ∀ v, v < as.length → as.getD v 0 ≠ a) : RowsH Z h' as f := fun v hv => (F v hv).other W (q v hv)
theorem RowsH.set {Z : State} {h h' : Heap} {as : List Addr} {f g : Nat → List Nat} {v i x : Nat} (F : RowsH Z h as f) (hv : v < as.length) (W : Wr h h' (as.getD v 0) i (.int (Int32.ofNat x))) (q : ∀ w, w < as.length → w ≠ v → as.getD w 0 ≠ as.getD v 0) (h1 : (f v).set i x = g v) (h2 : ∀ w, w ≠ v → f w = g w) : RowsH Z h' as g := fun w hw => by
  by_cases e : w = v
  · subst e; rw [← h1, ← own_setI]; exact (F w hw).set W
  · rw [← h2 w e]; exact (F w hw).other W (q w hw e)
theorem RowsH.push {Z : State} {h : Heap} {as : List Addr} {f : Nat → List Nat} {a : Addr} (F : RowsH Z h as f) (V : Arl Z h a .int ((f as.length).map nI)) : RowsH Z h (as ++ [a]) f := fun v hv => by
  by_cases e : v < as.length
  · rw [List.getD_eq_getElem?_getD, List.getElem?_append_left e, ← List.getD_eq_getElem?_getD]; exact F v e
  · have e2 : v = as.length := by simp at hv; omega
    subst e2; simpa [List.getD_eq_getElem?_getD] using V
/-- an array of int arrays -/
def Ara (Z : State) (h : Heap) (a : Addr) (vs : List Value) : Prop := ∃ c : Cell, Arr Z h a c (.array .int) ∧ OvrA Z c.cls .int "[I" ∧ c.slots.toList = vs ∧ vs.length < 2 ^ 31
theorem Ara.arl {Z : State} {h : Heap} {a : Addr} {vs : List Value} (F : Ara Z h a vs) : Arl Z h a (.array .int) vs := by obtain ⟨c, A, -, r⟩ := F; exact ⟨c, A, r⟩
theorem Ara.lt {Z : State} {h : Heap} {a : Addr} {vs : List Value} (F : Ara Z h a vs) : a < h.size := F.arl.lt
theorem Ara.ext {Z : State} {h h' : Heap} {a : Addr} {vs : List Value} (F : Ara Z h a vs) (E : Ext h h') : Ara Z h' a vs := by obtain ⟨c, A, r⟩ := F; exact ⟨c, A.ext E, r⟩
theorem Ara.other {Z : State} {h h' : Heap} {a b : Addr} {vs : List Value} {sl : Nat} {w : Value} (F : Ara Z h b vs) (W : Wr h h' a sl w) (q : b ≠ a) : Ara Z h' b vs := by obtain ⟨c, A, r⟩ := F; exact ⟨c, A.other W q, r⟩
theorem Ara.set {Z : State} {h h' : Heap} {a : Addr} {vs : List Value} {sl : Nat} {w : Value} (F : Ara Z h a vs) (W : Wr h h' a sl w) : Ara Z h' a (vs.set sl w) := by
  obtain ⟨c, A, O, e1, r⟩ := F
  exact ⟨c.setSlot sl w, A.same W, O, by simp [Cell.setSlot, e1], by simpa using r⟩

section OwnC
variable {p : Program} {l : Launch} {e : Env} {R : Room} {s : State} {m : MethodId} {args : Array Value} {below : List Frame} {meth : Method} {c : Code} {T : State} {locs : List Loc} {cells slots : Nat} {Z : State} {a0 : Array Value} {h : Heap} {a b : Addr} {vs : List Value} {own nm : String} {bytes : ByteArray} {maxL : Nat} {ret : Option FieldType} {K : Outcome → State → Prop} {pc n : Nat} {ls : Array Slot} {rest : List Value}
theorem own_newRA (C : Cx p s m meth c Z own bytes maxL ret nm) (X : Stand p l e R s m args below meth c T locs cells slots) (eT : T.heap = h) {index : Nat} (w1 : (Cond.classLink own index "[I").before a0 Z = true) (w2 : (Cond.arrayOver (.array .int)).before a0 Z = true) {z : Int32} (i : Nat) (hz : z.toInt = i) (cap : Nat) (hcap : i ≤ cap) (hd : decode bytes pc = .ok (.anewarray index, 3)) (hn : pc + 3 = n) (hb8 : cap * 8 ≤ 536870912) (hc : cells + 1 ≤ R.cells) (hl : slots + cap ≤ R.slots)
    (k : ∀ T' h' a, a = h.size → Stand p l e R s m args below meth c T' locs (cells + 1) (slots + cap) → T'.heap = h' → Ext h h' → Ara Z h' a (List.replicate i .null) → Go p e below K (T'.setTop (mkF m n ls (.ref a :: rest)))) : Go p e below K (T.setTop (mkF m pc ls (.int z :: rest))) := by
  subst hn
  obtain ⟨q1, q2⟩ := nat_idx hz
  obtain ⟨T', h', cA, X', e', E', A', -, O', st⟩ := Jvm.RoadKit.newRA X C.hx C.hZ C.hown (C := "[I") (ty := .int) (by decide) w1 w2 eT (g := mkF m pc ls (.int z :: rest)) rfl (hb C.hby hd) rfl q2 (by rw [q1]; exact hcap) hb8 hc hl (ad := "[[I") (by decide)
  refine Go.of st (k T' h' _ rfl X' e' E' ⟨_, A', O', by simp [newA, q1, defaultValue], ?_⟩)
  have := Int32.toInt_lt z
  simp; omega
theorem own_aastore (C : Cx p s m meth c Z own bytes maxL ret nm) (X : Stand p l e R s m args below meth c T locs cells slots) (eT : T.heap = h) {j : Int32} (F : Ara Z h a vs) (E : Exa Z h b "[I") (i : Nat) (hj : j.toInt = i) (hi : i < vs.length) (hd : decode bytes pc = .ok (.aastore, 1)) (hn : pc + 1 = n)
    (k : ∀ T' h', Stand p l e R s m args below meth c T' (locs ++ [⟨a, i⟩]) cells slots → T'.heap = h' → Wr h h' a i (.ref b) → Ara Z h' a (vs.set i (.ref b)) → Go p e below K (T'.setTop (mkF m n ls rest))) : Go p e below K (T.setTop (mkF m pc ls (.ref b :: .int j :: .ref a :: rest))) := by
  have F' := F
  obtain ⟨cl, A, O, e1, r⟩ := F'
  obtain ⟨q1, q2⟩ := nat_idx hj
  have hin : ¬ (j < 0 ∨ cl.slots.size ≤ j.toNatClampNeg) := fun q => q.elim q2 (fun q => by rw [← e1, Array.length_toList] at hi; omega)
  refine Go.aastore C X eT A hin rfl (Sto.ofVA A rfl O (Ins.self E)) hd hn fun T' h' X' e' W => ?_
  rw [q1] at X' W
  exact k T' h' X' e' W (F.set W)
end OwnC
theorem own_small (x : Int32) (m : Int32) (k : Nat) (hm : m.toInt = k) (h0 : 0 < k) : ∃ n, n < k ∧ (x &&& (2147483647 : Int32)) % m = Int32.ofNat n := by
  have h := Jvm.Kit.i32_mask x (2147483647 : Int32) (k := 31) (by decide) (by decide)
  have h2 := Jvm.Kit.i32_rem_nonneg (x := x &&& (2147483647 : Int32)) (y := m) (by rw [h]; omega)
  have h3 : 0 ≤ ((x &&& (2147483647 : Int32)) % m).toInt ∧ ((x &&& (2147483647 : Int32)) % m).toInt < k := by
    rw [h2, hm]; exact ⟨Int.emod_nonneg _ (by omega), Int.emod_lt_of_pos _ (by omega)⟩
  have h4 := m.toInt_lt
  refine ⟨((x &&& (2147483647 : Int32)) % m).toInt.toNat, by omega, Int32.toInt_inj.mp ?_⟩
  rw [own_toI (by omega)]; omega
theorem own_predI (r : Nat) : Int32.ofNat r - (1 : Int32) = Int32.ofInt ((r : Int) - 1) := by
  rw [Int32.ofInt_sub]; rfl
theorem own_nzI {k : Nat} (h : k + 1 < 2 ^ 31) : Int32.ofNat (k + 1) ≠ 0 := fun q => by
  have h1 := congrArg Int32.toInt q
  rw [own_toI h] at h1
  have h0 : (0 : Int32).toInt = 0 := by decide
  omega

theorem d1_0 : decode method_2_code 0 = .ok (.iload_n 0, 1) := by decide +kernel
theorem d1_1 : decode method_2_code 1 = .ok (.ldc 7, 2) := by decide +kernel
theorem d1_3 : decode method_2_code 3 = .ok (.iand, 1) := by decide +kernel
theorem d1_4 : decode method_2_code 4 = .ok (.iload_n 1, 1) := by decide +kernel
theorem d1_5 : decode method_2_code 5 = .ok (.iconst 1, 1) := by decide +kernel
theorem d1_6 : decode method_2_code 6 = .ok (.iadd, 1) := by decide +kernel
theorem d1_7 : decode method_2_code 7 = .ok (.irem, 1) := by decide +kernel
theorem d1_8 : decode method_2_code 8 = .ok (.iconst 1, 1) := by decide +kernel
theorem d1_9 : decode method_2_code 9 = .ok (.isub, 1) := by decide +kernel
theorem d1_10 : decode method_2_code 10 = .ok (.ireturn, 1) := by decide +kernel
theorem d2_0 : decode prog_46_method_2_code 0 = .ok (.iload_n 0, 1) := by decide +kernel
theorem d2_1 : decode prog_46_method_2_code 1 = .ok (.newarray .int, 2) := by decide +kernel
theorem d2_3 : decode prog_46_method_2_code 3 = .ok (.astore_n 2, 1) := by decide +kernel
theorem d2_4 : decode prog_46_method_2_code 4 = .ok (.aload_n 1, 1) := by decide +kernel
theorem d2_5 : decode prog_46_method_2_code 5 = .ok (.astore_n 3, 1) := by decide +kernel
theorem d2_6 : decode prog_46_method_2_code 6 = .ok (.aload_n 3, 1) := by decide +kernel
theorem d2_7 : decode prog_46_method_2_code 7 = .ok (.arraylength, 1) := by decide +kernel
theorem d2_8 : decode prog_46_method_2_code 8 = .ok (.istore 4, 2) := by decide +kernel
theorem d2_10 : decode prog_46_method_2_code 10 = .ok (.iconst 0, 1) := by decide +kernel
theorem d2_11 : decode prog_46_method_2_code 11 = .ok (.istore 5, 2) := by decide +kernel
theorem d2_13 : decode prog_46_method_2_code 13 = .ok (.iload 5, 2) := by decide +kernel
theorem d2_15 : decode prog_46_method_2_code 15 = .ok (.iload 4, 2) := by decide +kernel
theorem d2_17 : decode prog_46_method_2_code 17 = .ok (.if_icmp .ge 28, 3) := by decide +kernel
theorem d2_20 : decode prog_46_method_2_code 20 = .ok (.aload_n 3, 1) := by decide +kernel
theorem d2_21 : decode prog_46_method_2_code 21 = .ok (.iload 5, 2) := by decide +kernel
theorem d2_23 : decode prog_46_method_2_code 23 = .ok (.iaload, 1) := by decide +kernel
theorem d2_24 : decode prog_46_method_2_code 24 = .ok (.istore 6, 2) := by decide +kernel
theorem d2_26 : decode prog_46_method_2_code 26 = .ok (.iload 6, 2) := by decide +kernel
theorem d2_28 : decode prog_46_method_2_code 28 = .ok (.ifCond .lt 11, 3) := by decide +kernel
theorem d2_31 : decode prog_46_method_2_code 31 = .ok (.aload_n 2, 1) := by decide +kernel
theorem d2_32 : decode prog_46_method_2_code 32 = .ok (.iload 6, 2) := by decide +kernel
theorem d2_34 : decode prog_46_method_2_code 34 = .ok (.dup2, 1) := by decide +kernel
theorem d2_35 : decode prog_46_method_2_code 35 = .ok (.iaload, 1) := by decide +kernel
theorem d2_36 : decode prog_46_method_2_code 36 = .ok (.iconst 1, 1) := by decide +kernel
theorem d2_37 : decode prog_46_method_2_code 37 = .ok (.iadd, 1) := by decide +kernel
theorem d2_38 : decode prog_46_method_2_code 38 = .ok (.iastore, 1) := by decide +kernel
theorem d2_39 : decode prog_46_method_2_code 39 = .ok (.iinc 5 1, 3) := by decide +kernel
theorem d2_42 : decode prog_46_method_2_code 42 = .ok (.goto (-29), 3) := by decide +kernel
theorem d2_45 : decode prog_46_method_2_code 45 = .ok (.iload_n 0, 1) := by decide +kernel
theorem d2_46 : decode prog_46_method_2_code 46 = .ok (.anewarray 7, 3) := by decide +kernel
theorem d2_49 : decode prog_46_method_2_code 49 = .ok (.astore_n 3, 1) := by decide +kernel
theorem d2_50 : decode prog_46_method_2_code 50 = .ok (.iconst 0, 1) := by decide +kernel
theorem d2_51 : decode prog_46_method_2_code 51 = .ok (.istore 4, 2) := by decide +kernel
theorem d2_53 : decode prog_46_method_2_code 53 = .ok (.iload 4, 2) := by decide +kernel
theorem d2_55 : decode prog_46_method_2_code 55 = .ok (.iload_n 0, 1) := by decide +kernel
theorem d2_56 : decode prog_46_method_2_code 56 = .ok (.if_icmp .ge 19, 3) := by decide +kernel
theorem d2_59 : decode prog_46_method_2_code 59 = .ok (.aload_n 3, 1) := by decide +kernel
theorem d2_60 : decode prog_46_method_2_code 60 = .ok (.iload 4, 2) := by decide +kernel
theorem d2_62 : decode prog_46_method_2_code 62 = .ok (.aload_n 2, 1) := by decide +kernel
theorem d2_63 : decode prog_46_method_2_code 63 = .ok (.iload 4, 2) := by decide +kernel
theorem d2_65 : decode prog_46_method_2_code 65 = .ok (.iaload, 1) := by decide +kernel
theorem d2_66 : decode prog_46_method_2_code 66 = .ok (.newarray .int, 2) := by decide +kernel
theorem d2_68 : decode prog_46_method_2_code 68 = .ok (.aastore, 1) := by decide +kernel
theorem d2_69 : decode prog_46_method_2_code 69 = .ok (.iinc 4 1, 3) := by decide +kernel
theorem d2_72 : decode prog_46_method_2_code 72 = .ok (.goto (-19), 3) := by decide +kernel
theorem d2_75 : decode prog_46_method_2_code 75 = .ok (.iload_n 0, 1) := by decide +kernel
theorem d2_76 : decode prog_46_method_2_code 76 = .ok (.newarray .int, 2) := by decide +kernel
theorem d2_78 : decode prog_46_method_2_code 78 = .ok (.astore 4, 2) := by decide +kernel
theorem d2_80 : decode prog_46_method_2_code 80 = .ok (.iconst 0, 1) := by decide +kernel
theorem d2_81 : decode prog_46_method_2_code 81 = .ok (.istore 5, 2) := by decide +kernel
theorem d2_83 : decode prog_46_method_2_code 83 = .ok (.iload 5, 2) := by decide +kernel
theorem d2_85 : decode prog_46_method_2_code 85 = .ok (.aload_n 1, 1) := by decide +kernel
theorem d2_86 : decode prog_46_method_2_code 86 = .ok (.arraylength, 1) := by decide +kernel
theorem d2_87 : decode prog_46_method_2_code 87 = .ok (.if_icmp .ge 37, 3) := by decide +kernel
theorem d2_90 : decode prog_46_method_2_code 90 = .ok (.aload_n 1, 1) := by decide +kernel
theorem d2_91 : decode prog_46_method_2_code 91 = .ok (.iload 5, 2) := by decide +kernel
theorem d2_93 : decode prog_46_method_2_code 93 = .ok (.iaload, 1) := by decide +kernel
theorem d2_94 : decode prog_46_method_2_code 94 = .ok (.istore 6, 2) := by decide +kernel
theorem d2_96 : decode prog_46_method_2_code 96 = .ok (.iload 6, 2) := by decide +kernel
theorem d2_98 : decode prog_46_method_2_code 98 = .ok (.ifCond .lt 20, 3) := by decide +kernel
theorem d2_101 : decode prog_46_method_2_code 101 = .ok (.aload_n 3, 1) := by decide +kernel
theorem d2_102 : decode prog_46_method_2_code 102 = .ok (.iload 6, 2) := by decide +kernel
theorem d2_104 : decode prog_46_method_2_code 104 = .ok (.aaload, 1) := by decide +kernel
theorem d2_105 : decode prog_46_method_2_code 105 = .ok (.aload 4, 2) := by decide +kernel
theorem d2_107 : decode prog_46_method_2_code 107 = .ok (.iload 6, 2) := by decide +kernel
theorem d2_109 : decode prog_46_method_2_code 109 = .ok (.dup2, 1) := by decide +kernel
theorem d2_110 : decode prog_46_method_2_code 110 = .ok (.iaload, 1) := by decide +kernel
theorem d2_111 : decode prog_46_method_2_code 111 = .ok (.dup_x2, 1) := by decide +kernel
theorem d2_112 : decode prog_46_method_2_code 112 = .ok (.iconst 1, 1) := by decide +kernel
theorem d2_113 : decode prog_46_method_2_code 113 = .ok (.iadd, 1) := by decide +kernel
theorem d2_114 : decode prog_46_method_2_code 114 = .ok (.iastore, 1) := by decide +kernel
theorem d2_115 : decode prog_46_method_2_code 115 = .ok (.iload 5, 2) := by decide +kernel
theorem d2_117 : decode prog_46_method_2_code 117 = .ok (.iastore, 1) := by decide +kernel
theorem d2_118 : decode prog_46_method_2_code 118 = .ok (.iinc 5 1, 3) := by decide +kernel
theorem d2_121 : decode prog_46_method_2_code 121 = .ok (.goto (-38), 3) := by decide +kernel
theorem d2_124 : decode prog_46_method_2_code 124 = .ok (.aload_n 3, 1) := by decide +kernel
theorem d2_125 : decode prog_46_method_2_code 125 = .ok (.areturn, 1) := by decide +kernel
theorem d3_0 : decode method_4_code 0 = .ok (.iload_n 2, 1) := by decide +kernel
theorem d3_1 : decode method_4_code 1 = .ok (.iload_n 1, 1) := by decide +kernel
theorem d3_2 : decode method_4_code 2 = .ok (.if_icmp .lt 5, 3) := by decide +kernel
theorem d3_5 : decode method_4_code 5 = .ok (.iconst 1, 1) := by decide +kernel
theorem d3_6 : decode method_4_code 6 = .ok (.ireturn, 1) := by decide +kernel
theorem d3_7 : decode method_4_code 7 = .ok (.aload_n 0, 1) := by decide +kernel
theorem d3_8 : decode method_4_code 8 = .ok (.iload_n 2, 1) := by decide +kernel
theorem d3_9 : decode method_4_code 9 = .ok (.aaload, 1) := by decide +kernel
theorem d3_10 : decode method_4_code 10 = .ok (.ifnull 21, 3) := by decide +kernel
theorem d3_13 : decode method_4_code 13 = .ok (.aload_n 0, 1) := by decide +kernel
theorem d3_14 : decode method_4_code 14 = .ok (.iload_n 2, 1) := by decide +kernel
theorem d3_15 : decode method_4_code 15 = .ok (.aaload, 1) := by decide +kernel
theorem d3_16 : decode method_4_code 16 = .ok (.arraylength, 1) := by decide +kernel
theorem d3_17 : decode method_4_code 17 = .ok (.aload_n 3, 1) := by decide +kernel
theorem d3_18 : decode method_4_code 18 = .ok (.iload 4, 2) := by decide +kernel
theorem d3_20 : decode method_4_code 20 = .ok (.iload_n 2, 1) := by decide +kernel
theorem d3_21 : decode method_4_code 21 = .ok (.invokestatic 8, 3) := by decide +kernel
theorem d3_24 : decode method_4_code 24 = .ok (.if_icmp .ne 7, 3) := by decide +kernel
theorem d3_27 : decode method_4_code 27 = .ok (.iconst 1, 1) := by decide +kernel
theorem d3_28 : decode method_4_code 28 = .ok (.goto 4, 3) := by decide +kernel
theorem d3_31 : decode method_4_code 31 = .ok (.iconst 0, 1) := by decide +kernel
theorem d3_32 : decode method_4_code 32 = .ok (.ireturn, 1) := by decide +kernel
theorem d4_0 : decode method_5_code 0 = .ok (.iload_n 3, 1) := by decide +kernel
theorem d4_1 : decode method_5_code 1 = .ok (.iload_n 2, 1) := by decide +kernel
theorem d4_2 : decode method_5_code 2 = .ok (.if_icmp .lt 5, 3) := by decide +kernel
theorem d4_5 : decode method_5_code 5 = .ok (.iconst 1, 1) := by decide +kernel
theorem d4_6 : decode method_5_code 6 = .ok (.ireturn, 1) := by decide +kernel
theorem d4_7 : decode method_5_code 7 = .ok (.aload_n 1, 1) := by decide +kernel
theorem d4_8 : decode method_5_code 8 = .ok (.iload_n 3, 1) := by decide +kernel
theorem d4_9 : decode method_5_code 9 = .ok (.iaload, 1) := by decide +kernel
theorem d4_10 : decode method_5_code 10 = .ok (.istore 4, 2) := by decide +kernel
theorem d4_12 : decode method_5_code 12 = .ok (.iload 4, 2) := by decide +kernel
theorem d4_14 : decode method_5_code 14 = .ok (.ifCond .ge 5, 3) := by decide +kernel
theorem d4_17 : decode method_5_code 17 = .ok (.iconst 1, 1) := by decide +kernel
theorem d4_18 : decode method_5_code 18 = .ok (.ireturn, 1) := by decide +kernel
theorem d4_19 : decode method_5_code 19 = .ok (.aload_n 0, 1) := by decide +kernel
theorem d4_20 : decode method_5_code 20 = .ok (.iload 4, 2) := by decide +kernel
theorem d4_22 : decode method_5_code 22 = .ok (.aaload, 1) := by decide +kernel
theorem d4_23 : decode method_5_code 23 = .ok (.astore 5, 2) := by decide +kernel
theorem d4_25 : decode method_5_code 25 = .ok (.aload 5, 2) := by decide +kernel
theorem d4_27 : decode method_5_code 27 = .ok (.ifnonnull 5, 3) := by decide +kernel
theorem d4_30 : decode method_5_code 30 = .ok (.iconst 0, 1) := by decide +kernel
theorem d4_31 : decode method_5_code 31 = .ok (.ireturn, 1) := by decide +kernel
theorem d4_32 : decode method_5_code 32 = .ok (.aload_n 1, 1) := by decide +kernel
theorem d4_33 : decode method_5_code 33 = .ok (.iload_n 3, 1) := by decide +kernel
theorem d4_34 : decode method_5_code 34 = .ok (.iload 4, 2) := by decide +kernel
theorem d4_36 : decode method_5_code 36 = .ok (.invokestatic 8, 3) := by decide +kernel
theorem d4_39 : decode method_5_code 39 = .ok (.istore 6, 2) := by decide +kernel
theorem d4_41 : decode method_5_code 41 = .ok (.iload 6, 2) := by decide +kernel
theorem d4_43 : decode method_5_code 43 = .ok (.aload 5, 2) := by decide +kernel
theorem d4_45 : decode method_5_code 45 = .ok (.arraylength, 1) := by decide +kernel
theorem d4_46 : decode method_5_code 46 = .ok (.if_icmp .ge 16, 3) := by decide +kernel
theorem d4_49 : decode method_5_code 49 = .ok (.aload 5, 2) := by decide +kernel
theorem d4_51 : decode method_5_code 51 = .ok (.iload 6, 2) := by decide +kernel
theorem d4_53 : decode method_5_code 53 = .ok (.iaload, 1) := by decide +kernel
theorem d4_54 : decode method_5_code 54 = .ok (.iload_n 3, 1) := by decide +kernel
theorem d4_55 : decode method_5_code 55 = .ok (.if_icmp .ne 7, 3) := by decide +kernel
theorem d4_58 : decode method_5_code 58 = .ok (.iconst 1, 1) := by decide +kernel
theorem d4_59 : decode method_5_code 59 = .ok (.goto 4, 3) := by decide +kernel
theorem d4_62 : decode method_5_code 62 = .ok (.iconst 0, 1) := by decide +kernel
theorem d4_63 : decode method_5_code 63 = .ok (.ireturn, 1) := by decide +kernel
theorem d5_0 : decode method_3_code 0 = .ok (.iconst 0, 1) := by decide +kernel
theorem d5_1 : decode method_3_code 1 = .ok (.istore_n 3, 1) := by decide +kernel
theorem d5_2 : decode method_3_code 2 = .ok (.iconst 0, 1) := by decide +kernel
theorem d5_3 : decode method_3_code 3 = .ok (.iload_n 1, 1) := by decide +kernel
theorem d5_4 : decode method_3_code 4 = .ok (.if_icmp .ge 13, 3) := by decide +kernel
theorem d5_7 : decode method_3_code 7 = .ok (.aload_n 0, 1) := by decide +kernel
theorem d5_8 : decode method_3_code 8 = .ok (.iconst 0, 1) := by decide +kernel
theorem d5_9 : decode method_3_code 9 = .ok (.iaload, 1) := by decide +kernel
theorem d5_10 : decode method_3_code 10 = .ok (.iload_n 2, 1) := by decide +kernel
theorem d5_11 : decode method_3_code 11 = .ok (.if_icmp .ne 6, 3) := by decide +kernel
theorem d5_14 : decode method_3_code 14 = .ok (.iinc 3 1, 3) := by decide +kernel
theorem d5_17 : decode method_3_code 17 = .ok (.iconst 1, 1) := by decide +kernel
theorem d5_18 : decode method_3_code 18 = .ok (.iload_n 1, 1) := by decide +kernel
theorem d5_19 : decode method_3_code 19 = .ok (.if_icmp .ge 13, 3) := by decide +kernel
theorem d5_22 : decode method_3_code 22 = .ok (.aload_n 0, 1) := by decide +kernel
theorem d5_23 : decode method_3_code 23 = .ok (.iconst 1, 1) := by decide +kernel
theorem d5_24 : decode method_3_code 24 = .ok (.iaload, 1) := by decide +kernel
theorem d5_25 : decode method_3_code 25 = .ok (.iload_n 2, 1) := by decide +kernel
theorem d5_26 : decode method_3_code 26 = .ok (.if_icmp .ne 6, 3) := by decide +kernel
theorem d5_29 : decode method_3_code 29 = .ok (.iinc 3 1, 3) := by decide +kernel
theorem d5_32 : decode method_3_code 32 = .ok (.iconst 2, 1) := by decide +kernel
theorem d5_33 : decode method_3_code 33 = .ok (.iload_n 1, 1) := by decide +kernel
theorem d5_34 : decode method_3_code 34 = .ok (.if_icmp .ge 13, 3) := by decide +kernel
theorem d5_37 : decode method_3_code 37 = .ok (.aload_n 0, 1) := by decide +kernel
theorem d5_38 : decode method_3_code 38 = .ok (.iconst 2, 1) := by decide +kernel
theorem d5_39 : decode method_3_code 39 = .ok (.iaload, 1) := by decide +kernel
theorem d5_40 : decode method_3_code 40 = .ok (.iload_n 2, 1) := by decide +kernel
theorem d5_41 : decode method_3_code 41 = .ok (.if_icmp .ne 6, 3) := by decide +kernel
theorem d5_44 : decode method_3_code 44 = .ok (.iinc 3 1, 3) := by decide +kernel
theorem d5_47 : decode method_3_code 47 = .ok (.iconst 3, 1) := by decide +kernel
theorem d5_48 : decode method_3_code 48 = .ok (.iload_n 1, 1) := by decide +kernel
theorem d5_49 : decode method_3_code 49 = .ok (.if_icmp .ge 13, 3) := by decide +kernel
theorem d5_52 : decode method_3_code 52 = .ok (.aload_n 0, 1) := by decide +kernel
theorem d5_53 : decode method_3_code 53 = .ok (.iconst 3, 1) := by decide +kernel
theorem d5_54 : decode method_3_code 54 = .ok (.iaload, 1) := by decide +kernel
theorem d5_55 : decode method_3_code 55 = .ok (.iload_n 2, 1) := by decide +kernel
theorem d5_56 : decode method_3_code 56 = .ok (.if_icmp .ne 6, 3) := by decide +kernel
theorem d5_59 : decode method_3_code 59 = .ok (.iinc 3 1, 3) := by decide +kernel
theorem d5_62 : decode method_3_code 62 = .ok (.iload_n 3, 1) := by decide +kernel
theorem d5_63 : decode method_3_code 63 = .ok (.ireturn, 1) := by decide +kernel
theorem pn_0 : plainName "com/example/libsymtree/libsymtree/PreimagesOfPinLaw" = true := by first | (simp [plainName, overriddenIn]; done) | decide +kernel
set_option maxRecDepth 65536 in
set_option maxHeartbeats 40000000 in
theorem rm5 (l : Launch) (Z : State) (a0 : Array Value) (hw : ∀ d ∈ tables_1, d.before a0 Z = true) (n0 : Nat) (h0 : Heap) (f : Addr) (zs : List Int) (lm v : Nat) (hl4 : zs.length = 4) (hz : ∀ j, -1 ≤ zs.getD j 0 ∧ zs.getD j 0 < 6) (hlm : lm ≤ 4) (hv : v < 6) (V_f : Arl Z h0 f .int (zs.map zI)) :
    Ctr l Z (⟨"com/example/libsymtree/libsymtree/PreimagesOfPinLaw", "cnt", "([III)I"⟩ : MethodName) method_3_code 4 (some .int) ({ frames := 0, cells := 0, slots := 0, locals := 0 } : Room) #[(.ref f), (.int (Int32.ofNat lm)), (.int (Int32.ofNat v))] h0 (fun v' h L => v' = some (.int (Int32.ofNat (cntN zs lm v))) ∧ L = [] ∧ h = h0) := by
  refine Ctr.mk (plainFor_of_name pn_0) (ls := #[.val (.ref f), .val (.int (Int32.ofNat lm)), .val (.int (Int32.ofNat v)), .unset]) (fun m => by first | (simp [entryFrame, mkF, argsToLocals, Value.category]; done) | rfl) ?_
  intro p e s m below meth c T C X eT hs0
  have N := Fr.nil n0
  show Go p e below _ (T.setTop (mkF m 0 #[.val (.ref f), .val (.int (Int32.ofNat lm)), .val (.int (Int32.ofNat v)), .unset] []))
  refine Go.iconst C X d5_0 (n := 1) rfl (v := (0 : Int32)) rfl ?_
  refine Go.istoreN C X d5_1 (n := 2) rfl (l' := #[.val (.ref f), .val (.int (Int32.ofNat lm)), .val (.int (Int32.ofNat v)), .val (.int (0 : Int32))]) rfl ?_
  show Go p e below _ (T.setTop (mkF m 2 #[.val (.ref f), .val (.int (Int32.ofNat lm)), .val (.int (Int32.ofNat v)), .val (.int (Int32.ofNat 0))] []))
  suffices k17 : Go p e below (EndQ s _ _ _) (T.setTop (mkF m 17 #[.val (.ref f), .val (.int (Int32.ofNat lm)), .val (.int (Int32.ofNat v)), .val (.int (Int32.ofNat (dj zs lm v 0)))] [])) by
    refine Go.iconst C X d5_2 (n := 3) rfl (v := (0 : Int32)) rfl ?_
    refine Go.iloadN C X d5_3 (n := 4) rfl rfl ?_
    refine Go.icmp_ge C X d5_4 (n1 := 17) (n2 := 7) (by decide) (by decide) rfl (fun hc4 => ?_) (fun hc4 => ?_)
    · rw [dj_no1 (fun q => hc4 ((own_lt (a := 0) (b := lm) (by omega) (by omega)).mpr q))] at k17
      exact k17
    · refine Go.aloadN C X d5_7 (n := 8) rfl rfl rfl ?_
      refine Go.iconst C X d5_8 (n := 9) rfl (v := (0 : Int32)) rfl ?_
      refine Go.ialoadL C X eT V_f (i := 0) rfl (v := .int (Int32.ofInt (zs.getD 0 0))) (own_int zs (by omega)) d5_9 (n := 10) rfl ?_
      refine Go.iloadN C X d5_10 (n := 11) rfl rfl ?_
      refine Go.icmp_ne C X d5_11 (n1 := 17) (n2 := 14) (by decide) (by decide) rfl (fun hc11 => ?_) (fun hc11 => ?_)
      · rw [dj_no2 (fun q => hc11 (own_zn q))] at k17
        exact k17
      · refine Go.iinc C X d5_14 (n := 17) rfl (v := (1 : Int32)) rfl rfl (l' := #[.val (.ref f), .val (.int (Int32.ofNat lm)), .val (.int (Int32.ofNat v)), .val (.int ((Int32.ofNat 0) + (1 : Int32)))]) rfl ?_
        rw [own_sucI]
        rw [dj_yes ((own_lt (a := 0) (b := lm) (by omega) (by omega)).mp hc4) ((own_zeq (by have := hz 0; omega) (by have := hz 0; omega) (by omega)).mp hc11)] at k17
        exact k17
  suffices k32 : Go p e below (EndQ s _ _ _) (T.setTop (mkF m 32 #[.val (.ref f), .val (.int (Int32.ofNat lm)), .val (.int (Int32.ofNat v)), .val (.int (Int32.ofNat ((dj zs lm v 0) + dj zs lm v 1)))] [])) by
    refine Go.iconst C X d5_17 (n := 18) rfl (v := (1 : Int32)) rfl ?_
    refine Go.iloadN C X d5_18 (n := 19) rfl rfl ?_
    refine Go.icmp_ge C X d5_19 (n1 := 32) (n2 := 22) (by decide) (by decide) rfl (fun hc19 => ?_) (fun hc19 => ?_)
    · rw [dj_no1 (fun q => hc19 ((own_lt (a := 1) (b := lm) (by omega) (by omega)).mpr q))] at k32
      exact k32
    · refine Go.aloadN C X d5_22 (n := 23) rfl rfl rfl ?_
      refine Go.iconst C X d5_23 (n := 24) rfl (v := (1 : Int32)) rfl ?_
      refine Go.ialoadL C X eT V_f (i := 1) rfl (v := .int (Int32.ofInt (zs.getD 1 0))) (own_int zs (by omega)) d5_24 (n := 25) rfl ?_
      refine Go.iloadN C X d5_25 (n := 26) rfl rfl ?_
      refine Go.icmp_ne C X d5_26 (n1 := 32) (n2 := 29) (by decide) (by decide) rfl (fun hc26 => ?_) (fun hc26 => ?_)
      · rw [dj_no2 (fun q => hc26 (own_zn q))] at k32
        exact k32
      · refine Go.iinc C X d5_29 (n := 32) rfl (v := (1 : Int32)) rfl rfl (l' := #[.val (.ref f), .val (.int (Int32.ofNat lm)), .val (.int (Int32.ofNat v)), .val (.int ((Int32.ofNat (dj zs lm v 0)) + (1 : Int32)))]) rfl ?_
        rw [own_sucI]
        rw [dj_yes ((own_lt (a := 1) (b := lm) (by omega) (by omega)).mp hc19) ((own_zeq (by have := hz 1; omega) (by have := hz 1; omega) (by omega)).mp hc26)] at k32
        exact k32
  suffices k47 : Go p e below (EndQ s _ _ _) (T.setTop (mkF m 47 #[.val (.ref f), .val (.int (Int32.ofNat lm)), .val (.int (Int32.ofNat v)), .val (.int (Int32.ofNat (((dj zs lm v 0) + dj zs lm v 1) + dj zs lm v 2)))] [])) by
    refine Go.iconst C X d5_32 (n := 33) rfl (v := (2 : Int32)) rfl ?_
    refine Go.iloadN C X d5_33 (n := 34) rfl rfl ?_
    refine Go.icmp_ge C X d5_34 (n1 := 47) (n2 := 37) (by decide) (by decide) rfl (fun hc34 => ?_) (fun hc34 => ?_)
    · rw [dj_no1 (fun q => hc34 ((own_lt (a := 2) (b := lm) (by omega) (by omega)).mpr q))] at k47
      exact k47
    · refine Go.aloadN C X d5_37 (n := 38) rfl rfl rfl ?_
      refine Go.iconst C X d5_38 (n := 39) rfl (v := (2 : Int32)) rfl ?_
      refine Go.ialoadL C X eT V_f (i := 2) rfl (v := .int (Int32.ofInt (zs.getD 2 0))) (own_int zs (by omega)) d5_39 (n := 40) rfl ?_
      refine Go.iloadN C X d5_40 (n := 41) rfl rfl ?_
      refine Go.icmp_ne C X d5_41 (n1 := 47) (n2 := 44) (by decide) (by decide) rfl (fun hc41 => ?_) (fun hc41 => ?_)
      · rw [dj_no2 (fun q => hc41 (own_zn q))] at k47
        exact k47
      · refine Go.iinc C X d5_44 (n := 47) rfl (v := (1 : Int32)) rfl rfl (l' := #[.val (.ref f), .val (.int (Int32.ofNat lm)), .val (.int (Int32.ofNat v)), .val (.int ((Int32.ofNat ((dj zs lm v 0) + dj zs lm v 1)) + (1 : Int32)))]) rfl ?_
        rw [own_sucI]
        rw [dj_yes ((own_lt (a := 2) (b := lm) (by omega) (by omega)).mp hc34) ((own_zeq (by have := hz 2; omega) (by have := hz 2; omega) (by omega)).mp hc41)] at k47
        exact k47
  suffices k62 : Go p e below (EndQ s _ _ _) (T.setTop (mkF m 62 #[.val (.ref f), .val (.int (Int32.ofNat lm)), .val (.int (Int32.ofNat v)), .val (.int (Int32.ofNat ((((dj zs lm v 0) + dj zs lm v 1) + dj zs lm v 2) + dj zs lm v 3)))] [])) by
    refine Go.iconst C X d5_47 (n := 48) rfl (v := (3 : Int32)) rfl ?_
    refine Go.iloadN C X d5_48 (n := 49) rfl rfl ?_
    refine Go.icmp_ge C X d5_49 (n1 := 62) (n2 := 52) (by decide) (by decide) rfl (fun hc49 => ?_) (fun hc49 => ?_)
    · rw [dj_no1 (fun q => hc49 ((own_lt (a := 3) (b := lm) (by omega) (by omega)).mpr q))] at k62
      exact k62
    · refine Go.aloadN C X d5_52 (n := 53) rfl rfl rfl ?_
      refine Go.iconst C X d5_53 (n := 54) rfl (v := (3 : Int32)) rfl ?_
      refine Go.ialoadL C X eT V_f (i := 3) rfl (v := .int (Int32.ofInt (zs.getD 3 0))) (own_int zs (by omega)) d5_54 (n := 55) rfl ?_
      refine Go.iloadN C X d5_55 (n := 56) rfl rfl ?_
      refine Go.icmp_ne C X d5_56 (n1 := 62) (n2 := 59) (by decide) (by decide) rfl (fun hc56 => ?_) (fun hc56 => ?_)
      · rw [dj_no2 (fun q => hc56 (own_zn q))] at k62
        exact k62
      · refine Go.iinc C X d5_59 (n := 62) rfl (v := (1 : Int32)) rfl rfl (l' := #[.val (.ref f), .val (.int (Int32.ofNat lm)), .val (.int (Int32.ofNat v)), .val (.int ((Int32.ofNat (((dj zs lm v 0) + dj zs lm v 1) + dj zs lm v 2)) + (1 : Int32)))]) rfl ?_
        rw [own_sucI]
        rw [dj_yes ((own_lt (a := 3) (b := lm) (by omega) (by omega)).mp hc49) ((own_zeq (by have := hz 3; omega) (by have := hz 3; omega) (by omega)).mp hc56)] at k62
        exact k62
  refine Go.iloadN C X d5_62 (n := 63) rfl rfl ?_
  refine Go.retI C X eT d5_63 (by decide) (by decide) ?_
  exact ⟨rfl, rfl, rfl⟩
set_option maxRecDepth 65536 in
set_option maxHeartbeats 40000000 in
theorem rm1 (l : Launch) (Z : State) (a0 : Array Value) (hw : ∀ d ∈ tables_1, d.before a0 Z = true) (n0 : Nat) (h0 : Heap) (q : Int32) (vs : Nat) (hvs : vs ≤ 5) :
    Ctr l Z (⟨"com/example/libsymtree/libsymtree/PreimagesOfPinLaw", "entry", "(II)I"⟩ : MethodName) method_2_code 2 (some .int) ({ frames := 0, cells := 0, slots := 0, locals := 0 } : Room) #[(.int q), (.int (Int32.ofNat vs))] h0 (fun v h L => ∃ z : Int, v = some (.int (Int32.ofInt z)) ∧ L = [] ∧ h = h0 ∧ -1 ≤ z ∧ z < vs) := by
  refine Ctr.mk (plainFor_of_name pn_0) (ls := #[.val (.int q), .val (.int (Int32.ofNat vs))]) (fun m => by first | (simp [entryFrame, mkF, argsToLocals, Value.category]; done) | rfl) ?_
  intro p e s m below meth c T C X eT hs0
  have N := Fr.nil n0
  show Go p e below _ (T.setTop (mkF m 0 #[.val (.int q), .val (.int (Int32.ofNat vs))] []))
  refine Go.iloadN C X d1_0 (n := 1) rfl rfl ?_
  refine Go.ldcI C X (wd hw 0 rfl) d1_1 (n := 3) rfl ?_
  refine Go.iand C X d1_3 (n := 4) rfl ?_
  refine Go.iloadN C X d1_4 (n := 5) rfl rfl ?_
  refine Go.iconst C X d1_5 (n := 6) rfl (v := (1 : Int32)) rfl ?_
  refine Go.iadd C X d1_6 (n := 7) rfl ?_
  rw [own_sucI]
  show Go p e below _ (T.setTop (mkF m 7 #[.val (.int q), .val (.int (Int32.ofNat vs))] [(.int (Int32.ofNat (vs + 1))), (.int (q &&& (2147483647 : Int32)))]))
  refine Go.irem C X d1_7 (n := 8) rfl (own_nzI (by omega)) ?_
  obtain ⟨r, hr, qr⟩ := own_small q (Int32.ofNat (vs + 1)) (vs + 1) (own_toI (by omega)) (by omega)
  rw [qr]
  show Go p e below _ (T.setTop (mkF m 8 #[.val (.int q), .val (.int (Int32.ofNat vs))] [(.int (Int32.ofNat r))]))
  refine Go.iconst C X d1_8 (n := 9) rfl (v := (1 : Int32)) rfl ?_
  refine Go.isub C X d1_9 (n := 10) rfl ?_
  rw [own_predI]
  show Go p e below _ (T.setTop (mkF m 10 #[.val (.int q), .val (.int (Int32.ofNat vs))] [(.int (Int32.ofInt ((r : Int) - 1)))]))
  refine Go.retI C X eT d1_10 (by decide) (by decide) ?_
  exact ⟨(r : Int) - 1, rfl, rfl, rfl, by omega, by omega⟩
theorem pd_0 : parseMethodDescriptor "([III)I" = some ⟨[(.array .int), .int, .int], some .int⟩ := by decide +kernel
theorem own_ref {as : List Addr} {v : Nat} (h : v < as.length) : (as.map Value.ref)[v]? = some (.ref (as.getD v 0)) := by simp [List.getD_eq_getElem?_getD, h]
set_option maxRecDepth 65536 in
set_option maxHeartbeats 40000000 in
theorem rm3 (l : Launch) (Z : State) (a0 : Array Value) (hw : ∀ d ∈ tables_1, d.before a0 Z = true) (n0 : Nat) (h0 : Heap) (r f : Addr) (zs : List Int) (as : List Addr) (vs v n : Nat) (hv : v < 6) (hl4 : zs.length = 4) (hz : ∀ j, -1 ≤ zs.getD j 0 ∧ zs.getD j 0 < 6) (V_r : Ara Z h0 r (as.map .ref)) (hn : n ≤ 4) (has : as.length = vs) (hvs : vs ≤ 5) (RH : RowsH Z h0 as (rowP zs n)) (V_f : Arl Z h0 f .int (zs.map zI)) :
    Ctr l Z (⟨"com/example/libsymtree/libsymtree/PreimagesOfPinLaw", "row", "([[III[II)Z"⟩ : MethodName) method_4_code 5 (some .boolean) ({ frames := 1, cells := 0, slots := 0, locals := 16 } : Room) #[(.ref r), (.int (Int32.ofNat vs)), (.int (Int32.ofNat v)), (.ref f), (.int (Int32.ofNat n))] h0 (fun v' h L => v' = some (.int 1) ∧ L = [] ∧ h = h0) := by
  refine Ctr.mk (plainFor_of_name pn_0) (ls := #[.val (.ref r), .val (.int (Int32.ofNat vs)), .val (.int (Int32.ofNat v)), .val (.ref f), .val (.int (Int32.ofNat n))]) (fun m => by first | (simp [entryFrame, mkF, argsToLocals, Value.category]; done) | rfl) ?_
  intro p e s m below meth c T C X eT hs0
  have N := Fr.nil n0
  show Go p e below _ (T.setTop (mkF m 0 #[.val (.ref r), .val (.int (Int32.ofNat vs)), .val (.int (Int32.ofNat v)), .val (.ref f), .val (.int (Int32.ofNat n))] []))
  refine Go.iloadN C X d3_0 (n := 1) rfl rfl ?_
  refine Go.iloadN C X d3_1 (n := 2) rfl rfl ?_
  refine Go.icmp_lt C X d3_2 (n1 := 7) (n2 := 5) (by decide) (by decide) rfl (fun hc2 => ?_) (fun hc2 => ?_)
  · refine Go.aloadN C X d3_7 (n := 8) rfl rfl rfl ?_
    refine Go.iloadN C X d3_8 (n := 9) rfl rfl ?_
    have hv' : v < vs := (own_lt (by omega) (by omega)).mp hc2
    refine Go.aaloadL C X eT rfl V_r.arl (i := v) (own_toI (by omega)) (v := .ref (as.getD v 0)) (own_ref (by omega)) d3_9 (n := 10) rfl ?_
    refine Go.ifnullR C X d3_10 (n := 13) rfl ?_
    refine Go.aloadN C X d3_13 (n := 14) rfl rfl rfl ?_
    refine Go.iloadN C X d3_14 (n := 15) rfl rfl ?_
    refine Go.aaloadL C X eT rfl V_r.arl (i := v) (own_toI (by omega)) (v := .ref (as.getD v 0)) (own_ref (by omega)) d3_15 (n := 16) rfl ?_
    have hv' : v < vs := (own_lt (by omega) (by omega)).mp hc2
    have hle := cntP_le zs n v
    refine Go.lengthL C X eT (RH v (by omega)) (z := (Int32.ofNat (cntP zs n v))) (by rw [own_toI (by omega)]; simp [cntP]) d3_16 (n := 17) rfl ?_
    refine Go.aloadN C X d3_17 (n := 18) rfl rfl rfl ?_
    refine Go.iload C X d3_18 (n := 20) rfl rfl ?_
    refine Go.iloadN C X d3_20 (n := 21) rfl rfl ?_
    refine Go.stat C X eT (argsL := [(.ref f), (.int (Int32.ofNat n)), (.int (Int32.ofNat v))]) (rest := [(.int (Int32.ofNat (cntP zs n v)))]) (rm5 l Z a0 hw n0 _ f zs n v hl4 hz hn hv V_f) (wd hw 19 rfl) (wd hw 20 rfl) (wd hw 4 rfl) (wd hw 21 rfl) (by decide) (lenOf pd_0 rfl) rfl d3_21 (n := 24) rfl rfl (by decide) (W := 1) rfl (by decide) (by decide) (by decide) ?_
    clear X eT
    intro T h' v L X eT hQ
    obtain ⟨rfl, rfl, hE⟩ := hQ
    replace hE := hE.symm
    subst hE
    replace N := N.app (Fr.nil n0)
    rw [cnt_eq zs v hn]
    show Go p e below _ (T.setTop (mkF m 24 #[.val (.ref r), .val (.int (Int32.ofNat vs)), .val (.int (Int32.ofNat v)), .val (.ref f), .val (.int (Int32.ofNat n))] [(.int (Int32.ofNat (cntP zs n v))), (.int (Int32.ofNat (cntP zs n v)))]))
    refine Go.icmp_ne C X d3_24 (n1 := 31) (n2 := 27) (by decide) (by decide) rfl (fun hc24 => ?_) (fun hc24 => ?_)
    · exact absurd rfl hc24
    · refine Go.iconst C X d3_27 (n := 28) rfl (v := (1 : Int32)) rfl ?_
      refine Go.goto C X d3_28 (n := 32) (by decide) (by decide) ?_
      refine Go.retN C X eT (Or.inl rfl) (w := (1 : Int32)) (by decide) d3_32 (by decide) (by decide) ?_
      exact ⟨rfl, by simp, rfl⟩
  · refine Go.iconst C X d3_5 (n := 6) rfl (v := (1 : Int32)) rfl ?_
    refine Go.retN C X eT (Or.inl rfl) (w := (1 : Int32)) (by decide) d3_6 (by decide) (by decide) ?_
    exact ⟨rfl, by simp, rfl⟩
set_option maxRecDepth 65536 in
set_option maxHeartbeats 40000000 in
theorem rm4 (l : Launch) (Z : State) (a0 : Array Value) (hw : ∀ d ∈ tables_1, d.before a0 Z = true) (n0 : Nat) (h0 : Heap) (r f : Addr) (zs : List Int) (as : List Addr) (vs n i : Nat) (hi : i < 4) (hzv : ∀ j, j < 4 → zs.getD j 0 < vs) (hl4 : zs.length = 4) (hz : ∀ j, -1 ≤ zs.getD j 0 ∧ zs.getD j 0 < 6) (V_r : Ara Z h0 r (as.map .ref)) (hn : n ≤ 4) (has : as.length = vs) (hvs : vs ≤ 5) (RH : RowsH Z h0 as (rowP zs n)) (V_f : Arl Z h0 f .int (zs.map zI)) :
    Ctr l Z (⟨"com/example/libsymtree/libsymtree/PreimagesOfPinLaw", "at", "([[I[III)Z"⟩ : MethodName) method_5_code 7 (some .boolean) ({ frames := 1, cells := 0, slots := 0, locals := 15 } : Room) #[(.ref r), (.ref f), (.int (Int32.ofNat n)), (.int (Int32.ofNat i))] h0 (fun v' h L => v' = some (.int 1) ∧ L = [] ∧ h = h0) := by
  refine Ctr.mk (plainFor_of_name pn_0) (ls := #[.val (.ref r), .val (.ref f), .val (.int (Int32.ofNat n)), .val (.int (Int32.ofNat i)), .unset, .unset, .unset]) (fun m => by first | (simp [entryFrame, mkF, argsToLocals, Value.category]; done) | rfl) ?_
  intro p e s m below meth c T C X eT hs0
  have N := Fr.nil n0
  show Go p e below _ (T.setTop (mkF m 0 #[.val (.ref r), .val (.ref f), .val (.int (Int32.ofNat n)), .val (.int (Int32.ofNat i)), .unset, .unset, .unset] []))
  refine Go.iloadN C X d4_0 (n := 1) rfl rfl ?_
  refine Go.iloadN C X d4_1 (n := 2) rfl rfl ?_
  refine Go.icmp_lt C X d4_2 (n1 := 7) (n2 := 5) (by decide) (by decide) rfl (fun hc2 => ?_) (fun hc2 => ?_)
  · refine Go.aloadN C X d4_7 (n := 8) rfl rfl rfl ?_
    refine Go.iloadN C X d4_8 (n := 9) rfl rfl ?_
    have hi' : i < n := (own_lt (by omega) (by omega)).mp hc2
    have hzi := hz i
    refine Go.ialoadL C X eT V_f (i := i) (own_toI (by omega)) (v := .int (Int32.ofInt (zs.getD i 0))) (own_int zs (by omega)) d4_9 (n := 10) rfl ?_
    refine Go.istore C X d4_10 (n := 12) rfl (l' := #[.val (.ref r), .val (.ref f), .val (.int (Int32.ofNat n)), .val (.int (Int32.ofNat i)), .val (.int (Int32.ofInt (zs.getD i 0))), .unset, .unset]) rfl ?_
    refine Go.iload C X d4_12 (n := 14) rfl rfl ?_
    refine Go.if0_ge C X d4_14 (n1 := 19) (n2 := 17) (by decide) (by decide) rfl (fun hc14 => ?_) (fun hc14 => ?_)
    · obtain ⟨v, hv⟩ : ∃ v : Nat, zs.getD i 0 = (v : Int) := ⟨(zs.getD i 0).toNat, by rw [own_zneg (by omega) (by omega)] at hc14; omega⟩
      rw [own_zn hv]
      have hvv := hzv i (by omega)
      show Go p e below _ (T.setTop (mkF m 19 #[.val (.ref r), .val (.ref f), .val (.int (Int32.ofNat n)), .val (.int (Int32.ofNat i)), .val (.int (Int32.ofNat v)), .unset, .unset] []))
      refine Go.aloadN C X d4_19 (n := 20) rfl rfl rfl ?_
      refine Go.iload C X d4_20 (n := 22) rfl rfl ?_
      refine Go.aaloadL C X eT rfl V_r.arl (i := v) (own_toI (by omega)) (v := .ref (as.getD v 0)) (own_ref (by omega)) d4_22 (n := 23) rfl ?_
      refine Go.astore C X d4_23 (n := 25) rfl rfl (l' := #[.val (.ref r), .val (.ref f), .val (.int (Int32.ofNat n)), .val (.int (Int32.ofNat i)), .val (.int (Int32.ofNat v)), .val (.ref (as.getD v 0)), .unset]) rfl ?_
      refine Go.aload C X d4_25 (n := 27) rfl rfl rfl ?_
      refine Go.ifnonnullR C X d4_27 (n := 32) (by decide) (by decide) ?_
      refine Go.aloadN C X d4_32 (n := 33) rfl rfl rfl ?_
      refine Go.iloadN C X d4_33 (n := 34) rfl rfl ?_
      refine Go.iload C X d4_34 (n := 36) rfl rfl ?_
      refine Go.stat C X eT (argsL := [(.ref f), (.int (Int32.ofNat i)), (.int (Int32.ofNat v))]) (rest := []) (rm5 l Z a0 hw n0 _ f zs i v hl4 hz (by omega) (by omega) V_f) (wd hw 19 rfl) (wd hw 20 rfl) (wd hw 4 rfl) (wd hw 21 rfl) (by decide) (lenOf pd_0 rfl) rfl d4_36 (n := 39) rfl rfl (by decide) (W := 0) rfl (by decide) (by decide) (by decide) ?_
      clear X eT
      intro T h' v L X eT hQ
      obtain ⟨rfl, rfl, hE⟩ := hQ
      replace hE := hE.symm
      subst hE
      replace N := N.app (Fr.nil n0)
      rw [cnt_eq zs v (by omega)]
      show Go p e below _ (T.setTop (mkF m 39 #[.val (.ref r), .val (.ref f), .val (.int (Int32.ofNat n)), .val (.int (Int32.ofNat i)), .val (.int (Int32.ofNat v)), .val (.ref (as.getD v 0)), .unset] [(.int (Int32.ofNat (cntP zs i v)))]))
      have hlt := cntP_lt hv hi'
      have hle := cntP_le zs n v
      refine Go.istore C X d4_39 (n := 41) rfl (l' := #[.val (.ref r), .val (.ref f), .val (.int (Int32.ofNat n)), .val (.int (Int32.ofNat i)), .val (.int (Int32.ofNat v)), .val (.ref (as.getD v 0)), .val (.int (Int32.ofNat (cntP zs i v)))]) rfl ?_
      refine Go.iload C X d4_41 (n := 43) rfl rfl ?_
      refine Go.aload C X d4_43 (n := 45) rfl rfl rfl ?_
      refine Go.lengthL C X eT (RH v (by omega)) (z := (Int32.ofNat (cntP zs n v))) (by rw [own_toI (by omega)]; simp [cntP]) d4_45 (n := 46) rfl ?_
      refine Go.icmp_ge C X d4_46 (n1 := 62) (n2 := 49) (by decide) (by decide) rfl (fun hc46 => ?_) (fun hc46 => ?_)
      · exact absurd ((own_lt (by omega) (by omega)).mpr hlt) hc46
      · refine Go.aload C X d4_49 (n := 51) rfl rfl rfl ?_
        refine Go.iload C X d4_51 (n := 53) rfl rfl ?_
        refine Go.ialoadL C X eT (RH v (by omega)) (i := (cntP zs i v)) (own_toI (by omega)) (v := .int (Int32.ofNat i)) (by rw [List.getElem?_map, row_at hv hi']; rfl) d4_53 (n := 54) rfl ?_
        refine Go.iloadN C X d4_54 (n := 55) rfl rfl ?_
        refine Go.icmp_ne C X d4_55 (n1 := 62) (n2 := 58) (by decide) (by decide) rfl (fun hc55 => ?_) (fun hc55 => ?_)
        · exact absurd rfl hc55
        · refine Go.iconst C X d4_58 (n := 59) rfl (v := (1 : Int32)) rfl ?_
          refine Go.goto C X d4_59 (n := 63) (by decide) (by decide) ?_
          refine Go.retN C X eT (Or.inl rfl) (w := (1 : Int32)) (by decide) d4_63 (by decide) (by decide) ?_
          exact ⟨rfl, by simp, rfl⟩
    · refine Go.iconst C X d4_17 (n := 18) rfl (v := (1 : Int32)) rfl ?_
      refine Go.retN C X eT (Or.inl rfl) (w := (1 : Int32)) (by decide) d4_18 (by decide) (by decide) ?_
      exact ⟨rfl, by simp, rfl⟩
  · refine Go.iconst C X d4_5 (n := 6) rfl (v := (1 : Int32)) rfl ?_
    refine Go.retN C X eT (Or.inl rfl) (w := (1 : Int32)) (by decide) d4_6 (by decide) (by decide) ?_
    exact ⟨rfl, by simp, rfl⟩
set_option maxRecDepth 65536 in
set_option maxHeartbeats 40000000 in
theorem loop_a {p : Program} {l : Launch} {e : Env} {R : Room} {s : State} {m : MethodId} {args : Array Value} {below : List Frame} {meth : Method} {c : Code} {Z : State} {K : Outcome → State → Prop} {n0 : Nat} {f sz : Addr} {zs : List Int} {vs cells slots : Nat} (g_sz : n0 ≤ sz) (ne_f_sz : f ≠ sz) (hn4 : zs.length ≤ 4) (hvs : vs ≤ 5) (hz : ∀ j, j < zs.length → -1 ≤ zs.getD j 0 ∧ zs.getD j 0 < vs) (k : Nat) : ∀ (i : Nat) {s6 : Slot} {T : State} {locs : List Loc} {h : Heap}, i + k = zs.length →
    Cx p s m meth c Z "com/example/libsymtree/libsymtree/Preimages" prog_46_method_2_code 7 (some (.array (.array .int))) "of" → Stand p l e R s m args below meth c T locs cells slots → T.heap = h → Arl Z h f .int (zs.map zI) → Arl Z h sz .int ((szs zs vs i).map nI) → Fr n0 locs → (s6 = .unset ∨ ∃ w, s6 = .val w ∧ w.category = 1) →
    (∀ T' h' locs' s6', Stand p l e R s m args below meth c T' locs' cells slots → T'.heap = h' → Keep h h' [sz] → Fr n0 locs' → Arl Z h' sz .int ((szs zs vs zs.length).map nI) → (s6' = .unset ∨ ∃ w, s6' = .val w ∧ w.category = 1) → Go p e below K (T'.setTop (mkF m 45 #[.val (.int (Int32.ofNat vs)), .val (.ref f), .val (.ref sz), .val (.ref f), .val (.int (Int32.ofNat zs.length)), .val (.int (Int32.ofNat zs.length)), s6'] []))) →
    Go p e below K (T.setTop (mkF m 13 #[.val (.int (Int32.ofNat vs)), .val (.ref f), .val (.ref sz), .val (.ref f), .val (.int (Int32.ofNat zs.length)), .val (.int (Int32.ofNat i)), s6] [])) := by
  induction k with
  | zero =>
    intro i s6 T locs h hk C X eT V_f V_sz N hs6 kk
    show Go p e below _ (T.setTop (mkF m 13 #[.val (.int (Int32.ofNat vs)), .val (.ref f), .val (.ref sz), .val (.ref f), .val (.int (Int32.ofNat zs.length)), .val (.int (Int32.ofNat i)), s6] []))
    refine Go.iload C X d2_13 (n := 15) rfl rfl ?_
    refine Go.iload C X d2_15 (n := 17) rfl rfl ?_
    refine Go.icmp_ge C X d2_17 (n1 := 45) (n2 := 20) (by decide) (by decide) rfl (fun hc17 => ?_) (fun hc17 => ?_)
    · obtain rfl : i = zs.length := by omega
      exact kk _ _ _ _ X eT (Keep.refl _ _) N V_sz hs6
    · exact absurd ((own_lt (by omega) (by omega)).mp hc17) (by omega)
  | succ k ih =>
    intro i s6 T locs h hk C X eT V_f V_sz N hs6 kk
    show Go p e below _ (T.setTop (mkF m 13 #[.val (.int (Int32.ofNat vs)), .val (.ref f), .val (.ref sz), .val (.ref f), .val (.int (Int32.ofNat zs.length)), .val (.int (Int32.ofNat i)), s6] []))
    have hzi := hz i (by omega)
    refine Go.iload C X d2_13 (n := 15) rfl rfl ?_
    refine Go.iload C X d2_15 (n := 17) rfl rfl ?_
    refine Go.icmp_ge C X d2_17 (n1 := 45) (n2 := 20) (by decide) (by decide) rfl (fun hc17 => ?_) (fun hc17 => ?_)
    · exact absurd ((own_lt (by omega) (by omega)).mpr (by omega)) hc17
    · refine Go.aloadN C X d2_20 (n := 21) rfl rfl rfl ?_
      refine Go.iload C X d2_21 (n := 23) rfl rfl ?_
      refine Go.ialoadL C X eT V_f (i := i) (own_toI (by omega)) (v := .int (Int32.ofInt (zs.getD i 0))) (own_int zs (by omega)) d2_23 (n := 24) rfl ?_
      refine Go.istore C X d2_24 (n := 26) rfl (l' := #[.val (.int (Int32.ofNat vs)), .val (.ref f), .val (.ref sz), .val (.ref f), .val (.int (Int32.ofNat zs.length)), .val (.int (Int32.ofNat i)), .val (.int (Int32.ofInt (zs.getD i 0)))]) (XS.store1 rfl hs6 rfl) ?_
      refine Go.iload C X d2_26 (n := 28) rfl rfl ?_
      refine Go.if0_lt C X d2_28 (n1 := 39) (n2 := 31) (by decide) (by decide) rfl (fun hc28 => ?_) (fun hc28 => ?_)
      · rw [own_zneg (by omega) (by omega)] at hc28
        refine Go.iinc C X d2_39 (n := 42) rfl (v := (1 : Int32)) rfl rfl (l' := #[.val (.int (Int32.ofNat vs)), .val (.ref f), .val (.ref sz), .val (.ref f), .val (.int (Int32.ofNat zs.length)), .val (.int ((Int32.ofNat i) + (1 : Int32))), .val (.int (Int32.ofInt (zs.getD i 0)))]) rfl ?_
        refine Go.goto C X d2_42 (n := 13) (by decide) (by decide) ?_
        rw [own_sucI]
        rw [szs_miss hc28] at V_sz
        exact ih (i + 1) (by omega) C X eT V_f V_sz N (Or.inr ⟨_, rfl, rfl⟩) kk
      · rw [own_zneg (by omega) (by omega)] at hc28
        obtain ⟨v, hv⟩ : ∃ v : Nat, zs.getD i 0 = (v : Int) := ⟨(zs.getD i 0).toNat, by omega⟩
        rw [own_zn hv]
        show Go p e below _ (T.setTop (mkF m 31 #[.val (.int (Int32.ofNat vs)), .val (.ref f), .val (.ref sz), .val (.ref f), .val (.int (Int32.ofNat zs.length)), .val (.int (Int32.ofNat i)), .val (.int (Int32.ofNat v))] []))
        refine Go.aloadN C X d2_31 (n := 32) rfl rfl rfl ?_
        refine Go.iload C X d2_32 (n := 34) rfl rfl ?_
        refine Go.dup2 C X d2_34 (n := 35) rfl rfl rfl ?_
        refine Go.ialoadL C X eT V_sz (i := v) (own_toI (by omega)) (v := .int (Int32.ofNat (cntP zs i v))) (by rw [own_nat _ (by rw [szs_len]; omega), szs_at _ _ (by omega)]; rfl) d2_35 (n := 36) rfl ?_
        refine Go.iconst C X d2_36 (n := 37) rfl (v := (1 : Int32)) rfl ?_
        refine Go.iadd C X d2_37 (n := 38) rfl ?_
        rw [own_sucI]
        show Go p e below _ (T.setTop (mkF m 38 #[.val (.int (Int32.ofNat vs)), .val (.ref f), .val (.ref sz), .val (.ref f), .val (.int (Int32.ofNat zs.length)), .val (.int (Int32.ofNat i)), .val (.int (Int32.ofNat v))] [(.int (Int32.ofNat (cntP zs i v + 1))), (.int (Int32.ofNat v)), (.ref sz)]))
        refine Go.iastoreL C X eT V_sz (i := v) (own_toI (by omega)) (by simp [szs_len]; omega) d2_38 (n := 39) rfl ?_
        clear X eT
        intro T h X eT W V_new
        replace V_f := V_f.other W ne_f_sz
        clear V_sz
        have V_sz : Arl Z h sz .int ((szs zs vs (i + 1)).map nI) := by rw [own_setI, szs_hit hv (by omega)] at V_new; exact V_new
        have K1 := Keep.of_wr W
        clear V_new
        replace N := Fr.snoc X N g_sz
        refine Go.iinc C X d2_39 (n := 42) rfl (v := (1 : Int32)) rfl rfl (l' := #[.val (.int (Int32.ofNat vs)), .val (.ref f), .val (.ref sz), .val (.ref f), .val (.int (Int32.ofNat zs.length)), .val (.int ((Int32.ofNat i) + (1 : Int32))), .val (.int (Int32.ofNat v))]) rfl ?_
        refine Go.goto C X d2_42 (n := 13) (by decide) (by decide) ?_
        rw [own_sucI]
        refine ih (i + 1) (by omega) C X eT V_f V_sz N (Or.inr ⟨_, rfl, rfl⟩) ?_
        intro T' h' locs' s6' X' e' K2 N' V' o'
        exact kk _ _ _ _ X' e' (K1.trans K2 (fun x hx => Or.inl hx)) N' V' o'
theorem own_setref {as : List Addr} {j vs : Nat} {b : Addr} (hj : as.length = j) (h : j < vs) : (as.map Value.ref ++ List.replicate (vs - j) Value.null).set j (.ref b) = (as ++ [b]).map .ref ++ List.replicate (vs - (j + 1)) .null := by
  obtain ⟨k, hk⟩ : ∃ k, vs - j = k + 1 := ⟨vs - j - 1, by omega⟩
  rw [List.set_append_right _ _ (by simp; omega), hk, show vs - (j + 1) = k by omega]
  simp [hj, List.replicate_succ]
theorem own_push {P : Addr → Prop} {as : List Addr} {b : Addr} (h : ∀ v, v < as.length → P (as.getD v 0)) (hb : P b) : ∀ v, v < (as ++ [b]).length → P ((as ++ [b]).getD v 0) := fun v hv => by
  by_cases e : v < as.length
  · rw [List.getD_eq_getElem?_getD, List.getElem?_append_left e, ← List.getD_eq_getElem?_getD]; exact h v e
  · have e2 : v = as.length := by simp at hv; omega
    subst e2; simpa [List.getD_eq_getElem?_getD] using hb
theorem own_pushd {as : List Addr} {b : Addr} (h : ∀ v w, v < as.length → w < as.length → v ≠ w → as.getD v 0 ≠ as.getD w 0) (hb : ∀ v, v < as.length → as.getD v 0 ≠ b) : ∀ v w, v < (as ++ [b]).length → w < (as ++ [b]).length → v ≠ w → (as ++ [b]).getD v 0 ≠ (as ++ [b]).getD w 0 := fun v w hv hw ne => by
  simp at hv hw
  have q : ∀ u, u < as.length → (as ++ [b]).getD u 0 = as.getD u 0 := fun u hu => by rw [List.getD_eq_getElem?_getD, List.getElem?_append_left hu, ← List.getD_eq_getElem?_getD]
  have q2 : (as ++ [b]).getD as.length 0 = b := by simp [List.getD_eq_getElem?_getD]
  rcases (by omega : v < as.length ∨ v = as.length) with h1 | h1 <;> rcases (by omega : w < as.length ∨ w = as.length) with h2 | h2
  · rw [q v h1, q w h2]; exact h v w h1 h2 ne
  · subst h2; rw [q v h1, q2]; exact hb v h1
  · subst h1; rw [q w h2, q2]; exact Ne.symm (hb w h2)
  · omega
set_option maxRecDepth 65536 in
set_option maxHeartbeats 40000000 in
theorem loop_b {p : Program} {l : Launch} {e : Env} {R : Room} {s : State} {m : MethodId} {args : Array Value} {below : List Frame} {meth : Method} {c : Code} {Z : State} {a0 : Array Value} {K : Outcome → State → Prop} {n0 : Nat} {h0 : Heap} {f sz pr : Addr} {zs : List Int} {vs cells slots : Nat} {s5 s6 : Slot} (hw : ∀ d ∈ tables_1, d.before a0 Z = true) (g_pr : n0 ≤ pr) (s_pr : h0.size ≤ pr) (ne_f_pr : f ≠ pr) (ne_sz_pr : sz ≠ pr) (hRc : cells + 5 ≤ R.cells) (hRs : slots + 20 ≤ R.slots) (hn4 : zs.length ≤ 4) (hvs : vs ≤ 5) (hz : ∀ j, j < zs.length → -1 ≤ zs.getD j 0 ∧ zs.getD j 0 < vs) (k : Nat) : ∀ (j : Nat) {as : List Addr} {T : State} {locs : List Loc} {h : Heap}, j + k = vs →
    Cx p s m meth c Z "com/example/libsymtree/libsymtree/Preimages" prog_46_method_2_code 7 (some (.array (.array .int))) "of" → Stand p l e R s m args below meth c T locs (cells + j) (slots + 4 * j) → T.heap = h → as.length = j → Fr n0 locs → Arl Z h f .int (zs.map zI) → Arl Z h sz .int ((szs zs vs zs.length).map nI) → Ara Z h pr (as.map .ref ++ List.replicate (vs - j) .null) → RowsH Z h as (fun v => List.replicate (cntP zs zs.length v) 0) → Keep h0 h [] → Old Z n0 h → (∀ v, v < as.length → as.getD v 0 ≠ pr) → (∀ v w, v < as.length → w < as.length → v ≠ w → as.getD v 0 ≠ as.getD w 0) → (∀ v, v < as.length → n0 ≤ as.getD v 0) → (∀ v, v < as.length → h0.size ≤ as.getD v 0) →
    (∀ T' h' locs' as, Stand p l e R s m args below meth c T' locs' (cells + j + k) (slots + 4 * j + 4 * k) → T'.heap = h' → Fr n0 locs' → as.length = vs → Arl Z h' f .int (zs.map zI) → Arl Z h' sz .int ((szs zs vs zs.length).map nI) → Ara Z h' pr (as.map .ref) → RowsH Z h' as (fun v => List.replicate (cntP zs zs.length v) 0) → Keep h0 h' [] → Old Z n0 h' → (∀ v, v < as.length → as.getD v 0 ≠ pr) → (∀ v w, v < as.length → w < as.length → v ≠ w → as.getD v 0 ≠ as.getD w 0) → (∀ v, v < as.length → n0 ≤ as.getD v 0) → (∀ v, v < as.length → h0.size ≤ as.getD v 0) → Go p e below K (T'.setTop (mkF m 75 #[.val (.int (Int32.ofNat vs)), .val (.ref f), .val (.ref sz), .val (.ref pr), .val (.int (Int32.ofNat vs)), s5, s6] []))) →
    Go p e below K (T.setTop (mkF m 53 #[.val (.int (Int32.ofNat vs)), .val (.ref f), .val (.ref sz), .val (.ref pr), .val (.int (Int32.ofNat j)), s5, s6] [])) := by
  induction k with
  | zero =>
    intro j as T locs h hk C X eT hj N V_f V_sz V_pr RH KP O hpr hdi hga hsa kk
    show Go p e below _ (T.setTop (mkF m 53 #[.val (.int (Int32.ofNat vs)), .val (.ref f), .val (.ref sz), .val (.ref pr), .val (.int (Int32.ofNat j)), s5, s6] []))
    refine Go.iload C X d2_53 (n := 55) rfl rfl ?_
    refine Go.iloadN C X d2_55 (n := 56) rfl rfl ?_
    refine Go.icmp_ge C X d2_56 (n1 := 75) (n2 := 59) (by decide) (by decide) rfl (fun hc56 => ?_) (fun hc56 => ?_)
    · obtain rfl : j = vs := by omega
      rw [show j - j = 0 by omega, List.replicate_zero, List.append_nil] at V_pr
      exact kk _ _ _ _ X eT N hj V_f V_sz V_pr RH KP O hpr hdi hga hsa
    · exact absurd ((own_lt (by omega) (by omega)).mp hc56) (by omega)
  | succ k ih =>
    intro j as T locs h hk C X eT hj N V_f V_sz V_pr RH KP O hpr hdi hga hsa kk
    show Go p e below _ (T.setTop (mkF m 53 #[.val (.int (Int32.ofNat vs)), .val (.ref f), .val (.ref sz), .val (.ref pr), .val (.int (Int32.ofNat j)), s5, s6] []))
    refine Go.iload C X d2_53 (n := 55) rfl rfl ?_
    refine Go.iloadN C X d2_55 (n := 56) rfl rfl ?_
    refine Go.icmp_ge C X d2_56 (n1 := 75) (n2 := 59) (by decide) (by decide) rfl (fun hc56 => ?_) (fun hc56 => ?_)
    · exact absurd ((own_lt (by omega) (by omega)).mpr (by omega)) hc56
    · refine Go.aloadN C X d2_59 (n := 60) rfl rfl rfl ?_
      refine Go.iload C X d2_60 (n := 62) rfl rfl ?_
      refine Go.aloadN C X d2_62 (n := 63) rfl rfl rfl ?_
      refine Go.iload C X d2_63 (n := 65) rfl rfl ?_
      have hcl := cntP_le zs zs.length j
      refine Go.ialoadL C X eT V_sz (i := j) (own_toI (by omega)) (v := .int (Int32.ofNat (cntP zs zs.length j))) (by rw [own_nat _ (by rw [szs_len]; omega), szs_at _ _ (by omega)]; rfl) d2_65 (n := 66) rfl ?_
      refine Go.newLE C X eT (wd hw 1 rfl) (i := cntP zs zs.length j) (own_toI (by omega)) (cap := 4) (by omega) d2_66 (n := 68) rfl (by decide) (by omega) (by omega) (ad := "[I") (by decide) ?_
      clear X eT
      intro T h b z_b X eT E V_b E_b
      have ne_f_b : f ≠ b := Nat.ne_of_lt (Nat.lt_of_lt_of_le V_f.lt (Nat.le_of_eq z_b.symm))
      have ne_sz_b : sz ≠ b := Nat.ne_of_lt (Nat.lt_of_lt_of_le V_sz.lt (Nat.le_of_eq z_b.symm))
      have ne_pr_b : pr ≠ b := Nat.ne_of_lt (Nat.lt_of_lt_of_le V_pr.lt (Nat.le_of_eq z_b.symm))
      have ne_as_b : ∀ v, v < as.length → as.getD v 0 ≠ b := fun v hv => Nat.ne_of_lt (Nat.lt_of_lt_of_le (RH v hv).lt (Nat.le_of_eq z_b.symm))
      have g_b : n0 ≤ b := by rw [z_b]; exact O.le
      have s_b : h0.size ≤ b := by rw [z_b]; exact KP.1
      replace V_f := V_f.ext E
      replace V_sz := V_sz.ext E
      replace V_pr := V_pr.ext E
      replace RH := RH.ext E
      replace KP := KP.ext E
      replace O := O.ext E
      refine own_aastore C X eT V_pr E_b (i := j) (own_toI (by omega)) (by simp [hj]; omega) d2_68 (n := 69) rfl ?_
      clear X eT
      intro T h X eT W V_new
      replace V_f := V_f.other W ne_f_pr
      replace V_sz := V_sz.other W ne_sz_pr
      replace RH := RH.other W (fun v hv => hpr v hv)
      replace KP := KP.wr W (Or.inr s_pr)
      replace O := O.wr W g_pr
      replace V_b := V_b.other W (Ne.symm ne_pr_b)
      replace E_b := E_b.wr W
      clear V_pr
      have V_pr : Ara Z h pr ((as ++ [b]).map .ref ++ List.replicate (vs - (j + 1)) .null) := by rw [own_setref hj (by omega)] at V_new; exact V_new
      clear V_new
      replace N := Fr.snoc X N g_pr
      refine Go.iinc C X d2_69 (n := 72) rfl (v := (1 : Int32)) rfl rfl (l' := #[.val (.int (Int32.ofNat vs)), .val (.ref f), .val (.ref sz), .val (.ref pr), .val (.int ((Int32.ofNat j) + (1 : Int32))), s5, s6]) rfl ?_
      refine Go.goto C X d2_72 (n := 53) (by decide) (by decide) ?_
      rw [own_sucI]
      refine ih (j + 1) (as := as ++ [b]) (by omega) C X eT (by simp [hj]) N V_f V_sz V_pr (RH.push (by rw [hj, List.map_replicate]; exact V_b)) KP O ?_ ?_ ?_ ?_ ?_
      · exact own_push (P := fun x => x ≠ pr) hpr (Ne.symm ne_pr_b)
      · exact own_pushd hdi ne_as_b
      · exact own_push (P := fun x => n0 ≤ x) hga g_b
      · exact own_push (P := fun x => h0.size ≤ x) hsa s_b
      · intro T' h' locs' as' X' e'
        have e1 : cells + (j + 1) + k = cells + j + (k + 1) := by omega
        have e2 : slots + 4 * (j + 1) + 4 * k = slots + 4 * j + 4 * (k + 1) := by omega
        rw [e1, e2] at X'
        exact kk T' h' locs' as' X' e'
set_option maxRecDepth 65536 in
set_option maxHeartbeats 40000000 in
theorem loop_c {p : Program} {l : Launch} {e : Env} {R : Room} {s : State} {m : MethodId} {args : Array Value} {below : List Frame} {meth : Method} {c : Code} {Z : State} {n0 : Nat} {h0 : Heap} {f sz pr fl : Addr} {zs : List Int} {as : List Addr} {vs cells slots ck sk : Nat} (hck : cells ≤ ck) (hsk : slots ≤ sk) (has : as.length = vs) (g_fl : n0 ≤ fl) (s_fl : h0.size ≤ fl) (ne_f_fl : f ≠ fl) (ne_pr_fl : pr ≠ fl) (hf : ∀ v, v < as.length → as.getD v 0 ≠ f) (hfl : ∀ v, v < as.length → as.getD v 0 ≠ fl) (hpr : ∀ v, v < as.length → as.getD v 0 ≠ pr) (hdi : ∀ v w, v < as.length → w < as.length → v ≠ w → as.getD v 0 ≠ as.getD w 0) (hga : ∀ v, v < as.length → n0 ≤ as.getD v 0) (hsa : ∀ v, v < as.length → h0.size ≤ as.getD v 0) (hn4 : zs.length ≤ 4) (hvs : vs ≤ 5) (hz : ∀ j, j < zs.length → -1 ≤ zs.getD j 0 ∧ zs.getD j 0 < vs) (k : Nat) : ∀ (i : Nat) {s6 : Slot} {T : State} {locs : List Loc} {h : Heap}, i + k = zs.length →
    Cx p s m meth c Z "com/example/libsymtree/libsymtree/Preimages" prog_46_method_2_code 7 (some (.array (.array .int))) "of" → Stand p l e R s m args below meth c T locs cells slots → T.heap = h → Fr n0 locs → Arl Z h f .int (zs.map zI) → Arl Z h fl .int ((szs zs vs i).map nI) → Ara Z h pr (as.map .ref) → RowsH Z h as (rowS zs zs.length i) → Keep h0 h [] → (s6 = .unset ∨ ∃ w, s6 = .val w ∧ w.category = 1) →
    Go p e below (EndQ s (fun v h L => ∃ r as, v = some (.ref r) ∧ Fr n0 L ∧ Keep h0 h [] ∧ as.length = vs ∧ Ara Z h r (as.map .ref) ∧ RowsH Z h as (rowP zs zs.length)) ck sk) (T.setTop (mkF m 83 #[.val (.int (Int32.ofNat vs)), .val (.ref f), .val (.ref sz), .val (.ref pr), .val (.ref fl), .val (.int (Int32.ofNat i)), s6] [])) := by
  induction k with
  | zero =>
    intro i s6 T locs h hk C X eT N V_f V_fl V_pr RH KP hs6
    show Go p e below _ (T.setTop (mkF m 83 #[.val (.int (Int32.ofNat vs)), .val (.ref f), .val (.ref sz), .val (.ref pr), .val (.ref fl), .val (.int (Int32.ofNat i)), s6] []))
    refine Go.iload C X d2_83 (n := 85) rfl rfl ?_
    refine Go.aloadN C X d2_85 (n := 86) rfl rfl rfl ?_
    refine Go.lengthL C X eT V_f (z := (Int32.ofNat zs.length)) (by rw [own_toI (by omega)]; simp) d2_86 (n := 87) rfl ?_
    refine Go.icmp_ge C X d2_87 (n1 := 124) (n2 := 90) (by decide) (by decide) rfl (fun hc87 => ?_) (fun hc87 => ?_)
    · refine Go.aloadN C X d2_124 (n := 125) rfl rfl rfl ?_
      obtain rfl : i = zs.length := by omega
      refine Go.retA C X eT rfl rfl rfl d2_125 hck hsk ?_
      exact ⟨pr, as, rfl, N, KP, has, V_pr, fun v hv => by have q := RH v hv; rw [rowS_end] at q; exact q⟩
    · exact absurd ((own_lt (by omega) (by omega)).mp hc87) (by omega)
  | succ k ih =>
    intro i s6 T locs h hk C X eT N V_f V_fl V_pr RH KP hs6
    show Go p e below _ (T.setTop (mkF m 83 #[.val (.int (Int32.ofNat vs)), .val (.ref f), .val (.ref sz), .val (.ref pr), .val (.ref fl), .val (.int (Int32.ofNat i)), s6] []))
    have hzi := hz i (by omega)
    refine Go.iload C X d2_83 (n := 85) rfl rfl ?_
    refine Go.aloadN C X d2_85 (n := 86) rfl rfl rfl ?_
    refine Go.lengthL C X eT V_f (z := (Int32.ofNat zs.length)) (by rw [own_toI (by omega)]; simp) d2_86 (n := 87) rfl ?_
    refine Go.icmp_ge C X d2_87 (n1 := 124) (n2 := 90) (by decide) (by decide) rfl (fun hc87 => ?_) (fun hc87 => ?_)
    · exact absurd ((own_lt (by omega) (by omega)).mpr (by omega)) hc87
    · refine Go.aloadN C X d2_90 (n := 91) rfl rfl rfl ?_
      refine Go.iload C X d2_91 (n := 93) rfl rfl ?_
      refine Go.ialoadL C X eT V_f (i := i) (own_toI (by omega)) (v := .int (Int32.ofInt (zs.getD i 0))) (own_int zs (by omega)) d2_93 (n := 94) rfl ?_
      refine Go.istore C X d2_94 (n := 96) rfl (l' := #[.val (.int (Int32.ofNat vs)), .val (.ref f), .val (.ref sz), .val (.ref pr), .val (.ref fl), .val (.int (Int32.ofNat i)), .val (.int (Int32.ofInt (zs.getD i 0)))]) (XS.store1 rfl hs6 rfl) ?_
      refine Go.iload C X d2_96 (n := 98) rfl rfl ?_
      refine Go.if0_lt C X d2_98 (n1 := 118) (n2 := 101) (by decide) (by decide) rfl (fun hc98 => ?_) (fun hc98 => ?_)
      · rw [own_zneg (by omega) (by omega)] at hc98
        refine Go.iinc C X d2_118 (n := 121) rfl (v := (1 : Int32)) rfl rfl (l' := #[.val (.int (Int32.ofNat vs)), .val (.ref f), .val (.ref sz), .val (.ref pr), .val (.ref fl), .val (.int ((Int32.ofNat i) + (1 : Int32))), .val (.int (Int32.ofInt (zs.getD i 0)))]) rfl ?_
        refine Go.goto C X d2_121 (n := 83) (by decide) (by decide) ?_
        rw [own_sucI]
        rw [szs_miss hc98] at V_fl
        exact ih (i + 1) (by omega) C X eT N V_f V_fl V_pr (fun u hu => by rw [rowS_miss (fun q => by omega)]; exact RH u hu) KP (Or.inr ⟨_, rfl, rfl⟩)
      · rw [own_zneg (by omega) (by omega)] at hc98
        obtain ⟨v, hv⟩ : ∃ v : Nat, zs.getD i 0 = (v : Int) := ⟨(zs.getD i 0).toNat, by omega⟩
        rw [own_zn hv]
        have hlt := cntP_lt hv (show i < zs.length by omega)
        have hcl := cntP_le zs zs.length v
        show Go p e below _ (T.setTop (mkF m 101 #[.val (.int (Int32.ofNat vs)), .val (.ref f), .val (.ref sz), .val (.ref pr), .val (.ref fl), .val (.int (Int32.ofNat i)), .val (.int (Int32.ofNat v))] []))
        refine Go.aloadN C X d2_101 (n := 102) rfl rfl rfl ?_
        refine Go.iload C X d2_102 (n := 104) rfl rfl ?_
        refine Go.aaloadL C X eT rfl V_pr.arl (i := v) (own_toI (by omega)) (v := .ref (as.getD v 0)) (own_ref (by omega)) d2_104 (n := 105) rfl ?_
        refine Go.aload C X d2_105 (n := 107) rfl rfl rfl ?_
        refine Go.iload C X d2_107 (n := 109) rfl rfl ?_
        refine Go.dup2 C X d2_109 (n := 110) rfl rfl rfl ?_
        refine Go.ialoadL C X eT V_fl (i := v) (own_toI (by omega)) (v := .int (Int32.ofNat (cntP zs i v))) (by rw [own_nat _ (by rw [szs_len]; omega), szs_at _ _ (by omega)]; rfl) d2_110 (n := 111) rfl ?_
        refine Go.dupX2 C X d2_111 (n := 112) rfl rfl rfl rfl ?_
        refine Go.iconst C X d2_112 (n := 113) rfl (v := (1 : Int32)) rfl ?_
        refine Go.iadd C X d2_113 (n := 114) rfl ?_
        rw [own_sucI]
        show Go p e below _ (T.setTop (mkF m 114 #[.val (.int (Int32.ofNat vs)), .val (.ref f), .val (.ref sz), .val (.ref pr), .val (.ref fl), .val (.int (Int32.ofNat i)), .val (.int (Int32.ofNat v))] [(.int (Int32.ofNat (cntP zs i v + 1))), (.int (Int32.ofNat v)), (.ref fl), (.int (Int32.ofNat (cntP zs i v))), (.ref (as.getD v 0))]))
        refine Go.iastoreL C X eT V_fl (i := v) (own_toI (by omega)) (by simp [szs_len]; omega) d2_114 (n := 115) rfl ?_
        clear X eT
        intro T h X eT W V_new
        replace V_f := V_f.other W ne_f_fl
        replace V_pr := V_pr.other W ne_pr_fl
        replace RH := RH.other W hfl
        replace KP := KP.wr W (Or.inr s_fl)
        clear V_fl
        have V_fl : Arl Z h fl .int ((szs zs vs (i + 1)).map nI) := by rw [own_setI, szs_hit hv (by omega)] at V_new; exact V_new
        clear V_new
        replace N := Fr.snoc X N g_fl
        refine Go.iload C X d2_115 (n := 117) rfl rfl ?_
        refine Go.iastoreL C X eT (RH v (by omega)) (i := cntP zs i v) (own_toI (by omega)) (by rw [List.length_map, rowS_len (by omega)]; exact hlt) d2_117 (n := 118) rfl ?_
        clear X eT
        intro T h X eT W V_new
        clear V_new
        replace V_f := V_f.other W (Ne.symm (hf v (by omega)))
        replace V_fl := V_fl.other W (Ne.symm (hfl v (by omega)))
        replace V_pr := V_pr.other W (Ne.symm (hpr v (by omega)))
        replace KP := KP.wr W (Or.inr (hsa v (by omega)))
        have RH2 : RowsH Z h as (rowS zs zs.length (i + 1)) := RH.set (by omega) W (fun u hu ne => hdi u v hu (by omega) ne) (rowS_hit hv (by omega)) (fun u ne => (rowS_miss (fun q => ne (by omega))).symm)
        replace N := Fr.snoc X N (hga v (by omega))
        refine Go.iinc C X d2_118 (n := 121) rfl (v := (1 : Int32)) rfl rfl (l' := #[.val (.int (Int32.ofNat vs)), .val (.ref f), .val (.ref sz), .val (.ref pr), .val (.ref fl), .val (.int ((Int32.ofNat i) + (1 : Int32))), .val (.int (Int32.ofNat v))]) rfl ?_
        refine Go.goto C X d2_121 (n := 83) (by decide) (by decide) ?_
        rw [own_sucI]
        exact ih (i + 1) (by omega) C X eT N V_f V_fl V_pr RH2 KP (Or.inr ⟨_, rfl, rfl⟩)
theorem pn_1 : plainName "com/example/libsymtree/libsymtree/Preimages" = true := by first | (simp [plainName, overriddenIn]; done) | decide +kernel
set_option maxRecDepth 65536 in
set_option maxHeartbeats 40000000 in
theorem rm2 (l : Launch) (Z : State) (a0 : Array Value) (hw : ∀ d ∈ tables_1, d.before a0 Z = true) (n0 : Nat) (h0 : Heap) (f : Addr) (zs : List Int) (vs : Nat) (hn4 : zs.length ≤ 4) (hvs : vs ≤ 5) (hz : ∀ j, j < zs.length → -1 ≤ zs.getD j 0 ∧ zs.getD j 0 < vs) (O : Old Z n0 h0) (V_f : Arl Z h0 f .int (zs.map zI)) :
    Ctr l Z (⟨"com/example/libsymtree/libsymtree/Preimages", "of", "(I[I)[[I"⟩ : MethodName) prog_46_method_2_code 7 (some (.array (.array .int))) ({ frames := 0, cells := 8, slots := 40, locals := 0 } : Room) #[(.int (Int32.ofNat vs)), (.ref f)] h0 (fun v h L => ∃ r as, v = some (.ref r) ∧ Fr n0 L ∧ Keep h0 h [] ∧ as.length = vs ∧ Ara Z h r (as.map .ref) ∧ RowsH Z h as (rowP zs zs.length)) := by
  refine Ctr.mk (plainFor_of_name pn_1) (ls := #[.val (.int (Int32.ofNat vs)), .val (.ref f), .unset, .unset, .unset, .unset, .unset]) (fun m => by first | (simp [entryFrame, mkF, argsToLocals, Value.category]; done) | rfl) ?_
  intro p e s m below meth c T C X eT hs0
  have N := Fr.nil n0
  show Go p e below _ (T.setTop (mkF m 0 #[.val (.int (Int32.ofNat vs)), .val (.ref f), .unset, .unset, .unset, .unset, .unset] []))
  have KP : Keep h0 h0 [] := Keep.refl _ _
  have V_f0 := V_f
  refine Go.iloadN C X d2_0 (n := 1) rfl rfl ?_
  refine Go.newL C X eT (wd hw 1 rfl) (i := vs) (own_toI (by omega)) (cap := 5) hvs d2_1 (n := 3) rfl (by decide) (by decide) (by decide) ?_
  clear X eT
  intro T h sz z_sz X eT E V_sz
  have ne_f_sz : f ≠ sz := Nat.ne_of_lt (Nat.lt_of_lt_of_le V_f.lt (Nat.le_of_eq z_sz.symm))
  have g_sz : n0 ≤ sz := by rw [z_sz]; exact O.le
  have s_sz : h0.size ≤ sz := by rw [z_sz]; exact KP.1
  replace V_f := V_f.ext E
  replace O := O.ext E
  replace KP := KP.ext E
  replace V_sz : Arl Z h sz .int ((szs zs vs 0).map nI) := by rw [szs_zero, List.map_replicate]; exact V_sz
  refine Go.astoreN C X d2_3 (n := 4) rfl rfl (l' := #[.val (.int (Int32.ofNat vs)), .val (.ref f), .val (.ref sz), .unset, .unset, .unset, .unset]) rfl ?_
  refine Go.aloadN C X d2_4 (n := 5) rfl rfl rfl ?_
  refine Go.astoreN C X d2_5 (n := 6) rfl rfl (l' := #[.val (.int (Int32.ofNat vs)), .val (.ref f), .val (.ref sz), .val (.ref f), .unset, .unset, .unset]) rfl ?_
  refine Go.aloadN C X d2_6 (n := 7) rfl rfl rfl ?_
  refine Go.lengthL C X eT V_f (z := (Int32.ofNat zs.length)) (by rw [own_toI (by omega)]; simp) d2_7 (n := 8) rfl ?_
  refine Go.istore C X d2_8 (n := 10) rfl (l' := #[.val (.int (Int32.ofNat vs)), .val (.ref f), .val (.ref sz), .val (.ref f), .val (.int (Int32.ofNat zs.length)), .unset, .unset]) rfl ?_
  refine Go.iconst C X d2_10 (n := 11) rfl (v := (0 : Int32)) rfl ?_
  refine Go.istore C X d2_11 (n := 13) rfl (l' := #[.val (.int (Int32.ofNat vs)), .val (.ref f), .val (.ref sz), .val (.ref f), .val (.int (Int32.ofNat zs.length)), .val (.int (0 : Int32)), .unset]) rfl ?_
  refine loop_a g_sz ne_f_sz hn4 hvs hz zs.length 0 (by omega) C X eT V_f V_sz N (Or.inl rfl) ?_
  clear X eT N
  intro T h locs s6 X eT KK N V_szn hs6
  replace V_f := V_f.keep KK (ninS ne_f_sz nin0)
  replace O := O.keep KK (allS g_sz all0)
  replace KP := KP.trans KK (allS (Or.inr s_sz) all0)
  clear V_sz
  have V_sz := V_szn
  clear V_szn
  show Go p e below _ (T.setTop (mkF m 45 #[.val (.int (Int32.ofNat vs)), .val (.ref f), .val (.ref sz), .val (.ref f), .val (.int (Int32.ofNat zs.length)), .val (.int (Int32.ofNat zs.length)), s6] []))
  refine Go.iloadN C X d2_45 (n := 46) rfl rfl ?_
  refine own_newRA C X eT (wd hw 10 rfl) (wd hw 11 rfl) (i := vs) (own_toI (by omega)) (cap := 5) hvs d2_46 (n := 49) rfl (by decide) (by decide) (by decide) ?_
  clear X eT
  intro T h pr z_pr X eT E V_pr
  have ne_f_pr : f ≠ pr := Nat.ne_of_lt (Nat.lt_of_lt_of_le V_f.lt (Nat.le_of_eq z_pr.symm))
  have ne_sz_pr : sz ≠ pr := Nat.ne_of_lt (Nat.lt_of_lt_of_le V_sz.lt (Nat.le_of_eq z_pr.symm))
  have g_pr : n0 ≤ pr := by rw [z_pr]; exact O.le
  have s_pr : h0.size ≤ pr := by rw [z_pr]; exact KP.1
  replace V_f := V_f.ext E
  replace O := O.ext E
  replace KP := KP.ext E
  replace V_sz := V_sz.ext E
  refine Go.astoreN C X d2_49 (n := 50) rfl rfl (l' := #[.val (.int (Int32.ofNat vs)), .val (.ref f), .val (.ref sz), .val (.ref pr), .val (.int (Int32.ofNat zs.length)), .val (.int (Int32.ofNat zs.length)), s6]) rfl ?_
  refine Go.iconst C X d2_50 (n := 51) rfl (v := (0 : Int32)) rfl ?_
  refine Go.istore C X d2_51 (n := 53) rfl (l' := #[.val (.int (Int32.ofNat vs)), .val (.ref f), .val (.ref sz), .val (.ref pr), .val (.int (0 : Int32)), .val (.int (Int32.ofNat zs.length)), s6]) rfl ?_
  refine loop_b hw g_pr s_pr ne_f_pr ne_sz_pr (by decide) (by decide) hn4 hvs hz vs 0 (as := []) (by omega) C X eT rfl N V_f V_sz V_pr (fun v hv => absurd hv (by simp)) KP O (fun v hv => absurd hv (by simp)) (fun v w hv => absurd hv (by simp)) (fun v hv => absurd hv (by simp)) (fun v hv => absurd hv (by simp)) ?_
  have hfh := V_f.lt
  have hfs : f < h0.size := V_f0.lt
  clear X eT N V_f V_sz V_pr KP O
  intro T h locs as X eT N has V_f V_sz V_pr RH KP O hpr hdi hga hsa
  show Go p e below _ (T.setTop (mkF m 75 #[.val (.int (Int32.ofNat vs)), .val (.ref f), .val (.ref sz), .val (.ref pr), .val (.int (Int32.ofNat vs)), .val (.int (Int32.ofNat zs.length)), s6] []))
  refine Go.iloadN C X d2_75 (n := 76) rfl rfl ?_
  refine Go.newL C X eT (wd hw 1 rfl) (i := vs) (own_toI (by omega)) (cap := 5) hvs d2_76 (n := 78) rfl (by decide) (by show 0 + 1 + 1 + 0 + vs + 1 ≤ 8; omega) (by show 0 + 5 + 5 + 4 * 0 + 4 * vs + 5 ≤ 40; omega) ?_
  clear X eT
  intro T h fl z_fl X eT E V_fl
  have ne_f_fl : f ≠ fl := Nat.ne_of_lt (Nat.lt_of_lt_of_le V_f.lt (Nat.le_of_eq z_fl.symm))
  have ne_pr_fl : pr ≠ fl := Nat.ne_of_lt (Nat.lt_of_lt_of_le V_pr.lt (Nat.le_of_eq z_fl.symm))
  have hfl : ∀ v, v < as.length → as.getD v 0 ≠ fl := fun v hv => Nat.ne_of_lt (Nat.lt_of_lt_of_le (RH v hv).lt (Nat.le_of_eq z_fl.symm))
  have g_fl : n0 ≤ fl := by rw [z_fl]; exact O.le
  have s_fl : h0.size ≤ fl := by rw [z_fl]; exact KP.1
  have hf : ∀ v, v < as.length → as.getD v 0 ≠ f := fun v hv => Ne.symm (Nat.ne_of_lt (Nat.lt_of_lt_of_le hfs (hsa v hv)))
  replace V_f := V_f.ext E
  replace V_sz := V_sz.ext E
  replace V_pr := V_pr.ext E
  replace RH := RH.ext E
  replace KP := KP.ext E
  replace O := O.ext E
  replace V_fl : Arl Z h fl .int ((szs zs vs 0).map nI) := by rw [szs_zero, List.map_replicate]; exact V_fl
  refine Go.astore C X d2_78 (n := 80) rfl rfl (l' := #[.val (.int (Int32.ofNat vs)), .val (.ref f), .val (.ref sz), .val (.ref pr), .val (.ref fl), .val (.int (Int32.ofNat zs.length)), s6]) rfl ?_
  refine Go.iconst C X d2_80 (n := 81) rfl (v := (0 : Int32)) rfl ?_
  refine Go.istore C X d2_81 (n := 83) rfl (l' := #[.val (.int (Int32.ofNat vs)), .val (.ref f), .val (.ref sz), .val (.ref pr), .val (.ref fl), .val (.int (0 : Int32)), s6]) rfl ?_
  exact loop_c (by show 0 + 1 + 1 + 0 + vs + 1 ≤ 8; omega) (by show 0 + 5 + 5 + 4 * 0 + 4 * vs + 5 ≤ 40; omega) has g_fl s_fl ne_f_fl ne_pr_fl hf hfl hpr hdi hga hsa hn4 hvs hz zs.length 0 (by omega) C X eT N V_f V_fl V_pr (fun v hv => by rw [rowS_zero]; exact RH v hv) KP hs6
theorem pd_1 : parseMethodDescriptor "(I[I)[[I" = some ⟨[.int, (.array .int)], some (.array (.array .int))⟩ := by decide +kernel
theorem pd_2 : parseMethodDescriptor "([[III[II)Z" = some ⟨[(.array (.array .int)), .int, .int, (.array .int), .int], some .boolean⟩ := by decide +kernel
theorem pd_3 : parseMethodDescriptor "([[I[III)Z" = some ⟨[(.array (.array .int)), (.array .int), .int, .int], some .boolean⟩ := by decide +kernel
theorem own_bv {z0 z1 z2 z3 : Int} {vs : Nat} (b0 : -1 ≤ z0 ∧ z0 < vs) (b1 : -1 ≤ z1 ∧ z1 < vs) (b2 : -1 ≤ z2 ∧ z2 < vs) (b3 : -1 ≤ z3 ∧ z3 < vs) : ∀ j, j < 4 → [z0, z1, z2, z3].getD j 0 < vs := by
  intro j hj
  match j, hj with
  | 0, _ => exact b0.2
  | 1, _ => exact b1.2
  | 2, _ => exact b2.2
  | 3, _ => exact b3.2
theorem own_bz {z0 z1 z2 z3 : Int} {vs : Nat} (hvs : vs ≤ 5) (b0 : -1 ≤ z0 ∧ z0 < vs) (b1 : -1 ≤ z1 ∧ z1 < vs) (b2 : -1 ≤ z2 ∧ z2 < vs) (b3 : -1 ≤ z3 ∧ z3 < vs) : ∀ j, -1 ≤ [z0, z1, z2, z3].getD j 0 ∧ [z0, z1, z2, z3].getD j 0 < 6 := by
  intro j
  match j with
  | 0 => show -1 ≤ z0 ∧ z0 < 6; omega
  | 1 => show -1 ≤ z1 ∧ z1 < 6; omega
  | 2 => show -1 ≤ z2 ∧ z2 < 6; omega
  | 3 => show -1 ≤ z3 ∧ z3 < 6; omega
  | j + 4 => show -1 ≤ (0 : Int) ∧ (0 : Int) < 6; omega
theorem own_btake {z0 z1 z2 z3 : Int} {vs n : Nat} (b0 : -1 ≤ z0 ∧ z0 < vs) (b1 : -1 ≤ z1 ∧ z1 < vs) (b2 : -1 ≤ z2 ∧ z2 < vs) (b3 : -1 ≤ z3 ∧ z3 < vs) : ∀ j, j < ([z0, z1, z2, z3].take n).length → -1 ≤ ([z0, z1, z2, z3].take n).getD j 0 ∧ ([z0, z1, z2, z3].take n).getD j 0 < vs := by
  intro j hj
  have hj' : j < n ∧ j < 4 := by simp at hj; omega
  have e : ([z0, z1, z2, z3].take n).getD j 0 = [z0, z1, z2, z3].getD j 0 := by simp [List.getD_eq_getElem?_getD, List.getElem?_take, hj'.1]
  rw [e]
  obtain ⟨-, hj4⟩ := hj'
  match j, hj4 with
  | 0, _ => exact b0
  | 1, _ => exact b1
  | 2, _ => exact b2
  | 3, _ => exact b3
set_option maxRecDepth 65536 in
set_option maxHeartbeats 40000000 in
theorem seg190 {p : Program} {l : Launch} {e : Env} {s : State} {m : MethodId} {args : Array Value} {below : List Frame} {meth : Method} {c : Code} {Z : State} {a0 : Array Value} {T : State} {h : Heap} {n0 : Nat} {locs : List Loc} (hw : ∀ d ∈ tables_1, d.before a0 Z = true) (C : Cx p s m meth c Z x.cls code maxLocals ret x.name) (X : Stand p l e room_1 s m args below meth c T locs 2 8) (eT : T.heap = h) (O : Old Z n0 h) (N : Fr n0 locs) {p0 p1 p2 p3 p4 p5 : Int32} {f g : Addr} {vs n : Nat} {z0 z1 z2 z3 : Int} (hvs : vs ≤ 5) (hn : n ≤ 4) (b0 : -1 ≤ z0 ∧ z0 < vs) (b1 : -1 ≤ z1 ∧ z1 < vs) (b2 : -1 ≤ z2 ∧ z2 < vs) (b3 : -1 ≤ z3 ∧ z3 < vs) (V_f : Arl Z h f .int ([z0, z1, z2, z3].map zI)) (V_g : Arl Z h g .int (([z0, z1, z2, z3].take n).map zI)) :
    Go p e below (EndQ s (fun v h L => v = some (.int 1) ∧ Fr n0 L) room_1.cells room_1.slots) (T.setTop (mkF m 190 #[.val (.int p0), .val (.int p1), .val (.int p2), .val (.int p3), .val (.int p4), .val (.int p5), .val (.int (Int32.ofNat vs)), .val (.int (Int32.ofNat n)), .val (.ref f), .val (.ref g), .unset] [])) := by
  show Go p e below _ (T.setTop (mkF m 190 #[.val (.int p0), .val (.int p1), .val (.int p2), .val (.int p3), .val (.int p4), .val (.int p5), .val (.int (Int32.ofNat vs)), .val (.int (Int32.ofNat n)), .val (.ref f), .val (.ref g), .unset] []))
  refine Go.iload C X at_190 (n := 192) rfl rfl ?_
  refine Go.aload C X at_192 (n := 194) rfl rfl rfl ?_
  refine Go.stat C X eT (argsL := [(.int (Int32.ofNat vs)), (.ref g)]) (rest := []) (rm2 l Z a0 hw n0 _ g ([z0, z1, z2, z3].take n) vs (by simp; omega) hvs (own_btake b0 b1 b2 b3) O V_g) (wd hw 6 rfl) (wd hw 7 rfl) (wd hw 8 rfl) (wd hw 9 rfl) (by decide) (lenOf pd_1 rfl) rfl at_194 (n := 197) rfl rfl (by decide) (W := 0) rfl (by decide) (by decide) (by decide) ?_
  clear X eT
  intro T h v L X eT hQ
  obtain ⟨r, as, rfl, Nq, KK, has, V_r, RH0⟩ := hQ
  replace N := N.app Nq
  replace O := O.keep KK all0
  replace V_f := V_f.keep KK nin0
  replace V_g := V_g.keep KK nin0
  show Go p e below _ (T.setTop (mkF m 197 #[.val (.int p0), .val (.int p1), .val (.int p2), .val (.int p3), .val (.int p4), .val (.int p5), .val (.int (Int32.ofNat vs)), .val (.int (Int32.ofNat n)), .val (.ref f), .val (.ref g), .unset] [(.ref r)]))
  have RH : RowsH Z h as (rowP [z0, z1, z2, z3] n) := fun v hv => by
    have q := RH0 v hv
    rw [show ([z0, z1, z2, z3].take n).length = n by simp; omega, row_take _ _ (Nat.le_refl _)] at q
    exact q
  clear RH0
  have hz := own_bz hvs b0 b1 b2 b3
  have hzv := own_bv b0 b1 b2 b3
  refine Go.astore C X at_197 (n := 199) rfl rfl (l' := #[.val (.int p0), .val (.int p1), .val (.int p2), .val (.int p3), .val (.int p4), .val (.int p5), .val (.int (Int32.ofNat vs)), .val (.int (Int32.ofNat n)), .val (.ref f), .val (.ref g), .val (.ref r)]) rfl ?_
  refine Go.aload C X at_199 (n := 201) rfl rfl rfl ?_
  refine Go.ifnullR C X at_201 (n := 204) rfl ?_
  refine Go.aload C X at_204 (n := 206) rfl rfl rfl ?_
  refine Go.lengthL C X eT V_r.arl (z := (Int32.ofNat vs)) (by rw [own_toI (by omega)]; simp [has]) at_206 (n := 207) rfl ?_
  refine Go.iload C X at_207 (n := 209) rfl rfl ?_
  refine Go.icmp_eq C X at_209 (n1 := 214) (n2 := 212) (by decide) (by decide) rfl (fun hc209 => ?_) (fun hc209 => ?_)
  · refine Go.aload C X at_214 (n := 216) rfl rfl rfl ?_
    refine Go.iload C X at_216 (n := 218) rfl rfl ?_
    refine Go.iconst C X at_218 (n := 219) rfl (v := (0 : Int32)) rfl ?_
    refine Go.aload C X at_219 (n := 221) rfl rfl rfl ?_
    refine Go.iload C X at_221 (n := 223) rfl rfl ?_
    refine Go.stat C X eT (argsL := [(.ref r), (.int (Int32.ofNat vs)), (.int (0 : Int32)), (.ref f), (.int (Int32.ofNat n))]) (rest := []) (rm3 l Z a0 hw n0 _ r f [z0, z1, z2, z3] as vs 0 n (by decide) rfl hz V_r hn has hvs RH V_f) (wd hw 12 rfl) (wd hw 13 rfl) (wd hw 4 rfl) (wd hw 14 rfl) (by decide) (lenOf pd_2 rfl) rfl at_223 (n := 226) rfl rfl (by decide) (W := 0) rfl (by decide) (by decide) (by decide) ?_
    clear X eT
    intro T h' v L X eT hQ
    obtain ⟨rfl, rfl, hE⟩ := hQ
    replace hE := hE.symm
    subst hE
    replace N := N.app (Fr.nil n0)
    show Go p e below _ (T.setTop (mkF m 226 #[.val (.int p0), .val (.int p1), .val (.int p2), .val (.int p3), .val (.int p4), .val (.int p5), .val (.int (Int32.ofNat vs)), .val (.int (Int32.ofNat n)), .val (.ref f), .val (.ref g), .val (.ref r)] [(.int (1 : Int32))]))
    refine Go.if0_eq C X at_226 (n1 := 360) (n2 := 229) (by decide) (by decide) rfl (fun hc226 => ?_) (fun hc226 => ?_)
    · exact absurd hc226 (by decide)
    · refine Go.aload C X at_229 (n := 231) rfl rfl rfl ?_
      refine Go.iload C X at_231 (n := 233) rfl rfl ?_
      refine Go.iconst C X at_233 (n := 234) rfl (v := (1 : Int32)) rfl ?_
      refine Go.aload C X at_234 (n := 236) rfl rfl rfl ?_
      refine Go.iload C X at_236 (n := 238) rfl rfl ?_
      refine Go.stat C X eT (argsL := [(.ref r), (.int (Int32.ofNat vs)), (.int (1 : Int32)), (.ref f), (.int (Int32.ofNat n))]) (rest := []) (rm3 l Z a0 hw n0 _ r f [z0, z1, z2, z3] as vs 1 n (by decide) rfl hz V_r hn has hvs RH V_f) (wd hw 12 rfl) (wd hw 13 rfl) (wd hw 4 rfl) (wd hw 14 rfl) (by decide) (lenOf pd_2 rfl) rfl at_238 (n := 241) rfl rfl (by decide) (W := 0) rfl (by decide) (by decide) (by decide) ?_
      clear X eT
      intro T h' v L X eT hQ
      obtain ⟨rfl, rfl, hE⟩ := hQ
      replace hE := hE.symm
      subst hE
      replace N := N.app (Fr.nil n0)
      show Go p e below _ (T.setTop (mkF m 241 #[.val (.int p0), .val (.int p1), .val (.int p2), .val (.int p3), .val (.int p4), .val (.int p5), .val (.int (Int32.ofNat vs)), .val (.int (Int32.ofNat n)), .val (.ref f), .val (.ref g), .val (.ref r)] [(.int (1 : Int32))]))
      refine Go.if0_eq C X at_241 (n1 := 360) (n2 := 244) (by decide) (by decide) rfl (fun hc241 => ?_) (fun hc241 => ?_)
      · exact absurd hc241 (by decide)
      · refine Go.aload C X at_244 (n := 246) rfl rfl rfl ?_
        refine Go.iload C X at_246 (n := 248) rfl rfl ?_
        refine Go.iconst C X at_248 (n := 249) rfl (v := (2 : Int32)) rfl ?_
        refine Go.aload C X at_249 (n := 251) rfl rfl rfl ?_
        refine Go.iload C X at_251 (n := 253) rfl rfl ?_
        refine Go.stat C X eT (argsL := [(.ref r), (.int (Int32.ofNat vs)), (.int (2 : Int32)), (.ref f), (.int (Int32.ofNat n))]) (rest := []) (rm3 l Z a0 hw n0 _ r f [z0, z1, z2, z3] as vs 2 n (by decide) rfl hz V_r hn has hvs RH V_f) (wd hw 12 rfl) (wd hw 13 rfl) (wd hw 4 rfl) (wd hw 14 rfl) (by decide) (lenOf pd_2 rfl) rfl at_253 (n := 256) rfl rfl (by decide) (W := 0) rfl (by decide) (by decide) (by decide) ?_
        clear X eT
        intro T h' v L X eT hQ
        obtain ⟨rfl, rfl, hE⟩ := hQ
        replace hE := hE.symm
        subst hE
        replace N := N.app (Fr.nil n0)
        show Go p e below _ (T.setTop (mkF m 256 #[.val (.int p0), .val (.int p1), .val (.int p2), .val (.int p3), .val (.int p4), .val (.int p5), .val (.int (Int32.ofNat vs)), .val (.int (Int32.ofNat n)), .val (.ref f), .val (.ref g), .val (.ref r)] [(.int (1 : Int32))]))
        refine Go.if0_eq C X at_256 (n1 := 360) (n2 := 259) (by decide) (by decide) rfl (fun hc256 => ?_) (fun hc256 => ?_)
        · exact absurd hc256 (by decide)
        · refine Go.aload C X at_259 (n := 261) rfl rfl rfl ?_
          refine Go.iload C X at_261 (n := 263) rfl rfl ?_
          refine Go.iconst C X at_263 (n := 264) rfl (v := (3 : Int32)) rfl ?_
          refine Go.aload C X at_264 (n := 266) rfl rfl rfl ?_
          refine Go.iload C X at_266 (n := 268) rfl rfl ?_
          refine Go.stat C X eT (argsL := [(.ref r), (.int (Int32.ofNat vs)), (.int (3 : Int32)), (.ref f), (.int (Int32.ofNat n))]) (rest := []) (rm3 l Z a0 hw n0 _ r f [z0, z1, z2, z3] as vs 3 n (by decide) rfl hz V_r hn has hvs RH V_f) (wd hw 12 rfl) (wd hw 13 rfl) (wd hw 4 rfl) (wd hw 14 rfl) (by decide) (lenOf pd_2 rfl) rfl at_268 (n := 271) rfl rfl (by decide) (W := 0) rfl (by decide) (by decide) (by decide) ?_
          clear X eT
          intro T h' v L X eT hQ
          obtain ⟨rfl, rfl, hE⟩ := hQ
          replace hE := hE.symm
          subst hE
          replace N := N.app (Fr.nil n0)
          show Go p e below _ (T.setTop (mkF m 271 #[.val (.int p0), .val (.int p1), .val (.int p2), .val (.int p3), .val (.int p4), .val (.int p5), .val (.int (Int32.ofNat vs)), .val (.int (Int32.ofNat n)), .val (.ref f), .val (.ref g), .val (.ref r)] [(.int (1 : Int32))]))
          refine Go.if0_eq C X at_271 (n1 := 360) (n2 := 274) (by decide) (by decide) rfl (fun hc271 => ?_) (fun hc271 => ?_)
          · exact absurd hc271 (by decide)
          · refine Go.aload C X at_274 (n := 276) rfl rfl rfl ?_
            refine Go.iload C X at_276 (n := 278) rfl rfl ?_
            refine Go.iconst C X at_278 (n := 279) rfl (v := (4 : Int32)) rfl ?_
            refine Go.aload C X at_279 (n := 281) rfl rfl rfl ?_
            refine Go.iload C X at_281 (n := 283) rfl rfl ?_
            refine Go.stat C X eT (argsL := [(.ref r), (.int (Int32.ofNat vs)), (.int (4 : Int32)), (.ref f), (.int (Int32.ofNat n))]) (rest := []) (rm3 l Z a0 hw n0 _ r f [z0, z1, z2, z3] as vs 4 n (by decide) rfl hz V_r hn has hvs RH V_f) (wd hw 12 rfl) (wd hw 13 rfl) (wd hw 4 rfl) (wd hw 14 rfl) (by decide) (lenOf pd_2 rfl) rfl at_283 (n := 286) rfl rfl (by decide) (W := 0) rfl (by decide) (by decide) (by decide) ?_
            clear X eT
            intro T h' v L X eT hQ
            obtain ⟨rfl, rfl, hE⟩ := hQ
            replace hE := hE.symm
            subst hE
            replace N := N.app (Fr.nil n0)
            show Go p e below _ (T.setTop (mkF m 286 #[.val (.int p0), .val (.int p1), .val (.int p2), .val (.int p3), .val (.int p4), .val (.int p5), .val (.int (Int32.ofNat vs)), .val (.int (Int32.ofNat n)), .val (.ref f), .val (.ref g), .val (.ref r)] [(.int (1 : Int32))]))
            refine Go.if0_eq C X at_286 (n1 := 360) (n2 := 289) (by decide) (by decide) rfl (fun hc286 => ?_) (fun hc286 => ?_)
            · exact absurd hc286 (by decide)
            · refine Go.aload C X at_289 (n := 291) rfl rfl rfl ?_
              refine Go.iload C X at_291 (n := 293) rfl rfl ?_
              refine Go.iconst C X at_293 (n := 294) rfl (v := (5 : Int32)) rfl ?_
              refine Go.aload C X at_294 (n := 296) rfl rfl rfl ?_
              refine Go.iload C X at_296 (n := 298) rfl rfl ?_
              refine Go.stat C X eT (argsL := [(.ref r), (.int (Int32.ofNat vs)), (.int (5 : Int32)), (.ref f), (.int (Int32.ofNat n))]) (rest := []) (rm3 l Z a0 hw n0 _ r f [z0, z1, z2, z3] as vs 5 n (by decide) rfl hz V_r hn has hvs RH V_f) (wd hw 12 rfl) (wd hw 13 rfl) (wd hw 4 rfl) (wd hw 14 rfl) (by decide) (lenOf pd_2 rfl) rfl at_298 (n := 301) rfl rfl (by decide) (W := 0) rfl (by decide) (by decide) (by decide) ?_
              clear X eT
              intro T h' v L X eT hQ
              obtain ⟨rfl, rfl, hE⟩ := hQ
              replace hE := hE.symm
              subst hE
              replace N := N.app (Fr.nil n0)
              show Go p e below _ (T.setTop (mkF m 301 #[.val (.int p0), .val (.int p1), .val (.int p2), .val (.int p3), .val (.int p4), .val (.int p5), .val (.int (Int32.ofNat vs)), .val (.int (Int32.ofNat n)), .val (.ref f), .val (.ref g), .val (.ref r)] [(.int (1 : Int32))]))
              refine Go.if0_eq C X at_301 (n1 := 360) (n2 := 304) (by decide) (by decide) rfl (fun hc301 => ?_) (fun hc301 => ?_)
              · exact absurd hc301 (by decide)
              · refine Go.aload C X at_304 (n := 306) rfl rfl rfl ?_
                refine Go.aload C X at_306 (n := 308) rfl rfl rfl ?_
                refine Go.iload C X at_308 (n := 310) rfl rfl ?_
                refine Go.iconst C X at_310 (n := 311) rfl (v := (0 : Int32)) rfl ?_
                refine Go.stat C X eT (argsL := [(.ref r), (.ref f), (.int (Int32.ofNat n)), (.int (0 : Int32))]) (rest := []) (rm4 l Z a0 hw n0 _ r f [z0, z1, z2, z3] as vs n 0 (by decide) hzv rfl hz V_r hn has hvs RH V_f) (wd hw 15 rfl) (wd hw 16 rfl) (wd hw 4 rfl) (wd hw 17 rfl) (by decide) (lenOf pd_3 rfl) rfl at_311 (n := 314) rfl rfl (by decide) (W := 0) rfl (by decide) (by decide) (by decide) ?_
                clear X eT
                intro T h' v L X eT hQ
                obtain ⟨rfl, rfl, hE⟩ := hQ
                replace hE := hE.symm
                subst hE
                replace N := N.app (Fr.nil n0)
                show Go p e below _ (T.setTop (mkF m 314 #[.val (.int p0), .val (.int p1), .val (.int p2), .val (.int p3), .val (.int p4), .val (.int p5), .val (.int (Int32.ofNat vs)), .val (.int (Int32.ofNat n)), .val (.ref f), .val (.ref g), .val (.ref r)] [(.int (1 : Int32))]))
                refine Go.if0_eq C X at_314 (n1 := 360) (n2 := 317) (by decide) (by decide) rfl (fun hc314 => ?_) (fun hc314 => ?_)
                · exact absurd hc314 (by decide)
                · refine Go.aload C X at_317 (n := 319) rfl rfl rfl ?_
                  refine Go.aload C X at_319 (n := 321) rfl rfl rfl ?_
                  refine Go.iload C X at_321 (n := 323) rfl rfl ?_
                  refine Go.iconst C X at_323 (n := 324) rfl (v := (1 : Int32)) rfl ?_
                  refine Go.stat C X eT (argsL := [(.ref r), (.ref f), (.int (Int32.ofNat n)), (.int (1 : Int32))]) (rest := []) (rm4 l Z a0 hw n0 _ r f [z0, z1, z2, z3] as vs n 1 (by decide) hzv rfl hz V_r hn has hvs RH V_f) (wd hw 15 rfl) (wd hw 16 rfl) (wd hw 4 rfl) (wd hw 17 rfl) (by decide) (lenOf pd_3 rfl) rfl at_324 (n := 327) rfl rfl (by decide) (W := 0) rfl (by decide) (by decide) (by decide) ?_
                  clear X eT
                  intro T h' v L X eT hQ
                  obtain ⟨rfl, rfl, hE⟩ := hQ
                  replace hE := hE.symm
                  subst hE
                  replace N := N.app (Fr.nil n0)
                  show Go p e below _ (T.setTop (mkF m 327 #[.val (.int p0), .val (.int p1), .val (.int p2), .val (.int p3), .val (.int p4), .val (.int p5), .val (.int (Int32.ofNat vs)), .val (.int (Int32.ofNat n)), .val (.ref f), .val (.ref g), .val (.ref r)] [(.int (1 : Int32))]))
                  refine Go.if0_eq C X at_327 (n1 := 360) (n2 := 330) (by decide) (by decide) rfl (fun hc327 => ?_) (fun hc327 => ?_)
                  · exact absurd hc327 (by decide)
                  · refine Go.aload C X at_330 (n := 332) rfl rfl rfl ?_
                    refine Go.aload C X at_332 (n := 334) rfl rfl rfl ?_
                    refine Go.iload C X at_334 (n := 336) rfl rfl ?_
                    refine Go.iconst C X at_336 (n := 337) rfl (v := (2 : Int32)) rfl ?_
                    refine Go.stat C X eT (argsL := [(.ref r), (.ref f), (.int (Int32.ofNat n)), (.int (2 : Int32))]) (rest := []) (rm4 l Z a0 hw n0 _ r f [z0, z1, z2, z3] as vs n 2 (by decide) hzv rfl hz V_r hn has hvs RH V_f) (wd hw 15 rfl) (wd hw 16 rfl) (wd hw 4 rfl) (wd hw 17 rfl) (by decide) (lenOf pd_3 rfl) rfl at_337 (n := 340) rfl rfl (by decide) (W := 0) rfl (by decide) (by decide) (by decide) ?_
                    clear X eT
                    intro T h' v L X eT hQ
                    obtain ⟨rfl, rfl, hE⟩ := hQ
                    replace hE := hE.symm
                    subst hE
                    replace N := N.app (Fr.nil n0)
                    show Go p e below _ (T.setTop (mkF m 340 #[.val (.int p0), .val (.int p1), .val (.int p2), .val (.int p3), .val (.int p4), .val (.int p5), .val (.int (Int32.ofNat vs)), .val (.int (Int32.ofNat n)), .val (.ref f), .val (.ref g), .val (.ref r)] [(.int (1 : Int32))]))
                    refine Go.if0_eq C X at_340 (n1 := 360) (n2 := 343) (by decide) (by decide) rfl (fun hc340 => ?_) (fun hc340 => ?_)
                    · exact absurd hc340 (by decide)
                    · refine Go.aload C X at_343 (n := 345) rfl rfl rfl ?_
                      refine Go.aload C X at_345 (n := 347) rfl rfl rfl ?_
                      refine Go.iload C X at_347 (n := 349) rfl rfl ?_
                      refine Go.iconst C X at_349 (n := 350) rfl (v := (3 : Int32)) rfl ?_
                      refine Go.stat C X eT (argsL := [(.ref r), (.ref f), (.int (Int32.ofNat n)), (.int (3 : Int32))]) (rest := []) (rm4 l Z a0 hw n0 _ r f [z0, z1, z2, z3] as vs n 3 (by decide) hzv rfl hz V_r hn has hvs RH V_f) (wd hw 15 rfl) (wd hw 16 rfl) (wd hw 4 rfl) (wd hw 17 rfl) (by decide) (lenOf pd_3 rfl) rfl at_350 (n := 353) rfl rfl (by decide) (W := 0) rfl (by decide) (by decide) (by decide) ?_
                      clear X eT
                      intro T h' v L X eT hQ
                      obtain ⟨rfl, rfl, hE⟩ := hQ
                      replace hE := hE.symm
                      subst hE
                      replace N := N.app (Fr.nil n0)
                      show Go p e below _ (T.setTop (mkF m 353 #[.val (.int p0), .val (.int p1), .val (.int p2), .val (.int p3), .val (.int p4), .val (.int p5), .val (.int (Int32.ofNat vs)), .val (.int (Int32.ofNat n)), .val (.ref f), .val (.ref g), .val (.ref r)] [(.int (1 : Int32))]))
                      refine Go.if0_eq C X at_353 (n1 := 360) (n2 := 356) (by decide) (by decide) rfl (fun hc353 => ?_) (fun hc353 => ?_)
                      · exact absurd hc353 (by decide)
                      · refine Go.iconst C X at_356 (n := 357) rfl (v := (1 : Int32)) rfl ?_
                        refine Go.goto C X at_357 (n := 361) (by decide) (by decide) ?_
                        refine Go.retN C X eT (Or.inl rfl) (w := (1 : Int32)) (by decide) at_361 (by decide) (by decide) ?_
                        exact ⟨rfl, N⟩
  · exact absurd rfl hc209
theorem pd_4 : parseMethodDescriptor "(II)I" = some ⟨[.int, .int], some .int⟩ := by decide +kernel
set_option maxRecDepth 65536 in
set_option maxHeartbeats 40000000 in
theorem rm0 (l : Launch) (Z : State) (a0 : Array Value) (hw : ∀ d ∈ tables_1, d.before a0 Z = true) (n0 : Nat) (h0 : Heap) (p0 p1 p2 p3 p4 p5 : Int32) (O : Old Z n0 h0) :
    Ctr l Z x code maxLocals ret room_1 #[(.int p0), (.int p1), (.int p2), (.int p3), (.int p4), (.int p5)] h0 (fun v h L => v = some (.int 1) ∧ Fr n0 L) := by
  refine Ctr.mk (plainFor_of_name pn_0) (ls := #[.val (.int p0), .val (.int p1), .val (.int p2), .val (.int p3), .val (.int p4), .val (.int p5), .unset, .unset, .unset, .unset, .unset]) (fun m => by first | (simp [entryFrame, mkF, argsToLocals, Value.category, maxLocals]; done) | rfl) ?_
  intro p e s m below meth c T C X eT hs0
  have N := Fr.nil n0
  show Go p e below _ (T.setTop (mkF m 0 #[.val (.int p0), .val (.int p1), .val (.int p2), .val (.int p3), .val (.int p4), .val (.int p5), .unset, .unset, .unset, .unset, .unset] []))
  refine Go.iloadN C X at_0 (n := 1) rfl rfl ?_
  refine Go.ldcI C X (wd hw 0 rfl) at_1 (n := 3) rfl ?_
  refine Go.iand C X at_3 (n := 4) rfl ?_
  refine Go.bipush C X at_4 (n := 6) rfl (v := (6 : Int32)) rfl ?_
  refine Go.irem C X at_6 (n := 7) rfl (by decide) ?_
  obtain ⟨vs, hvs, qvs⟩ := own_small p0 6 6 rfl (by decide)
  rw [qvs]
  show Go p e below _ (T.setTop (mkF m 7 #[.val (.int p0), .val (.int p1), .val (.int p2), .val (.int p3), .val (.int p4), .val (.int p5), .unset, .unset, .unset, .unset, .unset] [(.int (Int32.ofNat vs))]))
  refine Go.istore C X at_7 (n := 9) rfl (l' := #[.val (.int p0), .val (.int p1), .val (.int p2), .val (.int p3), .val (.int p4), .val (.int p5), .val (.int (Int32.ofNat vs)), .unset, .unset, .unset, .unset]) rfl ?_
  refine Go.iloadN C X at_9 (n := 10) rfl rfl ?_
  refine Go.ldcI C X (wd hw 0 rfl) at_10 (n := 12) rfl ?_
  refine Go.iand C X at_12 (n := 13) rfl ?_
  refine Go.iconst C X at_13 (n := 14) rfl (v := (5 : Int32)) rfl ?_
  refine Go.irem C X at_14 (n := 15) rfl (by decide) ?_
  obtain ⟨n, hn, qn⟩ := own_small p1 5 5 rfl (by decide)
  rw [qn]
  show Go p e below _ (T.setTop (mkF m 15 #[.val (.int p0), .val (.int p1), .val (.int p2), .val (.int p3), .val (.int p4), .val (.int p5), .val (.int (Int32.ofNat vs)), .unset, .unset, .unset, .unset] [(.int (Int32.ofNat n))]))
  refine Go.istore C X at_15 (n := 17) rfl (l' := #[.val (.int p0), .val (.int p1), .val (.int p2), .val (.int p3), .val (.int p4), .val (.int p5), .val (.int (Int32.ofNat vs)), .val (.int (Int32.ofNat n)), .unset, .unset, .unset]) rfl ?_
  refine Go.iconst C X at_17 (n := 18) rfl (v := (4 : Int32)) rfl ?_
  refine Go.newL C X eT (wd hw 1 rfl) (i := 4) rfl (cap := 4) (by decide) at_18 (n := 20) rfl (by decide) (by decide) (by decide) ?_
  clear X eT
  intro T h f z_f X eT E V_f
  have g_f : n0 ≤ f := by rw [z_f]; exact O.le
  replace O := O.ext E
  replace V_f : Arl Z h f .int [.int (0 : Int32), .int (0 : Int32), .int (0 : Int32), .int (0 : Int32)] := V_f
  refine Go.dup C X at_20 (n := 21) rfl rfl ?_
  refine Go.iconst C X at_21 (n := 22) rfl (v := (0 : Int32)) rfl ?_
  refine Go.iloadN C X at_22 (n := 23) rfl rfl ?_
  refine Go.iload C X at_23 (n := 25) rfl rfl ?_
  refine Go.stat C X eT (argsL := [(.int p2), (.int (Int32.ofNat vs))]) (rest := [(.int (0 : Int32)), (.ref f), (.ref f)]) (rm1 l Z a0 hw n0 _ p2 vs (by omega)) (wd hw 2 rfl) (wd hw 3 rfl) (wd hw 4 rfl) (wd hw 5 rfl) (by decide) (lenOf pd_4 rfl) rfl at_25 (n := 28) rfl rfl (by decide) (W := 3) rfl (by decide) (by decide) (by decide) ?_
  clear X eT
  intro T h' v L X eT hQ
  obtain ⟨z0, rfl, rfl, hE, b0⟩ := hQ
  replace hE := hE.symm
  subst hE
  replace N := N.app (Fr.nil n0)
  show Go p e below _ (T.setTop (mkF m 28 #[.val (.int p0), .val (.int p1), .val (.int p2), .val (.int p3), .val (.int p4), .val (.int p5), .val (.int (Int32.ofNat vs)), .val (.int (Int32.ofNat n)), .unset, .unset, .unset] [(.int (Int32.ofInt z0)), (.int (0 : Int32)), (.ref f), (.ref f)]))
  refine Go.iastoreL C X eT V_f (i := 0) rfl (by simp) at_28 (n := 29) rfl ?_
  clear X eT
  intro T h X eT W V_new
  replace O := O.wr W g_f
  clear V_f
  have V_f : Arl Z h f .int [.int (Int32.ofInt z0), .int (0 : Int32), .int (0 : Int32), .int (0 : Int32)] := V_new
  clear V_new
  replace N := Fr.snoc X N g_f
  refine Go.dup C X at_29 (n := 30) rfl rfl ?_
  refine Go.iconst C X at_30 (n := 31) rfl (v := (1 : Int32)) rfl ?_
  refine Go.iloadN C X at_31 (n := 32) rfl rfl ?_
  refine Go.iload C X at_32 (n := 34) rfl rfl ?_
  refine Go.stat C X eT (argsL := [(.int p3), (.int (Int32.ofNat vs))]) (rest := [(.int (1 : Int32)), (.ref f), (.ref f)]) (rm1 l Z a0 hw n0 _ p3 vs (by omega)) (wd hw 2 rfl) (wd hw 3 rfl) (wd hw 4 rfl) (wd hw 5 rfl) (by decide) (lenOf pd_4 rfl) rfl at_34 (n := 37) rfl rfl (by decide) (W := 3) rfl (by decide) (by decide) (by decide) ?_
  clear X eT
  intro T h' v L X eT hQ
  obtain ⟨z1, rfl, rfl, hE, b1⟩ := hQ
  replace hE := hE.symm
  subst hE
  replace N := N.app (Fr.nil n0)
  show Go p e below _ (T.setTop (mkF m 37 #[.val (.int p0), .val (.int p1), .val (.int p2), .val (.int p3), .val (.int p4), .val (.int p5), .val (.int (Int32.ofNat vs)), .val (.int (Int32.ofNat n)), .unset, .unset, .unset] [(.int (Int32.ofInt z1)), (.int (1 : Int32)), (.ref f), (.ref f)]))
  refine Go.iastoreL C X eT V_f (i := 1) rfl (by simp) at_37 (n := 38) rfl ?_
  clear X eT
  intro T h X eT W V_new
  replace O := O.wr W g_f
  clear V_f
  have V_f : Arl Z h f .int [.int (Int32.ofInt z0), .int (Int32.ofInt z1), .int (0 : Int32), .int (0 : Int32)] := V_new
  clear V_new
  replace N := Fr.snoc X N g_f
  refine Go.dup C X at_38 (n := 39) rfl rfl ?_
  refine Go.iconst C X at_39 (n := 40) rfl (v := (2 : Int32)) rfl ?_
  refine Go.iload C X at_40 (n := 42) rfl rfl ?_
  refine Go.iload C X at_42 (n := 44) rfl rfl ?_
  refine Go.stat C X eT (argsL := [(.int p4), (.int (Int32.ofNat vs))]) (rest := [(.int (2 : Int32)), (.ref f), (.ref f)]) (rm1 l Z a0 hw n0 _ p4 vs (by omega)) (wd hw 2 rfl) (wd hw 3 rfl) (wd hw 4 rfl) (wd hw 5 rfl) (by decide) (lenOf pd_4 rfl) rfl at_44 (n := 47) rfl rfl (by decide) (W := 3) rfl (by decide) (by decide) (by decide) ?_
  clear X eT
  intro T h' v L X eT hQ
  obtain ⟨z2, rfl, rfl, hE, b2⟩ := hQ
  replace hE := hE.symm
  subst hE
  replace N := N.app (Fr.nil n0)
  show Go p e below _ (T.setTop (mkF m 47 #[.val (.int p0), .val (.int p1), .val (.int p2), .val (.int p3), .val (.int p4), .val (.int p5), .val (.int (Int32.ofNat vs)), .val (.int (Int32.ofNat n)), .unset, .unset, .unset] [(.int (Int32.ofInt z2)), (.int (2 : Int32)), (.ref f), (.ref f)]))
  refine Go.iastoreL C X eT V_f (i := 2) rfl (by simp) at_47 (n := 48) rfl ?_
  clear X eT
  intro T h X eT W V_new
  replace O := O.wr W g_f
  clear V_f
  have V_f : Arl Z h f .int [.int (Int32.ofInt z0), .int (Int32.ofInt z1), .int (Int32.ofInt z2), .int (0 : Int32)] := V_new
  clear V_new
  replace N := Fr.snoc X N g_f
  refine Go.dup C X at_48 (n := 49) rfl rfl ?_
  refine Go.iconst C X at_49 (n := 50) rfl (v := (3 : Int32)) rfl ?_
  refine Go.iload C X at_50 (n := 52) rfl rfl ?_
  refine Go.iload C X at_52 (n := 54) rfl rfl ?_
  refine Go.stat C X eT (argsL := [(.int p5), (.int (Int32.ofNat vs))]) (rest := [(.int (3 : Int32)), (.ref f), (.ref f)]) (rm1 l Z a0 hw n0 _ p5 vs (by omega)) (wd hw 2 rfl) (wd hw 3 rfl) (wd hw 4 rfl) (wd hw 5 rfl) (by decide) (lenOf pd_4 rfl) rfl at_54 (n := 57) rfl rfl (by decide) (W := 3) rfl (by decide) (by decide) (by decide) ?_
  clear X eT
  intro T h' v L X eT hQ
  obtain ⟨z3, rfl, rfl, hE, b3⟩ := hQ
  replace hE := hE.symm
  subst hE
  replace N := N.app (Fr.nil n0)
  show Go p e below _ (T.setTop (mkF m 57 #[.val (.int p0), .val (.int p1), .val (.int p2), .val (.int p3), .val (.int p4), .val (.int p5), .val (.int (Int32.ofNat vs)), .val (.int (Int32.ofNat n)), .unset, .unset, .unset] [(.int (Int32.ofInt z3)), (.int (3 : Int32)), (.ref f), (.ref f)]))
  refine Go.iastoreL C X eT V_f (i := 3) rfl (by simp) at_57 (n := 58) rfl ?_
  clear X eT
  intro T h X eT W V_new
  replace O := O.wr W g_f
  clear V_f
  have V_f : Arl Z h f .int [.int (Int32.ofInt z0), .int (Int32.ofInt z1), .int (Int32.ofInt z2), .int (Int32.ofInt z3)] := V_new
  clear V_new
  replace N := Fr.snoc X N g_f
  refine Go.astore C X at_58 (n := 60) rfl rfl (l' := #[.val (.int p0), .val (.int p1), .val (.int p2), .val (.int p3), .val (.int p4), .val (.int p5), .val (.int (Int32.ofNat vs)), .val (.int (Int32.ofNat n)), .val (.ref f), .unset, .unset]) rfl ?_
  obtain rfl | rfl | rfl | rfl | rfl := (by omega : n = 0 ∨ n = 1 ∨ n = 2 ∨ n = 3 ∨ n = 4)
  · show Go p e below _ (T.setTop (mkF m 60 #[.val (.int p0), .val (.int p1), .val (.int p2), .val (.int p3), .val (.int p4), .val (.int p5), .val (.int (Int32.ofNat vs)), .val (.int (0 : Int32)), .val (.ref f), .unset, .unset] []))
    refine Go.iload C X at_60 (n := 62) rfl rfl ?_
    refine Go.if0_ne C X at_62 (n1 := 73) (n2 := 65) (by decide) (by decide) rfl (fun hc62 => ?_) (fun hc62 => ?_)
    · exact absurd hc62 (by decide)
    · refine Go.iconst C X at_65 (n := 66) rfl (v := (0 : Int32)) rfl ?_
      refine Go.newL C X eT (wd hw 1 rfl) (i := 0) rfl (cap := 0) (by decide) at_66 (n := 68) rfl (by decide) (by decide) (by decide) ?_
      clear X eT
      intro T h g z_g X eT E V_g
      have ne_f_g : f ≠ g := Nat.ne_of_lt (Nat.lt_of_lt_of_le V_f.lt (Nat.le_of_eq z_g.symm))
      have g_g : n0 ≤ g := by rw [z_g]; exact O.le
      replace O := O.ext E
      replace V_f := V_f.ext E
      replace V_g : Arl Z h g .int [] := V_g
      refine Go.astore C X at_68 (n := 70) rfl rfl (l' := #[.val (.int p0), .val (.int p1), .val (.int p2), .val (.int p3), .val (.int p4), .val (.int p5), .val (.int (Int32.ofNat vs)), .val (.int (0 : Int32)), .val (.ref f), .val (.ref g), .unset]) rfl ?_
      refine Go.goto C X at_70 (n := 190) (by decide) (by decide) ?_
      exact seg190 (n := 0) hw C (X.more (by decide) (by decide)) eT O N (by omega) (by decide) b0 b1 b2 b3 V_f V_g
  · show Go p e below _ (T.setTop (mkF m 60 #[.val (.int p0), .val (.int p1), .val (.int p2), .val (.int p3), .val (.int p4), .val (.int p5), .val (.int (Int32.ofNat vs)), .val (.int (1 : Int32)), .val (.ref f), .unset, .unset] []))
    refine Go.iload C X at_60 (n := 62) rfl rfl ?_
    refine Go.if0_ne C X at_62 (n1 := 73) (n2 := 65) (by decide) (by decide) rfl (fun hc62 => ?_) (fun hc62 => ?_)
    · refine Go.iload C X at_73 (n := 75) rfl rfl ?_
      refine Go.iconst C X at_75 (n := 76) rfl (v := (1 : Int32)) rfl ?_
      refine Go.icmp_ne C X at_76 (n1 := 94) (n2 := 79) (by decide) (by decide) rfl (fun hc76 => ?_) (fun hc76 => ?_)
      · exact absurd hc76 (by decide)
      · refine Go.iconst C X at_79 (n := 80) rfl (v := (1 : Int32)) rfl ?_
        refine Go.newL C X eT (wd hw 1 rfl) (i := 1) rfl (cap := 1) (by decide) at_80 (n := 82) rfl (by decide) (by decide) (by decide) ?_
        clear X eT
        intro T h g z_g X eT E V_g
        have ne_f_g : f ≠ g := Nat.ne_of_lt (Nat.lt_of_lt_of_le V_f.lt (Nat.le_of_eq z_g.symm))
        have g_g : n0 ≤ g := by rw [z_g]; exact O.le
        replace O := O.ext E
        replace V_f := V_f.ext E
        replace V_g : Arl Z h g .int [.int (0 : Int32)] := V_g
        refine Go.dup C X at_82 (n := 83) rfl rfl ?_
        refine Go.iconst C X at_83 (n := 84) rfl (v := (0 : Int32)) rfl ?_
        refine Go.aload C X at_84 (n := 86) rfl rfl rfl ?_
        refine Go.iconst C X at_86 (n := 87) rfl (v := (0 : Int32)) rfl ?_
        refine Go.ialoadL C X eT V_f (i := 0) rfl (v := .int (Int32.ofInt z0)) rfl at_87 (n := 88) rfl ?_
        refine Go.iastoreL C X eT V_g (i := 0) rfl (by simp) at_88 (n := 89) rfl ?_
        clear X eT
        intro T h X eT W V_new
        replace O := O.wr W g_g
        replace V_f := V_f.other W ne_f_g
        clear V_g
        have V_g : Arl Z h g .int [.int (Int32.ofInt z0)] := V_new
        clear V_new
        replace N := Fr.snoc X N g_g
        refine Go.astore C X at_89 (n := 91) rfl rfl (l' := #[.val (.int p0), .val (.int p1), .val (.int p2), .val (.int p3), .val (.int p4), .val (.int p5), .val (.int (Int32.ofNat vs)), .val (.int (1 : Int32)), .val (.ref f), .val (.ref g), .unset]) rfl ?_
        refine Go.goto C X at_91 (n := 190) (by decide) (by decide) ?_
        exact seg190 (n := 1) hw C (X.more (by decide) (by decide)) eT O N (by omega) (by decide) b0 b1 b2 b3 V_f V_g
    · exact absurd hc62 (by decide)
  · show Go p e below _ (T.setTop (mkF m 60 #[.val (.int p0), .val (.int p1), .val (.int p2), .val (.int p3), .val (.int p4), .val (.int p5), .val (.int (Int32.ofNat vs)), .val (.int (2 : Int32)), .val (.ref f), .unset, .unset] []))
    refine Go.iload C X at_60 (n := 62) rfl rfl ?_
    refine Go.if0_ne C X at_62 (n1 := 73) (n2 := 65) (by decide) (by decide) rfl (fun hc62 => ?_) (fun hc62 => ?_)
    · refine Go.iload C X at_73 (n := 75) rfl rfl ?_
      refine Go.iconst C X at_75 (n := 76) rfl (v := (1 : Int32)) rfl ?_
      refine Go.icmp_ne C X at_76 (n1 := 94) (n2 := 79) (by decide) (by decide) rfl (fun hc76 => ?_) (fun hc76 => ?_)
      · refine Go.iload C X at_94 (n := 96) rfl rfl ?_
        refine Go.iconst C X at_96 (n := 97) rfl (v := (2 : Int32)) rfl ?_
        refine Go.icmp_ne C X at_97 (n1 := 122) (n2 := 100) (by decide) (by decide) rfl (fun hc97 => ?_) (fun hc97 => ?_)
        · exact absurd hc97 (by decide)
        · refine Go.iconst C X at_100 (n := 101) rfl (v := (2 : Int32)) rfl ?_
          refine Go.newL C X eT (wd hw 1 rfl) (i := 2) rfl (cap := 2) (by decide) at_101 (n := 103) rfl (by decide) (by decide) (by decide) ?_
          clear X eT
          intro T h g z_g X eT E V_g
          have ne_f_g : f ≠ g := Nat.ne_of_lt (Nat.lt_of_lt_of_le V_f.lt (Nat.le_of_eq z_g.symm))
          have g_g : n0 ≤ g := by rw [z_g]; exact O.le
          replace O := O.ext E
          replace V_f := V_f.ext E
          replace V_g : Arl Z h g .int [.int (0 : Int32), .int (0 : Int32)] := V_g
          refine Go.dup C X at_103 (n := 104) rfl rfl ?_
          refine Go.iconst C X at_104 (n := 105) rfl (v := (0 : Int32)) rfl ?_
          refine Go.aload C X at_105 (n := 107) rfl rfl rfl ?_
          refine Go.iconst C X at_107 (n := 108) rfl (v := (0 : Int32)) rfl ?_
          refine Go.ialoadL C X eT V_f (i := 0) rfl (v := .int (Int32.ofInt z0)) rfl at_108 (n := 109) rfl ?_
          refine Go.iastoreL C X eT V_g (i := 0) rfl (by simp) at_109 (n := 110) rfl ?_
          clear X eT
          intro T h X eT W V_new
          replace O := O.wr W g_g
          replace V_f := V_f.other W ne_f_g
          clear V_g
          have V_g : Arl Z h g .int [.int (Int32.ofInt z0), .int (0 : Int32)] := V_new
          clear V_new
          replace N := Fr.snoc X N g_g
          refine Go.dup C X at_110 (n := 111) rfl rfl ?_
          refine Go.iconst C X at_111 (n := 112) rfl (v := (1 : Int32)) rfl ?_
          refine Go.aload C X at_112 (n := 114) rfl rfl rfl ?_
          refine Go.iconst C X at_114 (n := 115) rfl (v := (1 : Int32)) rfl ?_
          refine Go.ialoadL C X eT V_f (i := 1) rfl (v := .int (Int32.ofInt z1)) rfl at_115 (n := 116) rfl ?_
          refine Go.iastoreL C X eT V_g (i := 1) rfl (by simp) at_116 (n := 117) rfl ?_
          clear X eT
          intro T h X eT W V_new
          replace O := O.wr W g_g
          replace V_f := V_f.other W ne_f_g
          clear V_g
          have V_g : Arl Z h g .int [.int (Int32.ofInt z0), .int (Int32.ofInt z1)] := V_new
          clear V_new
          replace N := Fr.snoc X N g_g
          refine Go.astore C X at_117 (n := 119) rfl rfl (l' := #[.val (.int p0), .val (.int p1), .val (.int p2), .val (.int p3), .val (.int p4), .val (.int p5), .val (.int (Int32.ofNat vs)), .val (.int (2 : Int32)), .val (.ref f), .val (.ref g), .unset]) rfl ?_
          refine Go.goto C X at_119 (n := 190) (by decide) (by decide) ?_
          exact seg190 (n := 2) hw C (X.more (by decide) (by decide)) eT O N (by omega) (by decide) b0 b1 b2 b3 V_f V_g
      · exact absurd hc76 (by decide)
    · exact absurd hc62 (by decide)
  · show Go p e below _ (T.setTop (mkF m 60 #[.val (.int p0), .val (.int p1), .val (.int p2), .val (.int p3), .val (.int p4), .val (.int p5), .val (.int (Int32.ofNat vs)), .val (.int (3 : Int32)), .val (.ref f), .unset, .unset] []))
    refine Go.iload C X at_60 (n := 62) rfl rfl ?_
    refine Go.if0_ne C X at_62 (n1 := 73) (n2 := 65) (by decide) (by decide) rfl (fun hc62 => ?_) (fun hc62 => ?_)
    · refine Go.iload C X at_73 (n := 75) rfl rfl ?_
      refine Go.iconst C X at_75 (n := 76) rfl (v := (1 : Int32)) rfl ?_
      refine Go.icmp_ne C X at_76 (n1 := 94) (n2 := 79) (by decide) (by decide) rfl (fun hc76 => ?_) (fun hc76 => ?_)
      · refine Go.iload C X at_94 (n := 96) rfl rfl ?_
        refine Go.iconst C X at_96 (n := 97) rfl (v := (2 : Int32)) rfl ?_
        refine Go.icmp_ne C X at_97 (n1 := 122) (n2 := 100) (by decide) (by decide) rfl (fun hc97 => ?_) (fun hc97 => ?_)
        · refine Go.iload C X at_122 (n := 124) rfl rfl ?_
          refine Go.iconst C X at_124 (n := 125) rfl (v := (3 : Int32)) rfl ?_
          refine Go.icmp_ne C X at_125 (n1 := 157) (n2 := 128) (by decide) (by decide) rfl (fun hc125 => ?_) (fun hc125 => ?_)
          · exact absurd hc125 (by decide)
          · refine Go.iconst C X at_128 (n := 129) rfl (v := (3 : Int32)) rfl ?_
            refine Go.newL C X eT (wd hw 1 rfl) (i := 3) rfl (cap := 3) (by decide) at_129 (n := 131) rfl (by decide) (by decide) (by decide) ?_
            clear X eT
            intro T h g z_g X eT E V_g
            have ne_f_g : f ≠ g := Nat.ne_of_lt (Nat.lt_of_lt_of_le V_f.lt (Nat.le_of_eq z_g.symm))
            have g_g : n0 ≤ g := by rw [z_g]; exact O.le
            replace O := O.ext E
            replace V_f := V_f.ext E
            replace V_g : Arl Z h g .int [.int (0 : Int32), .int (0 : Int32), .int (0 : Int32)] := V_g
            refine Go.dup C X at_131 (n := 132) rfl rfl ?_
            refine Go.iconst C X at_132 (n := 133) rfl (v := (0 : Int32)) rfl ?_
            refine Go.aload C X at_133 (n := 135) rfl rfl rfl ?_
            refine Go.iconst C X at_135 (n := 136) rfl (v := (0 : Int32)) rfl ?_
            refine Go.ialoadL C X eT V_f (i := 0) rfl (v := .int (Int32.ofInt z0)) rfl at_136 (n := 137) rfl ?_
            refine Go.iastoreL C X eT V_g (i := 0) rfl (by simp) at_137 (n := 138) rfl ?_
            clear X eT
            intro T h X eT W V_new
            replace O := O.wr W g_g
            replace V_f := V_f.other W ne_f_g
            clear V_g
            have V_g : Arl Z h g .int [.int (Int32.ofInt z0), .int (0 : Int32), .int (0 : Int32)] := V_new
            clear V_new
            replace N := Fr.snoc X N g_g
            refine Go.dup C X at_138 (n := 139) rfl rfl ?_
            refine Go.iconst C X at_139 (n := 140) rfl (v := (1 : Int32)) rfl ?_
            refine Go.aload C X at_140 (n := 142) rfl rfl rfl ?_
            refine Go.iconst C X at_142 (n := 143) rfl (v := (1 : Int32)) rfl ?_
            refine Go.ialoadL C X eT V_f (i := 1) rfl (v := .int (Int32.ofInt z1)) rfl at_143 (n := 144) rfl ?_
            refine Go.iastoreL C X eT V_g (i := 1) rfl (by simp) at_144 (n := 145) rfl ?_
            clear X eT
            intro T h X eT W V_new
            replace O := O.wr W g_g
            replace V_f := V_f.other W ne_f_g
            clear V_g
            have V_g : Arl Z h g .int [.int (Int32.ofInt z0), .int (Int32.ofInt z1), .int (0 : Int32)] := V_new
            clear V_new
            replace N := Fr.snoc X N g_g
            refine Go.dup C X at_145 (n := 146) rfl rfl ?_
            refine Go.iconst C X at_146 (n := 147) rfl (v := (2 : Int32)) rfl ?_
            refine Go.aload C X at_147 (n := 149) rfl rfl rfl ?_
            refine Go.iconst C X at_149 (n := 150) rfl (v := (2 : Int32)) rfl ?_
            refine Go.ialoadL C X eT V_f (i := 2) rfl (v := .int (Int32.ofInt z2)) rfl at_150 (n := 151) rfl ?_
            refine Go.iastoreL C X eT V_g (i := 2) rfl (by simp) at_151 (n := 152) rfl ?_
            clear X eT
            intro T h X eT W V_new
            replace O := O.wr W g_g
            replace V_f := V_f.other W ne_f_g
            clear V_g
            have V_g : Arl Z h g .int [.int (Int32.ofInt z0), .int (Int32.ofInt z1), .int (Int32.ofInt z2)] := V_new
            clear V_new
            replace N := Fr.snoc X N g_g
            refine Go.astore C X at_152 (n := 154) rfl rfl (l' := #[.val (.int p0), .val (.int p1), .val (.int p2), .val (.int p3), .val (.int p4), .val (.int p5), .val (.int (Int32.ofNat vs)), .val (.int (3 : Int32)), .val (.ref f), .val (.ref g), .unset]) rfl ?_
            refine Go.goto C X at_154 (n := 190) (by decide) (by decide) ?_
            exact seg190 (n := 3) hw C (X.more (by decide) (by decide)) eT O N (by omega) (by decide) b0 b1 b2 b3 V_f V_g
        · exact absurd hc97 (by decide)
      · exact absurd hc76 (by decide)
    · exact absurd hc62 (by decide)
  · show Go p e below _ (T.setTop (mkF m 60 #[.val (.int p0), .val (.int p1), .val (.int p2), .val (.int p3), .val (.int p4), .val (.int p5), .val (.int (Int32.ofNat vs)), .val (.int (4 : Int32)), .val (.ref f), .unset, .unset] []))
    refine Go.iload C X at_60 (n := 62) rfl rfl ?_
    refine Go.if0_ne C X at_62 (n1 := 73) (n2 := 65) (by decide) (by decide) rfl (fun hc62 => ?_) (fun hc62 => ?_)
    · refine Go.iload C X at_73 (n := 75) rfl rfl ?_
      refine Go.iconst C X at_75 (n := 76) rfl (v := (1 : Int32)) rfl ?_
      refine Go.icmp_ne C X at_76 (n1 := 94) (n2 := 79) (by decide) (by decide) rfl (fun hc76 => ?_) (fun hc76 => ?_)
      · refine Go.iload C X at_94 (n := 96) rfl rfl ?_
        refine Go.iconst C X at_96 (n := 97) rfl (v := (2 : Int32)) rfl ?_
        refine Go.icmp_ne C X at_97 (n1 := 122) (n2 := 100) (by decide) (by decide) rfl (fun hc97 => ?_) (fun hc97 => ?_)
        · refine Go.iload C X at_122 (n := 124) rfl rfl ?_
          refine Go.iconst C X at_124 (n := 125) rfl (v := (3 : Int32)) rfl ?_
          refine Go.icmp_ne C X at_125 (n1 := 157) (n2 := 128) (by decide) (by decide) rfl (fun hc125 => ?_) (fun hc125 => ?_)
          · refine Go.iconst C X at_157 (n := 158) rfl (v := (4 : Int32)) rfl ?_
            refine Go.newL C X eT (wd hw 1 rfl) (i := 4) rfl (cap := 4) (by decide) at_158 (n := 160) rfl (by decide) (by decide) (by decide) ?_
            clear X eT
            intro T h g z_g X eT E V_g
            have ne_f_g : f ≠ g := Nat.ne_of_lt (Nat.lt_of_lt_of_le V_f.lt (Nat.le_of_eq z_g.symm))
            have g_g : n0 ≤ g := by rw [z_g]; exact O.le
            replace O := O.ext E
            replace V_f := V_f.ext E
            replace V_g : Arl Z h g .int [.int (0 : Int32), .int (0 : Int32), .int (0 : Int32), .int (0 : Int32)] := V_g
            refine Go.dup C X at_160 (n := 161) rfl rfl ?_
            refine Go.iconst C X at_161 (n := 162) rfl (v := (0 : Int32)) rfl ?_
            refine Go.aload C X at_162 (n := 164) rfl rfl rfl ?_
            refine Go.iconst C X at_164 (n := 165) rfl (v := (0 : Int32)) rfl ?_
            refine Go.ialoadL C X eT V_f (i := 0) rfl (v := .int (Int32.ofInt z0)) rfl at_165 (n := 166) rfl ?_
            refine Go.iastoreL C X eT V_g (i := 0) rfl (by simp) at_166 (n := 167) rfl ?_
            clear X eT
            intro T h X eT W V_new
            replace O := O.wr W g_g
            replace V_f := V_f.other W ne_f_g
            clear V_g
            have V_g : Arl Z h g .int [.int (Int32.ofInt z0), .int (0 : Int32), .int (0 : Int32), .int (0 : Int32)] := V_new
            clear V_new
            replace N := Fr.snoc X N g_g
            refine Go.dup C X at_167 (n := 168) rfl rfl ?_
            refine Go.iconst C X at_168 (n := 169) rfl (v := (1 : Int32)) rfl ?_
            refine Go.aload C X at_169 (n := 171) rfl rfl rfl ?_
            refine Go.iconst C X at_171 (n := 172) rfl (v := (1 : Int32)) rfl ?_
            refine Go.ialoadL C X eT V_f (i := 1) rfl (v := .int (Int32.ofInt z1)) rfl at_172 (n := 173) rfl ?_
            refine Go.iastoreL C X eT V_g (i := 1) rfl (by simp) at_173 (n := 174) rfl ?_
            clear X eT
            intro T h X eT W V_new
            replace O := O.wr W g_g
            replace V_f := V_f.other W ne_f_g
            clear V_g
            have V_g : Arl Z h g .int [.int (Int32.ofInt z0), .int (Int32.ofInt z1), .int (0 : Int32), .int (0 : Int32)] := V_new
            clear V_new
            replace N := Fr.snoc X N g_g
            refine Go.dup C X at_174 (n := 175) rfl rfl ?_
            refine Go.iconst C X at_175 (n := 176) rfl (v := (2 : Int32)) rfl ?_
            refine Go.aload C X at_176 (n := 178) rfl rfl rfl ?_
            refine Go.iconst C X at_178 (n := 179) rfl (v := (2 : Int32)) rfl ?_
            refine Go.ialoadL C X eT V_f (i := 2) rfl (v := .int (Int32.ofInt z2)) rfl at_179 (n := 180) rfl ?_
            refine Go.iastoreL C X eT V_g (i := 2) rfl (by simp) at_180 (n := 181) rfl ?_
            clear X eT
            intro T h X eT W V_new
            replace O := O.wr W g_g
            replace V_f := V_f.other W ne_f_g
            clear V_g
            have V_g : Arl Z h g .int [.int (Int32.ofInt z0), .int (Int32.ofInt z1), .int (Int32.ofInt z2), .int (0 : Int32)] := V_new
            clear V_new
            replace N := Fr.snoc X N g_g
            refine Go.dup C X at_181 (n := 182) rfl rfl ?_
            refine Go.iconst C X at_182 (n := 183) rfl (v := (3 : Int32)) rfl ?_
            refine Go.aload C X at_183 (n := 185) rfl rfl rfl ?_
            refine Go.iconst C X at_185 (n := 186) rfl (v := (3 : Int32)) rfl ?_
            refine Go.ialoadL C X eT V_f (i := 3) rfl (v := .int (Int32.ofInt z3)) rfl at_186 (n := 187) rfl ?_
            refine Go.iastoreL C X eT V_g (i := 3) rfl (by simp) at_187 (n := 188) rfl ?_
            clear X eT
            intro T h X eT W V_new
            replace O := O.wr W g_g
            replace V_f := V_f.other W ne_f_g
            clear V_g
            have V_g : Arl Z h g .int [.int (Int32.ofInt z0), .int (Int32.ofInt z1), .int (Int32.ofInt z2), .int (Int32.ofInt z3)] := V_new
            clear V_new
            replace N := Fr.snoc X N g_g
            refine Go.astore C X at_188 (n := 190) rfl rfl (l' := #[.val (.int p0), .val (.int p1), .val (.int p2), .val (.int p3), .val (.int p4), .val (.int p5), .val (.int (Int32.ofNat vs)), .val (.int (4 : Int32)), .val (.ref f), .val (.ref g), .unset]) rfl ?_
            exact seg190 (n := 4) hw C (X.more (by decide) (by decide)) eT O N (by omega) (by decide) b0 b1 b2 b3 V_f V_g
          · exact absurd hc125 (by decide)
        · exact absurd hc97 (by decide)
      · exact absurd hc76 (by decide)
    · exact absurd hc62 (by decide)
set_option maxRecDepth 65536 in
set_option maxHeartbeats 40000000 in
theorem comes_1 {Post : Tables → Env → Array Value → State → Outcome → State → Prop} (hpost : ∀ tb e args s v u, (limb_1_1.after args s (.returned v) u = true ∧ limb_1_2.after args s (.returned v) u = true ∧ True) → FrameEnd s (.returned v) u (Jvm.fieldLocs frame_1_writes args s ++ Jvm.arrayLocs frame_1_arrays args s ++ Jvm.staticLocs frame_1_statics s) 32 128 → Post tb e args s (.returned v) u) :
    ArmFor flags0 classFile x code maxLocals ret World_1 tables_1 room_1 Calls_1 rest_1 Pre_1 Post := by
  intro l hfl _ _ p e ha hc hk s m args below hf hA hF happ hP
  obtain ⟨hcalls, hrest, hpre⟩ := hP
  obtain ⟨-, -, -, hnamed, -, -, -, hat⟩ := (Spec.applies_iff hf).mp happ
  obtain ⟨hg, hn⟩ := and_e (Cond.before_iff.mp (show (Jvm.Cond.and given_1 narrow_1).before args s = true from hpre))
  obtain ⟨hcnt, hq0⟩ := and_e hg
  obtain ⟨w0, w1, w2, w3, w4, w5, rfl⟩ : ∃ w0 w1 w2 w3 w4 w5 : Value, args = #[w0, w1, w2, w3, w4, w5] := by
    have hs : args.size = 6 := by simpa [Cond.value, given_1] using hcnt
    obtain ⟨L⟩ := args
    match L, hs with
    | [w0, w1, w2, w3, w4, w5], _ => exact ⟨w0, w1, w2, w3, w4, w5, rfl⟩
  have hw := fun d (hd : d ∈ tables_1) => atoms_spec (ws := Jvm.Cond.code x code maxLocals ret :: tables_1) hat d (List.mem_cons_of_mem _ hd)
  have hfit : Fit s := fun {y c} hc i hi => by
    obtain ⟨ha, rfl⟩ := Array.getElem?_eq_some_iff.mp hc
    have q := List.all_eq_true.mp ((Array.all_eq_true_iff_forall_mem.mp hF) _ (Array.getElem_mem ha)) i (List.mem_range.mpr hi)
    simpa [Array.getElem?_eq_getElem hi] using q
  obtain ⟨ha0, hq1⟩ := and_e hq0
  obtain ⟨i0, e0⟩ := is_v ha0
  obtain rfl : w0 = (.int i0) := Option.some.inj e0
  obtain ⟨ha1, hq2⟩ := and_e hq1
  obtain ⟨i1, e1⟩ := is_v ha1
  obtain rfl : w1 = (.int i1) := Option.some.inj e1
  obtain ⟨ha2, hq3⟩ := and_e hq2
  obtain ⟨i2, e2⟩ := is_v ha2
  obtain rfl : w2 = (.int i2) := Option.some.inj e2
  obtain ⟨ha3, hq4⟩ := and_e hq3
  obtain ⟨i3, e3⟩ := is_v ha3
  obtain rfl : w3 = (.int i3) := Option.some.inj e3
  obtain ⟨ha4, hq5⟩ := and_e hq4
  obtain ⟨i4, e4⟩ := is_v ha4
  obtain rfl : w4 = (.int i4) := Option.some.inj e4
  obtain ⟨i5, e5⟩ := is_v hq5
  obtain rfl : w5 = (.int i5) := Option.some.inj e5
  obtain ⟨n, o, g1, g2, g3, _, L, rfl, ⟨rfl, N⟩, hq⟩ := rm0 l s _ hw s.heap.size s.heap i0 i1 i2 i3 i4 i5 (Old.start s) tables_1 p e ha hc hk s m _ below hf ((Spec.applies_iff_loose hf).mp happ).1 ⟨rfl, State.Warmed39.refl s, rfl⟩ trivial
  refine ⟨n, _, g1, g2, g3, hpost _ _ _ _ _ _ ⟨Cond.after_iff.mpr rfl, Cond.after_iff.mpr (eq_i res_at (Term.int_eval (1)) rfl), trivial⟩ ⟨hq.1, hq.2.1, (hq.2.2.sift fun y hy => Or.inr (N y hy)).mono (by decide) (by decide)⟩⟩
theorem main_1_1 : Claimed_1_1 := comes_1 fun _ _ _ _ _ _ h hF => ⟨h.1, hF⟩
theorem main_1_2 : Claimed_1_2 := comes_1 fun _ _ _ _ _ _ h hF => ⟨h.2.1, hF⟩

end Jvm.Pilot.@@N@@
namespace Jvm.Pilot.@@N@@
open Jvm Jvm.ClassFile Sem Op Lib Jvm.Free Jvm.Stand Jvm.Pilot.@@N@@.Jvm.D
/-! MADE BY PROGRAM (witnessworld.py) out of the Statement's table words and the real class files: 9 classes; the members and pool entries that the words name. The judged class is class 1, her method 5. -/
namespace start1
open Jvm.ClassFile
def u (s : String) : CpInfo := .utf8 (stringToUtf16 s)
/-- a pool by its gaps: so many unusable entries, then the entry; so many at the end -/
def gap : Nat → List CpInfo → List CpInfo
  | 0, r => r
  | n + 1, r => .unusable :: gap n r
def poolList (es : List (Nat × CpInfo)) (last : Nat) : List CpInfo := es.foldr (fun e r => gap e.1 (e.2 :: r)) (gap last [])
def pool (es : List (Nat × CpInfo)) (last : Nat) : Array CpInfo := ⟨poolList es last⟩
def fileOf (pool : Array CpInfo) (this : Nat) (attrs : Array Attribute := #[]) (ms : Array MethodInfo := #[]) (fl : Nat := 33) (sup : Nat := 0) (ifs : Array Nat := #[]) (fds : Array FieldInfo := #[]) : ClassFile where
  minorVersion := 0
  majorVersion := 65
  constantPool := pool
  accessFlags := fl
  thisClass := this
  superClass := sup
  interfaces := ifs
  fields := fds
  methods := ms
  attributes := attrs
def plain (name : String) (sup : Option ClassId) : Class where
  name := name
  kind := .ordinary
  loader := none
  accessFlags := 33
  super := sup
  interfaces := #[]
  cf := none
  fields := #[]
  methods := #[]
  instanceTypes := #[]
  staticTypes := #[]
  resolved := #[]
  callSites := []
  init := .initialized
  statics := none
  mirror := none

def pool0 : Array CpInfo := pool [(5, u "<init>"), (0, u "()V"), (1, .class_ 10), (1, u "java/lang/Object")] 113

def k0m0 : Method := { name := "<init>", desc := "()V", sig := { parameters := [], returnType := none }, accessFlags := 1, code := none }
/-- java/lang/Object -/
def k0 : Class := { plain "java/lang/Object" none with
  accessFlags := 33
  interfaces := #[]
  cf := some (fileOf pool0 8 #[] #[{ accessFlags := 1, nameIndex := 5, descriptorIndex := 6, attributes := #[] }] 33 0 #[] #[])
  fields := #[]
  methods := #[k0m0]
  instanceTypes := #[]
  staticTypes := #[]
  resolved := Array.replicate 124 none
  statics := none }

def pool1 : Array CpInfo := pool [(2, .class_ 4), (1, u "java/lang/Object"), (0, u "<init>"), (0, u "()V"), (0, .integer 2147483647), (0, .methodref 9 10), (0, .class_ 11), (0, .nameAndType 12 13), (0, u "com/example/libsymtree/libsymtree/PreimagesOfPinLaw"), (0, u "cnt"), (0, u "([III)I"), (0, .methodref 9 15), (0, .nameAndType 16 17), (0, u "entry"), (0, u "(II)I"), (0, .methodref 19 20), (0, .class_ 21), (0, .nameAndType 22 23), (0, u "com/example/libsymtree/libsymtree/Preimages"), (0, u "of"), (0, u "(I[I)[[I"), (0, .methodref 9 25), (0, .nameAndType 26 27), (0, u "row"), (0, u "([[III[II)Z"), (0, .methodref 9 29), (0, .nameAndType 30 31), (0, u "at"), (0, u "([[I[III)Z"), (5, u "law"), (0, u "(IIIIII)Z")] 4

def k1m0 : Method := { name := "<init>", desc := "()V", sig := { parameters := [], returnType := none }, accessFlags := 2, code := none }
def k1c1 : Code := { maxStack := 3, maxLocals := 2, code := method_2_code, exceptionTable := #[], attributes := #[] }
def k1m1 : Method := { name := "entry", desc := "(II)I", sig := { parameters := [.int, .int], returnType := some .int }, accessFlags := 10, code := some k1c1 }
def k1c2 : Code := { maxStack := 2, maxLocals := 4, code := method_3_code, exceptionTable := #[], attributes := #[] }
def k1m2 : Method := { name := "cnt", desc := "([III)I", sig := { parameters := [(.array .int), .int, .int], returnType := some .int }, accessFlags := 10, code := some k1c2 }
def k1c3 : Code := { maxStack := 4, maxLocals := 5, code := method_4_code, exceptionTable := #[], attributes := #[] }
def k1m3 : Method := { name := "row", desc := "([[III[II)Z", sig := { parameters := [(.array (.array .int)), .int, .int, (.array .int), .int], returnType := some .boolean }, accessFlags := 10, code := some k1c3 }
def k1c4 : Code := { maxStack := 3, maxLocals := 7, code := method_5_code, exceptionTable := #[], attributes := #[] }
def k1m4 : Method := { name := "at", desc := "([[I[III)Z", sig := { parameters := [(.array (.array .int)), (.array .int), .int, .int], returnType := some .boolean }, accessFlags := 10, code := some k1c4 }
def k1c5 : Code := { maxStack := 5, maxLocals := 11, code := code, exceptionTable := #[], attributes := #[] }
def k1m5 : Method := { name := "law", desc := "(IIIIII)Z", sig := { parameters := [.int, .int, .int, .int, .int, .int], returnType := some .boolean }, accessFlags := 9, code := some k1c5 }
/-- com/example/libsymtree/libsymtree/PreimagesOfPinLaw -/
def k1 : Class := { plain "com/example/libsymtree/libsymtree/PreimagesOfPinLaw" (some 0) with
  accessFlags := 49
  interfaces := #[]
  cf := some (fileOf pool1 9 #[] #[{ accessFlags := 2, nameIndex := 5, descriptorIndex := 6, attributes := #[] }, { accessFlags := 10, nameIndex := 16, descriptorIndex := 17, attributes := #[] }, { accessFlags := 10, nameIndex := 12, descriptorIndex := 13, attributes := #[] }, { accessFlags := 10, nameIndex := 26, descriptorIndex := 27, attributes := #[] }, { accessFlags := 10, nameIndex := 30, descriptorIndex := 31, attributes := #[] }, { accessFlags := 9, nameIndex := 37, descriptorIndex := 38, attributes := #[] }] 49 2 #[] #[])
  fields := #[]
  methods := #[k1m0, k1m1, k1m2, k1m3, k1m4, k1m5]
  instanceTypes := #[]
  staticTypes := #[]
  resolved := Array.replicate 43 none
  statics := none }

def pool2 : Array CpInfo := pool [(2, .class_ 4), (1, u "java/lang/Object"), (0, u "<init>"), (0, u "()V"), (0, .class_ 8), (0, u "[I"), (0, .class_ 10), (0, u "com/example/libsymtree/libsymtree/Preimages"), (2, u "of"), (0, u "(I[I)[[I")] 5

def k2m0 : Method := { name := "<init>", desc := "()V", sig := { parameters := [], returnType := none }, accessFlags := 2, code := none }
def k2c1 : Code := { maxStack := 6, maxLocals := 7, code := prog_46_method_2_code, exceptionTable := #[], attributes := #[] }
def k2m1 : Method := { name := "of", desc := "(I[I)[[I", sig := { parameters := [.int, (.array .int)], returnType := some (.array (.array .int)) }, accessFlags := 8, code := some k2c1 }
/-- com/example/libsymtree/libsymtree/Preimages -/
def k2 : Class := { plain "com/example/libsymtree/libsymtree/Preimages" (some 0) with
  accessFlags := 48
  interfaces := #[]
  cf := some (fileOf pool2 9 #[] #[{ accessFlags := 2, nameIndex := 5, descriptorIndex := 6, attributes := #[] }, { accessFlags := 8, nameIndex := 13, descriptorIndex := 14, attributes := #[] }] 48 2 #[] #[])
  fields := #[]
  methods := #[k2m0, k2m1]
  instanceTypes := #[]
  staticTypes := #[]
  resolved := Array.replicate 20 none
  statics := none }

def pool3 : Array CpInfo := pool [(1, u "java/lang/Cloneable"), (0, .class_ 1), (0, u "java/lang/Object"), (0, .class_ 3)] 3

/-- java/lang/Cloneable -/
def k3 : Class := { plain "java/lang/Cloneable" (some 0) with
  accessFlags := 1537
  interfaces := #[]
  cf := some (fileOf pool3 2 #[] #[] 1537 4 #[] #[])
  fields := #[]
  methods := #[]
  instanceTypes := #[]
  staticTypes := #[]
  resolved := Array.replicate 8 none
  statics := none }

def pool4 : Array CpInfo := pool [(1, u "java/io/Serializable"), (0, .class_ 1), (0, u "java/lang/Object"), (0, .class_ 3)] 3

/-- java/io/Serializable -/
def k4 : Class := { plain "java/io/Serializable" (some 0) with
  accessFlags := 1537
  interfaces := #[]
  cf := some (fileOf pool4 2 #[] #[] 1537 4 #[] #[])
  fields := #[]
  methods := #[]
  instanceTypes := #[]
  staticTypes := #[]
  resolved := Array.replicate 8 none
  statics := none }

/-- the primitive byte -/
def k5 : Class := { plain "byte" none with kind := .primitive 'B', accessFlags := 0x411 }
/-- [B -/
def k6 : Class := { plain "[B" (some 0) with kind := .array 5 .byte, interfaces := #[3, 4], accessFlags := 1041 }

/-- the primitive int -/
def k7 : Class := { plain "int" none with kind := .primitive 'I', accessFlags := 0x411 }
/-- [I -/
def k8 : Class := { plain "[I" (some 0) with kind := .array 7 .int, interfaces := #[3, 4], accessFlags := 1041 }

def heap : Heap := #[]
/-- [[I -/
def k9 : Class := { plain "[[I" (some 0) with kind := .array 8 (.array .int), interfaces := #[3, 4], accessFlags := 1041 }
def classes : Array Class := #[k0, k1, k2, k3, k4, k5, k6, k7, k8, k9]
def interned : List (Array UInt16 × Addr) := []
def slotsUsed : Nat := 0
def theMethod : MethodId := ⟨1, 5⟩
def args0 : Array Value := #[.int 5, .int 7, .int 3, .int 4, .int 5, .int 6]
def aboutOver (below : List Frame) : State where
  vm := { classes := classes, interned := interned.toArray }
  heap := heap
  slotsUsed := slotsUsed
  threads := #[{ frames := .invoking theMethod args0 :: below }]
def below0 : List Frame := [.native { method := ⟨0, 0⟩, args := #[] }]
def about1 : State := aboutOver below0
def p0 : Program := .bare "" "" ""
def e0 : Env := launch0.env 0 0 0
theorem w_frames : about1.frames = Frame.invoking theMethod args0 :: below0 := rfl
set_option maxRecDepth 65536 in
theorem w_args : argsFit about1.vm theMethod args0 = true := by decide +kernel
set_option maxRecDepth 65536 in
theorem w_heap : heapFits about1 = true := by decide +kernel
set_option maxRecDepth 65536 in
theorem w_runnable : about1.curStatus? = some .runnable := by decide +kernel
set_option maxRecDepth 65536 in
theorem w_alone : about1.alone = true := by decide +kernel
set_option maxRecDepth 65536 in
theorem w_named : about1.methodNamed? x = some theMethod := by decide +kernel
set_option maxRecDepth 65536 in
theorem w_hears : about1.hears theMethod below0 = true := by decide +kernel
set_option maxRecDepth 65536 in
theorem w_ripe : about1.ripe theMethod args0 below0 = true := by decide +kernel
theorem w_running : about1.status = .running := rfl
set_option maxRecDepth 65536 in
theorem w_room : about1.hasRoom e0.platform room_1 = true :=
  launch0.hasRoom_least _ room_1 (by decide +kernel) (by decide +kernel) (by decide +kernel) (by decide +kernel) (by decide +kernel) (by decide +kernel)
theorem allAtoms_all (ts : List Jvm.Cond) (a : Array Jvm.Value) (st : Jvm.State) : (allAtoms ts).before a st = ts.all (fun c => c.before a st) := by
  induction ts with
  | nil => rfl
  | cons c t ih =>
    show (Jvm.Cond.and c (allAtoms t)).before a st = _
    rw [Jvm.Cond.before_and, ih, List.all_cons]
def words1 : List Jvm.Cond := Jvm.Cond.code x code maxLocals ret :: tables_1
/-- a 'code' word, met by the world's own term for the bytes: nothing is compared byte by byte -/
theorem code_word {y : MethodName} {bytes : ByteArray} {mx : Nat} {rt : Option FieldType} {a : Array Value} {s : State} {m : MethodId} {meth : Method} {c : Code} (h1 : s.methodNamed? y = some m) (h2 : s.vm.method? m = some meth) (h3 : meth.code = some c) (h4 : c.code = bytes)
    (h5 : (c.maxLocals == mx && c.exceptionTable.isEmpty && decide (c.maxStack ≤ mostOperands) && decide (meth.sig.returnType = rt) && !meth.locks && decide (parseMethodDescriptor y.desc = some meth.sig)) = true) : (Jvm.Cond.code y bytes mx rt).before a s = true := by
  simp only [Bool.and_eq_true, beq_iff_eq, Bool.not_eq_true', decide_eq_true_eq] at h5
  obtain ⟨⟨⟨⟨⟨g1, g2⟩, g3⟩, g4⟩, g5⟩, g6⟩ := h5
  simp [Cond.before, Cond.holds, Cond.value, h1, h2, h3, h4, g1, g2, g3, g4, g5, g6]
def isCode : Jvm.Cond → Bool
  | .code _ _ _ _ => true
  | _ => false
theorem all_split {L : List Jvm.Cond} {P : Jvm.Cond → Bool} (h1 : L.all (fun c => isCode c || P c) = true) (h2 : ∀ c ∈ L.filter isCode, P c = true) : L.all P = true := by
  refine List.all_eq_true.mpr fun c hc => ?_
  have h := List.all_eq_true.mp h1 c hc
  rcases Bool.eq_false_or_eq_true (isCode c) with hi | hi
  · exact h2 c (List.mem_filter.mpr ⟨hc, hi⟩)
  · simpa [hi] using h
set_option maxRecDepth 65536 in
theorem w_c0 : (Jvm.Cond.code x code maxLocals ret).before args0 about1 = true := code_word (m := ⟨1, 5⟩) (meth := k1m5) (c := k1c5) (by decide +kernel) rfl rfl rfl (by decide +kernel)
set_option maxRecDepth 65536 in
theorem w_c1 : (Jvm.Cond.code ({ cls := "com/example/libsymtree/libsymtree/PreimagesOfPinLaw", name := "entry", desc := "(II)I" } : Jvm.MethodName) method_2_code (2 : Nat) (Option.some Jvm.ClassFile.FieldType.int)).before args0 about1 = true := code_word (m := ⟨1, 1⟩) (meth := k1m1) (c := k1c1) (by decide +kernel) rfl rfl rfl (by decide +kernel)
set_option maxRecDepth 65536 in
theorem w_c2 : (Jvm.Cond.code ({ cls := "com/example/libsymtree/libsymtree/Preimages", name := "of", desc := "(I[I)[[I" } : Jvm.MethodName) prog_46_method_2_code (7 : Nat) (Option.some (Jvm.ClassFile.FieldType.array (Jvm.ClassFile.FieldType.array Jvm.ClassFile.FieldType.int)))).before args0 about1 = true := code_word (m := ⟨2, 1⟩) (meth := k2m1) (c := k2c1) (by decide +kernel) rfl rfl rfl (by decide +kernel)
set_option maxRecDepth 65536 in
theorem w_c3 : (Jvm.Cond.code ({ cls := "com/example/libsymtree/libsymtree/PreimagesOfPinLaw", name := "row", desc := "([[III[II)Z" } : Jvm.MethodName) method_4_code (5 : Nat) (Option.some Jvm.ClassFile.FieldType.boolean)).before args0 about1 = true := code_word (m := ⟨1, 3⟩) (meth := k1m3) (c := k1c3) (by decide +kernel) rfl rfl rfl (by decide +kernel)
set_option maxRecDepth 65536 in
theorem w_c4 : (Jvm.Cond.code ({ cls := "com/example/libsymtree/libsymtree/PreimagesOfPinLaw", name := "at", desc := "([[I[III)Z" } : Jvm.MethodName) method_5_code (7 : Nat) (Option.some Jvm.ClassFile.FieldType.boolean)).before args0 about1 = true := code_word (m := ⟨1, 4⟩) (meth := k1m4) (c := k1c4) (by decide +kernel) rfl rfl rfl (by decide +kernel)
set_option maxRecDepth 65536 in
theorem w_c5 : (Jvm.Cond.code ({ cls := "com/example/libsymtree/libsymtree/PreimagesOfPinLaw", name := "cnt", desc := "([III)I" } : Jvm.MethodName) method_3_code (4 : Nat) (Option.some Jvm.ClassFile.FieldType.int)).before args0 about1 = true := code_word (m := ⟨1, 2⟩) (meth := k1m2) (c := k1c2) (by decide +kernel) rfl rfl rfl (by decide +kernel)
def codes1 : List Jvm.Cond := [Jvm.Cond.code x code maxLocals ret, Jvm.Cond.code ({ cls := "com/example/libsymtree/libsymtree/PreimagesOfPinLaw", name := "entry", desc := "(II)I" } : Jvm.MethodName) method_2_code (2 : Nat) (Option.some Jvm.ClassFile.FieldType.int), Jvm.Cond.code ({ cls := "com/example/libsymtree/libsymtree/Preimages", name := "of", desc := "(I[I)[[I" } : Jvm.MethodName) prog_46_method_2_code (7 : Nat) (Option.some (Jvm.ClassFile.FieldType.array (Jvm.ClassFile.FieldType.array Jvm.ClassFile.FieldType.int))), Jvm.Cond.code ({ cls := "com/example/libsymtree/libsymtree/PreimagesOfPinLaw", name := "row", desc := "([[III[II)Z" } : Jvm.MethodName) method_4_code (5 : Nat) (Option.some Jvm.ClassFile.FieldType.boolean), Jvm.Cond.code ({ cls := "com/example/libsymtree/libsymtree/PreimagesOfPinLaw", name := "at", desc := "([[I[III)Z" } : Jvm.MethodName) method_5_code (7 : Nat) (Option.some Jvm.ClassFile.FieldType.boolean), Jvm.Cond.code ({ cls := "com/example/libsymtree/libsymtree/PreimagesOfPinLaw", name := "cnt", desc := "([III)I" } : Jvm.MethodName) method_3_code (4 : Nat) (Option.some Jvm.ClassFile.FieldType.int)]
set_option maxRecDepth 65536 in
theorem codes_eq : words1.filter isCode = codes1 := rfl
theorem w_codes : ∀ c ∈ words1.filter isCode, c.before args0 about1 = true := by
  rw [codes_eq]
  intro c hc
  simp only [codes1, List.mem_cons, List.not_mem_nil, or_false] at hc
  rcases hc with rfl | rfl | rfl | rfl | rfl | rfl
  · exact w_c0
  · exact w_c1
  · exact w_c2
  · exact w_c3
  · exact w_c4
  · exact w_c5
set_option maxRecDepth 65536 in
theorem w_t1 : words1.all (fun c => isCode c || c.before args0 about1) = true := by decide +kernel
theorem w_tables : (allAtoms (Jvm.Cond.code x code maxLocals ret :: tables_1)).before args0 about1 = true := by
  rw [allAtoms_all]
  show words1.all (fun c => c.before args0 about1) = true
  refine all_split ?_ w_codes
  rw [w_t1]
set_option maxRecDepth 65536 in
theorem w_case : (Jvm.Cond.and given_1 narrow_1).before args0 about1 = true := by decide +kernel
theorem w_applies : (headSpec (Jvm.Cond.code x code maxLocals ret :: tables_1) room_1).applies x e0.platform about1 = true :=
  (Spec.applies_iff w_frames).mpr ⟨w_running, w_runnable, w_alone, w_named, w_hears, w_ripe, w_room, w_tables⟩
theorem atStart : AtStart classFile x code maxLocals ret World_1 tables_1 room_1 Calls_1 rest_1 Pre_1 launch0 p0 e0 about1 theMethod args0 below0 :=
  ⟨lists_1, trivial, launch0.admits_env _ _ _, launch0.least_env, fairChoices_fair.cas, fairChoices_fair.clock, w_frames, w_args, w_heap, w_applies, trivial, trivial, w_case⟩
end start1
theorem witness_1 : WitnessClaimed_1 := ⟨start1.p0, start1.e0, start1.about1, start1.theMethod, start1.args0, start1.below0, start1.atStart⟩
end Jvm.Pilot.@@N@@
