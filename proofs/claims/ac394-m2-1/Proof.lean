import JvmDerived
import JvmDerived.Pilot.@@N@@Statement
import JvmDerived.Pilot.@@N@@Code
set_option linter.unusedVariables false
set_option linter.unusedSimpArgs false
namespace Jvm.RoadKit
open Sem ClassFile Op Lib Jvm.Stand Jvm.Free Jvm.LawKit
section OwnA
variable {p : Program} {l : Launch} {e : Env} {R : Room} {s : State} {m : MethodId} {args : Array Value} {below : List Frame} {meth : Method} {c : Code} {T : State} {locs : List Loc} {cells slots : Nat} {Z : State} {a0 : Array Value} {h : Heap}
/-- from T the run comes to an end of which K speaks -/
def Go (p : Program) (e : Env) (below : List Frame) (K : Outcome → State → Prop) (T : State) : Prop :=
  ∃ s₂ o, Steps p.tables e below T s₂ ∧ s₂.status = .running ∧ Ended s₂ below o ∧ K o s₂
theorem Go.of {K : Outcome → State → Prop} {T T' : State} (st : ∀ t, Steps p.tables e below T' t → Steps p.tables e below T t) (k : Go p e below K T') : Go p e below K T := by
  obtain ⟨t, o, h1, h2⟩ := k
  exact ⟨t, o, st t h1, h2⟩
/-- what stands through a whole body -/
def Cx (p : Program) (s : State) (m : MethodId) (meth : Method) (c : Code) (Z : State) (own : String) (bytes : ByteArray) (maxL : Nat) (ret : Option FieldType) (nm : String) : Prop :=
  p.tables.exec = Jvm.exec ∧ Z.Warmed39 s.vm ∧ c.code = bytes ∧ c.maxLocals = maxL ∧ s.vm.findClass own = some m.cls ∧ meth.sig.returnType = ret ∧ meth.name = nm ∧ meth.locks = false
variable {own nm : String} {bytes : ByteArray} {maxL : Nat} {ret : Option FieldType} {K : Outcome → State → Prop}
theorem Cx.hx (C : Cx p s m meth c Z own bytes maxL ret nm) : p.tables.exec = Jvm.exec := C.1
theorem Cx.hZ (C : Cx p s m meth c Z own bytes maxL ret nm) : Z.Warmed39 s.vm := C.2.1
theorem Cx.hby (C : Cx p s m meth c Z own bytes maxL ret nm) : c.code = bytes := C.2.2.1
theorem Cx.hml (C : Cx p s m meth c Z own bytes maxL ret nm) : c.maxLocals = maxL := C.2.2.2.1
theorem Cx.hown (C : Cx p s m meth c Z own bytes maxL ret nm) : s.vm.findClass own = some m.cls := C.2.2.2.2.1
theorem Cx.hret (C : Cx p s m meth c Z own bytes maxL ret nm) : meth.sig.returnType = ret := C.2.2.2.2.2.1
theorem Cx.hnm (C : Cx p s m meth c Z own bytes maxL ret nm) : meth.name = nm := C.2.2.2.2.2.2.1
theorem Cx.hlk (C : Cx p s m meth c Z own bytes maxL ret nm) : meth.locks = false := C.2.2.2.2.2.2.2
/-- the end of a body: what it returned, the heap, the places written -/
def EndQ (s : State) (Q : Option Value → Heap → List Loc → Prop) (k n : Nat) (o : Outcome) (t : State) : Prop := ∃ v L, o = .returned v ∧ Q v t.heap L ∧ FrameEnd s o t L k n
/-- a body's contract -/
def Ctr (l : Launch) (Z : State) (y : MethodName) (bytes : ByteArray) (maxL : Nat) (ret : Option FieldType) (rm : Room) (as' : Array Value) (h : Heap) (Q : Option Value → Heap → List Loc → Prop) : Prop :=
  ∀ ws, MetFree l y (head1 (Cond.code y bytes maxL ret :: ws) rm) (fun a U => a = as' ∧ Z.Warmed39 U.vm ∧ U.heap = h) (fun _ _ _ _ _ => True) (fun _ U o U' => EndQ U Q rm.cells rm.slots o U')
theorem Ctr.mk {y : MethodName} {rm : Room} {as' : Array Value} {Q : Option Value → Heap → List Loc → Prop} (hp : plainFor y = true) {ls : Array Slot} (hE : ∀ m : MethodId, entryFrame m as' maxL = mkF m 0 ls [])
    (body : ∀ (p : Program) (e : Env) (s : State) (m : MethodId) (below : List Frame) (meth : Method) (c : Code) (T : State), Cx p s m meth c Z y.cls bytes maxL ret y.name → Stand p l e rm s m as' below meth c T [] 0 0 → T.heap = h → s.heap = h → Go p e below (EndQ s Q rm.cells rm.slots) (T.setTop (mkF m 0 ls []))) :
    Ctr l Z y bytes maxL ret rm as' h Q := by
  intro ws
  refine MetFree.of_bodySF hp hisR ?_
  intro p e s m args below meth c s₁ Bd hml0 hP hK
  obtain ⟨rfl, hZ, hh⟩ := hP
  have q := body p e s m below meth c s₁ ⟨Bd.exec, hZ, Bd.bytes, hml0, findClass_of_methodNamed Bd.named, Bd.returns, (name_of_methodNamed Bd.named Bd.method).1, BodyLoose.notSynchronized Bd⟩ (Stand.of_body Bd) (by rw [← hh, Bd.state]; rfl) hh
  rw [← hE m] at q
  exact q
theorem Ctr.mono {y : MethodName} {rm : Room} {as' : Array Value} {Q Q' : Option Value → Heap → List Loc → Prop} (h1 : Ctr l Z y bytes maxL ret rm as' h Q) (h2 : ∀ v h' L, Q v h' L → Q' v h' L) : Ctr l Z y bytes maxL ret rm as' h Q' :=
  fun ws p e ha hc hk s m args below hf happ hP hK => by
    obtain ⟨n, o, g1, g2, g3, v, L, g4, g5, g6⟩ := h1 ws p e ha hc hk s m args below hf happ hP hK
    exact ⟨n, o, g1, g2, g3, v, L, g4, h2 _ _ _ g5, g6⟩
theorem Go.fin (C : Cx p s m meth c Z own bytes maxL ret nm) (X : Stand p l e R s m args below meth c T locs cells slots) (eT : T.heap = h) {v : Option Value} (hv : ret = none → v = none) {Q : Option Value → Heap → List Loc → Prop} {k n : Nat} (hQ : Q v h locs) (hc : cells ≤ k) (hn : slots ≤ n) {g : JFrame}
    (st : ∀ fs, (∀ (f : JFrame) (acts : List Action), f.method = m → f.locked = none → f.entered = [] → (doReturn e (T.setTop f) acts v).1 = T.setFrames fs) → Steps p.tables e below (T.setTop g) (T.setFrames fs)) : Go p e below (EndQ s Q k n) (T.setTop g) := by
  obtain ⟨fs, hr, hrun, hended, hW, hsame⟩ := X.leave (v := v) (fun h => hv (C.hret ▸ h)) C.hlk
  subst eT
  exact ⟨_, _, st fs hr, hrun, hended, _, _, rfl, hQ, ⟨_, rfl⟩, hW, hsame.mono hc hn⟩
theorem Go.ret0 (C : Cx p s m meth c Z own bytes maxL none nm) (X : Stand p l e R s m args below meth c T locs cells slots) (eT : T.heap = h) {pc : Nat} {ls : Array Slot} {Q : Option Value → Heap → List Loc → Prop} {k n : Nat} (hd : decode bytes pc = .ok (.return_, 1)) (hc : cells ≤ k) (hn : slots ≤ n) (hQ : Q none h locs) : Go p e below (EndQ s Q k n) (T.setTop (mkF m pc ls [])) :=
  Go.fin C X eT (v := none) (fun _ => rfl) hQ hc hn fun fs hr => X.returnOut C.hx C.hret (hb C.hby hd) hr
theorem Go.retI (C : Cx p s m meth c Z own bytes maxL (some .int) nm) (X : Stand p l e R s m args below meth c T locs cells slots) (eT : T.heap = h) {pc : Nat} {ls : Array Slot} {z : Int32} {rest : List Value} {Q : Option Value → Heap → List Loc → Prop} {k n : Nat} (hd : decode bytes pc = .ok (.ireturn, 1)) (hc : cells ≤ k) (hn : slots ≤ n) (hQ : Q (some (.int z)) h locs) : Go p e below (EndQ s Q k n) (T.setTop (mkF m pc ls (.int z :: rest))) :=
  Go.fin C X eT (v := some (.int z)) (fun h => nomatch h) hQ hc hn fun fs hr => retOut X C.hx C.hret rfl (Or.inl ⟨rfl, Or.inl rfl, z, rfl⟩) (hb C.hby hd) hr
theorem Go.retJ (C : Cx p s m meth c Z own bytes maxL (some .long) nm) (X : Stand p l e R s m args below meth c T locs cells slots) (eT : T.heap = h) {pc : Nat} {ls : Array Slot} {z : Int64} {rest : List Value} {Q : Option Value → Heap → List Loc → Prop} {k n : Nat} (hd : decode bytes pc = .ok (.lreturn, 1)) (hc : cells ≤ k) (hn : slots ≤ n) (hQ : Q (some (.long z)) h locs) : Go p e below (EndQ s Q k n) (T.setTop (mkF m pc ls (.long z :: rest))) :=
  Go.fin C X eT (v := some (.long z)) (fun h => nomatch h) hQ hc hn fun fs hr => retOut X C.hx C.hret rfl (Or.inr (Or.inl ⟨rfl, rfl, z, rfl⟩)) (hb C.hby hd) hr
theorem Go.retA {t : FieldType} (C : Cx p s m meth c Z own bytes maxL (some t) nm) (X : Stand p l e R s m args below meth c T locs cells slots) (eT : T.heap = h) {pc : Nat} {ls : Array Slot} {w : Value} {rest : List Value} {Q : Option Value → Heap → List Loc → Prop} {k n : Nat} (ht : t.isReference = true) (hn0 : narrow t w = w) (hw : w.isRef = true) (hd : decode bytes pc = .ok (.areturn, 1)) (hc : cells ≤ k) (hn : slots ≤ n) (hQ : Q (some w) h locs) : Go p e below (EndQ s Q k n) (T.setTop (mkF m pc ls (w :: rest))) :=
  Go.fin C X eT (v := some w) (fun h => nomatch h) hQ hc hn fun fs hr => retOut X C.hx C.hret hn0 (Or.inr (Or.inr (Or.inr (Or.inr ⟨rfl, ht, hw⟩)))) (hb C.hby hd) hr
theorem Go.retN {t : FieldType} (C : Cx p s m meth c Z own bytes maxL (some t) nm) (X : Stand p l e R s m args below meth c T locs cells slots) (eT : T.heap = h) {pc : Nat} {ls : Array Slot} {z w : Int32} {rest : List Value} {Q : Option Value → Heap → List Loc → Prop} {k n : Nat} (ht : t = .boolean ∨ t = .byte ∨ t = .char ∨ t = .short) (hw : nar t z = w) (hd : decode bytes pc = .ok (.ireturn, 1)) (hc : cells ≤ k) (hn : slots ≤ n) (hQ : Q (some (.int w)) h locs) : Go p e below (EndQ s Q k n) (T.setTop (mkF m pc ls (.int z :: rest))) := by
  subst hw
  exact Go.fin C X eT (v := some (.int (nar t z))) (fun h => nomatch h) hQ hc hn fun fs hr => Jvm.RoadKit.retN X C.hx C.hret ht (hb C.hby hd) hr
theorem Go.iloadN (C : Cx p s m meth c Z own bytes maxL ret nm) (X : Stand p l e R s m args below meth c T locs cells slots) {pc n : Nat} {ls : Array Slot} {rest : List Value} {k : Fin 4} {v : Int32} (hd : decode bytes pc = .ok (.iload_n k, 1)) (hn : pc + 1 = n) (hl : ls[k.val]? = some (.val (.int v))) (k : Go p e below K (T.setTop (mkF m n ls (.int v :: rest)))) : Go p e below K (T.setTop (mkF m pc ls (rest))) := by
  subst hn
  exact Go.of (fun t q => XS.iloadN X.here C.hx rfl (hb C.hby hd) hl q) k
theorem Go.iload (C : Cx p s m meth c Z own bytes maxL ret nm) (X : Stand p l e R s m args below meth c T locs cells slots) {pc n : Nat} {ls : Array Slot} {rest : List Value} {k : Nat} {v : Int32} (hd : decode bytes pc = .ok (.iload k, 2)) (hn : pc + 2 = n) (hl : ls[k]? = some (.val (.int v))) (k : Go p e below K (T.setTop (mkF m n ls (.int v :: rest)))) : Go p e below K (T.setTop (mkF m pc ls (rest))) := by
  subst hn
  exact Go.of (fun t q => XS.iload X.here C.hx rfl (hb C.hby hd) hl q) k
theorem Go.istoreN (C : Cx p s m meth c Z own bytes maxL ret nm) (X : Stand p l e R s m args below meth c T locs cells slots) {pc n : Nat} {ls : Array Slot} {rest : List Value} {k : Fin 4} {v : Int32} {l' : Array Slot} (hd : decode bytes pc = .ok (.istore_n k, 1)) (hn : pc + 1 = n) (hl : storeLocals ls k.val (.int v) = some l') (k : Go p e below K (T.setTop (mkF m n l' (rest)))) : Go p e below K (T.setTop (mkF m pc ls (.int v :: rest))) := by
  subst hn
  exact Go.of (fun t q => XS.istoreN X.here C.hx rfl (hb C.hby hd) rfl hl q) k
theorem Go.istore (C : Cx p s m meth c Z own bytes maxL ret nm) (X : Stand p l e R s m args below meth c T locs cells slots) {pc n : Nat} {ls : Array Slot} {rest : List Value} {k : Nat} {v : Int32} {l' : Array Slot} (hd : decode bytes pc = .ok (.istore k, 2)) (hn : pc + 2 = n) (hl : storeLocals ls k (.int v) = some l') (k : Go p e below K (T.setTop (mkF m n l' (rest)))) : Go p e below K (T.setTop (mkF m pc ls (.int v :: rest))) := by
  subst hn
  exact Go.of (fun t q => XS.istore X.here C.hx rfl (hb C.hby hd) rfl hl q) k
theorem Go.lloadN (C : Cx p s m meth c Z own bytes maxL ret nm) (X : Stand p l e R s m args below meth c T locs cells slots) {pc n : Nat} {ls : Array Slot} {rest : List Value} {k : Fin 4} {v : Int64} (hd : decode bytes pc = .ok (.lload_n k, 1)) (hn : pc + 1 = n) (hl : ls[k.val]? = some (.val (.long v))) (k : Go p e below K (T.setTop (mkF m n ls (.long v :: rest)))) : Go p e below K (T.setTop (mkF m pc ls (rest))) := by
  subst hn
  exact Go.of (fun t q => XT.lloadN X.here C.hx rfl (hb C.hby hd) hl q) k
theorem Go.lload (C : Cx p s m meth c Z own bytes maxL ret nm) (X : Stand p l e R s m args below meth c T locs cells slots) {pc n : Nat} {ls : Array Slot} {rest : List Value} {k : Nat} {v : Int64} (hd : decode bytes pc = .ok (.lload k, 2)) (hn : pc + 2 = n) (hl : ls[k]? = some (.val (.long v))) (k : Go p e below K (T.setTop (mkF m n ls (.long v :: rest)))) : Go p e below K (T.setTop (mkF m pc ls (rest))) := by
  subst hn
  exact Go.of (fun t q => XT.lload X.here C.hx rfl (hb C.hby hd) hl q) k
theorem Go.lstoreN (C : Cx p s m meth c Z own bytes maxL ret nm) (X : Stand p l e R s m args below meth c T locs cells slots) {pc n : Nat} {ls : Array Slot} {rest : List Value} {k : Fin 4} {v : Int64} {l' : Array Slot} (hd : decode bytes pc = .ok (.lstore_n k, 1)) (hn : pc + 1 = n) (hl : storeLocals ls k.val (.long v) = some l') (k : Go p e below K (T.setTop (mkF m n l' (rest)))) : Go p e below K (T.setTop (mkF m pc ls (.long v :: rest))) := by
  subst hn
  exact Go.of (fun t q => XT.lstoreN X.here C.hx rfl (hb C.hby hd) rfl hl q) k
theorem Go.lstore (C : Cx p s m meth c Z own bytes maxL ret nm) (X : Stand p l e R s m args below meth c T locs cells slots) {pc n : Nat} {ls : Array Slot} {rest : List Value} {k : Nat} {v : Int64} {l' : Array Slot} (hd : decode bytes pc = .ok (.lstore k, 2)) (hn : pc + 2 = n) (hl : storeLocals ls k (.long v) = some l') (k : Go p e below K (T.setTop (mkF m n l' (rest)))) : Go p e below K (T.setTop (mkF m pc ls (.long v :: rest))) := by
  subst hn
  exact Go.of (fun t q => XT.lstore X.here C.hx rfl (hb C.hby hd) rfl hl q) k
theorem Go.aloadN (C : Cx p s m meth c Z own bytes maxL ret nm) (X : Stand p l e R s m args below meth c T locs cells slots) {pc n : Nat} {ls : Array Slot} {rest : List Value} {k : Fin 4} {v : Value} (hd : decode bytes pc = .ok (.aload_n k, 1)) (hn : pc + 1 = n) (hl : ls[k.val]? = some (.val v)) (hv : v.isRef = true) (k : Go p e below K (T.setTop (mkF m n ls (v :: rest)))) : Go p e below K (T.setTop (mkF m pc ls (rest))) := by
  subst hn
  exact Go.of (fun t q => XS.aloadN X.here C.hx rfl (hb C.hby hd) hl hv q) k
theorem Go.aload (C : Cx p s m meth c Z own bytes maxL ret nm) (X : Stand p l e R s m args below meth c T locs cells slots) {pc n : Nat} {ls : Array Slot} {rest : List Value} {k : Nat} {v : Value} (hd : decode bytes pc = .ok (.aload k, 2)) (hn : pc + 2 = n) (hl : ls[k]? = some (.val v)) (hv : v.isRef = true) (k : Go p e below K (T.setTop (mkF m n ls (v :: rest)))) : Go p e below K (T.setTop (mkF m pc ls (rest))) := by
  subst hn
  exact Go.of (fun t q => XS.aload X.here C.hx rfl (hb C.hby hd) hl hv q) k
theorem Go.astoreN (C : Cx p s m meth c Z own bytes maxL ret nm) (X : Stand p l e R s m args below meth c T locs cells slots) {pc n : Nat} {ls : Array Slot} {rest : List Value} {k : Fin 4} {v : Value} {l' : Array Slot} (hd : decode bytes pc = .ok (.astore_n k, 1)) (hn : pc + 1 = n) (hv : v.isRef = true) (hl : storeLocals ls k.val v = some l') (k : Go p e below K (T.setTop (mkF m n l' (rest)))) : Go p e below K (T.setTop (mkF m pc ls (v :: rest))) := by
  subst hn
  exact Go.of (fun t q => XS.astoreN X.here C.hx rfl (hb C.hby hd) rfl hv hl q) k
theorem Go.astore (C : Cx p s m meth c Z own bytes maxL ret nm) (X : Stand p l e R s m args below meth c T locs cells slots) {pc n : Nat} {ls : Array Slot} {rest : List Value} {k : Nat} {v : Value} {l' : Array Slot} (hd : decode bytes pc = .ok (.astore k, 2)) (hn : pc + 2 = n) (hv : v.isRef = true) (hl : storeLocals ls k v = some l') (k : Go p e below K (T.setTop (mkF m n l' (rest)))) : Go p e below K (T.setTop (mkF m pc ls (v :: rest))) := by
  subst hn
  exact Go.of (fun t q => XS.astore X.here C.hx rfl (hb C.hby hd) rfl hv hl q) k
theorem Go.iconst (C : Cx p s m meth c Z own bytes maxL ret nm) (X : Stand p l e R s m args below meth c T locs cells slots) {pc n : Nat} {ls : Array Slot} {rest : List Value} {i : Int} {v : Int32} (hd : decode bytes pc = .ok (.iconst i, 1)) (hn : pc + 1 = n) (hv : Int32.ofInt i = v) (k : Go p e below K (T.setTop (mkF m n ls (.int v :: rest)))) : Go p e below K (T.setTop (mkF m pc ls (rest))) := by
  subst hn
  exact Go.of (fun t q => XT.iconstV X.here C.hx rfl v (hb C.hby hd) hv q) k
theorem Go.bipush (C : Cx p s m meth c Z own bytes maxL ret nm) (X : Stand p l e R s m args below meth c T locs cells slots) {pc n : Nat} {ls : Array Slot} {rest : List Value} {i : Int} {v : Int32} (hd : decode bytes pc = .ok (.bipush i, 2)) (hn : pc + 2 = n) (hv : (Int8.ofInt i).toInt32 = v) (k : Go p e below K (T.setTop (mkF m n ls (.int v :: rest)))) : Go p e below K (T.setTop (mkF m pc ls (rest))) := by
  subst hn
  exact Go.of (fun t q => XT.bipushV X.here C.hx rfl v (hb C.hby hd) hv q) k
theorem Go.sipush (C : Cx p s m meth c Z own bytes maxL ret nm) (X : Stand p l e R s m args below meth c T locs cells slots) {pc n : Nat} {ls : Array Slot} {rest : List Value} {i : Int} {v : Int32} (hd : decode bytes pc = .ok (.sipush i, 3)) (hn : pc + 3 = n) (hv : (Int16.ofInt i).toInt32 = v) (k : Go p e below K (T.setTop (mkF m n ls (.int v :: rest)))) : Go p e below K (T.setTop (mkF m pc ls (rest))) := by
  subst hn
  exact Go.of (fun t q => XT.sipushV X.here C.hx rfl v (hb C.hby hd) hv q) k
theorem Go.lconst (C : Cx p s m meth c Z own bytes maxL ret nm) (X : Stand p l e R s m args below meth c T locs cells slots) {pc n : Nat} {ls : Array Slot} {rest : List Value} {i : Fin 2} {v : Int64} (hd : decode bytes pc = .ok (.lconst i, 1)) (hn : pc + 1 = n) (hv : Int64.ofNat i = v) (k : Go p e below K (T.setTop (mkF m n ls (.long v :: rest)))) : Go p e below K (T.setTop (mkF m pc ls (rest))) := by
  subst hn
  exact Go.of (fun t q => XT.lconstV X.here C.hx rfl v (hb C.hby hd) hv q) k
theorem Go.aconstNull (C : Cx p s m meth c Z own bytes maxL ret nm) (X : Stand p l e R s m args below meth c T locs cells slots) {pc n : Nat} {ls : Array Slot} {rest : List Value}  (hd : decode bytes pc = .ok (.aconst_null, 1)) (hn : pc + 1 = n) (k : Go p e below K (T.setTop (mkF m n ls (.null :: rest)))) : Go p e below K (T.setTop (mkF m pc ls (rest))) := by
  subst hn
  exact Go.of (fun t q => XS.aconstNull X.here C.hx rfl (hb C.hby hd) q) k
theorem Go.iadd (C : Cx p s m meth c Z own bytes maxL ret nm) (X : Stand p l e R s m args below meth c T locs cells slots) {pc n : Nat} {ls : Array Slot} {rest : List Value} {x y : Int32} (hd : decode bytes pc = .ok (.iadd, 1)) (hn : pc + 1 = n) (k : Go p e below K (T.setTop (mkF m n ls (.int (x + y) :: rest)))) : Go p e below K (T.setTop (mkF m pc ls (.int y :: .int x :: rest))) := by
  subst hn
  exact Go.of (fun t q => XS.iadd X.here C.hx rfl (hb C.hby hd) rfl q) k
theorem Go.ladd (C : Cx p s m meth c Z own bytes maxL ret nm) (X : Stand p l e R s m args below meth c T locs cells slots) {pc n : Nat} {ls : Array Slot} {rest : List Value} {x y : Int64} (hd : decode bytes pc = .ok (.ladd, 1)) (hn : pc + 1 = n) (k : Go p e below K (T.setTop (mkF m n ls (.long (x + y) :: rest)))) : Go p e below K (T.setTop (mkF m pc ls (.long y :: .long x :: rest))) := by
  subst hn
  exact Go.of (fun t q => XT.ladd X.here C.hx rfl (hb C.hby hd) rfl q) k
theorem Go.isub (C : Cx p s m meth c Z own bytes maxL ret nm) (X : Stand p l e R s m args below meth c T locs cells slots) {pc n : Nat} {ls : Array Slot} {rest : List Value} {x y : Int32} (hd : decode bytes pc = .ok (.isub, 1)) (hn : pc + 1 = n) (k : Go p e below K (T.setTop (mkF m n ls (.int (x - y) :: rest)))) : Go p e below K (T.setTop (mkF m pc ls (.int y :: .int x :: rest))) := by
  subst hn
  exact Go.of (fun t q => XS.isub X.here C.hx rfl (hb C.hby hd) rfl q) k
theorem Go.lsub (C : Cx p s m meth c Z own bytes maxL ret nm) (X : Stand p l e R s m args below meth c T locs cells slots) {pc n : Nat} {ls : Array Slot} {rest : List Value} {x y : Int64} (hd : decode bytes pc = .ok (.lsub, 1)) (hn : pc + 1 = n) (k : Go p e below K (T.setTop (mkF m n ls (.long (x - y) :: rest)))) : Go p e below K (T.setTop (mkF m pc ls (.long y :: .long x :: rest))) := by
  subst hn
  exact Go.of (fun t q => XT.lsub X.here C.hx rfl (hb C.hby hd) rfl q) k
theorem Go.imul (C : Cx p s m meth c Z own bytes maxL ret nm) (X : Stand p l e R s m args below meth c T locs cells slots) {pc n : Nat} {ls : Array Slot} {rest : List Value} {x y : Int32} (hd : decode bytes pc = .ok (.imul, 1)) (hn : pc + 1 = n) (k : Go p e below K (T.setTop (mkF m n ls (.int (x * y) :: rest)))) : Go p e below K (T.setTop (mkF m pc ls (.int y :: .int x :: rest))) := by
  subst hn
  exact Go.of (fun t q => XS.imul X.here C.hx rfl (hb C.hby hd) rfl q) k
theorem Go.lmul (C : Cx p s m meth c Z own bytes maxL ret nm) (X : Stand p l e R s m args below meth c T locs cells slots) {pc n : Nat} {ls : Array Slot} {rest : List Value} {x y : Int64} (hd : decode bytes pc = .ok (.lmul, 1)) (hn : pc + 1 = n) (k : Go p e below K (T.setTop (mkF m n ls (.long (x * y) :: rest)))) : Go p e below K (T.setTop (mkF m pc ls (.long y :: .long x :: rest))) := by
  subst hn
  exact Go.of (fun t q => XT.lmul X.here C.hx rfl (hb C.hby hd) rfl q) k
theorem Go.iand (C : Cx p s m meth c Z own bytes maxL ret nm) (X : Stand p l e R s m args below meth c T locs cells slots) {pc n : Nat} {ls : Array Slot} {rest : List Value} {x y : Int32} (hd : decode bytes pc = .ok (.iand, 1)) (hn : pc + 1 = n) (k : Go p e below K (T.setTop (mkF m n ls (.int (x &&& y) :: rest)))) : Go p e below K (T.setTop (mkF m pc ls (.int y :: .int x :: rest))) := by
  subst hn
  exact Go.of (fun t q => XS.iand X.here C.hx rfl (hb C.hby hd) rfl q) k
theorem Go.land (C : Cx p s m meth c Z own bytes maxL ret nm) (X : Stand p l e R s m args below meth c T locs cells slots) {pc n : Nat} {ls : Array Slot} {rest : List Value} {x y : Int64} (hd : decode bytes pc = .ok (.land, 1)) (hn : pc + 1 = n) (k : Go p e below K (T.setTop (mkF m n ls (.long (x &&& y) :: rest)))) : Go p e below K (T.setTop (mkF m pc ls (.long y :: .long x :: rest))) := by
  subst hn
  exact Go.of (fun t q => XT.land X.here C.hx rfl (hb C.hby hd) rfl q) k
theorem Go.ior (C : Cx p s m meth c Z own bytes maxL ret nm) (X : Stand p l e R s m args below meth c T locs cells slots) {pc n : Nat} {ls : Array Slot} {rest : List Value} {x y : Int32} (hd : decode bytes pc = .ok (.ior, 1)) (hn : pc + 1 = n) (k : Go p e below K (T.setTop (mkF m n ls (.int (x ||| y) :: rest)))) : Go p e below K (T.setTop (mkF m pc ls (.int y :: .int x :: rest))) := by
  subst hn
  exact Go.of (fun t q => XT.ior X.here C.hx rfl (hb C.hby hd) rfl q) k
theorem Go.lor (C : Cx p s m meth c Z own bytes maxL ret nm) (X : Stand p l e R s m args below meth c T locs cells slots) {pc n : Nat} {ls : Array Slot} {rest : List Value} {x y : Int64} (hd : decode bytes pc = .ok (.lor, 1)) (hn : pc + 1 = n) (k : Go p e below K (T.setTop (mkF m n ls (.long (x ||| y) :: rest)))) : Go p e below K (T.setTop (mkF m pc ls (.long y :: .long x :: rest))) := by
  subst hn
  exact Go.of (fun t q => XT.lor X.here C.hx rfl (hb C.hby hd) rfl q) k
theorem Go.ixor (C : Cx p s m meth c Z own bytes maxL ret nm) (X : Stand p l e R s m args below meth c T locs cells slots) {pc n : Nat} {ls : Array Slot} {rest : List Value} {x y : Int32} (hd : decode bytes pc = .ok (.ixor, 1)) (hn : pc + 1 = n) (k : Go p e below K (T.setTop (mkF m n ls (.int (x ^^^ y) :: rest)))) : Go p e below K (T.setTop (mkF m pc ls (.int y :: .int x :: rest))) := by
  subst hn
  exact Go.of (fun t q => XT.ixor X.here C.hx rfl (hb C.hby hd) rfl q) k
theorem Go.lxor (C : Cx p s m meth c Z own bytes maxL ret nm) (X : Stand p l e R s m args below meth c T locs cells slots) {pc n : Nat} {ls : Array Slot} {rest : List Value} {x y : Int64} (hd : decode bytes pc = .ok (.lxor, 1)) (hn : pc + 1 = n) (k : Go p e below K (T.setTop (mkF m n ls (.long (x ^^^ y) :: rest)))) : Go p e below K (T.setTop (mkF m pc ls (.long y :: .long x :: rest))) := by
  subst hn
  exact Go.of (fun t q => XT.lxor X.here C.hx rfl (hb C.hby hd) rfl q) k
theorem Go.ishl (C : Cx p s m meth c Z own bytes maxL ret nm) (X : Stand p l e R s m args below meth c T locs cells slots) {pc n : Nat} {ls : Array Slot} {rest : List Value} {x y : Int32} (hd : decode bytes pc = .ok (.ishl, 1)) (hn : pc + 1 = n) (k : Go p e below K (T.setTop (mkF m n ls (.int (x <<< (y &&& 31)) :: rest)))) : Go p e below K (T.setTop (mkF m pc ls (.int y :: .int x :: rest))) := by
  subst hn
  exact Go.of (fun t q => XT.ishl X.here C.hx rfl (hb C.hby hd) rfl q) k
theorem Go.ishr (C : Cx p s m meth c Z own bytes maxL ret nm) (X : Stand p l e R s m args below meth c T locs cells slots) {pc n : Nat} {ls : Array Slot} {rest : List Value} {x y : Int32} (hd : decode bytes pc = .ok (.ishr, 1)) (hn : pc + 1 = n) (k : Go p e below K (T.setTop (mkF m n ls (.int (x >>> (y &&& 31)) :: rest)))) : Go p e below K (T.setTop (mkF m pc ls (.int y :: .int x :: rest))) := by
  subst hn
  exact Go.of (fun t q => XT.ishr X.here C.hx rfl (hb C.hby hd) rfl q) k
theorem Go.iushr (C : Cx p s m meth c Z own bytes maxL ret nm) (X : Stand p l e R s m args below meth c T locs cells slots) {pc n : Nat} {ls : Array Slot} {rest : List Value} {x y : Int32} (hd : decode bytes pc = .ok (.iushr, 1)) (hn : pc + 1 = n) (k : Go p e below K (T.setTop (mkF m n ls (.int (XT.ushr x y) :: rest)))) : Go p e below K (T.setTop (mkF m pc ls (.int y :: .int x :: rest))) := by
  subst hn
  exact Go.of (fun t q => XT.iushr X.here C.hx rfl (hb C.hby hd) rfl q) k
theorem Go.idiv (C : Cx p s m meth c Z own bytes maxL ret nm) (X : Stand p l e R s m args below meth c T locs cells slots) {pc n : Nat} {ls : Array Slot} {rest : List Value} {x y : Int32} (hd : decode bytes pc = .ok (.idiv, 1)) (hn : pc + 1 = n) (hy : y ≠ 0) (k : Go p e below K (T.setTop (mkF m n ls (.int (x / y) :: rest)))) : Go p e below K (T.setTop (mkF m pc ls (.int y :: .int x :: rest))) := by
  subst hn
  exact Go.of (fun t q => XS.idiv X.here C.hx rfl (hb C.hby hd) rfl hy q) k
theorem Go.irem (C : Cx p s m meth c Z own bytes maxL ret nm) (X : Stand p l e R s m args below meth c T locs cells slots) {pc n : Nat} {ls : Array Slot} {rest : List Value} {x y : Int32} (hd : decode bytes pc = .ok (.irem, 1)) (hn : pc + 1 = n) (hy : y ≠ 0) (k : Go p e below K (T.setTop (mkF m n ls (.int (x % y) :: rest)))) : Go p e below K (T.setTop (mkF m pc ls (.int y :: .int x :: rest))) := by
  subst hn
  exact Go.of (fun t q => iremM X C.hx rfl (hb C.hby hd) rfl hy q) k
theorem Go.ldiv (C : Cx p s m meth c Z own bytes maxL ret nm) (X : Stand p l e R s m args below meth c T locs cells slots) {pc n : Nat} {ls : Array Slot} {rest : List Value} {x y : Int64} (hd : decode bytes pc = .ok (.ldiv, 1)) (hn : pc + 1 = n) (hy : y ≠ 0) (k : Go p e below K (T.setTop (mkF m n ls (.long (x / y) :: rest)))) : Go p e below K (T.setTop (mkF m pc ls (.long y :: .long x :: rest))) := by
  subst hn
  exact Go.of (fun t q => XT.ldiv X.here C.hx rfl (hb C.hby hd) rfl hy q) k
theorem Go.lrem (C : Cx p s m meth c Z own bytes maxL ret nm) (X : Stand p l e R s m args below meth c T locs cells slots) {pc n : Nat} {ls : Array Slot} {rest : List Value} {x y : Int64} (hd : decode bytes pc = .ok (.lrem, 1)) (hn : pc + 1 = n) (hy : y ≠ 0) (k : Go p e below K (T.setTop (mkF m n ls (.long (x - (x / y) * y) :: rest)))) : Go p e below K (T.setTop (mkF m pc ls (.long y :: .long x :: rest))) := by
  subst hn
  exact Go.of (fun t q => XT.lrem X.here C.hx rfl (hb C.hby hd) rfl hy q) k
theorem Go.ineg (C : Cx p s m meth c Z own bytes maxL ret nm) (X : Stand p l e R s m args below meth c T locs cells slots) {pc n : Nat} {ls : Array Slot} {rest : List Value} {x : Int32} (hd : decode bytes pc = .ok (.ineg, 1)) (hn : pc + 1 = n) (k : Go p e below K (T.setTop (mkF m n ls (.int (-x) :: rest)))) : Go p e below K (T.setTop (mkF m pc ls (.int x :: rest))) := by
  subst hn
  exact Go.of (fun t q => XS.ineg X.here C.hx rfl (hb C.hby hd) rfl q) k
theorem Go.i2l (C : Cx p s m meth c Z own bytes maxL ret nm) (X : Stand p l e R s m args below meth c T locs cells slots) {pc n : Nat} {ls : Array Slot} {rest : List Value} {x : Int32} (hd : decode bytes pc = .ok (.i2l, 1)) (hn : pc + 1 = n) (k : Go p e below K (T.setTop (mkF m n ls (.long (x.toInt64) :: rest)))) : Go p e below K (T.setTop (mkF m pc ls (.int x :: rest))) := by
  subst hn
  exact Go.of (fun t q => XT.i2l X.here C.hx rfl (hb C.hby hd) rfl q) k
theorem Go.i2b (C : Cx p s m meth c Z own bytes maxL ret nm) (X : Stand p l e R s m args below meth c T locs cells slots) {pc n : Nat} {ls : Array Slot} {rest : List Value} {x : Int32} (hd : decode bytes pc = .ok (.i2b, 1)) (hn : pc + 1 = n) (k : Go p e below K (T.setTop (mkF m n ls (.int (x.toInt8.toInt32) :: rest)))) : Go p e below K (T.setTop (mkF m pc ls (.int x :: rest))) := by
  subst hn
  exact Go.of (fun t q => XT.i2b X.here C.hx rfl (hb C.hby hd) rfl q) k
theorem Go.i2c (C : Cx p s m meth c Z own bytes maxL ret nm) (X : Stand p l e R s m args below meth c T locs cells slots) {pc n : Nat} {ls : Array Slot} {rest : List Value} {x : Int32} (hd : decode bytes pc = .ok (.i2c, 1)) (hn : pc + 1 = n) (k : Go p e below K (T.setTop (mkF m n ls (.int (x.toUInt32.toUInt16.toUInt32.toInt32) :: rest)))) : Go p e below K (T.setTop (mkF m pc ls (.int x :: rest))) := by
  subst hn
  exact Go.of (fun t q => XT.i2c X.here C.hx rfl (hb C.hby hd) rfl q) k
theorem Go.i2s (C : Cx p s m meth c Z own bytes maxL ret nm) (X : Stand p l e R s m args below meth c T locs cells slots) {pc n : Nat} {ls : Array Slot} {rest : List Value} {x : Int32} (hd : decode bytes pc = .ok (.i2s, 1)) (hn : pc + 1 = n) (k : Go p e below K (T.setTop (mkF m n ls (.int (x.toInt16.toInt32) :: rest)))) : Go p e below K (T.setTop (mkF m pc ls (.int x :: rest))) := by
  subst hn
  exact Go.of (fun t q => XT.i2s X.here C.hx rfl (hb C.hby hd) rfl q) k
theorem Go.l2i (C : Cx p s m meth c Z own bytes maxL ret nm) (X : Stand p l e R s m args below meth c T locs cells slots) {pc n : Nat} {ls : Array Slot} {rest : List Value} {x : Int64} (hd : decode bytes pc = .ok (.l2i, 1)) (hn : pc + 1 = n) (k : Go p e below K (T.setTop (mkF m n ls (.int (x.toInt32) :: rest)))) : Go p e below K (T.setTop (mkF m pc ls (.long x :: rest))) := by
  subst hn
  exact Go.of (fun t q => XT.l2i X.here C.hx rfl (hb C.hby hd) rfl q) k
theorem Go.lcmp (C : Cx p s m meth c Z own bytes maxL ret nm) (X : Stand p l e R s m args below meth c T locs cells slots) {pc n : Nat} {ls : Array Slot} {rest : List Value} {x y : Int64} (hd : decode bytes pc = .ok (.lcmp, 1)) (hn : pc + 1 = n) (k : Go p e below K (T.setTop (mkF m n ls (.int (XT.cmpL x y) :: rest)))) : Go p e below K (T.setTop (mkF m pc ls (.long y :: .long x :: rest))) := by
  subst hn
  exact Go.of (fun t q => XT.lcmp X.here C.hx rfl (hb C.hby hd) rfl q) k
theorem Go.iinc (C : Cx p s m meth c Z own bytes maxL ret nm) (X : Stand p l e R s m args below meth c T locs cells slots) {pc n : Nat} {ls : Array Slot} {rest : List Value} {k : Nat} {cst : Int} {x v : Int32} {l' : Array Slot} (hd : decode bytes pc = .ok (.iinc k cst, 3)) (hn : pc + 3 = n) (hv : Int32.ofInt cst = v) (hl : ls[k]? = some (.val (.int x))) (hl' : storeLocals ls k (.int (x + v)) = some l') (k : Go p e below K (T.setTop (mkF m n l' (rest)))) : Go p e below K (T.setTop (mkF m pc ls (rest))) := by
  subst hn
  exact Go.of (fun t q => XT.iincV X.here C.hx rfl v (hb C.hby hd) hv hl hl' q) k
theorem Go.dup (C : Cx p s m meth c Z own bytes maxL ret nm) (X : Stand p l e R s m args below meth c T locs cells slots) {pc n : Nat} {ls : Array Slot} {rest : List Value} {x : Value} (hd : decode bytes pc = .ok (.dup, 1)) (hn : pc + 1 = n) (hc : x.category = 1) (k : Go p e below K (T.setTop (mkF m n ls (x :: x :: rest)))) : Go p e below K (T.setTop (mkF m pc ls (x :: rest))) := by
  subst hn
  exact Go.of (fun t q => XS.dup X.here C.hx rfl (hb C.hby hd) rfl hc q) k
theorem Go.dupX1 (C : Cx p s m meth c Z own bytes maxL ret nm) (X : Stand p l e R s m args below meth c T locs cells slots) {pc n : Nat} {ls : Array Slot} {rest : List Value} {x y : Value} (hd : decode bytes pc = .ok (.dup_x1, 1)) (hn : pc + 1 = n) (hc : x.category = 1) (hc' : y.category = 1) (k : Go p e below K (T.setTop (mkF m n ls (x :: y :: x :: rest)))) : Go p e below K (T.setTop (mkF m pc ls (x :: y :: rest))) := by
  subst hn
  exact Go.of (fun t q => XT.dupX1 X.here C.hx rfl (hb C.hby hd) rfl hc hc' q) k
theorem Go.dup2 (C : Cx p s m meth c Z own bytes maxL ret nm) (X : Stand p l e R s m args below meth c T locs cells slots) {pc n : Nat} {ls : Array Slot} {rest : List Value} {x y : Value} (hd : decode bytes pc = .ok (.dup2, 1)) (hn : pc + 1 = n) (hc : x.category = 1) (hc' : y.category = 1) (k : Go p e below K (T.setTop (mkF m n ls (x :: y :: x :: y :: rest)))) : Go p e below K (T.setTop (mkF m pc ls (x :: y :: rest))) := by
  subst hn
  exact Go.of (fun t q => XT.dup2 X.here C.hx rfl (hb C.hby hd) rfl hc hc' q) k
theorem Go.pop (C : Cx p s m meth c Z own bytes maxL ret nm) (X : Stand p l e R s m args below meth c T locs cells slots) {pc n : Nat} {ls : Array Slot} {rest : List Value} {x : Value} (hd : decode bytes pc = .ok (.pop, 1)) (hn : pc + 1 = n) (hc : x.category = 1) (k : Go p e below K (T.setTop (mkF m n ls (rest)))) : Go p e below K (T.setTop (mkF m pc ls (x :: rest))) := by
  subst hn
  exact Go.of (fun t q => XT.pop X.here C.hx rfl (hb C.hby hd) rfl hc q) k
theorem Go.dupX2 (C : Cx p s m meth c Z own bytes maxL ret nm) (X : Stand p l e R s m args below meth c T locs cells slots) {pc n : Nat} {ls : Array Slot} {rest : List Value} {x y z : Value} (hd : decode bytes pc = .ok (.dup_x2, 1)) (hn : pc + 1 = n) (hc : x.category = 1) (hc' : y.category = 1) (hc'' : z.category = 1) (k : Go p e below K (T.setTop (mkF m n ls (x :: y :: z :: x :: rest)))) : Go p e below K (T.setTop (mkF m pc ls (x :: y :: z :: rest))) := by
  subst hn
  exact Go.of (fun t q => by jvm_step X.here [X.here.top, C.hx, (hb C.hby hd), hc, hc', hc'']; exact q) k
theorem Go.goto (C : Cx p s m meth c Z own bytes maxL ret nm) (X : Stand p l e R s m args below meth c T locs cells slots) {pc n : Nat} {ls : Array Slot} {rest : List Value} {o : Int} (hd : decode bytes pc = .ok (.goto o, 3)) (ho : 0 ≤ (pc : Int) + o) (hn : ((pc : Int) + o).toNat = n) (k : Go p e below K (T.setTop (mkF m n ls rest))) : Go p e below K (T.setTop (mkF m pc ls rest)) :=
  Go.of (fun t q => XS.goto X.here C.hx rfl rfl (hb C.hby hd) ho hn q) k
theorem Go.ldcI (C : Cx p s m meth c Z own bytes maxL ret nm) (X : Stand p l e R s m args below meth c T locs cells slots) {pc n : Nat} {ls : Array Slot} {rest : List Value} {index : Nat} {v : Int32} (w : (Cond.constant own index v).before a0 Z = true) (hd : decode bytes pc = .ok (.ldc index, 2)) (hn : pc + 2 = n) (k : Go p e below K (T.setTop (mkF m n ls (.int v :: rest)))) : Go p e below K (T.setTop (mkF m pc ls rest)) := by
  subst hn
  exact Go.of (fun t q => Jvm.Stand.ldcI X C.hx C.hown (mv C.hZ w) rfl (hb C.hby hd) q) k
theorem Go.icmp_eq (C : Cx p s m meth c Z own bytes maxL ret nm) (X : Stand p l e R s m args below meth c T locs cells slots) {pc n1 n2 : Nat} {ls : Array Slot} {rest : List Value} {x y : Int32} {o : Int} (hd : decode bytes pc = .ok (.if_icmp .eq o, 3)) (ho : 0 ≤ (pc : Int) + o) (h1 : ((pc : Int) + o).toNat = n1) (h2 : pc + 3 = n2)
    (ky : x = y → Go p e below K (T.setTop (mkF m n1 ls rest))) (kn : ¬ x = y → Go p e below K (T.setTop (mkF m n2 ls rest))) : Go p e below K (T.setTop (mkF m pc ls (.int y :: .int x :: rest))) := by
  subst h2
  by_cases q : x = y
  · exact Go.of (fun t z => XS.icmpYes X.here C.hx rfl rfl (hb C.hby hd) rfl (XT.ii_eq_t q) ho h1 z) (ky q)
  · exact Go.of (fun t z => XS.icmpNo X.here C.hx rfl (hb C.hby hd) rfl (XT.ii_eq_f q) z) (kn q)
theorem Go.if0_eq (C : Cx p s m meth c Z own bytes maxL ret nm) (X : Stand p l e R s m args below meth c T locs cells slots) {pc n1 n2 : Nat} {ls : Array Slot} {rest : List Value} {x : Int32} {o : Int} (hd : decode bytes pc = .ok (.ifCond .eq o, 3)) (ho : 0 ≤ (pc : Int) + o) (h1 : ((pc : Int) + o).toNat = n1) (h2 : pc + 3 = n2)
    (ky : x = 0 → Go p e below K (T.setTop (mkF m n1 ls rest))) (kn : ¬ x = 0 → Go p e below K (T.setTop (mkF m n2 ls rest))) : Go p e below K (T.setTop (mkF m pc ls (.int x :: rest))) := by
  subst h2
  by_cases q : x = 0
  · exact Go.of (fun t z => XS.ifYes X.here C.hx rfl rfl (hb C.hby hd) rfl (XT.i0_eq_t q) ho h1 z) (ky q)
  · exact Go.of (fun t z => XS.ifNo X.here C.hx rfl (hb C.hby hd) rfl (XT.i0_eq_f q) z) (kn q)
theorem Go.lcmp_eq (C : Cx p s m meth c Z own bytes maxL ret nm) (X : Stand p l e R s m args below meth c T locs cells slots) {pc n1 n2 : Nat} {ls : Array Slot} {rest : List Value} {x y : Int64} {o : Int} (hd : decode bytes pc = .ok (.ifCond .eq o, 3)) (ho : 0 ≤ (pc : Int) + o) (h1 : ((pc : Int) + o).toNat = n1) (h2 : pc + 3 = n2)
    (ky : x = y → Go p e below K (T.setTop (mkF m n1 ls rest))) (kn : ¬ x = y → Go p e below K (T.setTop (mkF m n2 ls rest))) : Go p e below K (T.setTop (mkF m pc ls (.int (XT.cmpL x y) :: rest))) := by
  subst h2
  by_cases q : x = y
  · exact Go.of (fun t z => XS.ifYes X.here C.hx rfl rfl (hb C.hby hd) rfl (XT.ll_eq_t q) ho h1 z) (ky q)
  · exact Go.of (fun t z => XS.ifNo X.here C.hx rfl (hb C.hby hd) rfl (XT.ll_eq_f q) z) (kn q)
theorem Go.icmp_ne (C : Cx p s m meth c Z own bytes maxL ret nm) (X : Stand p l e R s m args below meth c T locs cells slots) {pc n1 n2 : Nat} {ls : Array Slot} {rest : List Value} {x y : Int32} {o : Int} (hd : decode bytes pc = .ok (.if_icmp .ne o, 3)) (ho : 0 ≤ (pc : Int) + o) (h1 : ((pc : Int) + o).toNat = n1) (h2 : pc + 3 = n2)
    (ky : ¬ x = y → Go p e below K (T.setTop (mkF m n1 ls rest))) (kn : x = y → Go p e below K (T.setTop (mkF m n2 ls rest))) : Go p e below K (T.setTop (mkF m pc ls (.int y :: .int x :: rest))) := by
  subst h2
  by_cases q : x = y
  · exact Go.of (fun t z => XS.icmpNo X.here C.hx rfl (hb C.hby hd) rfl (XT.ii_ne_f q) z) (kn q)
  · exact Go.of (fun t z => XS.icmpYes X.here C.hx rfl rfl (hb C.hby hd) rfl (XT.ii_ne_t q) ho h1 z) (ky q)
theorem Go.if0_ne (C : Cx p s m meth c Z own bytes maxL ret nm) (X : Stand p l e R s m args below meth c T locs cells slots) {pc n1 n2 : Nat} {ls : Array Slot} {rest : List Value} {x : Int32} {o : Int} (hd : decode bytes pc = .ok (.ifCond .ne o, 3)) (ho : 0 ≤ (pc : Int) + o) (h1 : ((pc : Int) + o).toNat = n1) (h2 : pc + 3 = n2)
    (ky : ¬ x = 0 → Go p e below K (T.setTop (mkF m n1 ls rest))) (kn : x = 0 → Go p e below K (T.setTop (mkF m n2 ls rest))) : Go p e below K (T.setTop (mkF m pc ls (.int x :: rest))) := by
  subst h2
  by_cases q : x = 0
  · exact Go.of (fun t z => XS.ifNo X.here C.hx rfl (hb C.hby hd) rfl (XT.i0_ne_f q) z) (kn q)
  · exact Go.of (fun t z => XS.ifYes X.here C.hx rfl rfl (hb C.hby hd) rfl (XT.i0_ne_t q) ho h1 z) (ky q)
theorem Go.lcmp_ne (C : Cx p s m meth c Z own bytes maxL ret nm) (X : Stand p l e R s m args below meth c T locs cells slots) {pc n1 n2 : Nat} {ls : Array Slot} {rest : List Value} {x y : Int64} {o : Int} (hd : decode bytes pc = .ok (.ifCond .ne o, 3)) (ho : 0 ≤ (pc : Int) + o) (h1 : ((pc : Int) + o).toNat = n1) (h2 : pc + 3 = n2)
    (ky : ¬ x = y → Go p e below K (T.setTop (mkF m n1 ls rest))) (kn : x = y → Go p e below K (T.setTop (mkF m n2 ls rest))) : Go p e below K (T.setTop (mkF m pc ls (.int (XT.cmpL x y) :: rest))) := by
  subst h2
  by_cases q : x = y
  · exact Go.of (fun t z => XS.ifNo X.here C.hx rfl (hb C.hby hd) rfl (XT.ll_ne_f q) z) (kn q)
  · exact Go.of (fun t z => XS.ifYes X.here C.hx rfl rfl (hb C.hby hd) rfl (XT.ll_ne_t q) ho h1 z) (ky q)
theorem Go.icmp_lt (C : Cx p s m meth c Z own bytes maxL ret nm) (X : Stand p l e R s m args below meth c T locs cells slots) {pc n1 n2 : Nat} {ls : Array Slot} {rest : List Value} {x y : Int32} {o : Int} (hd : decode bytes pc = .ok (.if_icmp .lt o, 3)) (ho : 0 ≤ (pc : Int) + o) (h1 : ((pc : Int) + o).toNat = n1) (h2 : pc + 3 = n2)
    (ky : x < y → Go p e below K (T.setTop (mkF m n1 ls rest))) (kn : ¬ x < y → Go p e below K (T.setTop (mkF m n2 ls rest))) : Go p e below K (T.setTop (mkF m pc ls (.int y :: .int x :: rest))) := by
  subst h2
  by_cases q : x < y
  · exact Go.of (fun t z => XS.icmpYes X.here C.hx rfl rfl (hb C.hby hd) rfl (XT.ii_lt_t q) ho h1 z) (ky q)
  · exact Go.of (fun t z => XS.icmpNo X.here C.hx rfl (hb C.hby hd) rfl (XT.ii_lt_f q) z) (kn q)
theorem Go.if0_lt (C : Cx p s m meth c Z own bytes maxL ret nm) (X : Stand p l e R s m args below meth c T locs cells slots) {pc n1 n2 : Nat} {ls : Array Slot} {rest : List Value} {x : Int32} {o : Int} (hd : decode bytes pc = .ok (.ifCond .lt o, 3)) (ho : 0 ≤ (pc : Int) + o) (h1 : ((pc : Int) + o).toNat = n1) (h2 : pc + 3 = n2)
    (ky : x < 0 → Go p e below K (T.setTop (mkF m n1 ls rest))) (kn : ¬ x < 0 → Go p e below K (T.setTop (mkF m n2 ls rest))) : Go p e below K (T.setTop (mkF m pc ls (.int x :: rest))) := by
  subst h2
  by_cases q : x < 0
  · exact Go.of (fun t z => XS.ifYes X.here C.hx rfl rfl (hb C.hby hd) rfl (XT.i0_lt_t q) ho h1 z) (ky q)
  · exact Go.of (fun t z => XS.ifNo X.here C.hx rfl (hb C.hby hd) rfl (XT.i0_lt_f q) z) (kn q)
theorem Go.lcmp_lt (C : Cx p s m meth c Z own bytes maxL ret nm) (X : Stand p l e R s m args below meth c T locs cells slots) {pc n1 n2 : Nat} {ls : Array Slot} {rest : List Value} {x y : Int64} {o : Int} (hd : decode bytes pc = .ok (.ifCond .lt o, 3)) (ho : 0 ≤ (pc : Int) + o) (h1 : ((pc : Int) + o).toNat = n1) (h2 : pc + 3 = n2)
    (ky : x < y → Go p e below K (T.setTop (mkF m n1 ls rest))) (kn : ¬ x < y → Go p e below K (T.setTop (mkF m n2 ls rest))) : Go p e below K (T.setTop (mkF m pc ls (.int (XT.cmpL x y) :: rest))) := by
  subst h2
  by_cases q : x < y
  · exact Go.of (fun t z => XS.ifYes X.here C.hx rfl rfl (hb C.hby hd) rfl (XT.ll_lt_t q) ho h1 z) (ky q)
  · exact Go.of (fun t z => XS.ifNo X.here C.hx rfl (hb C.hby hd) rfl (XT.ll_lt_f q) z) (kn q)
theorem Go.icmp_ge (C : Cx p s m meth c Z own bytes maxL ret nm) (X : Stand p l e R s m args below meth c T locs cells slots) {pc n1 n2 : Nat} {ls : Array Slot} {rest : List Value} {x y : Int32} {o : Int} (hd : decode bytes pc = .ok (.if_icmp .ge o, 3)) (ho : 0 ≤ (pc : Int) + o) (h1 : ((pc : Int) + o).toNat = n1) (h2 : pc + 3 = n2)
    (ky : ¬ x < y → Go p e below K (T.setTop (mkF m n1 ls rest))) (kn : x < y → Go p e below K (T.setTop (mkF m n2 ls rest))) : Go p e below K (T.setTop (mkF m pc ls (.int y :: .int x :: rest))) := by
  subst h2
  by_cases q : x < y
  · exact Go.of (fun t z => XS.icmpNo X.here C.hx rfl (hb C.hby hd) rfl (XT.ii_ge_f q) z) (kn q)
  · exact Go.of (fun t z => XS.icmpYes X.here C.hx rfl rfl (hb C.hby hd) rfl (XT.ii_ge_t q) ho h1 z) (ky q)
theorem Go.if0_ge (C : Cx p s m meth c Z own bytes maxL ret nm) (X : Stand p l e R s m args below meth c T locs cells slots) {pc n1 n2 : Nat} {ls : Array Slot} {rest : List Value} {x : Int32} {o : Int} (hd : decode bytes pc = .ok (.ifCond .ge o, 3)) (ho : 0 ≤ (pc : Int) + o) (h1 : ((pc : Int) + o).toNat = n1) (h2 : pc + 3 = n2)
    (ky : ¬ x < 0 → Go p e below K (T.setTop (mkF m n1 ls rest))) (kn : x < 0 → Go p e below K (T.setTop (mkF m n2 ls rest))) : Go p e below K (T.setTop (mkF m pc ls (.int x :: rest))) := by
  subst h2
  by_cases q : x < 0
  · exact Go.of (fun t z => XS.ifNo X.here C.hx rfl (hb C.hby hd) rfl (XT.i0_ge_f q) z) (kn q)
  · exact Go.of (fun t z => XS.ifYes X.here C.hx rfl rfl (hb C.hby hd) rfl (XT.i0_ge_t q) ho h1 z) (ky q)
theorem Go.lcmp_ge (C : Cx p s m meth c Z own bytes maxL ret nm) (X : Stand p l e R s m args below meth c T locs cells slots) {pc n1 n2 : Nat} {ls : Array Slot} {rest : List Value} {x y : Int64} {o : Int} (hd : decode bytes pc = .ok (.ifCond .ge o, 3)) (ho : 0 ≤ (pc : Int) + o) (h1 : ((pc : Int) + o).toNat = n1) (h2 : pc + 3 = n2)
    (ky : ¬ x < y → Go p e below K (T.setTop (mkF m n1 ls rest))) (kn : x < y → Go p e below K (T.setTop (mkF m n2 ls rest))) : Go p e below K (T.setTop (mkF m pc ls (.int (XT.cmpL x y) :: rest))) := by
  subst h2
  by_cases q : x < y
  · exact Go.of (fun t z => XS.ifNo X.here C.hx rfl (hb C.hby hd) rfl (XT.ll_ge_f q) z) (kn q)
  · exact Go.of (fun t z => XS.ifYes X.here C.hx rfl rfl (hb C.hby hd) rfl (XT.ll_ge_t q) ho h1 z) (ky q)
theorem Go.icmp_gt (C : Cx p s m meth c Z own bytes maxL ret nm) (X : Stand p l e R s m args below meth c T locs cells slots) {pc n1 n2 : Nat} {ls : Array Slot} {rest : List Value} {x y : Int32} {o : Int} (hd : decode bytes pc = .ok (.if_icmp .gt o, 3)) (ho : 0 ≤ (pc : Int) + o) (h1 : ((pc : Int) + o).toNat = n1) (h2 : pc + 3 = n2)
    (ky : y < x → Go p e below K (T.setTop (mkF m n1 ls rest))) (kn : ¬ y < x → Go p e below K (T.setTop (mkF m n2 ls rest))) : Go p e below K (T.setTop (mkF m pc ls (.int y :: .int x :: rest))) := by
  subst h2
  by_cases q : y < x
  · exact Go.of (fun t z => XS.icmpYes X.here C.hx rfl rfl (hb C.hby hd) rfl (XT.ii_gt_t q) ho h1 z) (ky q)
  · exact Go.of (fun t z => XS.icmpNo X.here C.hx rfl (hb C.hby hd) rfl (XT.ii_gt_f q) z) (kn q)
theorem Go.if0_gt (C : Cx p s m meth c Z own bytes maxL ret nm) (X : Stand p l e R s m args below meth c T locs cells slots) {pc n1 n2 : Nat} {ls : Array Slot} {rest : List Value} {x : Int32} {o : Int} (hd : decode bytes pc = .ok (.ifCond .gt o, 3)) (ho : 0 ≤ (pc : Int) + o) (h1 : ((pc : Int) + o).toNat = n1) (h2 : pc + 3 = n2)
    (ky : 0 < x → Go p e below K (T.setTop (mkF m n1 ls rest))) (kn : ¬ 0 < x → Go p e below K (T.setTop (mkF m n2 ls rest))) : Go p e below K (T.setTop (mkF m pc ls (.int x :: rest))) := by
  subst h2
  by_cases q : 0 < x
  · exact Go.of (fun t z => XS.ifYes X.here C.hx rfl rfl (hb C.hby hd) rfl (XT.i0_gt_t q) ho h1 z) (ky q)
  · exact Go.of (fun t z => XS.ifNo X.here C.hx rfl (hb C.hby hd) rfl (XT.i0_gt_f q) z) (kn q)
theorem Go.lcmp_gt (C : Cx p s m meth c Z own bytes maxL ret nm) (X : Stand p l e R s m args below meth c T locs cells slots) {pc n1 n2 : Nat} {ls : Array Slot} {rest : List Value} {x y : Int64} {o : Int} (hd : decode bytes pc = .ok (.ifCond .gt o, 3)) (ho : 0 ≤ (pc : Int) + o) (h1 : ((pc : Int) + o).toNat = n1) (h2 : pc + 3 = n2)
    (ky : y < x → Go p e below K (T.setTop (mkF m n1 ls rest))) (kn : ¬ y < x → Go p e below K (T.setTop (mkF m n2 ls rest))) : Go p e below K (T.setTop (mkF m pc ls (.int (XT.cmpL x y) :: rest))) := by
  subst h2
  by_cases q : y < x
  · exact Go.of (fun t z => XS.ifYes X.here C.hx rfl rfl (hb C.hby hd) rfl (XT.ll_gt_t q) ho h1 z) (ky q)
  · exact Go.of (fun t z => XS.ifNo X.here C.hx rfl (hb C.hby hd) rfl (XT.ll_gt_f q) z) (kn q)
theorem Go.icmp_le (C : Cx p s m meth c Z own bytes maxL ret nm) (X : Stand p l e R s m args below meth c T locs cells slots) {pc n1 n2 : Nat} {ls : Array Slot} {rest : List Value} {x y : Int32} {o : Int} (hd : decode bytes pc = .ok (.if_icmp .le o, 3)) (ho : 0 ≤ (pc : Int) + o) (h1 : ((pc : Int) + o).toNat = n1) (h2 : pc + 3 = n2)
    (ky : ¬ y < x → Go p e below K (T.setTop (mkF m n1 ls rest))) (kn : y < x → Go p e below K (T.setTop (mkF m n2 ls rest))) : Go p e below K (T.setTop (mkF m pc ls (.int y :: .int x :: rest))) := by
  subst h2
  by_cases q : y < x
  · exact Go.of (fun t z => XS.icmpNo X.here C.hx rfl (hb C.hby hd) rfl (XT.ii_le_f q) z) (kn q)
  · exact Go.of (fun t z => XS.icmpYes X.here C.hx rfl rfl (hb C.hby hd) rfl (XT.ii_le_t q) ho h1 z) (ky q)
theorem Go.if0_le (C : Cx p s m meth c Z own bytes maxL ret nm) (X : Stand p l e R s m args below meth c T locs cells slots) {pc n1 n2 : Nat} {ls : Array Slot} {rest : List Value} {x : Int32} {o : Int} (hd : decode bytes pc = .ok (.ifCond .le o, 3)) (ho : 0 ≤ (pc : Int) + o) (h1 : ((pc : Int) + o).toNat = n1) (h2 : pc + 3 = n2)
    (ky : ¬ 0 < x → Go p e below K (T.setTop (mkF m n1 ls rest))) (kn : 0 < x → Go p e below K (T.setTop (mkF m n2 ls rest))) : Go p e below K (T.setTop (mkF m pc ls (.int x :: rest))) := by
  subst h2
  by_cases q : 0 < x
  · exact Go.of (fun t z => XS.ifNo X.here C.hx rfl (hb C.hby hd) rfl (XT.i0_le_f q) z) (kn q)
  · exact Go.of (fun t z => XS.ifYes X.here C.hx rfl rfl (hb C.hby hd) rfl (XT.i0_le_t q) ho h1 z) (ky q)
theorem Go.lcmp_le (C : Cx p s m meth c Z own bytes maxL ret nm) (X : Stand p l e R s m args below meth c T locs cells slots) {pc n1 n2 : Nat} {ls : Array Slot} {rest : List Value} {x y : Int64} {o : Int} (hd : decode bytes pc = .ok (.ifCond .le o, 3)) (ho : 0 ≤ (pc : Int) + o) (h1 : ((pc : Int) + o).toNat = n1) (h2 : pc + 3 = n2)
    (ky : ¬ y < x → Go p e below K (T.setTop (mkF m n1 ls rest))) (kn : y < x → Go p e below K (T.setTop (mkF m n2 ls rest))) : Go p e below K (T.setTop (mkF m pc ls (.int (XT.cmpL x y) :: rest))) := by
  subst h2
  by_cases q : y < x
  · exact Go.of (fun t z => XS.ifNo X.here C.hx rfl (hb C.hby hd) rfl (XT.ll_le_f q) z) (kn q)
  · exact Go.of (fun t z => XS.ifYes X.here C.hx rfl rfl (hb C.hby hd) rfl (XT.ll_le_t q) ho h1 z) (ky q)
theorem Go.ifnullN (C : Cx p s m meth c Z own bytes maxL ret nm) (X : Stand p l e R s m args below meth c T locs cells slots) {pc n : Nat} {ls : Array Slot} {rest : List Value} {o : Int} (hd : decode bytes pc = .ok (.ifnull o, 3)) (ho : 0 ≤ (pc : Int) + o) (hn : ((pc : Int) + o).toNat = n) (k : Go p e below K (T.setTop (mkF m n ls rest))) : Go p e below K (T.setTop (mkF m pc ls (.null :: rest))) :=
  Go.of (fun t q => XS.ifnullYes X.here C.hx rfl rfl (hb C.hby hd) rfl ho hn q) k
theorem Go.ifnullR (C : Cx p s m meth c Z own bytes maxL ret nm) (X : Stand p l e R s m args below meth c T locs cells slots) {pc n : Nat} {ls : Array Slot} {rest : List Value} {o : Int} {b : Addr} (hd : decode bytes pc = .ok (.ifnull o, 3)) (hn : pc + 3 = n) (k : Go p e below K (T.setTop (mkF m n ls rest))) : Go p e below K (T.setTop (mkF m pc ls (.ref b :: rest))) := by
  subst hn
  exact Go.of (fun t q => XS.ifnullNo X.here C.hx rfl (hb C.hby hd) rfl q) k
theorem Go.ifnonnullN (C : Cx p s m meth c Z own bytes maxL ret nm) (X : Stand p l e R s m args below meth c T locs cells slots) {pc n : Nat} {ls : Array Slot} {rest : List Value} {o : Int} (hd : decode bytes pc = .ok (.ifnonnull o, 3)) (hn : pc + 3 = n) (k : Go p e below K (T.setTop (mkF m n ls rest))) : Go p e below K (T.setTop (mkF m pc ls (.null :: rest))) := by
  subst hn
  exact Go.of (fun t q => XT.ifnonnullNo X.here C.hx rfl (hb C.hby hd) rfl q) k
theorem Go.ifnonnullR (C : Cx p s m meth c Z own bytes maxL ret nm) (X : Stand p l e R s m args below meth c T locs cells slots) {pc n : Nat} {ls : Array Slot} {rest : List Value} {o : Int} {b : Addr} (hd : decode bytes pc = .ok (.ifnonnull o, 3)) (ho : 0 ≤ (pc : Int) + o) (hn : ((pc : Int) + o).toNat = n) (k : Go p e below K (T.setTop (mkF m n ls rest))) : Go p e below K (T.setTop (mkF m pc ls (.ref b :: rest))) :=
  Go.of (fun t q => XT.ifnonnullYes X.here C.hx rfl rfl (hb C.hby hd) rfl ho hn q) k
theorem Go.acmp_eq (C : Cx p s m meth c Z own bytes maxL ret nm) (X : Stand p l e R s m args below meth c T locs cells slots) {pc n1 n2 : Nat} {ls : Array Slot} {rest : List Value} {x y : Value} {o : Int} (hx' : x.isRef = true) (hy' : y.isRef = true) (hd : decode bytes pc = .ok (.if_acmp .eq o, 3)) (ho : 0 ≤ (pc : Int) + o) (h1 : ((pc : Int) + o).toNat = n1) (h2 : pc + 3 = n2)
    (ky : x = y → Go p e below K (T.setTop (mkF m n1 ls rest))) (kn : ¬ x = y → Go p e below K (T.setTop (mkF m n2 ls rest))) : Go p e below K (T.setTop (mkF m pc ls (y :: x :: rest))) := by
  subst h2
  by_cases q : x = y
  · exact Go.of (fun t z => XT.acmpYes X.here C.hx rfl rfl (hb C.hby hd) rfl hx' hy' (XT.aa_eq_t q) ho h1 z) (ky q)
  · exact Go.of (fun t z => XT.acmpNo X.here C.hx rfl (hb C.hby hd) rfl hx' hy' (XT.aa_eq_f q) z) (kn q)
theorem Go.acmp_ne (C : Cx p s m meth c Z own bytes maxL ret nm) (X : Stand p l e R s m args below meth c T locs cells slots) {pc n1 n2 : Nat} {ls : Array Slot} {rest : List Value} {x y : Value} {o : Int} (hx' : x.isRef = true) (hy' : y.isRef = true) (hd : decode bytes pc = .ok (.if_acmp .ne o, 3)) (ho : 0 ≤ (pc : Int) + o) (h1 : ((pc : Int) + o).toNat = n1) (h2 : pc + 3 = n2)
    (ky : ¬ x = y → Go p e below K (T.setTop (mkF m n1 ls rest))) (kn : x = y → Go p e below K (T.setTop (mkF m n2 ls rest))) : Go p e below K (T.setTop (mkF m pc ls (y :: x :: rest))) := by
  subst h2
  by_cases q : x = y
  · exact Go.of (fun t z => XT.acmpNo X.here C.hx rfl (hb C.hby hd) rfl hx' hy' (XT.aa_ne_f q) z) (kn q)
  · exact Go.of (fun t z => XT.acmpYes X.here C.hx rfl rfl (hb C.hby hd) rfl hx' hy' (XT.aa_ne_t q) ho h1 z) (ky q)
theorem Go.iaload (C : Cx p s m meth c Z own bytes maxL ret nm) (X : Stand p l e R s m args below meth c T locs cells slots) {pc n : Nat} {ls : Array Slot} {rest : List Value} (eT : T.heap = h) {a : Addr} {cl : Cell} {j : Int32} {v : Value} (A : Arr Z h a cl .int) (hj : ¬ (j < 0 ∨ cl.slots.size ≤ j.toNatClampNeg)) (hv : cl.slots[j.toNatClampNeg]? = some v) (hd : decode bytes pc = .ok (.iaload, 1)) (hn : pc + 1 = n) (k : Go p e below K (T.setTop (mkF m n ls (v :: rest)))) : Go p e below K (T.setTop (mkF m pc ls (.int j :: .ref a :: rest))) := by
  subst hn
  have hc : T.heap[a]? = some cl := by rw [eT]; exact A.1
  have ha := State.isArrayOf_alike (T := s) C.hZ.alike A.2.1
  exact Go.of (fun t q => X.iaload C.hx hc ha A.2.2 hj hv (g := mkF m pc ls (.int j :: .ref a :: rest)) rfl rfl (hb C.hby hd) t q) k
theorem Go.caload (C : Cx p s m meth c Z own bytes maxL ret nm) (X : Stand p l e R s m args below meth c T locs cells slots) {pc n : Nat} {ls : Array Slot} {rest : List Value} (eT : T.heap = h) {a : Addr} {cl : Cell} {j : Int32} {v : Value} (A : Arr Z h a cl .char) (hj : ¬ (j < 0 ∨ cl.slots.size ≤ j.toNatClampNeg)) (hv : cl.slots[j.toNatClampNeg]? = some v) (hd : decode bytes pc = .ok (.caload, 1)) (hn : pc + 1 = n) (k : Go p e below K (T.setTop (mkF m n ls (v :: rest)))) : Go p e below K (T.setTop (mkF m pc ls (.int j :: .ref a :: rest))) := by
  subst hn
  have hc : T.heap[a]? = some cl := by rw [eT]; exact A.1
  have ha := State.isArrayOf_alike (T := s) C.hZ.alike A.2.1
  exact Go.of (fun t q => X.caload C.hx hc ha A.2.2 hj hv (g := mkF m pc ls (.int j :: .ref a :: rest)) rfl rfl (hb C.hby hd) t q) k
theorem Go.baloadB (C : Cx p s m meth c Z own bytes maxL ret nm) (X : Stand p l e R s m args below meth c T locs cells slots) {pc n : Nat} {ls : Array Slot} {rest : List Value} (eT : T.heap = h) {a : Addr} {cl : Cell} {j : Int32} {v : Value} (A : Arr Z h a cl .byte) (hj : ¬ (j < 0 ∨ cl.slots.size ≤ j.toNatClampNeg)) (hv : cl.slots[j.toNatClampNeg]? = some v) (hd : decode bytes pc = .ok (.baload, 1)) (hn : pc + 1 = n) (k : Go p e below K (T.setTop (mkF m n ls (v :: rest)))) : Go p e below K (T.setTop (mkF m pc ls (.int j :: .ref a :: rest))) := by
  subst hn
  have hc : T.heap[a]? = some cl := by rw [eT]; exact A.1
  have ha := State.isArrayOf_alike (T := s) C.hZ.alike A.2.1
  exact Go.of (fun t q => X.baloadBytes C.hx hc ha A.2.2 hj hv (g := mkF m pc ls (.int j :: .ref a :: rest)) rfl rfl (hb C.hby hd) t q) k
theorem Go.aaload (C : Cx p s m meth c Z own bytes maxL ret nm) (X : Stand p l e R s m args below meth c T locs cells slots) {pc n : Nat} {ls : Array Slot} {rest : List Value} (eT : T.heap = h) {a : Addr} {cl : Cell} {j : Int32} {v : Value} {ty : FieldType} (hty : ty.isReference = true) (A : Arr Z h a cl ty) (hj : ¬ (j < 0 ∨ cl.slots.size ≤ j.toNatClampNeg)) (hv : cl.slots[j.toNatClampNeg]? = some v) (hd : decode bytes pc = .ok (.aaload, 1)) (hn : pc + 1 = n) (k : Go p e below K (T.setTop (mkF m n ls (v :: rest)))) : Go p e below K (T.setTop (mkF m pc ls (.int j :: .ref a :: rest))) := by
  subst hn
  have hc : T.heap[a]? = some cl := by rw [eT]; exact A.1
  have ha := State.isArrayOf_alike (T := s) C.hZ.alike A.2.1
  exact Go.of (fun t q => X.aaload C.hx hc ha hty A.2.2 hj hv (g := mkF m pc ls (.int j :: .ref a :: rest)) rfl rfl (hb C.hby hd) t q) k
theorem Go.arraylength (C : Cx p s m meth c Z own bytes maxL ret nm) (X : Stand p l e R s m args below meth c T locs cells slots) {pc n : Nat} {ls : Array Slot} {rest : List Value} (eT : T.heap = h) {a : Addr} {cl : Cell} {ty : FieldType} {z : Int32} (A : Arr Z h a cl ty) (hz : cl.slots.size.toInt32 = z) (hd : decode bytes pc = .ok (.arraylength, 1)) (hn : pc + 1 = n) (k : Go p e below K (T.setTop (mkF m n ls (.int z :: rest)))) : Go p e below K (T.setTop (mkF m pc ls (.ref a :: rest))) := by
  subst hn hz
  have hc : T.heap[a]? = some cl := by rw [eT]; exact A.1
  have ha := State.isArrayOf_alike (T := s) C.hZ.alike A.2.1
  exact Go.of (fun t q => X.arraylength C.hx hc ha (g := mkF m pc ls (.ref a :: rest)) rfl rfl (hb C.hby hd) t q) k
theorem Go.iastore (C : Cx p s m meth c Z own bytes maxL ret nm) (X : Stand p l e R s m args below meth c T locs cells slots) {pc n : Nat} {ls : Array Slot} {rest : List Value} (eT : T.heap = h) {a : Addr} {cl : Cell} {j : Int32} {x : Int32} (A : Arr Z h a cl .int) (hj : ¬ (j < 0 ∨ cl.slots.size ≤ j.toNatClampNeg)) (hd : decode bytes pc = .ok (.iastore, 1)) (hn : pc + 1 = n) (k : ∀ T' h', Stand p l e R s m args below meth c T' (locs ++ [⟨a, j.toNatClampNeg⟩]) cells slots → T'.heap = h' → Wr h h' a j.toNatClampNeg (.int x) → Go p e below K (T'.setTop (mkF m n ls rest))) : Go p e below K (T.setTop (mkF m pc ls (.int x :: .int j :: .ref a :: rest))) := by
  subst hn
  obtain ⟨T', h', X', e', W, st⟩ := stI X C.hx C.hZ eT A hj (g := mkF m pc ls (.int x :: .int j :: .ref a :: rest)) rfl rfl (hb C.hby hd)
  exact Go.of st (k T' h' X' e' W)
theorem Go.castore (C : Cx p s m meth c Z own bytes maxL ret nm) (X : Stand p l e R s m args below meth c T locs cells slots) {pc n : Nat} {ls : Array Slot} {rest : List Value} (eT : T.heap = h) {a : Addr} {cl : Cell} {j : Int32} {x : Int32} (A : Arr Z h a cl .char) (hj : ¬ (j < 0 ∨ cl.slots.size ≤ j.toNatClampNeg)) (hd : decode bytes pc = .ok (.castore, 1)) (hn : pc + 1 = n) (k : ∀ T' h', Stand p l e R s m args below meth c T' (locs ++ [⟨a, j.toNatClampNeg⟩]) cells slots → T'.heap = h' → Wr h h' a j.toNatClampNeg (.int (nar .char x)) → Go p e below K (T'.setTop (mkF m n ls rest))) : Go p e below K (T.setTop (mkF m pc ls (.int x :: .int j :: .ref a :: rest))) := by
  subst hn
  obtain ⟨T', h', X', e', W, st⟩ := stC X C.hx C.hZ eT A hj (g := mkF m pc ls (.int x :: .int j :: .ref a :: rest)) rfl rfl (hb C.hby hd)
  exact Go.of st (k T' h' X' e' W)
theorem Go.bastoreB (C : Cx p s m meth c Z own bytes maxL ret nm) (X : Stand p l e R s m args below meth c T locs cells slots) {pc n : Nat} {ls : Array Slot} {rest : List Value} (eT : T.heap = h) {a : Addr} {cl : Cell} {j : Int32} {x : Int32} (A : Arr Z h a cl .byte) (hj : ¬ (j < 0 ∨ cl.slots.size ≤ j.toNatClampNeg)) (hd : decode bytes pc = .ok (.bastore, 1)) (hn : pc + 1 = n) (k : ∀ T' h', Stand p l e R s m args below meth c T' (locs ++ [⟨a, j.toNatClampNeg⟩]) cells slots → T'.heap = h' → Wr h h' a j.toNatClampNeg (.int (nar .byte x)) → Go p e below K (T'.setTop (mkF m n ls rest))) : Go p e below K (T.setTop (mkF m pc ls (.int x :: .int j :: .ref a :: rest))) := by
  subst hn
  obtain ⟨T', h', X', e', W, st⟩ := stB X C.hx C.hZ eT A hj (g := mkF m pc ls (.int x :: .int j :: .ref a :: rest)) rfl rfl (hb C.hby hd)
  exact Go.of st (k T' h' X' e' W)
theorem Go.aastore (C : Cx p s m meth c Z own bytes maxL ret nm) (X : Stand p l e R s m args below meth c T locs cells slots) {pc n : Nat} {ls : Array Slot} {rest : List Value} (eT : T.heap = h) {a : Addr} {cl : Cell} {j : Int32} {v : Value} {ty : FieldType} (A : Arr Z h a cl ty) (hj : ¬ (j < 0 ∨ cl.slots.size ≤ j.toNatClampNeg)) (hty : ty.isReference = true) (F : Sto Z h a v) (hd : decode bytes pc = .ok (.aastore, 1)) (hn : pc + 1 = n) (k : ∀ T' h', Stand p l e R s m args below meth c T' (locs ++ [⟨a, j.toNatClampNeg⟩]) cells slots → T'.heap = h' → Wr h h' a j.toNatClampNeg v → Go p e below K (T'.setTop (mkF m n ls rest))) : Go p e below K (T.setTop (mkF m pc ls (v :: .int j :: .ref a :: rest))) := by
  subst hn
  obtain ⟨T', h', X', e', W, st⟩ := stR X C.hx C.hZ eT A hj hty F (g := mkF m pc ls (v :: .int j :: .ref a :: rest)) rfl rfl (hb C.hby hd)
  exact Go.of st (k T' h' X' e' W)
theorem Go.getF (C : Cx p s m meth c Z own bytes maxL ret nm) (X : Stand p l e R s m args below meth c T locs cells slots) {pc n : Nat} {ls : Array Slot} {rest : List Value} (eT : T.heap = h) {R0 O n0 d : String} {index : Nat} {a : Addr} {v : Value} (w : (Cond.fieldLink own index R0 n0 d).before a0 Z = true) (via : Via Z R0 O n0 d) (F : Fld Z h a O n0 d v) (hd : decode bytes pc = .ok (.getfield index, 3)) (hn : pc + 3 = n) (k : ∀ T', Stand p l e R s m args below meth c T' locs cells slots → T'.heap = h → Go p e below K (T'.setTop (mkF m n ls (v :: rest)))) : Go p e below K (T.setTop (mkF m pc ls (.ref a :: rest))) := by
  subst hn
  obtain ⟨T', X', e', st⟩ := Jvm.RoadKit.getF X C.hx C.hZ C.hown (host := "") (Or.inl w) via eT F (g := mkF m pc ls (.ref a :: rest)) rfl rfl (hb C.hby hd)
  exact Go.of st (k T' X' e')
theorem Go.putF (C : Cx p s m meth c Z own bytes maxL ret nm) (X : Stand p l e R s m args below meth c T locs cells slots) {pc n : Nat} {ls : Array Slot} {rest : List Value} (eT : T.heap = h) {R0 O n0 d C0 : String} {index kk : Nat} {ty : FieldType} {a : Addr} {v v' old : Value} (w : (Cond.fieldLink own index R0 n0 d).before a0 Z = true) (via : Via Z R0 O n0 d) (F : Fld Z h a O n0 d old) (E : Exa Z h a C0) (L : (Cond.lays C0 O n0 d).before a0 Z = true ∨ ((Cond.laysFinal C0 O n0 d).before a0 Z = true ∧ own = O ∧ nm = "<init>")) (wi : (Cond.instantiable C0 kk).before a0 Z = true) (hty : parseFieldDescriptor d = some ty) (hnv : narrow ty v = v') (hf : fits ty v' = true) (hd : decode bytes pc = .ok (.putfield index, 3)) (hn : pc + 3 = n)
    (k : ∀ T' h', Stand p l e R s m args below meth c T' (locs ++ [⟨a, slotOf Z O n0 d⟩]) cells slots → T'.heap = h' → Wr h h' a (slotOf Z O n0 d) v' → Go p e below K (T'.setTop (mkF m n ls rest))) : Go p e below K (T.setTop (mkF m pc ls (v :: .ref a :: rest))) := by
  subst hn
  obtain ⟨T', h', X', e', W, st⟩ := Jvm.RoadKit.putFN X C.hx C.hZ C.hown w via eT F E (L.imp id fun z => ⟨z.1, z.2.1, C.hnm.trans z.2.2⟩) wi hty hnv hf (g := mkF m pc ls (v :: .ref a :: rest)) rfl rfl (hb C.hby hd)
  exact Go.of st (k T' h' X' e' W)
theorem Go.getS (C : Cx p s m meth c Z own bytes maxL ret nm) (X : Stand p l e R s m args below meth c T locs cells slots) {pc n : Nat} {ls : Array Slot} {rest : List Value} (eT : T.heap = h) {R0 O n0 d : String} {index : Nat} {v : Value} (w : (Cond.fieldLink own index R0 n0 d).before a0 Z = true) (via : Via Z R0 O n0 d) (F : Sta Z h O n0 d v) (hd : decode bytes pc = .ok (.getstatic index, 3)) (hn : pc + 3 = n) (k : ∀ T', Stand p l e R s m args below meth c T' locs cells slots → T'.heap = h → Go p e below K (T'.setTop (mkF m n ls (v :: rest)))) : Go p e below K (T.setTop (mkF m pc ls rest)) := by
  subst hn
  obtain ⟨T', X', e', st⟩ := Jvm.RoadKit.getS X C.hx C.hZ C.hown (host := "") w via eT F (g := mkF m pc ls rest) rfl (hb C.hby hd)
  exact Go.of st (k T' X' e')
theorem Go.newO (C : Cx p s m meth c Z own bytes maxL ret nm) (X : Stand p l e R s m args below meth c T locs cells slots) {pc n : Nat} {ls : Array Slot} {rest : List Value} (eT : T.heap = h) {C0 : String} {index n0 : Nat} (w : (Cond.classLink own index C0).before a0 Z = true) (wi : (Cond.instantiable C0 n0).before a0 Z = true) (wz : (Cond.initialized C0).before a0 Z = true) (hd : decode bytes pc = .ok (.new index, 3)) (hn : pc + 3 = n) (hc : cells + 1 ≤ R.cells) (hl : slots + n0 ≤ R.slots)
    (k : ∀ T' h' a, a = h.size → Stand p l e R s m args below meth c T' locs (cells + 1) (slots + n0) → T'.heap = h' → Ext h h' → Exa Z h' a C0 → (∀ {O nm d : String} {ty : FieldType}, Laid Z a0 C0 O nm d → parseFieldDescriptor d = some ty → Fld Z h' a O nm d (defaultValue ty)) → Go p e below K (T'.setTop (mkF m n ls (.ref a :: rest)))) : Go p e below K (T.setTop (mkF m pc ls rest)) := by
  subst hn
  obtain ⟨T', h', X', e', E', A', D', -, st⟩ := Jvm.RoadKit.newO X C.hx C.hZ C.hown w wi wz eT (g := mkF m pc ls rest) rfl (hb C.hby hd) hc hl
  exact Go.of st (k T' h' _ rfl X' e' E' A' D')
theorem Go.newP (C : Cx p s m meth c Z own bytes maxL ret nm) (X : Stand p l e R s m args below meth c T locs cells slots) {pc n : Nat} {ls : Array Slot} {rest : List Value} (eT : T.heap = h) {aty : ArrayType} (w : (Cond.arrayClass (newarray.typeOf aty)).before a0 Z = true) {z : Int32} (hd : decode bytes pc = .ok (.newarray aty, 2)) (hn : pc + 2 = n) (hz : ¬ z < 0) (cap : Nat) (hcap : z.toNatClampNeg ≤ cap) (hb8 : cap * 8 ≤ 536870912) (hc : cells + 1 ≤ R.cells) (hl : slots + cap ≤ R.slots)
    (k : ∀ T' h' a cA, a = h.size → Stand p l e R s m args below meth c T' locs (cells + 1) (slots + cap) → T'.heap = h' → Ext h h' → Arr Z h' a (newA cA (newarray.typeOf aty) z) (newarray.typeOf aty) → Go p e below K (T'.setTop (mkF m n ls (.ref a :: rest)))) : Go p e below K (T.setTop (mkF m pc ls (.int z :: rest))) := by
  subst hn
  obtain ⟨T', h', cA, X', e', E', A', st⟩ := Jvm.RoadKit.newP X C.hx C.hZ w eT (g := mkF m pc ls (.int z :: rest)) rfl (hb C.hby hd) rfl hz hcap hb8 hc hl
  exact Go.of st (k T' h' _ cA rfl X' e' E' A')
theorem Go.newR (C : Cx p s m meth c Z own bytes maxL ret nm) (X : Stand p l e R s m args below meth c T locs cells slots) {pc n : Nat} {ls : Array Slot} {rest : List Value} (eT : T.heap = h) {C0 : String} {index : Nat} (w1 : (Cond.classLink own index C0).before a0 Z = true) (w2 : (Cond.arrayOver (.object C0)).before a0 Z = true) {z : Int32} (hd : decode bytes pc = .ok (.anewarray index, 3)) (hn : pc + 3 = n) (hz : ¬ z < 0) (cap : Nat) (hcap : z.toNatClampNeg ≤ cap) (hb8 : cap * 8 ≤ 536870912) (hc : cells + 1 ≤ R.cells) (hl : slots + cap ≤ R.slots)
    (k : ∀ T' h' a cA, a = h.size → Stand p l e R s m args below meth c T' locs (cells + 1) (slots + cap) → T'.heap = h' → Ext h h' → Arr Z h' a (newA cA (.object C0) z) (.object C0) → Ovr Z cA C0 → Go p e below K (T'.setTop (mkF m n ls (.ref a :: rest)))) : Go p e below K (T.setTop (mkF m pc ls (.int z :: rest))) := by
  subst hn
  obtain ⟨T', h', cA, X', e', E', A', O', st⟩ := Jvm.RoadKit.newR X C.hx C.hZ C.hown w1 w2 eT (g := mkF m pc ls (.int z :: rest)) rfl (hb C.hby hd) rfl hz hcap hb8 hc hl
  exact Go.of st (k T' h' _ cA rfl X' e' E' A' O')
theorem Go.initO (C : Cx p s m meth c Z own bytes maxL ret nm) (X : Stand p l e R s m args below meth c T locs cells slots) {pc n : Nat} {ls : Array Slot} {rest : List Value} (eT : T.heap = h) {index : Nat} {a : Addr} (w1 : (Cond.methodLink own index Lib.objectInit).before a0 Z = true) (w2 : (Cond.instanceMethod Lib.objectInit).before a0 Z = true) (w3 : (Cond.code Lib.objectInit ⟨#[0xb1]⟩ 1 none).before a0 Z = true) (hd : decode bytes pc = .ok (.invokespecial index, 3)) (hn : pc + 3 = n) (hsz : ls.size = maxL) (hf : 1 ≤ R.frames) {W : Nat} (hW : (rest.map fun v => v.category).sum = W) (hl : W + 12 ≤ R.locals)
    (k : ∀ T', Stand p l e R s m args below meth c T' locs cells slots → T'.heap = h → Go p e below K (T'.setTop (mkF m n ls rest))) : Go p e below K (T.setTop (mkF m pc ls (.ref a :: rest))) := by
  subst hn
  obtain ⟨T', X', e', st⟩ := Jvm.RoadKit.initO X C.hx C.hZ C.hown w1 w2 w3 eT (g := mkF m pc ls (.ref a :: rest)) rfl (hsz.trans C.hml.symm) rfl (hb C.hby hd) hf (W := W) (by show 2 * 0 + _ ≤ _; omega) hl
  exact Go.of st (k T' X' e')
theorem Go.castY (C : Cx p s m meth c Z own bytes maxL ret nm) (X : Stand p l e R s m args below meth c T locs cells slots) {pc n : Nat} {ls : Array Slot} {rest : List Value} (eT : T.heap = h) {K0 : String} {index : Nat} {a : Addr} (w : (Cond.classLink own index K0).before a0 Z = true) (F : Ins Z h a K0 true) (hd : decode bytes pc = .ok (.checkcast index, 3)) (hn : pc + 3 = n) (k : ∀ T', Stand p l e R s m args below meth c T' locs cells slots → T'.heap = h → Go p e below K (T'.setTop (mkF m n ls (.ref a :: rest)))) : Go p e below K (T.setTop (mkF m pc ls (.ref a :: rest))) := by
  subst hn
  obtain ⟨T', X', e', st⟩ := Jvm.RoadKit.castY X C.hx C.hZ C.hown w eT F (g := mkF m pc ls (.ref a :: rest)) rfl rfl (hb C.hby hd)
  exact Go.of st (k T' X' e')
theorem Go.instY (C : Cx p s m meth c Z own bytes maxL ret nm) (X : Stand p l e R s m args below meth c T locs cells slots) {pc n : Nat} {ls : Array Slot} {rest : List Value} (eT : T.heap = h) {K0 : String} {index : Nat} {a : Addr} (w : (Cond.classLink own index K0).before a0 Z = true) (F : Ins Z h a K0 true) (hd : decode bytes pc = .ok (.instanceof index, 3)) (hn : pc + 3 = n) (k : ∀ T', Stand p l e R s m args below meth c T' locs cells slots → T'.heap = h → Go p e below K (T'.setTop (mkF m n ls (.int 1 :: rest)))) : Go p e below K (T.setTop (mkF m pc ls (.ref a :: rest))) := by
  subst hn
  obtain ⟨T', X', e', st⟩ := Jvm.RoadKit.instY X C.hx C.hZ C.hown w eT F (g := mkF m pc ls (.ref a :: rest)) rfl rfl (hb C.hby hd)
  exact Go.of st (k T' X' e')
theorem Go.newPE (C : Cx p s m meth c Z own bytes maxL ret nm) (X : Stand p l e R s m args below meth c T locs cells slots) {pc n : Nat} {ls : Array Slot} {rest : List Value} (eT : T.heap = h) {aty : ArrayType} (w : (Cond.arrayClass (newarray.typeOf aty)).before a0 Z = true) {z : Int32} (hd : decode bytes pc = .ok (.newarray aty, 2)) (hn : pc + 2 = n) (hz : ¬ z < 0) (cap : Nat) (hcap : z.toNatClampNeg ≤ cap) (hb8 : cap * 8 ≤ 536870912) (hc : cells + 1 ≤ R.cells) (hl : slots + cap ≤ R.slots) {ad : String} (had : "[" ++ (newarray.typeOf aty).toString = ad)
    (k : ∀ T' h' a cA, a = h.size → Stand p l e R s m args below meth c T' locs (cells + 1) (slots + cap) → T'.heap = h' → Ext h h' → Arr Z h' a (newA cA (newarray.typeOf aty) z) (newarray.typeOf aty) → Exa Z h' a ad → Go p e below K (T'.setTop (mkF m n ls (.ref a :: rest)))) : Go p e below K (T.setTop (mkF m pc ls (.int z :: rest))) := by
  subst hn
  obtain ⟨T', h', cA, X', e', E', A', x', st⟩ := Jvm.RoadKit.newPE X C.hx C.hZ w eT (g := mkF m pc ls (.int z :: rest)) rfl (hb C.hby hd) rfl hz hcap hb8 hc hl had
  exact Go.of st (k T' h' _ cA rfl X' e' E' A' x')
theorem Go.cloneA (C : Cx p s m meth c Z own bytes maxL ret nm) (X : Stand p l e R s m args below meth c T locs cells slots) {pc n : Nat} {ls : Array Slot} {rest : List Value} (eT : T.heap = h) {index : Nat} {a : Addr} {ad : String} {cl : Cell} {ty : FieldType} (w1 : (Cond.methodLink own index ⟨ad, "clone", "()Ljava/lang/Object;"⟩).before a0 Z = true) (w2 : (Cond.sameMethod ad "java/lang/Object" "clone" "()Ljava/lang/Object;").before a0 Z = true) (w3 : (Cond.native ⟨"java/lang/Object", "clone", "()Ljava/lang/Object;"⟩).before a0 Z = true) (w4 : (Cond.instanceMethod ⟨"java/lang/Object", "clone", "()Ljava/lang/Object;"⟩).before a0 Z = true) (w5 : (Cond.selects ad ⟨ad, "clone", "()Ljava/lang/Object;"⟩ ⟨"java/lang/Object", "clone", "()Ljava/lang/Object;"⟩).before a0 Z = true) (w6 : (Cond.castable ad "java/lang/Cloneable").before a0 Z = true)
    (A : Arr Z h a cl ty) (E : Exa Z h a ad) (F : FitC Z cl) (hd : decode bytes pc = .ok (.invokevirtual index, 3)) (hn : pc + 3 = n) (hsz : ls.size = maxL) (hf : 1 ≤ R.frames) {W : Nat} (hW : (rest.map fun v => v.category).sum = W) (hl : W + 14 ≤ R.locals) (cap : Nat) (hcap : cl.slots.size ≤ cap) (hc : cells + 1 ≤ R.cells) (hsl : slots + cap ≤ R.slots)
    (k : ∀ T' h' b, b = h.size → Stand p l e R s m args below meth c T' locs (cells + 1) (slots + cap) → T'.heap = h' → Ext h h' → Arr Z h' b (cloneOf cl) ty → Exa Z h' b ad → Go p e below K (T'.setTop (mkF m n ls (.ref b :: rest)))) : Go p e below K (T.setTop (mkF m pc ls (.ref a :: rest))) := by
  subst hn
  obtain ⟨T', h', X', e', E', A', x', st⟩ := Jvm.RoadKit.cloneA X C.hx C.hZ C.hown w1 w2 w3 w4 w5 w6 eT A E F (g := mkF m pc ls (.ref a :: rest)) rfl (hsz.trans C.hml.symm) rfl (hb C.hby hd) hf (W := W) (by show 2 * 0 + _ ≤ _; omega) hl hcap hc hsl
  exact Go.of st (k T' h' _ rfl X' e' E' A' x')
theorem Go.stat (C : Cx p s m meth c Z own bytes maxL ret nm) (X : Stand p l e R s m args below meth c T locs cells slots) {pc n : Nat} {ls : Array Slot} {rest : List Value} (eT : T.heap = h) {index yL W : Nat} {ybytes : ByteArray} {yret : Option FieldType} {rm : Room} {Q : Option Value → Heap → List Loc → Prop} {argsL : List Value} {st : List Value} {y : MethodName} (hC : Ctr l Z y ybytes yL yret rm argsL.toArray h Q) (wl : (Cond.methodLink own index y).before a0 Z = true) (ws : (Cond.static y).before a0 Z = true) (wi : (Cond.initialized y.cls).before a0 Z = true) (wc : (Cond.code y ybytes yL yret).before a0 Z = true) (hy : y.cls ≠ "java/lang/invoke/MethodHandle" ∧ y.cls ≠ "java/lang/invoke/VarHandle")
    (hlen : ∀ sig, parseMethodDescriptor y.desc = some sig → argsL.length = sig.parameters.length) (hst : st = argsL.reverse ++ rest) (hd : decode bytes pc = .ok (.invokestatic index, 3)) (hn : pc + 3 = n) (hsz : ls.size = maxL) (hf : rm.frames + 1 ≤ R.frames) (hW : (rest.map fun v => v.category).sum = W) (hl : W + (yL + 11) + rm.locals ≤ R.locals) (hcl : cells + rm.cells ≤ R.cells) (hsl : slots + rm.slots ≤ R.slots) 
    (k : ∀ T' h' v L, Stand p l e R s m args below meth c T' (locs ++ L) (cells + rm.cells) (slots + rm.slots) → T'.heap = h' → Q v h' L → Go p e below K (T'.setTop (mkF m n ls (v.toList ++ rest)))) : Go p e below K (T.setTop (mkF m pc ls st)) := by
  subst hn hst
  obtain ⟨v, _, ⟨T', L', k', n'⟩, -, X', ⟨L1, hQ, l1, y1, z1⟩, stp⟩ := Jvm.LawKit.callS X C.hx (y := y) C.hown (mvT C.hZ wl) (mvT C.hZ ws) (mvT C.hZ wi) (mvT C.hZ wc) hy (backOf (W := W) (hC []) C.hZ wc wi hf hl) (g := mkF m pc ls (argsL.reverse ++ rest)) rfl (hsz.trans C.hml.symm) (argsL := argsL) (rest := rest) hlen rfl (by show 2 * 0 + _ ≤ _; omega) (hb C.hby hd) (fun _ _ => ⟨rfl, eT, hcl, hsl⟩)
  dsimp only [Pt.U, Pt.locs, Pt.cells, Pt.slots] at X' l1 y1 z1 stp hQ
  subst l1 y1 z1
  exact Go.of stp (k T' T'.heap v L1 X' rfl hQ)
theorem Go.spec (C : Cx p s m meth c Z own bytes maxL ret nm) (X : Stand p l e R s m args below meth c T locs cells slots) {pc n : Nat} {ls : Array Slot} {rest : List Value} (eT : T.heap = h) {index yL W : Nat} {ybytes : ByteArray} {rm : Room} {Q : Option Value → Heap → List Loc → Prop} {argsL : List Value} {st : List Value} {y : MethodName} {a : Addr} (hC : Ctr l Z y ybytes yL none rm (.ref a :: argsL).toArray h Q) (hy1 : y.name = "<init>") (wl : (Cond.methodLink own index y).before a0 Z = true) (wm : (Cond.instanceMethod y).before a0 Z = true) (wi : (Cond.initialized y.cls).before a0 Z = true) (wc : (Cond.code y ybytes yL none).before a0 Z = true) (hy : y.cls ≠ "java/lang/invoke/MethodHandle" ∧ y.cls ≠ "java/lang/invoke/VarHandle")
    (hlen : ∀ sig, parseMethodDescriptor y.desc = some sig → argsL.length = sig.parameters.length) (hst : st = argsL.reverse ++ .ref a :: rest) (hd : decode bytes pc = .ok (.invokespecial index, 3)) (hn : pc + 3 = n) (hsz : ls.size = maxL) (hf : rm.frames + 1 ≤ R.frames) (hW : (rest.map fun v => v.category).sum = W) (hl : W + (yL + 11) + rm.locals ≤ R.locals) (hcl : cells + rm.cells ≤ R.cells) (hsl : slots + rm.slots ≤ R.slots) 
    (k : ∀ T' h' v L, Stand p l e R s m args below meth c T' (locs ++ L) (cells + rm.cells) (slots + rm.slots) → T'.heap = h' → Q v h' L → Go p e below K (T'.setTop (mkF m n ls (v.toList ++ rest)))) : Go p e below K (T.setTop (mkF m pc ls st)) := by
  subst hn hst
  obtain ⟨v, _, ⟨T', L', k', n'⟩, -, X', ⟨L1, hQ, l1, y1, z1⟩, stp⟩ := X.specialBack C.hx (y := y) hy1 C.hown (mvT C.hZ wl) (mvT C.hZ wm) (mvT C.hZ wc) hy (backOf (W := W) (hC []) C.hZ wc wi hf hl) (g := mkF m pc ls (argsL.reverse ++ .ref a :: rest)) rfl (hsz.trans C.hml.symm) (Steps.refl _) (a := a) (argsL := argsL) (rest := rest) hlen rfl (by show 2 * 0 + _ ≤ _; omega) (hb C.hby hd) (fun _ _ => ⟨rfl, eT, hcl, hsl⟩)
  dsimp only [Pt.U, Pt.locs, Pt.cells, Pt.slots] at X' l1 y1 z1 stp hQ
  subst l1 y1 z1
  exact Go.of (fun t q => stp.trans q) (k T' T'.heap v L1 X' rfl hQ)
theorem Go.virt (C : Cx p s m meth c Z own bytes maxL ret nm) (X : Stand p l e R s m args below meth c T locs cells slots) {pc n : Nat} {ls : Array Slot} {rest : List Value} (eT : T.heap = h) {index yL W : Nat} {ybytes : ByteArray} {yret : Option FieldType} {rm : Room} {Q : Option Value → Heap → List Loc → Prop} {argsL : List Value} {st : List Value} {y z : MethodName} {a : Addr} {C0 : String} (hC : Ctr l Z z ybytes yL yret rm (.ref a :: argsL).toArray h Q) (wl : (Cond.methodLink own index y).before a0 Z = true) (wd : (Cond.declares y).before a0 Z = true) (nf : NotFace s y) (wsel : (Cond.selects C0 y z).before a0 Z = true) (wm : (Cond.instanceMethod z).before a0 Z = true) (wi : (Cond.initialized z.cls).before a0 Z = true) (wc : (Cond.code z ybytes yL yret).before a0 Z = true) (hy : y.cls ≠ "java/lang/invoke/MethodHandle" ∧ y.cls ≠ "java/lang/invoke/VarHandle") (E : Exa Z h a C0)
    (hlen : ∀ sig, parseMethodDescriptor y.desc = some sig → argsL.length = sig.parameters.length) (hst : st = argsL.reverse ++ .ref a :: rest) (hd : decode bytes pc = .ok (.invokevirtual index, 3)) (hn : pc + 3 = n) (hsz : ls.size = maxL) (hf : rm.frames + 1 ≤ R.frames) (hW : (rest.map fun v => v.category).sum = W) (hl : W + (yL + 11) + rm.locals ≤ R.locals) (hcl : cells + rm.cells ≤ R.cells) (hsl : slots + rm.slots ≤ R.slots) 
    (k : ∀ T' h' v L, Stand p l e R s m args below meth c T' (locs ++ L) (cells + rm.cells) (slots + rm.slots) → T'.heap = h' → Q v h' L → Go p e below K (T'.setTop (mkF m n ls (v.toList ++ rest)))) : Go p e below K (T.setTop (mkF m pc ls st)) := by
  subst hn hst
  obtain ⟨cq, kq, q1, q2, q3⟩ := isOf C.hZ eT E
  obtain ⟨v, _, ⟨T', L', k', n'⟩, -, X', ⟨L1, hQ, l1, y1, z1⟩, stp⟩ := X.virtualBack C.hx (y := y) (z := z) C.hown (mvT C.hZ wl) (mvT C.hZ wd) nf (mvT C.hZ wsel) (mvT C.hZ wm) hy (backOf (W := W) (hC []) C.hZ wc wi hf hl) q1 q3 (g := mkF m pc ls (argsL.reverse ++ .ref a :: rest)) rfl (hsz.trans C.hml.symm) (Steps.refl _) (argsL := argsL) (rest := rest) hlen rfl (by show 2 * 0 + _ ≤ _; omega) (hb C.hby hd) (fun _ _ => ⟨rfl, eT, hcl, hsl⟩)
  dsimp only [Pt.U, Pt.locs, Pt.cells, Pt.slots] at X' l1 y1 z1 stp hQ
  subst l1 y1 z1
  exact Go.of (fun t q => stp.trans q) (k T' T'.heap v L1 X' rfl hQ)
theorem Go.priv (C : Cx p s m meth c Z own bytes maxL ret nm) (X : Stand p l e R s m args below meth c T locs cells slots) {pc n : Nat} {ls : Array Slot} {rest : List Value} (eT : T.heap = h) {index yL W : Nat} {ybytes : ByteArray} {yret : Option FieldType} {rm : Room} {Q : Option Value → Heap → List Loc → Prop} {argsL : List Value} {st : List Value} {y : MethodName} {a : Addr} {C0 : String} (hC : Ctr l Z y ybytes yL yret rm (.ref a :: argsL).toArray h Q) (wl : (Cond.methodLink own index y).before a0 Z = true) (wm : (Cond.instanceMethod y).before a0 Z = true) {kk : Nat} (wk : (Cond.instantiable y.cls kk).before a0 Z = true) (wp : (Cond.privateMethod y).before a0 Z = true) (wi : (Cond.initialized y.cls).before a0 Z = true) (wc : (Cond.code y ybytes yL yret).before a0 Z = true) (hy : y.cls ≠ "java/lang/invoke/MethodHandle" ∧ y.cls ≠ "java/lang/invoke/VarHandle") (E : Exa Z h a C0)
    (hlen : ∀ sig, parseMethodDescriptor y.desc = some sig → argsL.length = sig.parameters.length) (hst : st = argsL.reverse ++ .ref a :: rest) (hd : decode bytes pc = .ok (.invokevirtual index, 3)) (hn : pc + 3 = n) (hsz : ls.size = maxL) (hf : rm.frames + 1 ≤ R.frames) (hW : (rest.map fun v => v.category).sum = W) (hl : W + (yL + 11) + rm.locals ≤ R.locals) (hcl : cells + rm.cells ≤ R.cells) (hsl : slots + rm.slots ≤ R.slots) 
    (k : ∀ T' h' v L, Stand p l e R s m args below meth c T' (locs ++ L) (cells + rm.cells) (slots + rm.slots) → T'.heap = h' → Q v h' L → Go p e below K (T'.setTop (mkF m n ls (v.toList ++ rest)))) : Go p e below K (T.setTop (mkF m pc ls st)) := by
  subst hn hst
  obtain ⟨cq, q, q'⟩ := E.cell
  obtain ⟨c0, k0, i1, i2, -, i4, -⟩ := Cond.instantiable_spec (mvT C.hZ wk (args := args) : (Cond.instantiable y.cls kk).before args s = true)
  have hni : k0.isInterface = false := by cases hq : k0.isInterface <;> simp [hq] at i4 ⊢
  have hsel := selects_self_of_private (args := args) i1 i2 hni (Cond.privateMethod_at (mvP C.hZ wp (args := #[]))) (mvT C.hZ wm) hy
  obtain ⟨v, _, ⟨T', L', k', n'⟩, -, X', ⟨L1, hQ, l1, y1, z1⟩, stp⟩ := X.privateBack C.hx (y := y) C.hown (mvT C.hZ wl) (mvT C.hZ wm) hsel (Cond.privateMethod_at (mvP C.hZ wp (args := #[]))) (mvT C.hZ wc) hy (backOf (W := W) (hC []) C.hZ wc wi hf hl) (g := mkF m pc ls (argsL.reverse ++ .ref a :: rest)) rfl (hsz.trans C.hml.symm) (Steps.refl _) (a := a) (by rw [eT]; exact q) q' (argsL := argsL) (rest := rest) hlen rfl (by show 2 * 0 + _ ≤ _; omega) (hb C.hby hd) (fun _ _ => ⟨rfl, eT, hcl, hsl⟩)
  dsimp only [Pt.U, Pt.locs, Pt.cells, Pt.slots] at X' l1 y1 z1 stp hQ
  subst l1 y1 z1
  exact Go.of (fun t q => stp.trans q) (k T' T'.heap v L1 X' rfl hQ)
theorem Go.face (C : Cx p s m meth c Z own bytes maxL ret nm) (X : Stand p l e R s m args below meth c T locs cells slots) {pc n : Nat} {ls : Array Slot} {rest : List Value} (eT : T.heap = h) {index yL W : Nat} {ybytes : ByteArray} {yret : Option FieldType} {rm : Room} {Q : Option Value → Heap → List Loc → Prop} {argsL : List Value} {st : List Value} {count : Nat} {xi y : MethodName} {a : Addr} {C0 : String} (hC : Ctr l Z y ybytes yL yret rm (.ref a :: argsL).toArray h Q) (wl : (Cond.methodLink own index xi).before a0 Z = true) (wd : (Cond.declares xi).before a0 Z = true) (wf : (Cond.interfaceMethod xi.cls xi.cls xi.name xi.desc).before a0 Z = true) (wsel : (Cond.selects C0 xi y).before a0 Z = true) (wm : (Cond.instanceMethod y).before a0 Z = true) (wp : (Cond.publicMethod y).before a0 Z = true) (wu : (Cond.unhidden C0 xi.name xi.desc).before a0 Z = true) (wca : (Cond.castable C0 xi.cls).before a0 Z = true) (wi : (Cond.initialized y.cls).before a0 Z = true) (wc : (Cond.code y ybytes yL yret).before a0 Z = true) (hy : xi.cls ≠ "java/lang/invoke/MethodHandle" ∧ xi.cls ≠ "java/lang/invoke/VarHandle") (E : Exa Z h a C0)
    (hlen : ∀ sig, parseMethodDescriptor xi.desc = some sig → argsL.length = sig.parameters.length) (hst : st = argsL.reverse ++ .ref a :: rest) (hd : decode bytes pc = .ok (.invokeinterface index count, 5)) (hn : pc + 5 = n) (hsz : ls.size = maxL) (hf : rm.frames + 1 ≤ R.frames) (hW : (rest.map fun v => v.category).sum = W) (hl : W + (yL + 11) + rm.locals ≤ R.locals) (hcl : cells + rm.cells ≤ R.cells) (hsl : slots + rm.slots ≤ R.slots) 
    (k : ∀ T' h' v L, Stand p l e R s m args below meth c T' (locs ++ L) (cells + rm.cells) (slots + rm.slots) → T'.heap = h' → Q v h' L → Go p e below K (T'.setTop (mkF m n ls (v.toList ++ rest)))) : Go p e below K (T.setTop (mkF m pc ls st)) := by
  subst hn hst
  obtain ⟨cq, kq, q1, q2, q3⟩ := isOf C.hZ eT E
  obtain ⟨v, _, ⟨T', L', k', n'⟩, -, X', ⟨L1, hQ, l1, y1, z1⟩, stp⟩ := X.interfaceBack C.hx (xi := xi) (y := y) C.hown (mvT C.hZ wl) (mvT C.hZ wd) (mvT C.hZ wf (by simp [Cond.onTables, Cond.keepsFace, Cond.keeps, Cond.faceAtom, Cond.steady, hy.1, hy.2])) (mvT C.hZ wsel) (mvT C.hZ wm) (mvT C.hZ wp) (mvT C.hZ wu) (mvT C.hZ wca) hy (backOf (W := W) (hC []) C.hZ wc wi hf hl) q1 q2 q3 (g := mkF m pc ls (argsL.reverse ++ .ref a :: rest)) rfl (hsz.trans C.hml.symm) (Steps.refl _) (argsL := argsL) (rest := rest) hlen rfl (by show 2 * 0 + _ ≤ _; omega) (hb C.hby hd) (fun _ _ => ⟨rfl, eT, hcl, hsl⟩)
  dsimp only [Pt.U, Pt.locs, Pt.cells, Pt.slots] at X' l1 y1 z1 stp hQ
  subst l1 y1 z1
  exact Go.of (fun t q => stp.trans q) (k T' T'.heap v L1 X' rfl hQ)
end OwnA
end Jvm.RoadKit
namespace Jvm.RoadKit
open Sem ClassFile Op Lib Jvm.Stand Jvm.Free Jvm.LawKit
section OwnB
variable {p : Program} {l : Launch} {e : Env} {R : Room} {s : State} {m : MethodId} {args : Array Value} {below : List Frame} {meth : Method} {c : Code} {T : State} {locs : List Loc} {cells slots : Nat} {Z : State} {a0 : Array Value} {h h' : Heap} {a b : Addr} {sl : Nat} {v : Value} {ty : FieldType} {vs : List Value} {ws : List Addr}
variable {own nm : String} {bytes : ByteArray} {maxL : Nat} {ret : Option FieldType} {K : Outcome → State → Prop}
theorem wd {tab : List Jvm.Cond} {a0 : Array Value} {Z : State} (hw : ∀ d ∈ tab, d.before a0 Z = true) (k : Nat) {d : Jvm.Cond} (q : tab[k]? = some d) : d.before a0 Z = true := hw d (List.mem_of_getElem? q)
theorem Old.le {n0 : Nat} (O : Old Z n0 h) : n0 ≤ h.size := O.1 ▸ O.2.1
theorem Fr.one {k i : Nat} (q : k ≤ a) : Fr k [⟨a, i⟩] := fun y hy => by cases List.mem_singleton.mp hy; exact q
theorem Go.weaken {Q Q' : Option Value → Heap → List Loc → Prop} {k n : Nat} (q : ∀ v h L, Q v h L → Q' v h L) (g : Go p e below (EndQ s Q k n) T) : Go p e below (EndQ s Q' k n) T := by
  obtain ⟨t, o, h1, h2, h3, v, L, h4, h5, h6⟩ := g
  exact ⟨t, o, h1, h2, h3, v, L, h4, q _ _ _ h5, h6⟩
/-- an array and its components -/
def Arl (Z : State) (h : Heap) (a : Addr) (ty : FieldType) (vs : List Value) : Prop := ∃ c : Cell, Arr Z h a c ty ∧ c.slots.toList = vs ∧ vs.length < 2 ^ 31
theorem Arl.lt (F : Arl Z h a ty vs) : a < h.size := by obtain ⟨c, A, -⟩ := F; exact A.lt
theorem Arl.ext (F : Arl Z h a ty vs) (E : Ext h h') : Arl Z h' a ty vs := by obtain ⟨c, A, r⟩ := F; exact ⟨c, A.ext E, r⟩
theorem Arl.other (F : Arl Z h b ty vs) (W : Wr h h' a sl v) (q : b ≠ a) : Arl Z h' b ty vs := by obtain ⟨c, A, r⟩ := F; exact ⟨c, A.other W q, r⟩
theorem Arl.keep (F : Arl Z h a ty vs) (K : Keep h h' ws) (q : a ∉ ws) : Arl Z h' a ty vs := by obtain ⟨c, A, r⟩ := F; exact ⟨c, ⟨K.2.1 a c A.1 q, A.2⟩, r⟩
theorem Arl.set (F : Arl Z h a ty vs) (W : Wr h h' a sl v) : Arl Z h' a ty (vs.set sl v) := by
  obtain ⟨c, A, e1, r⟩ := F
  exact ⟨c.setSlot sl v, A.same W, by simp [Cell.setSlot, e1], by simpa using r⟩
theorem Arl.new {k : ClassId} {z : Int32} {n : Nat} (A : Arr Z h a (newA k ty z) ty) (hz : z.toInt = n) : Arl Z h a ty (List.replicate n (defaultValue ty)) := by
  have h1 : z.toNatClampNeg = n := by simp only [Int32.toNatClampNeg]; omega
  have h2 := Int32.toInt_lt z
  exact ⟨_, A, by simp [newA, h1], by simp; omega⟩
theorem nat_idx {j : Int32} {i : Nat} (hj : j.toInt = i) : j.toNatClampNeg = i ∧ ¬ j < 0 := by
  refine ⟨by simp only [Int32.toNatClampNeg]; omega, fun q => ?_⟩
  rw [Int32.lt_iff_toInt_lt] at q
  simp at q; omega
theorem Arl.at (F : Arl Z h a ty vs) {j : Int32} {i : Nat} (hj : j.toInt = i) (hv : vs[i]? = some v) : ∃ c : Cell, Arr Z h a c ty ∧ ¬ (j < 0 ∨ c.slots.size ≤ j.toNatClampNeg) ∧ c.slots[j.toNatClampNeg]? = some v := by
  obtain ⟨c, A, e1, r⟩ := F
  obtain ⟨q1, q2⟩ := nat_idx hj
  subst e1
  rw [Array.getElem?_toList] at hv
  obtain ⟨hlt, -⟩ := Array.getElem?_eq_some_iff.mp hv
  exact ⟨c, A, fun q => q.elim q2 (fun q => by omega), by rw [q1]; exact hv⟩
theorem Arl.in (F : Arl Z h a ty vs) {j : Int32} {i : Nat} (hj : j.toInt = i) (hi : i < vs.length) : ∃ c : Cell, Arr Z h a c ty ∧ ¬ (j < 0 ∨ c.slots.size ≤ j.toNatClampNeg) ∧ j.toNatClampNeg = i := by
  obtain ⟨c, A, e1, r⟩ := F
  obtain ⟨q1, q2⟩ := nat_idx hj
  subst e1
  rw [Array.length_toList] at hi
  exact ⟨c, A, fun q => q.elim q2 (fun q => by omega), q1⟩
section Cxs
variable (C : Cx p s m meth c Z own bytes maxL ret nm) (X : Stand p l e R s m args below meth c T locs cells slots) {pc n : Nat} {ls : Array Slot} {rest : List Value} (eT : T.heap = h) {j : Int32}
theorem Go.ialoadL (C : Cx p s m meth c Z own bytes maxL ret nm) (X : Stand p l e R s m args below meth c T locs cells slots) (eT : T.heap = h) (F : Arl Z h a .int vs) (i : Nat) (hj : j.toInt = i) (hv : vs[i]? = some v) (hd : decode bytes pc = .ok (.iaload, 1)) (hn : pc + 1 = n) (k : Go p e below K (T.setTop (mkF m n ls (v :: rest)))) : Go p e below K (T.setTop (mkF m pc ls (.int j :: .ref a :: rest))) := by
  obtain ⟨cl, A, q1, q2⟩ := F.at hj hv
  exact Go.iaload C X eT A q1 q2 hd hn k
theorem Go.caloadL (C : Cx p s m meth c Z own bytes maxL ret nm) (X : Stand p l e R s m args below meth c T locs cells slots) (eT : T.heap = h) (F : Arl Z h a .char vs) (i : Nat) (hj : j.toInt = i) (hv : vs[i]? = some v) (hd : decode bytes pc = .ok (.caload, 1)) (hn : pc + 1 = n) (k : Go p e below K (T.setTop (mkF m n ls (v :: rest)))) : Go p e below K (T.setTop (mkF m pc ls (.int j :: .ref a :: rest))) := by
  obtain ⟨cl, A, q1, q2⟩ := F.at hj hv
  exact Go.caload C X eT A q1 q2 hd hn k
theorem Go.aaloadL (C : Cx p s m meth c Z own bytes maxL ret nm) (X : Stand p l e R s m args below meth c T locs cells slots) (eT : T.heap = h) (hty : ty.isReference = true) (F : Arl Z h a ty vs) (i : Nat) (hj : j.toInt = i) (hv : vs[i]? = some v) (hd : decode bytes pc = .ok (.aaload, 1)) (hn : pc + 1 = n) (k : Go p e below K (T.setTop (mkF m n ls (v :: rest)))) : Go p e below K (T.setTop (mkF m pc ls (.int j :: .ref a :: rest))) := by
  obtain ⟨cl, A, q1, q2⟩ := F.at hj hv
  exact Go.aaload C X eT hty A q1 q2 hd hn k
theorem Go.lengthL (C : Cx p s m meth c Z own bytes maxL ret nm) (X : Stand p l e R s m args below meth c T locs cells slots) (eT : T.heap = h) (F : Arl Z h a ty vs) {z : Int32} (hz : z.toInt = vs.length) (hd : decode bytes pc = .ok (.arraylength, 1)) (hn : pc + 1 = n) (k : Go p e below K (T.setTop (mkF m n ls (.int z :: rest)))) : Go p e below K (T.setTop (mkF m pc ls (.ref a :: rest))) := by
  obtain ⟨cl, A, q1, q2⟩ := F
  refine Go.arraylength C X eT A ?_ hd hn k
  subst q1
  rw [Array.length_toList] at q2 hz
  exact Int32.toInt_inj.mp (by rw [len_toInt q2, hz])
theorem Go.iastoreL (C : Cx p s m meth c Z own bytes maxL ret nm) (X : Stand p l e R s m args below meth c T locs cells slots) (eT : T.heap = h) {x : Int32} (F : Arl Z h a .int vs) (i : Nat) (hj : j.toInt = i) (hi : i < vs.length) (hd : decode bytes pc = .ok (.iastore, 1)) (hn : pc + 1 = n)
    (k : ∀ T' h', Stand p l e R s m args below meth c T' (locs ++ [⟨a, i⟩]) cells slots → T'.heap = h' → Wr h h' a i (.int x) → Arl Z h' a .int (vs.set i (.int x)) → Go p e below K (T'.setTop (mkF m n ls rest))) : Go p e below K (T.setTop (mkF m pc ls (.int x :: .int j :: .ref a :: rest))) := by
  obtain ⟨cl, A, q1, q2⟩ := F.in hj hi
  refine Go.iastore C X eT A q1 hd hn fun T' h' X' e' W => ?_
  rw [q2] at X' W
  exact k T' h' X' e' W (F.set W)
theorem Go.castoreL (C : Cx p s m meth c Z own bytes maxL ret nm) (X : Stand p l e R s m args below meth c T locs cells slots) (eT : T.heap = h) {x : Int32} (F : Arl Z h a .char vs) (i : Nat) (hj : j.toInt = i) (hi : i < vs.length) (hd : decode bytes pc = .ok (.castore, 1)) (hn : pc + 1 = n)
    (k : ∀ T' h', Stand p l e R s m args below meth c T' (locs ++ [⟨a, i⟩]) cells slots → T'.heap = h' → Wr h h' a i (.int (nar .char x)) → Arl Z h' a .char (vs.set i (.int (nar .char x))) → Go p e below K (T'.setTop (mkF m n ls rest))) : Go p e below K (T.setTop (mkF m pc ls (.int x :: .int j :: .ref a :: rest))) := by
  obtain ⟨cl, A, q1, q2⟩ := F.in hj hi
  refine Go.castore C X eT A q1 hd hn fun T' h' X' e' W => ?_
  rw [q2] at X' W
  exact k T' h' X' e' W (F.set W)
theorem Go.bastoreL (C : Cx p s m meth c Z own bytes maxL ret nm) (X : Stand p l e R s m args below meth c T locs cells slots) (eT : T.heap = h) {x : Int32} (F : Arl Z h a .byte vs) (i : Nat) (hj : j.toInt = i) (hi : i < vs.length) (hd : decode bytes pc = .ok (.bastore, 1)) (hn : pc + 1 = n)
    (k : ∀ T' h', Stand p l e R s m args below meth c T' (locs ++ [⟨a, i⟩]) cells slots → T'.heap = h' → Wr h h' a i (.int (nar .byte x)) → Arl Z h' a .byte (vs.set i (.int (nar .byte x))) → Go p e below K (T'.setTop (mkF m n ls rest))) : Go p e below K (T.setTop (mkF m pc ls (.int x :: .int j :: .ref a :: rest))) := by
  obtain ⟨cl, A, q1, q2⟩ := F.in hj hi
  refine Go.bastoreB C X eT A q1 hd hn fun T' h' X' e' W => ?_
  rw [q2] at X' W
  exact k T' h' X' e' W (F.set W)
theorem Go.newL (C : Cx p s m meth c Z own bytes maxL ret nm) (X : Stand p l e R s m args below meth c T locs cells slots) (eT : T.heap = h) {aty : ArrayType} (w : (Cond.arrayClass (newarray.typeOf aty)).before a0 Z = true) {z : Int32} (i : Nat) (hz : z.toInt = i) (cap : Nat) (hcap : i ≤ cap) (hd : decode bytes pc = .ok (.newarray aty, 2)) (hn : pc + 2 = n) (hb8 : cap * 8 ≤ 536870912) (hc : cells + 1 ≤ R.cells) (hl : slots + cap ≤ R.slots)
    (k : ∀ T' h' a, a = h.size → Stand p l e R s m args below meth c T' locs (cells + 1) (slots + cap) → T'.heap = h' → Ext h h' → Arl Z h' a (newarray.typeOf aty) (List.replicate i (defaultValue (newarray.typeOf aty))) → Go p e below K (T'.setTop (mkF m n ls (.ref a :: rest)))) : Go p e below K (T.setTop (mkF m pc ls (.int z :: rest))) := by
  obtain ⟨q1, q2⟩ := nat_idx hz
  exact Go.newP C X eT w hd hn q2 cap (by rw [q1]; exact hcap) hb8 hc hl fun T' h' a' cA e1 X' e' E A => k T' h' a' e1 X' e' E (Arl.new A hz)
theorem Go.newLE (C : Cx p s m meth c Z own bytes maxL ret nm) (X : Stand p l e R s m args below meth c T locs cells slots) (eT : T.heap = h) {aty : ArrayType} (w : (Cond.arrayClass (newarray.typeOf aty)).before a0 Z = true) {z : Int32} (i : Nat) (hz : z.toInt = i) (cap : Nat) (hcap : i ≤ cap) (hd : decode bytes pc = .ok (.newarray aty, 2)) (hn : pc + 2 = n) (hb8 : cap * 8 ≤ 536870912) (hc : cells + 1 ≤ R.cells) (hl : slots + cap ≤ R.slots) {ad : String} (had : "[" ++ (newarray.typeOf aty).toString = ad)
    (k : ∀ T' h' a, a = h.size → Stand p l e R s m args below meth c T' locs (cells + 1) (slots + cap) → T'.heap = h' → Ext h h' → Arl Z h' a (newarray.typeOf aty) (List.replicate i (defaultValue (newarray.typeOf aty))) → Exa Z h' a ad → Go p e below K (T'.setTop (mkF m n ls (.ref a :: rest)))) : Go p e below K (T.setTop (mkF m pc ls (.int z :: rest))) := by
  obtain ⟨q1, q2⟩ := nat_idx hz
  exact Go.newPE C X eT w hd hn q2 cap (by rw [q1]; exact hcap) hb8 hc hl had fun T' h' a' cA e1 X' e' E A x' => k T' h' a' e1 X' e' E (Arl.new A hz) x'
theorem Go.cloneL (C : Cx p s m meth c Z own bytes maxL ret nm) (X : Stand p l e R s m args below meth c T locs cells slots) (eT : T.heap = h) {index : Nat} {ad : String} (w1 : (Cond.methodLink own index ⟨ad, "clone", "()Ljava/lang/Object;"⟩).before a0 Z = true) (w2 : (Cond.sameMethod ad "java/lang/Object" "clone" "()Ljava/lang/Object;").before a0 Z = true) (w3 : (Cond.native ⟨"java/lang/Object", "clone", "()Ljava/lang/Object;"⟩).before a0 Z = true) (w4 : (Cond.instanceMethod ⟨"java/lang/Object", "clone", "()Ljava/lang/Object;"⟩).before a0 Z = true) (w5 : (Cond.selects ad ⟨ad, "clone", "()Ljava/lang/Object;"⟩ ⟨"java/lang/Object", "clone", "()Ljava/lang/Object;"⟩).before a0 Z = true) (w6 : (Cond.castable ad "java/lang/Cloneable").before a0 Z = true)
    (F : Arl Z h a ty vs) (E : Exa Z h a ad) (hfit : ∀ v ∈ vs, fits ty v = true) (hd : decode bytes pc = .ok (.invokevirtual index, 3)) (hn : pc + 3 = n) (hsz : ls.size = maxL) (hf : 1 ≤ R.frames) {W : Nat} (hW : (rest.map fun v => v.category).sum = W) (hl : W + 14 ≤ R.locals) (cap : Nat) (hcap : vs.length ≤ cap) (hc : cells + 1 ≤ R.cells) (hsl : slots + cap ≤ R.slots)
    (k : ∀ T' h' b, b = h.size → Stand p l e R s m args below meth c T' locs (cells + 1) (slots + cap) → T'.heap = h' → Ext h h' → Arl Z h' b ty vs → Exa Z h' b ad → Go p e below K (T'.setTop (mkF m n ls (.ref b :: rest)))) : Go p e below K (T.setTop (mkF m pc ls (.ref a :: rest))) := by
  obtain ⟨cl, A, q1, q2⟩ := F
  have FC : FitC Z cl := fitC_of A fun i hi v hv => hfit v (by rw [← q1]; exact Array.mem_toList_iff.mpr (Array.mem_of_getElem? hv))
  exact Go.cloneA C X eT w1 w2 w3 w4 w5 w6 A E FC hd hn hsz hf hW hl cap (by rw [← Array.length_toList, q1]; exact hcap) hc hsl fun T' h' b e1 X' e' E' A' x' => k T' h' b e1 X' e' E' ⟨_, A', q1, q2⟩ x'
end Cxs
/-! from the words of a case -/
theorem fldI {args : Array Value} {t : Term} {C f d : String} {k : Int32} (ev : t.eval args s none [] s = some (.ref a)) (q : (Cond.eq (.field t C f d) (.int k)).value args s none s [] = some true) : Fld s s.heap a C f d (.int k) := by
  obtain ⟨x, y, e1, e2, k1, k2⟩ := cmp_v (Or.inl q)
  cases e2
  obtain ⟨z, rfl⟩ := k2
  have e3 : (Term.int k).eval args s none [] s = some (.int k) := rfl
  have q2 : (Cond.eq (.field t C f d) (.int k)).value args s none s [] = some (decide (z = k)) := by simp [Cond.value, e1, e3]
  have q3 := gotT q2 q
  subst q3
  rw [fld_at ev] at e1
  exact Fld.start e1
theorem staE {args : Array Value} {C n d K : String} (q : (Cond.exactly (.static C n d) K).value args s none s [] = some true) (w1 : (Cond.initialized C).before args s = true) (w2 : (Cond.laysStatic C n d).before args s = true) : ∃ a, (Term.static C n d).eval args s none [] s = some (.ref a) ∧ Sta s s.heap C n d (.ref a) ∧ Exa s s.heap a K := by
  obtain ⟨a, ev⟩ := exa_v q
  exact ⟨a, ev, Sta.start ev (Or.inr ⟨w1, w2⟩), Exa.start ev q⟩
end OwnB
end Jvm.RoadKit
namespace Jvm.RoadKit
open Sem ClassFile Op Lib Jvm.Stand Jvm.Free Jvm.LawKit
section OwnW
variable {p : Program} {l : Launch} {e : Env} {R : Room} {s s0 : State} {m : MethodId} {args : Array Value} {below : List Frame} {meth : Method} {c : Code} {T : State} {locs : List Loc} {cells slots : Nat} {Z : State} {a0 : Array Value} {h h' : Heap} {Ts : List String} {J : Vm → Prop}
variable {own nm : String} {bytes : ByteArray} {maxL : Nat} {ret : Option FieldType} {K : Outcome → State → Prop}
/-- the walk's base s lies over the true start s0: the tables have moved, what was booked lies below h's end -/
def WB (s0 s : State) (h : Heap) : Prop := ∃ (vm0 : Vm) (k : Nat), s = s0.setVm vm0 ∧ s0.Since vm0 k ∧ k ≤ h.size
theorem WB.start (s0 : State) (h : Heap) : WB s0 s0 h := ⟨s0.vm, 0, rfl, (State.WarmedH.refl s0).since 0, Nat.zero_le _⟩
theorem WB.le (B : WB s0 s h) (q : h.size ≤ h'.size) : WB s0 s h' := by obtain ⟨vm0, k, h1, h2, h3⟩ := B; exact ⟨vm0, k, h1, h2, Nat.le_trans h3 q⟩
theorem WB.ext (B : WB s0 s h) (E : Ext h h') : WB s0 s h' := B.le E.1
theorem WB.wr {a : Addr} {sl : Nat} {v : Value} (B : WB s0 s h) (W : Wr h h' a sl v) : WB s0 s h' := B.le (Nat.le_of_eq W.size.symm)
theorem WB.keep {ws : List Addr} (B : WB s0 s h) (W : Keep h h' ws) : WB s0 s h' := B.le W.1
theorem IB.same {vm vm' : Vm} (I : IB Z vm Ts) (q : vm'.interned = vm.interned) : IB Z vm' Ts := by obtain ⟨more, h1, h2⟩ := I; exact ⟨more, q.trans h1, h2⟩
/-- J looks at the intern table alone -/
def JI (J : Vm → Prop) : Prop := ∀ vm vm' : Vm, vm'.interned = vm.interned → J vm → J vm'
theorem JI.ib : JI (fun vm => IB Z vm Ts) := fun _ _ q I => I.same q
theorem JI.tt : JI (fun _ => True) := fun _ _ _ _ => trivial
def EndW (s0 : State) (J : Vm → Prop) (Q : Option Value → Heap → List Loc → Prop) (k n : Nat) (o : Outcome) (t : State) : Prop := ∃ v L, o = .returned v ∧ Q v t.heap L ∧ J t.vm ∧ ReturnedEndW s0 o t L k n
def CtrW (l : Launch) (Z : State) (y : MethodName) (bytes : ByteArray) (maxL : Nat) (ret : Option FieldType) (rm : Room) (as' : Array Value) (h : Heap) (P J : Vm → Prop) (Q : Option Value → Heap → List Loc → Prop) : Prop :=
  ∀ ws, MetFree l y (head1 (Cond.code y bytes maxL ret :: ws) rm) (fun a U => a = as' ∧ Z.Warmed39 U.vm ∧ U.heap = h ∧ P U.vm) (fun _ _ _ _ _ => True) (fun _ U o U' => EndW U J Q rm.cells rm.slots o U')
theorem CtrW.mk {y : MethodName} {rm : Room} {as' : Array Value} {P : Vm → Prop} {Q : Option Value → Heap → List Loc → Prop} (hp : plainFor y = true) {ls : Array Slot} (hE : ∀ m : MethodId, entryFrame m as' maxL = mkF m 0 ls [])
    (body : ∀ (p : Program) (e : Env) (s0 s : State) (m : MethodId) (below : List Frame) (meth : Method) (c : Code) (T : State), Cx p s m meth c Z y.cls bytes maxL ret y.name → Stand p l e rm s m as' below meth c T [] 0 0 → T.heap = h → s0.heap = h → WB s0 s h → P s.vm → Go p e below (EndW s0 J Q rm.cells rm.slots) (T.setTop (mkF m 0 ls []))) :
    CtrW l Z y bytes maxL ret rm as' h P J Q := by
  intro ws
  refine MetFree.of_bodySF hp hisR ?_
  intro p e s m args below meth c s₁ Bd hml0 hP hK
  obtain ⟨rfl, hZ, hh, hPv⟩ := hP
  have q := body p e s s m below meth c s₁ ⟨Bd.exec, hZ, Bd.bytes, hml0, findClass_of_methodNamed Bd.named, Bd.returns, (name_of_methodNamed Bd.named Bd.method).1, BodyLoose.notSynchronized Bd⟩ (Stand.of_body Bd) (by rw [← hh, Bd.state]; rfl) hh (WB.start s h) hPv
  rw [← hE m] at q
  exact q
theorem Go.finW (C : Cx p s m meth c Z own bytes maxL ret nm) (X : Stand p l e R s m args below meth c T locs cells slots) (eT : T.heap = h) (B : WB s0 s h) (hJ : JI J) (I : J s.vm) {v : Option Value} (hv : ret = none → v = none) {Q : Option Value → Heap → List Loc → Prop} {k n : Nat} (hQ : Q v h locs) (hc : cells ≤ k) (hn : slots ≤ n) {g : JFrame}
    (st : ∀ fs, (∀ (f : JFrame) (acts : List Action), f.method = m → f.locked = none → f.entered = [] → (doReturn e (T.setTop f) acts v).1 = T.setFrames fs) → Steps p.tables e below (T.setTop g) (T.setFrames fs)) : Go p e below (EndW s0 J Q k n) (T.setTop g) := by
  obtain ⟨vm0, k0, rfl, hS, hk⟩ := B
  subst eT
  obtain ⟨fs, hr, hrun, hended, h1, h2, h3, h4⟩ := X.leaveW hS hk (v := v) (fun h => hv (C.hret ▸ h)) C.hlk
  exact ⟨_, _, st fs hr, hrun, hended, _, _, rfl, hQ, hJ _ _ X.warmed.interned_eq I, h1, h2, h3, h4.mono hc hn⟩
theorem Go.ret0W (C : Cx p s m meth c Z own bytes maxL none nm) (X : Stand p l e R s m args below meth c T locs cells slots) (eT : T.heap = h) (B : WB s0 s h) (hJ : JI J) (I : J s.vm) {pc : Nat} {ls : Array Slot} {Q : Option Value → Heap → List Loc → Prop} {k n : Nat} (hd : decode bytes pc = .ok (.return_, 1)) (hc : cells ≤ k) (hn : slots ≤ n) (hQ : Q none h locs) : Go p e below (EndW s0 J Q k n) (T.setTop (mkF m pc ls [])) :=
  Go.finW C X eT B hJ I (v := none) (fun _ => rfl) hQ hc hn fun fs hr => X.returnOut C.hx C.hret (hb C.hby hd) hr
theorem Go.retIW (C : Cx p s m meth c Z own bytes maxL (some .int) nm) (X : Stand p l e R s m args below meth c T locs cells slots) (eT : T.heap = h) (B : WB s0 s h) (hJ : JI J) (I : J s.vm) {pc : Nat} {ls : Array Slot} {z : Int32} {rest : List Value} {Q : Option Value → Heap → List Loc → Prop} {k n : Nat} (hd : decode bytes pc = .ok (.ireturn, 1)) (hc : cells ≤ k) (hn : slots ≤ n) (hQ : Q (some (.int z)) h locs) : Go p e below (EndW s0 J Q k n) (T.setTop (mkF m pc ls (.int z :: rest))) :=
  Go.finW C X eT B hJ I (v := some (.int z)) (fun h => nomatch h) hQ hc hn fun fs hr => retOut X C.hx C.hret rfl (Or.inl ⟨rfl, Or.inl rfl, z, rfl⟩) (hb C.hby hd) hr
theorem Go.retJW (C : Cx p s m meth c Z own bytes maxL (some .long) nm) (X : Stand p l e R s m args below meth c T locs cells slots) (eT : T.heap = h) (B : WB s0 s h) (hJ : JI J) (I : J s.vm) {pc : Nat} {ls : Array Slot} {z : Int64} {rest : List Value} {Q : Option Value → Heap → List Loc → Prop} {k n : Nat} (hd : decode bytes pc = .ok (.lreturn, 1)) (hc : cells ≤ k) (hn : slots ≤ n) (hQ : Q (some (.long z)) h locs) : Go p e below (EndW s0 J Q k n) (T.setTop (mkF m pc ls (.long z :: rest))) :=
  Go.finW C X eT B hJ I (v := some (.long z)) (fun h => nomatch h) hQ hc hn fun fs hr => retOut X C.hx C.hret rfl (Or.inr (Or.inl ⟨rfl, rfl, z, rfl⟩)) (hb C.hby hd) hr
theorem Go.retAW {t : FieldType} (C : Cx p s m meth c Z own bytes maxL (some t) nm) (X : Stand p l e R s m args below meth c T locs cells slots) (eT : T.heap = h) (B : WB s0 s h) (hJ : JI J) (I : J s.vm) {pc : Nat} {ls : Array Slot} {w : Value} {rest : List Value} {Q : Option Value → Heap → List Loc → Prop} {k n : Nat} (ht : t.isReference = true) (hn0 : narrow t w = w) (hw : w.isRef = true) (hd : decode bytes pc = .ok (.areturn, 1)) (hc : cells ≤ k) (hn : slots ≤ n) (hQ : Q (some w) h locs) : Go p e below (EndW s0 J Q k n) (T.setTop (mkF m pc ls (w :: rest))) :=
  Go.finW C X eT B hJ I (v := some w) (fun h => nomatch h) hQ hc hn fun fs hr => retOut X C.hx C.hret hn0 (Or.inr (Or.inr (Or.inr (Or.inr ⟨rfl, ht, hw⟩)))) (hb C.hby hd) hr
theorem Go.retNW {t : FieldType} (C : Cx p s m meth c Z own bytes maxL (some t) nm) (X : Stand p l e R s m args below meth c T locs cells slots) (eT : T.heap = h) (B : WB s0 s h) (hJ : JI J) (I : J s.vm) {pc : Nat} {ls : Array Slot} {z w : Int32} {rest : List Value} {Q : Option Value → Heap → List Loc → Prop} {k n : Nat} (ht : t = .boolean ∨ t = .byte ∨ t = .char ∨ t = .short) (hw : nar t z = w) (hd : decode bytes pc = .ok (.ireturn, 1)) (hc : cells ≤ k) (hn : slots ≤ n) (hQ : Q (some (.int w)) h locs) : Go p e below (EndW s0 J Q k n) (T.setTop (mkF m pc ls (.int z :: rest))) := by
  subst hw
  exact Go.finW C X eT B hJ I (v := some (.int (nar t z))) (fun h => nomatch h) hQ hc hn fun fs hr => Jvm.RoadKit.retN X C.hx C.hret ht (hb C.hby hd) hr

theorem Cx.to {vm1 : Vm} (C : Cx p s m meth c Z own bytes maxL ret nm) (q : s.Warmed39 vm1) : Cx p (s.setVm vm1) m meth c Z own bytes maxL ret nm :=
  ⟨C.1, State.Warmed39.trans C.2.1 q, C.2.2.1, C.2.2.2.1, (q.alike.findClass _ _).trans C.2.2.2.2.1, C.2.2.2.2.2⟩
theorem Arl.of_arv {a : Addr} {k : ClassId} {ty : FieldType} {z : Int32} {vs : List Value} {d : Value} (A : Arv Z h a k ty z vs d) (hl : z.toNatClampNeg = vs.length) : Arl Z h a ty vs := by
  obtain ⟨c, A, -, q1, q2, H, -⟩ := A
  have hlt : vs.length < 2 ^ 31 := by rw [← hl]; exact (back32 q2).2
  refine ⟨c, A, ?_, hlt⟩
  have hsz : c.slots.size = vs.length := q1.trans hl
  apply List.ext_getElem?
  intro j
  rw [Array.getElem?_toList]
  rcases Nat.lt_or_ge j vs.length with q | q
  · rw [H j (by omega)]; simp [List.getD_eq_getElem?_getD, List.getElem?_eq_getElem q]
  · rw [Array.getElem?_eq_none (by omega), List.getElem?_eq_none q]
theorem Go.baloadL {a : Addr} {vs : List Value} {v : Value} {j : Int32} {pc n : Nat} {ls : Array Slot} {rest : List Value} (C : Cx p s m meth c Z own bytes maxL ret nm) (X : Stand p l e R s m args below meth c T locs cells slots) (eT : T.heap = h) (F : Arl Z h a .byte vs) (i : Nat) (hj : j.toInt = i) (hv : vs[i]? = some v) (hd : decode bytes pc = .ok (.baload, 1)) (hn : pc + 1 = n) (k : Go p e below K (T.setTop (mkF m n ls (v :: rest)))) : Go p e below K (T.setTop (mkF m pc ls (.int j :: .ref a :: rest))) := by
  obtain ⟨cl, A, q1, q2⟩ := F.at hj hv
  exact Go.baloadB C X eT A q1 q2 hd hn k
theorem ldcO {own text : String} {index : Nat} (C : Cx p s m meth c Z own bytes maxL ret nm) (X : Stand p l e R s m args below meth c T locs cells slots) {pc n : Nat} {ls : Array Slot} {rest : List Value} (eT : T.heap = h) (B : WB s0 s h) (w : (Cond.stringLink own index text).before a0 Z = true) (wS : ∀ a ∈ Bundle.stringAtoms, a.before a0 Z = true) {cap : Nat} (hcap : 4 * text.toList.length ≤ cap) (hbig : cap ≤ 536870912) (hd : decode bytes pc = .ok (.ldc index, 2)) (hn : pc + 2 = n) (hc : cells + 2 ≤ R.cells) (hl : slots + (cap + 4) ≤ R.slots)
    (k : ∀ s' T' h' a, Cx p s' m meth c Z own bytes maxL ret nm → Stand p l e R s' m args below meth c T' locs (cells + 2) (slots + (cap + 4)) → T'.heap = h' → Ext h h' → WB s0 s' h' → Go p e below K (T'.setTop (mkF m n ls (.ref a :: rest)))) : Go p e below K (T.setTop (mkF m pc ls rest)) := by
  subst hn
  obtain ⟨vm0, k0, rfl, hS, hk⟩ := B
  obtain ⟨a, T', h', k1, X', e', E, hS', hk', hZ', hown', st⟩ := ldcS X C.hx C.hZ C.hown w wS eT hS hk (g := mkF m pc ls rest) rfl (hb C.hby hd) hcap hbig hc hl
  exact Go.of st (k _ T' h' a ⟨C.1, hZ', C.2.2.1, C.2.2.2.1, hown', C.2.2.2.2.2⟩ X' e' E ⟨_, k1, rfl, hS', hk'⟩)
/-- ldc of a constant that the sheet's word 'constsHeld' speaks of, for the first time -/
theorem ldcV {text : String} {index : Nat} (C : Cx p s m meth c Z own bytes maxL ret nm) (X : Stand p l e R s m args below meth c T locs cells slots) {pc n : Nat} {ls : Array Slot} {rest : List Value} (eT : T.heap = h) (B : WB s0 s h) (I : IB Z s.vm Ts) (hnot : text ∉ Ts) (N : Fr s0.heap.size locs) (hkeep : ∀ (b : Addr) (cl : Cell), Z.heap[b]? = some cl → s0.heap[b]? = some cl) (hh : Jvm.Lit.constHeld Z own index) (hcw : Jvm.Lit.compactW.before a0 Z = true)
    (w : (Cond.stringLink own index text).before a0 Z = true) (wS : ∀ a ∈ Bundle.stringAtoms, a.before a0 Z = true) {vs : List Value} (ht : (∀ c ∈ text.toList, c.toNat < 256) ∧ text.toList.map (fun c => Value.int (Jvm.Lit.byteI c.toNat.toUInt16)) = vs) {z : Int32} (hz : ¬ z < 0) (hzl : z.toNatClampNeg = vs.length) {cap : Nat} (hcap : 4 * text.toList.length ≤ cap) (hbig : cap ≤ 536870912) (hd : decode bytes pc = .ok (.ldc index, 2)) (hn : pc + 2 = n) (hc : cells + 2 ≤ R.cells) (hl : slots + (cap + 4) ≤ R.slots)
    (k : ∀ s' T' h' a b, Cx p s' m meth c Z own bytes maxL ret nm → Stand p l e R s' m args below meth c T' locs (cells + 2) (slots + (cap + 4)) → T'.heap = h' → Ext h h' → WB s0 s' h' → IB Z s'.vm (text :: Ts) → Lit s' own index a → Exa Z h' a "java/lang/String" → Fld Z h' a "java/lang/String" "coder" "B" (.int 0) → Fld Z h' a "java/lang/String" "value" "[B" (.ref b) → Arl Z h' b .byte vs → ((a < s0.heap.size ∧ b < s0.heap.size) ∨ (h.size ≤ a ∧ h.size ≤ b)) → Go p e below K (T'.setTop (mkF m n ls (.ref a :: rest)))) : Go p e below K (T.setTop (mkF m pc ls rest)) := by
  subst hn
  obtain ⟨vm0, k0, rfl, hS, hk⟩ := B
  obtain ⟨a, T', h', k1, b, kc, X', e', E, hS', hk', hZ', hown', f1, f2, f3, f4, -, -, I', Lt, wh, st⟩ := ldcSVd X C.hx C.hZ C.hown w wS eT hS hk N hkeep I hnot hh hcw ht hz hzl (g := mkF m pc ls rest) rfl (hb C.hby hd) hcap hbig hc hl
  exact Go.of st (k _ T' h' a b ⟨C.1, hZ', C.2.2.1, C.2.2.2.1, hown', C.2.2.2.2.2⟩ X' e' E ⟨_, k1, rfl, hS', hk'⟩ I' Lt f1 f2 f3 (Arl.of_arv f4 hzl) wh)
/-- .. and once more -/
theorem ldcA {text : String} {index : Nat} (C : Cx p s m meth c Z own bytes maxL ret nm) (X : Stand p l e R s m args below meth c T locs cells slots) {pc n : Nat} {ls : Array Slot} {rest : List Value} {a : Addr} (B : WB s0 s h) (Lt : Lit s own index a) (w : (Cond.stringLink own index text).before a0 Z = true) (hd : decode bytes pc = .ok (.ldc index, 2)) (hn : pc + 2 = n)
    (k : Go p e below K (T.setTop (mkF m n ls (.ref a :: rest)))) : Go p e below K (T.setTop (mkF m pc ls rest)) := by
  subst hn
  obtain ⟨vm0, k0, rfl, hS, hk⟩ := B
  exact Go.of (ldcAgain X C.hx C.hZ C.hown w Lt (g := mkF m pc ls rest) rfl (hb C.hby hd)) k
theorem backOfW {y : MethodName} {rm : Room} {len W : Nat} {as' : Array Value} {P : Vm → Prop} {Q : Option Value → Heap → List Loc → Prop}
    (hM : MetFree l y (head1 [Cond.code y bytes maxL ret] rm) (fun a U => a = as' ∧ Z.Warmed39 U.vm ∧ U.heap = h ∧ P U.vm) (fun _ _ _ _ _ => True) (fun _ U o U' => EndW U J Q rm.cells rm.slots o U')) (hP : JI P) (hPs : P s.vm)
    (hZ : Z.Warmed39 s.vm) (wc : (Cond.code y bytes maxL ret).before a0 Z = true) (wz : (Cond.initialized y.cls).before a0 Z = true) (hf : rm.frames + 1 ≤ R.frames) (hl : W + (maxL + 11) + rm.locals ≤ R.locals) :
    BackS l R p e below s args y len W (fun A a => a = as' ∧ A.U.heap = h ∧ A.cells + rm.cells ≤ R.cells ∧ A.slots + rm.slots ≤ R.slots)
      (fun A _ v B => ∃ L, Q v B.U.heap L ∧ J B.U.vm ∧ B.locs = A.locs ++ L ∧ B.cells = A.cells + rm.cells ∧ B.slots = A.slots + rm.slots) :=
  BackS.of_freeW (bytes := bytes) (maxL := maxL) (ret := ret) (E := fun _ _ o t L k n => k = rm.cells ∧ n = rm.slots ∧ J t.vm ∧ ∃ v, o = .returned v ∧ Q v t.heap L) hM hf hl
    (fun m meth c A a Y hp => have hU : Z.Warmed39 A.U.vm := wtrans hZ Y.warmed
      ⟨by show (Cond.and _ .tt).before a A.U = true; rw [Cond.before_and, mv hU wc]; rfl, mv hU wc, mv hU wz, hp.2.2.1, hp.2.2.2⟩)
    (fun m meth c A a g mk Y hp => ⟨hp.1, wtrans hZ Y.warmed, hp.2.1, hP _ _ Y.warmed.interned_eq hPs⟩) (fun _ _ _ _ _ _ _ _ _ => trivial)
    (fun _ _ _ _ ⟨v, L, h1, h2, h3, h4⟩ => ⟨L, _, _, h4, rfl, rfl, h3, v, h1, h2⟩)
    (fun m meth c A a g mk v t L k n Y hp _ _ ⟨e1, e2, e5, v', e3, e4⟩ => by cases e3; subst e1 e2; exact ⟨L, e4, e5, rfl, rfl, rfl⟩)
theorem Go.specW (C : Cx p s m meth c Z own bytes maxL ret nm) (X : Stand p l e R s m args below meth c T locs cells slots) {pc n : Nat} {ls : Array Slot} {rest : List Value} (eT : T.heap = h) (B : WB s0 s h) {index yL W : Nat} {ybytes : ByteArray} {rm : Room} {Q : Option Value → Heap → List Loc → Prop} {argsL : List Value} {st : List Value} {P : Vm → Prop} {y : MethodName} {a : Addr} (hC : CtrW l Z y ybytes yL none rm (.ref a :: argsL).toArray h P J Q) (hP : JI P) (hPs : P s.vm) (hy1 : y.name = "<init>") (wl : (Cond.methodLink own index y).before a0 Z = true) (wm : (Cond.instanceMethod y).before a0 Z = true) (wi : (Cond.initialized y.cls).before a0 Z = true) (wc : (Cond.code y ybytes yL none).before a0 Z = true) (hy : y.cls ≠ "java/lang/invoke/MethodHandle" ∧ y.cls ≠ "java/lang/invoke/VarHandle")
    (hlen : ∀ sig, parseMethodDescriptor y.desc = some sig → argsL.length = sig.parameters.length) (hst : st = argsL.reverse ++ .ref a :: rest) (hd : decode bytes pc = .ok (.invokespecial index, 3)) (hn : pc + 3 = n) (hsz : ls.size = maxL) (hf : rm.frames + 1 ≤ R.frames) (hW : (rest.map fun v => v.category).sum = W) (hl : W + (yL + 11) + rm.locals ≤ R.locals) (hcl : cells + rm.cells ≤ R.cells) (hsl : slots + rm.slots ≤ R.slots) 
    (k : ∀ s' T' h' v L, Cx p s' m meth c Z own bytes maxL ret nm → Stand p l e R s' m args below meth c T' (locs ++ L) (cells + rm.cells) (slots + rm.slots) → T'.heap = h' → WB s0 s' h' → s.Warmed39 s'.vm → J s'.vm → Q v h' L → Go p e below K (T'.setTop (mkF m n ls (v.toList ++ rest)))) : Go p e below K (T.setTop (mkF m pc ls st)) := by
  subst hn hst
  obtain ⟨vm0, k0, rfl, hS, hk⟩ := B
  obtain ⟨v, _, ⟨T', L', k', n'⟩, -, X', hS', hg', ⟨L1, hQ, hJ1, l1, y1, z1⟩, stp⟩ := X.specialBackS C.hx (y := y) hy1 C.hown (mvT C.hZ wl) (mvT C.hZ wm) (mvT C.hZ wc) hy (backOfW (W := W) (hC []) hP hPs C.hZ wc wi hf hl) (g := mkF m pc ls (argsL.reverse ++ .ref a :: rest)) rfl (hsz.trans C.hml.symm) (Steps.refl _) (a := a) (argsL := argsL) (rest := rest) hlen rfl (by show 2 * 0 + _ ≤ _; omega) (hb C.hby hd) (fun _ _ => ⟨rfl, eT, hcl, hsl⟩)
  dsimp only [Pt.U, Pt.locs, Pt.cells, Pt.slots] at X' hS' hg' l1 y1 z1 stp hQ hJ1
  subst l1 y1 z1
  exact Go.of (fun t q => stp.trans q) (k _ T' T'.heap v L1 (C.to hS'.1) X' rfl ⟨_, _, rfl, hS.trans hS' (Nat.le_trans hk (by rw [← eT]; exact hg')), Nat.le_refl _⟩ hS'.1 hJ1 hQ)

theorem Go.virtW (C : Cx p s m meth c Z own bytes maxL ret nm) (X : Stand p l e R s m args below meth c T locs cells slots) {pc n : Nat} {ls : Array Slot} {rest : List Value} (eT : T.heap = h) (B : WB s0 s h) {index yL W : Nat} {ybytes : ByteArray} {yret : Option FieldType} {rm : Room} {Q : Option Value → Heap → List Loc → Prop} {argsL : List Value} {st : List Value} {P : Vm → Prop} {y z : MethodName} {a : Addr} {C0 : String} (hC : CtrW l Z z ybytes yL yret rm (.ref a :: argsL).toArray h P J Q) (hP : JI P) (hPs : P s.vm) (wl : (Cond.methodLink own index y).before a0 Z = true) (wd : (Cond.declares y).before a0 Z = true) (nf : NotFace s y) (wsel : (Cond.selects C0 y z).before a0 Z = true) (wm : (Cond.instanceMethod z).before a0 Z = true) (wi : (Cond.initialized z.cls).before a0 Z = true) (wc : (Cond.code z ybytes yL yret).before a0 Z = true) (hy : y.cls ≠ "java/lang/invoke/MethodHandle" ∧ y.cls ≠ "java/lang/invoke/VarHandle") (E : Exa Z h a C0)
    (hlen : ∀ sig, parseMethodDescriptor y.desc = some sig → argsL.length = sig.parameters.length) (hst : st = argsL.reverse ++ .ref a :: rest) (hd : decode bytes pc = .ok (.invokevirtual index, 3)) (hn : pc + 3 = n) (hsz : ls.size = maxL) (hf : rm.frames + 1 ≤ R.frames) (hW : (rest.map fun v => v.category).sum = W) (hl : W + (yL + 11) + rm.locals ≤ R.locals) (hcl : cells + rm.cells ≤ R.cells) (hsl : slots + rm.slots ≤ R.slots) 
    (k : ∀ s' T' h' v L, Cx p s' m meth c Z own bytes maxL ret nm → Stand p l e R s' m args below meth c T' (locs ++ L) (cells + rm.cells) (slots + rm.slots) → T'.heap = h' → WB s0 s' h' → s.Warmed39 s'.vm → J s'.vm → Q v h' L → Go p e below K (T'.setTop (mkF m n ls (v.toList ++ rest)))) : Go p e below K (T.setTop (mkF m pc ls st)) := by
  subst hn hst
  obtain ⟨vm0, k0, rfl, hS, hk⟩ := B
  obtain ⟨cq, kq, q1, q2, q3⟩ := isOf C.hZ eT E
  obtain ⟨v, _, ⟨T', L', k', n'⟩, -, X', hS', hg', ⟨L1, hQ, hJ1, l1, y1, z1⟩, stp⟩ := X.virtualBackS C.hx (y := y) (z := z) C.hown (mvT C.hZ wl) (mvT C.hZ wd) nf (mvT C.hZ wsel) (mvT C.hZ wm) hy (backOfW (W := W) (hC []) hP hPs C.hZ wc wi hf hl) q1 q3 (g := mkF m pc ls (argsL.reverse ++ .ref a :: rest)) rfl (hsz.trans C.hml.symm) (Steps.refl _) (argsL := argsL) (rest := rest) hlen rfl (by show 2 * 0 + _ ≤ _; omega) (hb C.hby hd) (fun _ _ => ⟨rfl, eT, hcl, hsl⟩)
  dsimp only [Pt.U, Pt.locs, Pt.cells, Pt.slots] at X' hS' hg' l1 y1 z1 stp hQ hJ1
  subst l1 y1 z1
  exact Go.of (fun t q => stp.trans q) (k _ T' T'.heap v L1 (C.to hS'.1) X' rfl ⟨_, _, rfl, hS.trans hS' (Nat.le_trans hk (by rw [← eT]; exact hg')), Nat.le_refl _⟩ hS'.1 hJ1 hQ)

theorem Sta.old {n0 : Nat} {C n d : String} {v : Value} (F : Sta Z Z.heap C n d v) (O : Old Z n0 h) : Sta Z h C n d v := by
  obtain ⟨cf, i, k, f, st, cell, h1, h2, h3, h4, h5, h6⟩ := F
  exact ⟨cf, i, k, f, st, cell, h1, h2, h3, h4, O.2.2 _ _ h5, h6⟩
end OwnW
end Jvm.RoadKit
@@BLOCK:NumsL.lean.txt@@
namespace Jvm.Pilot.@@N@@
open Jvm Jvm.ClassFile Sem Op Lib Jvm.Free Jvm.Stand Jvm.LawKit Jvm.RoadKit Bundle Jvm.Pilot.@@N@@.Jvm.D
/-! plain: chars and bytes -/
theorem own_b8 (x : Int8) : nar .byte x.toInt32 = x.toInt32 := by simp [nar]
theorem own_bv (x : Int32) : (x.toUInt32.toUInt16.toUInt32.toInt32).toInt = (x.toBitVec.toNat % 65536 : Nat) := by
  show ((x.toBitVec.setWidth 16).setWidth 32).toInt = _
  rw [BitVec.toInt_eq_toNat_cond, BitVec.toNat_setWidth, BitVec.toNat_setWidth]
  have := Nat.mod_lt x.toBitVec.toNat (show 0 < 2 ^ 16 by decide)
  split <;> omega
theorem own_nn {x : Int32} (h : 0 ≤ x.toInt) : (x.toBitVec.toNat : Int) = x.toInt := by
  have hx : x.toInt = x.toBitVec.toInt := rfl
  rw [BitVec.toInt_eq_toNat_cond] at hx
  have := x.toBitVec.isLt
  split at hx <;> omega
theorem own_ch (x : Int32) : 0 ≤ (nar .char x).toInt ∧ (nar .char x).toInt < 65536 := by
  show 0 ≤ (x.toUInt32.toUInt16.toUInt32.toInt32).toInt ∧ (x.toUInt32.toUInt16.toUInt32.toInt32).toInt < 65536
  rw [own_bv]; omega
theorem own_c16 {x : Int32} (h0 : 0 ≤ x.toInt) (h1 : x.toInt < 65536) : x.toUInt32.toUInt16.toUInt32.toInt32 = x := by
  apply Int32.toInt_inj.mp
  rw [own_bv]
  have := own_nn h0
  omega
theorem own_m8 (p : Int32) : 0 ≤ (p &&& (255 : Int32)).toInt ∧ (p &&& (255 : Int32)).toInt < 256 := by
  rw [Jvm.Kit.i32_mask p (255 : Int32) (k := 8) (by decide) (by decide)]; omega
theorem own_lat (p : Int32) : ¬ (255 : Int32) < nar .char ((p &&& (255 : Int32)).toUInt32.toUInt16.toUInt32.toInt32) := by
  have h := own_m8 p
  show ¬ (255 : Int32) < (((p &&& (255 : Int32)).toUInt32.toUInt16.toUInt32.toInt32).toUInt32.toUInt16.toUInt32.toInt32)
  rw [own_c16 (x := p &&& (255 : Int32)) h.1 (by omega), own_c16 (x := p &&& (255 : Int32)) h.1 (by omega), Int32.lt_iff_toInt_lt]
  have h2 : (255 : Int32).toInt = 255 := by decide
  omega
theorem own_foldr {L : List Jvm.Cond} {e : Jvm.Cond} {args : Array Value} {s : State} (h : (L.foldr Jvm.Cond.and e).before args s = true) : ∀ d ∈ L, d.before args s = true := by
  induction L with
  | nil => intro d hd; cases hd
  | cons a L ih =>
    rw [List.foldr_cons, Cond.before_and, Bool.and_eq_true] at h
    intro d hd
    rcases List.mem_cons.mp hd with rfl | q
    · exact h.1
    · exact ih h.2 d q
theorem own_staI {args : Array Value} {s : State} {t : Jvm.Term} {k : Int32} (q : (Jvm.Cond.eq t (.int k)).before args s = true) : t.eval args s none [] s = some (.int k) := by
  have q := Cond.before_iff.mp q
  obtain ⟨x, y, e1, e2, k1, k2⟩ := cmp_v (Or.inl q)
  cases e2
  obtain ⟨z, rfl⟩ := k2
  have e3 : (Term.int k).eval args s none [] s = some (.int k) := rfl
  have q2 : (Cond.eq t (.int k)).value args s none s [] = some (decide (z = k)) := by simp [Cond.value, e1, e3]
  have q3 := gotT q2 q
  subst q3
  exact e1
theorem own_notz {args : Array Value} {s : State} {t : Jvm.Term} {z : Int32} (ev : t.eval args s none [] s = some (.int z)) (q : (Jvm.Cond.not (.eq t (.int 0))).before args s = true) : z ≠ 0 := by
  intro h
  subst h
  have e3 : (Term.int 0).eval args s none [] s = some (.int 0) := rfl
  simp [Cond.before, Cond.holds, Cond.value, ev, e3] at q
theorem own_8 (x : Int32) : ((x.toInt8.toInt32) &&& (255 : Int32)).toInt = x.toInt % 256 := by
  rw [Jvm.Kit.i32_mask _ (255 : Int32) (k := 8) (by decide) (by decide), Int8.toInt_toInt32, Int32.toInt_toInt8, Int.bmod_def]
  omega
theorem own_lc {x : Int32} (h0 : 0 ≤ x.toInt) (h1 : ¬ (255 : Int32) < x) : nar .char (((x.toInt8.toInt32) &&& (255 : Int32)).toUInt32.toUInt16.toUInt32.toInt32) = x := by
  have h2 : (255 : Int32).toInt = 255 := by decide
  rw [Int32.lt_iff_toInt_lt, h2] at h1
  have h3 := own_8 x
  have e1 : ((x.toInt8.toInt32) &&& (255 : Int32)) = x := Int32.toInt_inj.mp (by omega)
  rw [e1]
  show (x.toUInt32.toUInt16.toUInt32.toInt32).toUInt32.toUInt16.toUInt32.toInt32 = x
  rw [own_c16 (x := x) h0 (by omega), own_c16 h0 (by omega)]
theorem own_or {a c : Int32} {b : Int} (ha : 0 ≤ a.toInt) (ha2 : a.toInt < 256) (hb : 0 ≤ b) (hc : c.toInt = b * 256) : (a ||| c).toInt = a.toInt + c.toInt := by
  have n1 := own_nn ha
  have n2 := own_nn (x := c) (by omega)
  obtain ⟨k, rfl⟩ := Int.eq_ofNat_of_zero_le hb
  have e : (a ||| c).toBitVec.toNat = a.toBitVec.toNat + c.toBitVec.toNat := by
    show (a.toBitVec ||| c.toBitVec).toNat = _
    rw [BitVec.toNat_or]
    have hcn : c.toBitVec.toNat = 2 ^ 8 * k := by omega
    rw [hcn, Nat.or_comm, ← Nat.two_pow_add_eq_or_of_lt (i := 8) (by omega) k]
    omega
  have e2 : (a ||| c).toInt = (a ||| c).toBitVec.toInt := rfl
  rw [BitVec.toInt_eq_toNat_cond] at e2
  have hcl := Int32.toInt_lt c
  split at e2 <;> omega
theorem own_gc {x : Int32} (h : 0 ≤ x.toInt ∧ x.toInt < 65536) : nar .char (((((x >>> ((0 : Int32) &&& 31)).toInt8.toInt32 &&& (255 : Int32)) <<< ((0 : Int32) &&& 31)) ||| (((x >>> ((8 : Int32) &&& 31)).toInt8.toInt32 &&& (255 : Int32)) <<< ((8 : Int32) &&& 31))).toUInt32.toUInt16.toUInt32.toInt32) = x := by
  obtain ⟨h0, h1⟩ := h
  have s0 : (x >>> ((0 : Int32) &&& 31)) = x := by
    apply Int32.toInt_inj.mp
    rw [Jvm.Kit.i32_shr x ((0 : Int32) &&& 31) (k := 0) (by decide)]; omega
  have s8 : (x >>> ((8 : Int32) &&& 31)).toInt = x.toInt / 256 := by
    rw [Jvm.Kit.i32_shr x ((8 : Int32) &&& 31) (k := 8) (by decide)]; omega
  have a0 := own_8 x
  have b0 := own_8 (x >>> ((8 : Int32) &&& 31))
  rw [s8] at b0
  rw [s0]
  generalize hA : ((x.toInt8.toInt32) &&& (255 : Int32)) = A at a0 ⊢
  generalize hB : ((x >>> ((8 : Int32) &&& 31)).toInt8.toInt32 &&& (255 : Int32)) = B at b0 ⊢
  have sA : (A <<< ((0 : Int32) &&& 31)).toInt = A.toInt * 2 ^ 0 := Jvm.Kit.i32_shl A ((0 : Int32) &&& 31) (k := 0) (by decide) (by have := Int32.toInt_lt A; omega) (by have := Int32.toInt_lt A; omega)
  have sB : (B <<< ((8 : Int32) &&& 31)).toInt = B.toInt * 2 ^ 8 := Jvm.Kit.i32_shl B ((8 : Int32) &&& 31) (k := 8) (by decide) (by omega) (by omega)
  generalize hC : A <<< ((0 : Int32) &&& 31) = C at sA ⊢
  generalize hD : B <<< ((8 : Int32) &&& 31) = D at sB ⊢
  have hor := own_or (a := C) (c := D) (b := B.toInt) (by omega) (by omega) (by omega) (by omega)
  have e : (C ||| D) = x := Int32.toInt_inj.mp (by omega)
  rw [e]
  show (x.toUInt32.toUInt16.toUInt32.toInt32).toUInt32.toUInt16.toUInt32.toInt32 = x
  rw [own_c16 (x := x) h0 h1, own_c16 h0 h1]
def chA (x0 x1 x2 x3 p : Int32) : Int32 := [x0, x1, x2, x3].getD p.toInt.toNat 0
theorem own_ix {p : Int32} (h : 0 ≤ p.toInt) : p.toInt = (p.toInt.toNat : Nat) := by omega
theorem own_at4 (x0 x1 x2 x3 : Int32) {p : Int32} (h0 : 0 ≤ p.toInt) (h1 : p.toInt < 4) : [(.int x0), (.int x1), (.int x2), (Value.int x3)][p.toInt.toNat]? = some (.int (chA x0 x1 x2 x3 p)) := by
  have : p.toInt.toNat < 4 := by omega
  unfold chA
  generalize p.toInt.toNat = n at this ⊢
  rcases n with _ | _ | _ | _ | n
  · rfl
  · rfl
  · rfl
  · rfl
  · omega
theorem own_r5 (x : Int32) : 0 ≤ ((x &&& (7 : Int32)) % (5 : Int32)).toInt ∧ ((x &&& (7 : Int32)) % (5 : Int32)).toInt ≤ 4 := by
  have h := Jvm.Kit.i32_mask x (7 : Int32) (k := 3) (by decide) (by decide)
  have h5 : (5 : Int32).toInt = 5 := by decide
  have q : ((x &&& (7 : Int32)) % (5 : Int32)).toInt = (x &&& (7 : Int32)).toInt.tmod (5 : Int32).toInt := Int32.toInt_mod _ _
  rw [q, h5, Int.tmod_eq_emod_of_nonneg (by omega)]
  omega
theorem own_lt4 {p e : Int32} (h : p < e) (he : e.toInt ≤ 4) : p.toInt < 4 := by rw [Int32.lt_iff_toInt_lt] at h; omega
theorem own_p1 {p e : Int32} (h0 : 0 ≤ p.toInt) (h : p < e) (he : e.toInt ≤ 4) : 0 ≤ (p + (1 : Int32)).toInt := by
  have h4 := own_lt4 h he
  have h1 : (1 : Int32).toInt = 1 := by decide
  rw [Jvm.Kit.i32_add (by omega) (by omega)]; omega
theorem own_nc {x : Int32} (h : 0 ≤ x.toInt ∧ x.toInt < 65536) : nar .char x = x := own_c16 h.1 h.2
theorem own_le3 {p : Int32} (h : ¬ (3 : Int32) < p) : p.toInt < 4 := by
  have h3 : (3 : Int32).toInt = 3 := by decide
  rw [Int32.lt_iff_toInt_lt, h3] at h; omega

theorem pn_0 : plainName "java/lang/StringUTF16" = true := by first | (simp [plainName, overriddenIn]; done) | decide +kernel
theorem d5_0 : decode jdk_52_method_21_code 0 = .ok (.iconst 0, 1) := by decide +kernel
theorem d5_1 : decode jdk_52_method_21_code 1 = .ok (.istore 5, 2) := by decide +kernel
theorem d5_3 : decode jdk_52_method_21_code 3 = .ok (.iload 5, 2) := by decide +kernel
theorem d5_5 : decode jdk_52_method_21_code 5 = .ok (.iload 4, 2) := by decide +kernel
theorem d5_7 : decode jdk_52_method_21_code 7 = .ok (.if_icmp .ge 37, 3) := by decide +kernel
theorem d5_10 : decode jdk_52_method_21_code 10 = .ok (.aload_n 0, 1) := by decide +kernel
theorem d5_11 : decode jdk_52_method_21_code 11 = .ok (.iload_n 1, 1) := by decide +kernel
theorem d5_12 : decode jdk_52_method_21_code 12 = .ok (.caload, 1) := by decide +kernel
theorem d5_13 : decode jdk_52_method_21_code 13 = .ok (.istore 6, 2) := by decide +kernel
theorem d5_15 : decode jdk_52_method_21_code 15 = .ok (.iload 6, 2) := by decide +kernel
theorem d5_17 : decode jdk_52_method_21_code 17 = .ok (.sipush 255, 3) := by decide +kernel
theorem d5_20 : decode jdk_52_method_21_code 20 = .ok (.if_icmp .le 6, 3) := by decide +kernel
theorem d5_23 : decode jdk_52_method_21_code 23 = .ok (.iload 5, 2) := by decide +kernel
theorem d5_25 : decode jdk_52_method_21_code 25 = .ok (.ireturn, 1) := by decide +kernel
theorem d5_26 : decode jdk_52_method_21_code 26 = .ok (.aload_n 2, 1) := by decide +kernel
theorem d5_27 : decode jdk_52_method_21_code 27 = .ok (.iload_n 3, 1) := by decide +kernel
theorem d5_28 : decode jdk_52_method_21_code 28 = .ok (.iload 6, 2) := by decide +kernel
theorem d5_30 : decode jdk_52_method_21_code 30 = .ok (.i2b, 1) := by decide +kernel
theorem d5_31 : decode jdk_52_method_21_code 31 = .ok (.bastore, 1) := by decide +kernel
theorem d5_32 : decode jdk_52_method_21_code 32 = .ok (.iinc 1 1, 3) := by decide +kernel
theorem d5_35 : decode jdk_52_method_21_code 35 = .ok (.iinc 3 1, 3) := by decide +kernel
theorem d5_38 : decode jdk_52_method_21_code 38 = .ok (.iinc 5 1, 3) := by decide +kernel
theorem d5_41 : decode jdk_52_method_21_code 41 = .ok (.goto (-38), 3) := by decide +kernel
theorem d5_44 : decode jdk_52_method_21_code 44 = .ok (.iload 4, 2) := by decide +kernel
theorem d5_46 : decode jdk_52_method_21_code 46 = .ok (.ireturn, 1) := by decide +kernel
set_option maxRecDepth 65536 in
set_option maxHeartbeats 40000000 in
theorem loop_4_0 (l : Launch) (Z : State) (a0 : Array Value) (hw : ∀ d ∈ (tables_1 ++ jdkStatics_1), d.before a0 Z = true) (n0 : Nat) (h0 : Heap) (a b : Addr) (x0 x1 x2 x3 : Int32) (u0 : (255 : Int32) < x0) (r0 : 0 ≤ x0.toInt ∧ x0.toInt < 65536) (r1 : 0 ≤ x1.toInt ∧ x1.toInt < 65536) (r2 : 0 ≤ x2.toInt ∧ x2.toInt < 65536) (r3 : 0 ≤ x3.toInt ∧ x3.toInt < 65536) (g_b : n0 ≤ b) (ne_a_b : a ≠ b) (V_a : Arl Z h0 a .char [(.int x0), (.int x1), (.int x2), (.int x3)]) (V_b : Arl Z h0 b .byte [(.int (0 : Int32)), (.int (0 : Int32)), (.int (0 : Int32)), (.int (0 : Int32))]) :
    Ctr l Z (⟨"java/lang/StringUTF16", "compress", "([CI[BII)I"⟩ : MethodName) jdk_52_method_21_code 7 (some .int) ({ frames := 0, cells := 0, slots := 0, locals := 0 } : Room) #[(.ref a), (.int (0 : Int32)), (.ref b), (.int (0 : Int32)), (.int (4 : Int32))] h0 (fun v h L => v = some (.int (0 : Int32)) ∧ Fr n0 L ∧ Keep h0 h [b] ∧ Arl Z h b .byte [(.int (0 : Int32)), (.int (0 : Int32)), (.int (0 : Int32)), (.int (0 : Int32))]) := by
  refine Ctr.mk (plainFor_of_name pn_0) (ls := #[.val (.ref a), .val (.int (0 : Int32)), .val (.ref b), .val (.int (0 : Int32)), .val (.int (4 : Int32)), .unset, .unset]) (fun m => by first | (simp [entryFrame, mkF, argsToLocals, Value.category]; done) | rfl) ?_
  intro p e s m below meth c T C X eT hs0
  have N := Fr.nil n0
  have KP := Keep.refl h0 [b]
  show Go p e below _ (T.setTop (mkF m 0 #[.val (.ref a), .val (.int (0 : Int32)), .val (.ref b), .val (.int (0 : Int32)), .val (.int (4 : Int32)), .unset, .unset] []))
  refine Go.iconst C X d5_0 (n := 1) rfl (v := (0 : Int32)) rfl ?_
  refine Go.istore C X d5_1 (n := 3) rfl (l' := #[.val (.ref a), .val (.int (0 : Int32)), .val (.ref b), .val (.int (0 : Int32)), .val (.int (4 : Int32)), .val (.int (0 : Int32)), .unset]) rfl ?_
  refine Go.iload C X d5_3 (n := 5) rfl rfl ?_
  refine Go.iload C X d5_5 (n := 7) rfl rfl ?_
  refine Go.icmp_ge C X d5_7 (n1 := 44) (n2 := 10) (by decide) (by decide) rfl (fun hc7 => ?_) (fun hc7 => ?_)
  · exact absurd hc7 (by decide)
  · refine Go.aloadN C X d5_10 (n := 11) rfl rfl rfl ?_
    refine Go.iloadN C X d5_11 (n := 12) rfl rfl ?_
    refine Go.caloadL C X eT V_a (i := 0) rfl (v := .int x0) rfl d5_12 (n := 13) rfl ?_
    refine Go.istore C X d5_13 (n := 15) rfl (l' := #[.val (.ref a), .val (.int (0 : Int32)), .val (.ref b), .val (.int (0 : Int32)), .val (.int (4 : Int32)), .val (.int (0 : Int32)), .val (.int x0)]) rfl ?_
    refine Go.iload C X d5_15 (n := 17) rfl rfl ?_
    refine Go.sipush C X d5_17 (n := 20) rfl (v := (255 : Int32)) rfl ?_
    refine Go.icmp_le C X d5_20 (n1 := 26) (n2 := 23) (by decide) (by decide) rfl (fun hc20 => ?_) (fun hc20 => ?_)
    · exact absurd u0 hc20
    · refine Go.iload C X d5_23 (n := 25) rfl rfl ?_
      refine Go.retI C X eT d5_25 (by decide) (by decide) ?_
      exact ⟨rfl, N, KP, V_b⟩
theorem d18_0 : decode jdk_52_method_3_code 0 = .ok (.iload_n 0, 1) := by decide +kernel
theorem d18_1 : decode jdk_52_method_3_code 1 = .ok (.ifCond .ge 11, 3) := by decide +kernel
theorem d18_4 : decode jdk_52_method_3_code 4 = .ok (.new 17, 3) := by decide +kernel
theorem d18_7 : decode jdk_52_method_3_code 7 = .ok (.dup, 1) := by decide +kernel
theorem d18_8 : decode jdk_52_method_3_code 8 = .ok (.invokespecial 19, 3) := by decide +kernel
theorem d18_11 : decode jdk_52_method_3_code 11 = .ok (.athrow, 1) := by decide +kernel
theorem d18_12 : decode jdk_52_method_3_code 12 = .ok (.iload_n 0, 1) := by decide +kernel
theorem d18_13 : decode jdk_52_method_3_code 13 = .ok (.ldc 20, 2) := by decide +kernel
theorem d18_15 : decode jdk_52_method_3_code 15 = .ok (.if_icmp .lt 40, 3) := by decide +kernel
theorem d18_18 : decode jdk_52_method_3_code 18 = .ok (.new 21, 3) := by decide +kernel
theorem d18_21 : decode jdk_52_method_3_code 21 = .ok (.dup, 1) := by decide +kernel
theorem d18_22 : decode jdk_52_method_3_code 22 = .ok (.new 23, 3) := by decide +kernel
theorem d18_25 : decode jdk_52_method_3_code 25 = .ok (.dup, 1) := by decide +kernel
theorem d18_26 : decode jdk_52_method_3_code 26 = .ok (.invokespecial 25, 3) := by decide +kernel
theorem d18_29 : decode jdk_52_method_3_code 29 = .ok (.ldc 26, 2) := by decide +kernel
theorem d18_31 : decode jdk_52_method_3_code 31 = .ok (.invokevirtual 28, 3) := by decide +kernel
theorem d18_34 : decode jdk_52_method_3_code 34 = .ok (.iload_n 0, 1) := by decide +kernel
theorem d18_35 : decode jdk_52_method_3_code 35 = .ok (.invokevirtual 32, 3) := by decide +kernel
theorem d18_38 : decode jdk_52_method_3_code 38 = .ok (.ldc 35, 2) := by decide +kernel
theorem d18_40 : decode jdk_52_method_3_code 40 = .ok (.invokevirtual 28, 3) := by decide +kernel
theorem d18_43 : decode jdk_52_method_3_code 43 = .ok (.ldc 20, 2) := by decide +kernel
theorem d18_45 : decode jdk_52_method_3_code 45 = .ok (.invokevirtual 32, 3) := by decide +kernel
theorem d18_48 : decode jdk_52_method_3_code 48 = .ok (.invokevirtual 37, 3) := by decide +kernel
theorem d18_51 : decode jdk_52_method_3_code 51 = .ok (.invokespecial 41, 3) := by decide +kernel
theorem d18_54 : decode jdk_52_method_3_code 54 = .ok (.athrow, 1) := by decide +kernel
theorem d18_55 : decode jdk_52_method_3_code 55 = .ok (.iload_n 0, 1) := by decide +kernel
theorem d18_56 : decode jdk_52_method_3_code 56 = .ok (.iconst 1, 1) := by decide +kernel
theorem d18_57 : decode jdk_52_method_3_code 57 = .ok (.ishl, 1) := by decide +kernel
theorem d18_58 : decode jdk_52_method_3_code 58 = .ok (.ireturn, 1) := by decide +kernel
set_option maxRecDepth 65536 in
set_option maxHeartbeats 40000000 in
theorem nbl_4 (l : Launch) (Z : State) (a0 : Array Value) (hw : ∀ d ∈ (tables_1 ++ jdkStatics_1), d.before a0 Z = true) (n0 : Nat) (h0 : Heap)  :
    Ctr l Z (⟨"java/lang/StringUTF16", "newBytesLength", "(I)I"⟩ : MethodName) jdk_52_method_3_code 1 (some .int) ({ frames := 0, cells := 0, slots := 0, locals := 0 } : Room) #[(.int (4 : Int32))] h0 (fun v h L => v = some (.int (8 : Int32)) ∧ L = [] ∧ h = h0) := by
  refine Ctr.mk (plainFor_of_name pn_0) (ls := #[.val (.int (4 : Int32))]) (fun m => by first | (simp [entryFrame, mkF, argsToLocals, Value.category]; done) | rfl) ?_
  intro p e s m below meth c T C X eT hs0
  have N := Fr.nil n0
  show Go p e below _ (T.setTop (mkF m 0 #[.val (.int (4 : Int32))] []))
  refine Go.iloadN C X d18_0 (n := 1) rfl rfl ?_
  refine Go.if0_ge C X d18_1 (n1 := 12) (n2 := 4) (by decide) (by decide) rfl (fun hc1 => ?_) (fun hc1 => ?_)
  · refine Go.iloadN C X d18_12 (n := 13) rfl rfl ?_
    refine Go.ldcI C X (wd hw 96 rfl) d18_13 (n := 15) rfl ?_
    refine Go.icmp_lt C X d18_15 (n1 := 55) (n2 := 18) (by decide) (by decide) rfl (fun hc15 => ?_) (fun hc15 => ?_)
    · refine Go.iloadN C X d18_55 (n := 56) rfl rfl ?_
      refine Go.iconst C X d18_56 (n := 57) rfl (v := (1 : Int32)) rfl ?_
      refine Go.ishl C X d18_57 (n := 58) rfl ?_
      show Go p e below _ (T.setTop (mkF m 58 #[.val (.int (4 : Int32))] [(.int (8 : Int32))]))
      refine Go.retI C X eT d18_58 (by decide) (by decide) ?_
      exact ⟨rfl, rfl, rfl⟩
    · exact absurd hc15 (by decide)
  · exact absurd hc1 (by decide)
theorem pd_0 : parseMethodDescriptor "(I)I" = some ⟨[.int], some .int⟩ := by decide +kernel
theorem d17_0 : decode jdk_52_method_2_code 0 = .ok (.iload_n 0, 1) := by decide +kernel
theorem d17_1 : decode jdk_52_method_2_code 1 = .ok (.invokestatic 11, 3) := by decide +kernel
theorem d17_4 : decode jdk_52_method_2_code 4 = .ok (.newarray .byte, 2) := by decide +kernel
theorem d17_6 : decode jdk_52_method_2_code 6 = .ok (.areturn, 1) := by decide +kernel
set_option maxRecDepth 65536 in
set_option maxHeartbeats 40000000 in
theorem nbf_4 (l : Launch) (Z : State) (a0 : Array Value) (hw : ∀ d ∈ (tables_1 ++ jdkStatics_1), d.before a0 Z = true) (n0 : Nat) (h0 : Heap) (O : Old Z n0 h0) :
    Ctr l Z (⟨"java/lang/StringUTF16", "newBytesFor", "(I)[B"⟩ : MethodName) jdk_52_method_2_code 1 (some (.array .byte)) ({ frames := 1, cells := 1, slots := 8, locals := 12 } : Room) #[(.int (4 : Int32))] h0 (fun v h L => ∃ u, v = some (.ref u) ∧ Fr n0 L ∧ Keep h0 h [] ∧ h0.size ≤ u ∧ Arl Z h u .byte [(.int (0 : Int32)), (.int (0 : Int32)), (.int (0 : Int32)), (.int (0 : Int32)), (.int (0 : Int32)), (.int (0 : Int32)), (.int (0 : Int32)), (.int (0 : Int32))]) := by
  refine Ctr.mk (plainFor_of_name pn_0) (ls := #[.val (.int (4 : Int32))]) (fun m => by first | (simp [entryFrame, mkF, argsToLocals, Value.category]; done) | rfl) ?_
  intro p e s m below meth c T C X eT hs0
  have N := Fr.nil n0
  have KP := Keep.refl h0 []
  show Go p e below _ (T.setTop (mkF m 0 #[.val (.int (4 : Int32))] []))
  refine Go.iloadN C X d17_0 (n := 1) rfl rfl ?_
  refine Go.stat C X eT (argsL := [(.int (4 : Int32))]) (rest := []) (nbl_4 l Z a0 hw n0 _) (wd hw 93 rfl) (wd hw 94 rfl) (wd hw 18 rfl) (wd hw 95 rfl) (by decide) (lenOf pd_0 rfl) rfl d17_1 (n := 4) rfl rfl (by decide) (W := 0) rfl (by decide) (by decide) (by decide) ?_
  clear X eT
  intro T h' v L X eT hQ
  obtain ⟨rfl, rfl, hE⟩ := hQ
  replace hE := hE.symm
  subst hE
  replace N := N.app (Fr.nil n0)
  show Go p e below _ (T.setTop (mkF m 4 #[.val (.int (4 : Int32))] [(.int (8 : Int32))]))
  refine Go.newL C X eT (wd hw 20 rfl) (i := 8) rfl (cap := 8) (by decide) d17_4 (n := 6) rfl (by decide) (by decide) (by decide) ?_
  clear X eT
  intro T h u z_u X eT E V_u
  have g_u : n0 ≤ u := by rw [z_u]; exact O.le
  have s_u : h0.size ≤ u := by rw [z_u]; exact KP.1
  replace KP := KP.ext E
  replace O := O.ext E
  replace V_u : Arl Z h u .byte [(.int (0 : Int32)), (.int (0 : Int32)), (.int (0 : Int32)), (.int (0 : Int32)), (.int (0 : Int32)), (.int (0 : Int32)), (.int (0 : Int32)), (.int (0 : Int32))] := V_u
  refine Go.retA C X eT rfl rfl rfl d17_6 (by decide) (by decide) ?_
  exact ⟨u, rfl, N, KP, s_u, V_u⟩
theorem d19_0 : decode jdk_52_method_4_code 0 = .ok (.getstatic 44, 3) := by decide +kernel
theorem d19_3 : decode jdk_52_method_4_code 3 = .ok (.ifCond .ne 25, 3) := by decide +kernel
theorem d19_6 : decode jdk_52_method_4_code 6 = .ok (.iload_n 1, 1) := by decide +kernel
theorem d19_7 : decode jdk_52_method_4_code 7 = .ok (.ifCond .lt 11, 3) := by decide +kernel
theorem d19_10 : decode jdk_52_method_4_code 10 = .ok (.iload_n 1, 1) := by decide +kernel
theorem d19_11 : decode jdk_52_method_4_code 11 = .ok (.aload_n 0, 1) := by decide +kernel
theorem d19_12 : decode jdk_52_method_4_code 12 = .ok (.invokestatic 48, 3) := by decide +kernel
theorem d19_15 : decode jdk_52_method_4_code 15 = .ok (.if_icmp .lt 13, 3) := by decide +kernel
theorem d19_18 : decode jdk_52_method_4_code 18 = .ok (.new 52, 3) := by decide +kernel
theorem d19_21 : decode jdk_52_method_4_code 21 = .ok (.dup, 1) := by decide +kernel
theorem d19_22 : decode jdk_52_method_4_code 22 = .ok (.ldc 54, 2) := by decide +kernel
theorem d19_24 : decode jdk_52_method_4_code 24 = .ok (.invokespecial 56, 3) := by decide +kernel
theorem d19_27 : decode jdk_52_method_4_code 27 = .ok (.athrow, 1) := by decide +kernel
theorem d19_28 : decode jdk_52_method_4_code 28 = .ok (.iload_n 1, 1) := by decide +kernel
theorem d19_29 : decode jdk_52_method_4_code 29 = .ok (.iconst 1, 1) := by decide +kernel
theorem d19_30 : decode jdk_52_method_4_code 30 = .ok (.ishl, 1) := by decide +kernel
theorem d19_31 : decode jdk_52_method_4_code 31 = .ok (.istore_n 1, 1) := by decide +kernel
theorem d19_32 : decode jdk_52_method_4_code 32 = .ok (.aload_n 0, 1) := by decide +kernel
theorem d19_33 : decode jdk_52_method_4_code 33 = .ok (.iload_n 1, 1) := by decide +kernel
theorem d19_34 : decode jdk_52_method_4_code 34 = .ok (.iinc 1 1, 3) := by decide +kernel
theorem d19_37 : decode jdk_52_method_4_code 37 = .ok (.iload_n 2, 1) := by decide +kernel
theorem d19_38 : decode jdk_52_method_4_code 38 = .ok (.getstatic 59, 3) := by decide +kernel
theorem d19_41 : decode jdk_52_method_4_code 41 = .ok (.ishr, 1) := by decide +kernel
theorem d19_42 : decode jdk_52_method_4_code 42 = .ok (.i2b, 1) := by decide +kernel
theorem d19_43 : decode jdk_52_method_4_code 43 = .ok (.bastore, 1) := by decide +kernel
theorem d19_44 : decode jdk_52_method_4_code 44 = .ok (.aload_n 0, 1) := by decide +kernel
theorem d19_45 : decode jdk_52_method_4_code 45 = .ok (.iload_n 1, 1) := by decide +kernel
theorem d19_46 : decode jdk_52_method_4_code 46 = .ok (.iload_n 2, 1) := by decide +kernel
theorem d19_47 : decode jdk_52_method_4_code 47 = .ok (.getstatic 63, 3) := by decide +kernel
theorem d19_50 : decode jdk_52_method_4_code 50 = .ok (.ishr, 1) := by decide +kernel
theorem d19_51 : decode jdk_52_method_4_code 51 = .ok (.i2b, 1) := by decide +kernel
theorem d19_52 : decode jdk_52_method_4_code 52 = .ok (.bastore, 1) := by decide +kernel
theorem d19_53 : decode jdk_52_method_4_code 53 = .ok (.return_, 1) := by decide +kernel
set_option maxRecDepth 65536 in
set_option maxHeartbeats 40000000 in
theorem putChar_4_0 (l : Launch) (Z : State) (a0 : Array Value) (hw : ∀ d ∈ (tables_1 ++ jdkStatics_1), d.before a0 Z = true) (n0 : Nat) (h0 : Heap) (S1 : Sta Z Z.heap "java/lang/StringUTF16" "$assertionsDisabled" "Z" (.int 1)) (S2 : Sta Z Z.heap "java/lang/StringUTF16" "HI_BYTE_SHIFT" "I" (.int 0)) (S3 : Sta Z Z.heap "java/lang/StringUTF16" "LO_BYTE_SHIFT" "I" (.int 8)) (b : Addr) (x y0 y1 y2 y3 y4 y5 y6 y7 : Int32) (g_b : n0 ≤ b) (O : Old Z n0 h0) (V_b : Arl Z h0 b .byte [(.int y0), (.int y1), (.int y2), (.int y3), (.int y4), (.int y5), (.int y6), (.int y7)]) :
    Ctr l Z (⟨"java/lang/StringUTF16", "putChar", "([BII)V"⟩ : MethodName) jdk_52_method_4_code 3 none ({ frames := 0, cells := 0, slots := 0, locals := 0 } : Room) #[(.ref b), (.int (0 : Int32)), (.int x)] h0 (fun v h L => v = none ∧ Fr n0 L ∧ Keep h0 h [b] ∧ Arl Z h b .byte [(.int ((x >>> ((0 : Int32) &&& 31)).toInt8.toInt32)), (.int ((x >>> ((8 : Int32) &&& 31)).toInt8.toInt32)), (.int y2), (.int y3), (.int y4), (.int y5), (.int y6), (.int y7)]) := by
  refine Ctr.mk (plainFor_of_name pn_0) (ls := #[.val (.ref b), .val (.int (0 : Int32)), .val (.int x)]) (fun m => by first | (simp [entryFrame, mkF, argsToLocals, Value.category]; done) | rfl) ?_
  intro p e s m below meth c T C X eT hs0
  have N := Fr.nil n0
  have KP := Keep.refl h0 [b]
  show Go p e below _ (T.setTop (mkF m 0 #[.val (.ref b), .val (.int (0 : Int32)), .val (.int x)] []))
  refine Go.getS C X eT (wd hw 100 rfl) Via.refl (S1.old O) d19_0 (n := 3) rfl ?_
  clear X eT
  intro T X eT
  refine Go.if0_ne C X d19_3 (n1 := 28) (n2 := 6) (by decide) (by decide) rfl (fun hc3 => ?_) (fun hc3 => ?_)
  · refine Go.iloadN C X d19_28 (n := 29) rfl rfl ?_
    refine Go.iconst C X d19_29 (n := 30) rfl (v := (1 : Int32)) rfl ?_
    refine Go.ishl C X d19_30 (n := 31) rfl ?_
    show Go p e below _ (T.setTop (mkF m 31 #[.val (.ref b), .val (.int (0 : Int32)), .val (.int x)] [(.int (0 : Int32))]))
    refine Go.istoreN C X d19_31 (n := 32) rfl (l' := #[.val (.ref b), .val (.int (0 : Int32)), .val (.int x)]) rfl ?_
    refine Go.aloadN C X d19_32 (n := 33) rfl rfl rfl ?_
    refine Go.iloadN C X d19_33 (n := 34) rfl rfl ?_
    refine Go.iinc C X d19_34 (n := 37) rfl (v := (1 : Int32)) rfl rfl (l' := #[.val (.ref b), .val (.int ((0 : Int32) + (1 : Int32))), .val (.int x)]) rfl ?_
    show Go p e below _ (T.setTop (mkF m 37 #[.val (.ref b), .val (.int (1 : Int32)), .val (.int x)] [(.int (0 : Int32)), (.ref b)]))
    refine Go.iloadN C X d19_37 (n := 38) rfl rfl ?_
    refine Go.getS C X eT (wd hw 101 rfl) Via.refl (S2.old O) d19_38 (n := 41) rfl ?_
    clear X eT
    intro T X eT
    refine Go.ishr C X d19_41 (n := 42) rfl ?_
    refine Go.i2b C X d19_42 (n := 43) rfl ?_
    refine Go.bastoreL C X eT V_b (i := 0) rfl (by simp) d19_43 (n := 44) rfl ?_
    clear X eT
    intro T h X eT W V_new
    replace KP := KP.wr W (Or.inl (List.mem_of_getElem? (i := 0) rfl))
    replace O := O.wr W g_b
    clear V_b
    rw [own_b8] at V_new
    have V_b : Arl Z h b .byte [(.int ((x >>> ((0 : Int32) &&& 31)).toInt8.toInt32)), (.int y1), (.int y2), (.int y3), (.int y4), (.int y5), (.int y6), (.int y7)] := V_new
    clear V_new
    replace N := Fr.snoc X N g_b
    refine Go.aloadN C X d19_44 (n := 45) rfl rfl rfl ?_
    refine Go.iloadN C X d19_45 (n := 46) rfl rfl ?_
    refine Go.iloadN C X d19_46 (n := 47) rfl rfl ?_
    refine Go.getS C X eT (wd hw 102 rfl) Via.refl (S3.old O) d19_47 (n := 50) rfl ?_
    clear X eT
    intro T X eT
    refine Go.ishr C X d19_50 (n := 51) rfl ?_
    refine Go.i2b C X d19_51 (n := 52) rfl ?_
    refine Go.bastoreL C X eT V_b (i := 1) rfl (by simp) d19_52 (n := 53) rfl ?_
    clear X eT
    intro T h X eT W V_new
    replace KP := KP.wr W (Or.inl (List.mem_of_getElem? (i := 0) rfl))
    replace O := O.wr W g_b
    clear V_b
    rw [own_b8] at V_new
    have V_b : Arl Z h b .byte [(.int ((x >>> ((0 : Int32) &&& 31)).toInt8.toInt32)), (.int ((x >>> ((8 : Int32) &&& 31)).toInt8.toInt32)), (.int y2), (.int y3), (.int y4), (.int y5), (.int y6), (.int y7)] := V_new
    clear V_new
    replace N := Fr.snoc X N g_b
    refine Go.ret0 C X eT d19_53 (by decide) (by decide) ?_
    exact ⟨rfl, N, KP, V_b⟩
  · exact absurd hc3 (by decide)
set_option maxRecDepth 65536 in
set_option maxHeartbeats 40000000 in
theorem putChar_4_1 (l : Launch) (Z : State) (a0 : Array Value) (hw : ∀ d ∈ (tables_1 ++ jdkStatics_1), d.before a0 Z = true) (n0 : Nat) (h0 : Heap) (S1 : Sta Z Z.heap "java/lang/StringUTF16" "$assertionsDisabled" "Z" (.int 1)) (S2 : Sta Z Z.heap "java/lang/StringUTF16" "HI_BYTE_SHIFT" "I" (.int 0)) (S3 : Sta Z Z.heap "java/lang/StringUTF16" "LO_BYTE_SHIFT" "I" (.int 8)) (b : Addr) (x y0 y1 y2 y3 y4 y5 y6 y7 : Int32) (g_b : n0 ≤ b) (O : Old Z n0 h0) (V_b : Arl Z h0 b .byte [(.int y0), (.int y1), (.int y2), (.int y3), (.int y4), (.int y5), (.int y6), (.int y7)]) :
    Ctr l Z (⟨"java/lang/StringUTF16", "putChar", "([BII)V"⟩ : MethodName) jdk_52_method_4_code 3 none ({ frames := 0, cells := 0, slots := 0, locals := 0 } : Room) #[(.ref b), (.int (1 : Int32)), (.int x)] h0 (fun v h L => v = none ∧ Fr n0 L ∧ Keep h0 h [b] ∧ Arl Z h b .byte [(.int y0), (.int y1), (.int ((x >>> ((0 : Int32) &&& 31)).toInt8.toInt32)), (.int ((x >>> ((8 : Int32) &&& 31)).toInt8.toInt32)), (.int y4), (.int y5), (.int y6), (.int y7)]) := by
  refine Ctr.mk (plainFor_of_name pn_0) (ls := #[.val (.ref b), .val (.int (1 : Int32)), .val (.int x)]) (fun m => by first | (simp [entryFrame, mkF, argsToLocals, Value.category]; done) | rfl) ?_
  intro p e s m below meth c T C X eT hs0
  have N := Fr.nil n0
  have KP := Keep.refl h0 [b]
  show Go p e below _ (T.setTop (mkF m 0 #[.val (.ref b), .val (.int (1 : Int32)), .val (.int x)] []))
  refine Go.getS C X eT (wd hw 100 rfl) Via.refl (S1.old O) d19_0 (n := 3) rfl ?_
  clear X eT
  intro T X eT
  refine Go.if0_ne C X d19_3 (n1 := 28) (n2 := 6) (by decide) (by decide) rfl (fun hc3 => ?_) (fun hc3 => ?_)
  · refine Go.iloadN C X d19_28 (n := 29) rfl rfl ?_
    refine Go.iconst C X d19_29 (n := 30) rfl (v := (1 : Int32)) rfl ?_
    refine Go.ishl C X d19_30 (n := 31) rfl ?_
    show Go p e below _ (T.setTop (mkF m 31 #[.val (.ref b), .val (.int (1 : Int32)), .val (.int x)] [(.int (2 : Int32))]))
    refine Go.istoreN C X d19_31 (n := 32) rfl (l' := #[.val (.ref b), .val (.int (2 : Int32)), .val (.int x)]) rfl ?_
    refine Go.aloadN C X d19_32 (n := 33) rfl rfl rfl ?_
    refine Go.iloadN C X d19_33 (n := 34) rfl rfl ?_
    refine Go.iinc C X d19_34 (n := 37) rfl (v := (1 : Int32)) rfl rfl (l' := #[.val (.ref b), .val (.int ((2 : Int32) + (1 : Int32))), .val (.int x)]) rfl ?_
    show Go p e below _ (T.setTop (mkF m 37 #[.val (.ref b), .val (.int (3 : Int32)), .val (.int x)] [(.int (2 : Int32)), (.ref b)]))
    refine Go.iloadN C X d19_37 (n := 38) rfl rfl ?_
    refine Go.getS C X eT (wd hw 101 rfl) Via.refl (S2.old O) d19_38 (n := 41) rfl ?_
    clear X eT
    intro T X eT
    refine Go.ishr C X d19_41 (n := 42) rfl ?_
    refine Go.i2b C X d19_42 (n := 43) rfl ?_
    refine Go.bastoreL C X eT V_b (i := 2) rfl (by simp) d19_43 (n := 44) rfl ?_
    clear X eT
    intro T h X eT W V_new
    replace KP := KP.wr W (Or.inl (List.mem_of_getElem? (i := 0) rfl))
    replace O := O.wr W g_b
    clear V_b
    rw [own_b8] at V_new
    have V_b : Arl Z h b .byte [(.int y0), (.int y1), (.int ((x >>> ((0 : Int32) &&& 31)).toInt8.toInt32)), (.int y3), (.int y4), (.int y5), (.int y6), (.int y7)] := V_new
    clear V_new
    replace N := Fr.snoc X N g_b
    refine Go.aloadN C X d19_44 (n := 45) rfl rfl rfl ?_
    refine Go.iloadN C X d19_45 (n := 46) rfl rfl ?_
    refine Go.iloadN C X d19_46 (n := 47) rfl rfl ?_
    refine Go.getS C X eT (wd hw 102 rfl) Via.refl (S3.old O) d19_47 (n := 50) rfl ?_
    clear X eT
    intro T X eT
    refine Go.ishr C X d19_50 (n := 51) rfl ?_
    refine Go.i2b C X d19_51 (n := 52) rfl ?_
    refine Go.bastoreL C X eT V_b (i := 3) rfl (by simp) d19_52 (n := 53) rfl ?_
    clear X eT
    intro T h X eT W V_new
    replace KP := KP.wr W (Or.inl (List.mem_of_getElem? (i := 0) rfl))
    replace O := O.wr W g_b
    clear V_b
    rw [own_b8] at V_new
    have V_b : Arl Z h b .byte [(.int y0), (.int y1), (.int ((x >>> ((0 : Int32) &&& 31)).toInt8.toInt32)), (.int ((x >>> ((8 : Int32) &&& 31)).toInt8.toInt32)), (.int y4), (.int y5), (.int y6), (.int y7)] := V_new
    clear V_new
    replace N := Fr.snoc X N g_b
    refine Go.ret0 C X eT d19_53 (by decide) (by decide) ?_
    exact ⟨rfl, N, KP, V_b⟩
  · exact absurd hc3 (by decide)
set_option maxRecDepth 65536 in
set_option maxHeartbeats 40000000 in
theorem putChar_4_2 (l : Launch) (Z : State) (a0 : Array Value) (hw : ∀ d ∈ (tables_1 ++ jdkStatics_1), d.before a0 Z = true) (n0 : Nat) (h0 : Heap) (S1 : Sta Z Z.heap "java/lang/StringUTF16" "$assertionsDisabled" "Z" (.int 1)) (S2 : Sta Z Z.heap "java/lang/StringUTF16" "HI_BYTE_SHIFT" "I" (.int 0)) (S3 : Sta Z Z.heap "java/lang/StringUTF16" "LO_BYTE_SHIFT" "I" (.int 8)) (b : Addr) (x y0 y1 y2 y3 y4 y5 y6 y7 : Int32) (g_b : n0 ≤ b) (O : Old Z n0 h0) (V_b : Arl Z h0 b .byte [(.int y0), (.int y1), (.int y2), (.int y3), (.int y4), (.int y5), (.int y6), (.int y7)]) :
    Ctr l Z (⟨"java/lang/StringUTF16", "putChar", "([BII)V"⟩ : MethodName) jdk_52_method_4_code 3 none ({ frames := 0, cells := 0, slots := 0, locals := 0 } : Room) #[(.ref b), (.int (2 : Int32)), (.int x)] h0 (fun v h L => v = none ∧ Fr n0 L ∧ Keep h0 h [b] ∧ Arl Z h b .byte [(.int y0), (.int y1), (.int y2), (.int y3), (.int ((x >>> ((0 : Int32) &&& 31)).toInt8.toInt32)), (.int ((x >>> ((8 : Int32) &&& 31)).toInt8.toInt32)), (.int y6), (.int y7)]) := by
  refine Ctr.mk (plainFor_of_name pn_0) (ls := #[.val (.ref b), .val (.int (2 : Int32)), .val (.int x)]) (fun m => by first | (simp [entryFrame, mkF, argsToLocals, Value.category]; done) | rfl) ?_
  intro p e s m below meth c T C X eT hs0
  have N := Fr.nil n0
  have KP := Keep.refl h0 [b]
  show Go p e below _ (T.setTop (mkF m 0 #[.val (.ref b), .val (.int (2 : Int32)), .val (.int x)] []))
  refine Go.getS C X eT (wd hw 100 rfl) Via.refl (S1.old O) d19_0 (n := 3) rfl ?_
  clear X eT
  intro T X eT
  refine Go.if0_ne C X d19_3 (n1 := 28) (n2 := 6) (by decide) (by decide) rfl (fun hc3 => ?_) (fun hc3 => ?_)
  · refine Go.iloadN C X d19_28 (n := 29) rfl rfl ?_
    refine Go.iconst C X d19_29 (n := 30) rfl (v := (1 : Int32)) rfl ?_
    refine Go.ishl C X d19_30 (n := 31) rfl ?_
    show Go p e below _ (T.setTop (mkF m 31 #[.val (.ref b), .val (.int (2 : Int32)), .val (.int x)] [(.int (4 : Int32))]))
    refine Go.istoreN C X d19_31 (n := 32) rfl (l' := #[.val (.ref b), .val (.int (4 : Int32)), .val (.int x)]) rfl ?_
    refine Go.aloadN C X d19_32 (n := 33) rfl rfl rfl ?_
    refine Go.iloadN C X d19_33 (n := 34) rfl rfl ?_
    refine Go.iinc C X d19_34 (n := 37) rfl (v := (1 : Int32)) rfl rfl (l' := #[.val (.ref b), .val (.int ((4 : Int32) + (1 : Int32))), .val (.int x)]) rfl ?_
    show Go p e below _ (T.setTop (mkF m 37 #[.val (.ref b), .val (.int (5 : Int32)), .val (.int x)] [(.int (4 : Int32)), (.ref b)]))
    refine Go.iloadN C X d19_37 (n := 38) rfl rfl ?_
    refine Go.getS C X eT (wd hw 101 rfl) Via.refl (S2.old O) d19_38 (n := 41) rfl ?_
    clear X eT
    intro T X eT
    refine Go.ishr C X d19_41 (n := 42) rfl ?_
    refine Go.i2b C X d19_42 (n := 43) rfl ?_
    refine Go.bastoreL C X eT V_b (i := 4) rfl (by simp) d19_43 (n := 44) rfl ?_
    clear X eT
    intro T h X eT W V_new
    replace KP := KP.wr W (Or.inl (List.mem_of_getElem? (i := 0) rfl))
    replace O := O.wr W g_b
    clear V_b
    rw [own_b8] at V_new
    have V_b : Arl Z h b .byte [(.int y0), (.int y1), (.int y2), (.int y3), (.int ((x >>> ((0 : Int32) &&& 31)).toInt8.toInt32)), (.int y5), (.int y6), (.int y7)] := V_new
    clear V_new
    replace N := Fr.snoc X N g_b
    refine Go.aloadN C X d19_44 (n := 45) rfl rfl rfl ?_
    refine Go.iloadN C X d19_45 (n := 46) rfl rfl ?_
    refine Go.iloadN C X d19_46 (n := 47) rfl rfl ?_
    refine Go.getS C X eT (wd hw 102 rfl) Via.refl (S3.old O) d19_47 (n := 50) rfl ?_
    clear X eT
    intro T X eT
    refine Go.ishr C X d19_50 (n := 51) rfl ?_
    refine Go.i2b C X d19_51 (n := 52) rfl ?_
    refine Go.bastoreL C X eT V_b (i := 5) rfl (by simp) d19_52 (n := 53) rfl ?_
    clear X eT
    intro T h X eT W V_new
    replace KP := KP.wr W (Or.inl (List.mem_of_getElem? (i := 0) rfl))
    replace O := O.wr W g_b
    clear V_b
    rw [own_b8] at V_new
    have V_b : Arl Z h b .byte [(.int y0), (.int y1), (.int y2), (.int y3), (.int ((x >>> ((0 : Int32) &&& 31)).toInt8.toInt32)), (.int ((x >>> ((8 : Int32) &&& 31)).toInt8.toInt32)), (.int y6), (.int y7)] := V_new
    clear V_new
    replace N := Fr.snoc X N g_b
    refine Go.ret0 C X eT d19_53 (by decide) (by decide) ?_
    exact ⟨rfl, N, KP, V_b⟩
  · exact absurd hc3 (by decide)
set_option maxRecDepth 65536 in
set_option maxHeartbeats 40000000 in
theorem putChar_4_3 (l : Launch) (Z : State) (a0 : Array Value) (hw : ∀ d ∈ (tables_1 ++ jdkStatics_1), d.before a0 Z = true) (n0 : Nat) (h0 : Heap) (S1 : Sta Z Z.heap "java/lang/StringUTF16" "$assertionsDisabled" "Z" (.int 1)) (S2 : Sta Z Z.heap "java/lang/StringUTF16" "HI_BYTE_SHIFT" "I" (.int 0)) (S3 : Sta Z Z.heap "java/lang/StringUTF16" "LO_BYTE_SHIFT" "I" (.int 8)) (b : Addr) (x y0 y1 y2 y3 y4 y5 y6 y7 : Int32) (g_b : n0 ≤ b) (O : Old Z n0 h0) (V_b : Arl Z h0 b .byte [(.int y0), (.int y1), (.int y2), (.int y3), (.int y4), (.int y5), (.int y6), (.int y7)]) :
    Ctr l Z (⟨"java/lang/StringUTF16", "putChar", "([BII)V"⟩ : MethodName) jdk_52_method_4_code 3 none ({ frames := 0, cells := 0, slots := 0, locals := 0 } : Room) #[(.ref b), (.int (3 : Int32)), (.int x)] h0 (fun v h L => v = none ∧ Fr n0 L ∧ Keep h0 h [b] ∧ Arl Z h b .byte [(.int y0), (.int y1), (.int y2), (.int y3), (.int y4), (.int y5), (.int ((x >>> ((0 : Int32) &&& 31)).toInt8.toInt32)), (.int ((x >>> ((8 : Int32) &&& 31)).toInt8.toInt32))]) := by
  refine Ctr.mk (plainFor_of_name pn_0) (ls := #[.val (.ref b), .val (.int (3 : Int32)), .val (.int x)]) (fun m => by first | (simp [entryFrame, mkF, argsToLocals, Value.category]; done) | rfl) ?_
  intro p e s m below meth c T C X eT hs0
  have N := Fr.nil n0
  have KP := Keep.refl h0 [b]
  show Go p e below _ (T.setTop (mkF m 0 #[.val (.ref b), .val (.int (3 : Int32)), .val (.int x)] []))
  refine Go.getS C X eT (wd hw 100 rfl) Via.refl (S1.old O) d19_0 (n := 3) rfl ?_
  clear X eT
  intro T X eT
  refine Go.if0_ne C X d19_3 (n1 := 28) (n2 := 6) (by decide) (by decide) rfl (fun hc3 => ?_) (fun hc3 => ?_)
  · refine Go.iloadN C X d19_28 (n := 29) rfl rfl ?_
    refine Go.iconst C X d19_29 (n := 30) rfl (v := (1 : Int32)) rfl ?_
    refine Go.ishl C X d19_30 (n := 31) rfl ?_
    show Go p e below _ (T.setTop (mkF m 31 #[.val (.ref b), .val (.int (3 : Int32)), .val (.int x)] [(.int (6 : Int32))]))
    refine Go.istoreN C X d19_31 (n := 32) rfl (l' := #[.val (.ref b), .val (.int (6 : Int32)), .val (.int x)]) rfl ?_
    refine Go.aloadN C X d19_32 (n := 33) rfl rfl rfl ?_
    refine Go.iloadN C X d19_33 (n := 34) rfl rfl ?_
    refine Go.iinc C X d19_34 (n := 37) rfl (v := (1 : Int32)) rfl rfl (l' := #[.val (.ref b), .val (.int ((6 : Int32) + (1 : Int32))), .val (.int x)]) rfl ?_
    show Go p e below _ (T.setTop (mkF m 37 #[.val (.ref b), .val (.int (7 : Int32)), .val (.int x)] [(.int (6 : Int32)), (.ref b)]))
    refine Go.iloadN C X d19_37 (n := 38) rfl rfl ?_
    refine Go.getS C X eT (wd hw 101 rfl) Via.refl (S2.old O) d19_38 (n := 41) rfl ?_
    clear X eT
    intro T X eT
    refine Go.ishr C X d19_41 (n := 42) rfl ?_
    refine Go.i2b C X d19_42 (n := 43) rfl ?_
    refine Go.bastoreL C X eT V_b (i := 6) rfl (by simp) d19_43 (n := 44) rfl ?_
    clear X eT
    intro T h X eT W V_new
    replace KP := KP.wr W (Or.inl (List.mem_of_getElem? (i := 0) rfl))
    replace O := O.wr W g_b
    clear V_b
    rw [own_b8] at V_new
    have V_b : Arl Z h b .byte [(.int y0), (.int y1), (.int y2), (.int y3), (.int y4), (.int y5), (.int ((x >>> ((0 : Int32) &&& 31)).toInt8.toInt32)), (.int y7)] := V_new
    clear V_new
    replace N := Fr.snoc X N g_b
    refine Go.aloadN C X d19_44 (n := 45) rfl rfl rfl ?_
    refine Go.iloadN C X d19_45 (n := 46) rfl rfl ?_
    refine Go.iloadN C X d19_46 (n := 47) rfl rfl ?_
    refine Go.getS C X eT (wd hw 102 rfl) Via.refl (S3.old O) d19_47 (n := 50) rfl ?_
    clear X eT
    intro T X eT
    refine Go.ishr C X d19_50 (n := 51) rfl ?_
    refine Go.i2b C X d19_51 (n := 52) rfl ?_
    refine Go.bastoreL C X eT V_b (i := 7) rfl (by simp) d19_52 (n := 53) rfl ?_
    clear X eT
    intro T h X eT W V_new
    replace KP := KP.wr W (Or.inl (List.mem_of_getElem? (i := 0) rfl))
    replace O := O.wr W g_b
    clear V_b
    rw [own_b8] at V_new
    have V_b : Arl Z h b .byte [(.int y0), (.int y1), (.int y2), (.int y3), (.int y4), (.int y5), (.int ((x >>> ((0 : Int32) &&& 31)).toInt8.toInt32)), (.int ((x >>> ((8 : Int32) &&& 31)).toInt8.toInt32))] := V_new
    clear V_new
    replace N := Fr.snoc X N g_b
    refine Go.ret0 C X eT d19_53 (by decide) (by decide) ?_
    exact ⟨rfl, N, KP, V_b⟩
  · exact absurd hc3 (by decide)
theorem pd_1 : parseMethodDescriptor "(I)[B" = some ⟨[.int], some (.array .byte)⟩ := by decide +kernel
theorem pd_2 : parseMethodDescriptor "([BII)V" = some ⟨[(.array .byte), .int, .int], none⟩ := by decide +kernel
theorem d16_0 : decode jdk_52_method_14_code 0 = .ok (.iload_n 2, 1) := by decide +kernel
theorem d16_1 : decode jdk_52_method_14_code 1 = .ok (.invokestatic 107, 3) := by decide +kernel
theorem d16_4 : decode jdk_52_method_14_code 4 = .ok (.astore_n 3, 1) := by decide +kernel
theorem d16_5 : decode jdk_52_method_14_code 5 = .ok (.iconst 0, 1) := by decide +kernel
theorem d16_6 : decode jdk_52_method_14_code 6 = .ok (.istore 4, 2) := by decide +kernel
theorem d16_8 : decode jdk_52_method_14_code 8 = .ok (.iload 4, 2) := by decide +kernel
theorem d16_10 : decode jdk_52_method_14_code 10 = .ok (.iload_n 2, 1) := by decide +kernel
theorem d16_11 : decode jdk_52_method_14_code 11 = .ok (.if_icmp .ge 21, 3) := by decide +kernel
theorem d16_14 : decode jdk_52_method_14_code 14 = .ok (.aload_n 3, 1) := by decide +kernel
theorem d16_15 : decode jdk_52_method_14_code 15 = .ok (.iload 4, 2) := by decide +kernel
theorem d16_17 : decode jdk_52_method_14_code 17 = .ok (.aload_n 0, 1) := by decide +kernel
theorem d16_18 : decode jdk_52_method_14_code 18 = .ok (.iload_n 1, 1) := by decide +kernel
theorem d16_19 : decode jdk_52_method_14_code 19 = .ok (.caload, 1) := by decide +kernel
theorem d16_20 : decode jdk_52_method_14_code 20 = .ok (.invokestatic 111, 3) := by decide +kernel
theorem d16_23 : decode jdk_52_method_14_code 23 = .ok (.iinc 1 1, 3) := by decide +kernel
theorem d16_26 : decode jdk_52_method_14_code 26 = .ok (.iinc 4 1, 3) := by decide +kernel
theorem d16_29 : decode jdk_52_method_14_code 29 = .ok (.goto (-21), 3) := by decide +kernel
theorem d16_32 : decode jdk_52_method_14_code 32 = .ok (.aload_n 3, 1) := by decide +kernel
theorem d16_33 : decode jdk_52_method_14_code 33 = .ok (.areturn, 1) := by decide +kernel
set_option maxRecDepth 65536 in
set_option maxHeartbeats 40000000 in
theorem toBytes_4 (l : Launch) (Z : State) (a0 : Array Value) (hw : ∀ d ∈ (tables_1 ++ jdkStatics_1), d.before a0 Z = true) (n0 : Nat) (h0 : Heap) (S1 : Sta Z Z.heap "java/lang/StringUTF16" "$assertionsDisabled" "Z" (.int 1)) (S2 : Sta Z Z.heap "java/lang/StringUTF16" "HI_BYTE_SHIFT" "I" (.int 0)) (S3 : Sta Z Z.heap "java/lang/StringUTF16" "LO_BYTE_SHIFT" "I" (.int 8)) (a : Addr) (x0 x1 x2 x3 : Int32) (O : Old Z n0 h0) (V_a : Arl Z h0 a .char [(.int x0), (.int x1), (.int x2), (.int x3)]) :
    Ctr l Z (⟨"java/lang/StringUTF16", "toBytes", "([CII)[B"⟩ : MethodName) jdk_52_method_14_code 5 (some (.array .byte)) ({ frames := 2, cells := 1, slots := 8, locals := 24 } : Room) #[(.ref a), (.int (0 : Int32)), (.int (4 : Int32))] h0 (fun v h L => ∃ u, v = some (.ref u) ∧ Fr n0 L ∧ Keep h0 h [] ∧ h0.size ≤ u ∧ Arl Z h u .byte [(.int ((x0 >>> ((0 : Int32) &&& 31)).toInt8.toInt32)), (.int ((x0 >>> ((8 : Int32) &&& 31)).toInt8.toInt32)), (.int ((x1 >>> ((0 : Int32) &&& 31)).toInt8.toInt32)), (.int ((x1 >>> ((8 : Int32) &&& 31)).toInt8.toInt32)), (.int ((x2 >>> ((0 : Int32) &&& 31)).toInt8.toInt32)), (.int ((x2 >>> ((8 : Int32) &&& 31)).toInt8.toInt32)), (.int ((x3 >>> ((0 : Int32) &&& 31)).toInt8.toInt32)), (.int ((x3 >>> ((8 : Int32) &&& 31)).toInt8.toInt32))]) := by
  refine Ctr.mk (plainFor_of_name pn_0) (ls := #[.val (.ref a), .val (.int (0 : Int32)), .val (.int (4 : Int32)), .unset, .unset]) (fun m => by first | (simp [entryFrame, mkF, argsToLocals, Value.category]; done) | rfl) ?_
  intro p e s m below meth c T C X eT hs0
  have N := Fr.nil n0
  have KP := Keep.refl h0 []
  show Go p e below _ (T.setTop (mkF m 0 #[.val (.ref a), .val (.int (0 : Int32)), .val (.int (4 : Int32)), .unset, .unset] []))
  refine Go.iloadN C X d16_0 (n := 1) rfl rfl ?_
  refine Go.stat C X eT (argsL := [(.int (4 : Int32))]) (rest := []) (nbf_4 l Z a0 hw n0 _ O) (wd hw 90 rfl) (wd hw 91 rfl) (wd hw 18 rfl) (wd hw 92 rfl) (by decide) (lenOf pd_1 rfl) rfl d16_1 (n := 4) rfl rfl (by decide) (W := 0) rfl (by decide) (by decide) (by decide) ?_
  clear X eT
  intro T h v L X eT hQ
  obtain ⟨u, rfl, Nq, KK, s_u, V_u⟩ := hQ
  replace N := N.app Nq
  have ne_a_u : a ≠ u := Nat.ne_of_lt (Nat.lt_of_lt_of_le V_a.lt s_u)
  have g_u : n0 ≤ u := Nat.le_trans O.le s_u
  have sz_u : h0.size ≤ u := Nat.le_trans KP.1 s_u
  replace V_a := V_a.keep KK nin0
  replace KP := KP.trans KK all0
  replace O := O.keep KK all0
  show Go p e below _ (T.setTop (mkF m 4 #[.val (.ref a), .val (.int (0 : Int32)), .val (.int (4 : Int32)), .unset, .unset] [(.ref u)]))
  refine Go.astoreN C X d16_4 (n := 5) rfl rfl (l' := #[.val (.ref a), .val (.int (0 : Int32)), .val (.int (4 : Int32)), .val (.ref u), .unset]) rfl ?_
  refine Go.iconst C X d16_5 (n := 6) rfl (v := (0 : Int32)) rfl ?_
  refine Go.istore C X d16_6 (n := 8) rfl (l' := #[.val (.ref a), .val (.int (0 : Int32)), .val (.int (4 : Int32)), .val (.ref u), .val (.int (0 : Int32))]) rfl ?_
  refine Go.iload C X d16_8 (n := 10) rfl rfl ?_
  refine Go.iloadN C X d16_10 (n := 11) rfl rfl ?_
  refine Go.icmp_ge C X d16_11 (n1 := 32) (n2 := 14) (by decide) (by decide) rfl (fun hc11 => ?_) (fun hc11 => ?_)
  · exact absurd hc11 (by decide)
  · refine Go.aloadN C X d16_14 (n := 15) rfl rfl rfl ?_
    refine Go.iload C X d16_15 (n := 17) rfl rfl ?_
    refine Go.aloadN C X d16_17 (n := 18) rfl rfl rfl ?_
    refine Go.iloadN C X d16_18 (n := 19) rfl rfl ?_
    refine Go.caloadL C X eT V_a (i := 0) rfl (v := .int x0) rfl d16_19 (n := 20) rfl ?_
    refine Go.stat C X eT (argsL := [(.ref u), (.int (0 : Int32)), (.int x0)]) (rest := []) (putChar_4_0 l Z a0 hw n0 _ S1 S2 S3 u x0 (0 : Int32) (0 : Int32) (0 : Int32) (0 : Int32) (0 : Int32) (0 : Int32) (0 : Int32) (0 : Int32) g_u O V_u) (wd hw 97 rfl) (wd hw 98 rfl) (wd hw 18 rfl) (wd hw 99 rfl) (by decide) (lenOf pd_2 rfl) rfl d16_20 (n := 23) rfl rfl (by decide) (W := 0) rfl (by decide) (by decide) (by decide) ?_
    clear X eT
    intro T h v L X eT hQ
    obtain ⟨rfl, Nq, KK, V_u⟩ := hQ
    replace N := N.app Nq
    replace V_a := V_a.keep KK (ninS ne_a_u nin0)
    replace KP := KP.trans KK (allS (Or.inr sz_u) all0)
    replace O := O.keep KK (allS g_u all0)
    show Go p e below _ (T.setTop (mkF m 23 #[.val (.ref a), .val (.int (0 : Int32)), .val (.int (4 : Int32)), .val (.ref u), .val (.int (0 : Int32))] []))
    refine Go.iinc C X d16_23 (n := 26) rfl (v := (1 : Int32)) rfl rfl (l' := #[.val (.ref a), .val (.int ((0 : Int32) + (1 : Int32))), .val (.int (4 : Int32)), .val (.ref u), .val (.int (0 : Int32))]) rfl ?_
    show Go p e below _ (T.setTop (mkF m 26 #[.val (.ref a), .val (.int (1 : Int32)), .val (.int (4 : Int32)), .val (.ref u), .val (.int (0 : Int32))] []))
    refine Go.iinc C X d16_26 (n := 29) rfl (v := (1 : Int32)) rfl rfl (l' := #[.val (.ref a), .val (.int (1 : Int32)), .val (.int (4 : Int32)), .val (.ref u), .val (.int ((0 : Int32) + (1 : Int32)))]) rfl ?_
    show Go p e below _ (T.setTop (mkF m 29 #[.val (.ref a), .val (.int (1 : Int32)), .val (.int (4 : Int32)), .val (.ref u), .val (.int (1 : Int32))] []))
    refine Go.goto C X d16_29 (n := 8) (by decide) (by decide) ?_
    refine Go.iload C X d16_8 (n := 10) rfl rfl ?_
    refine Go.iloadN C X d16_10 (n := 11) rfl rfl ?_
    refine Go.icmp_ge C X d16_11 (n1 := 32) (n2 := 14) (by decide) (by decide) rfl (fun hc11 => ?_) (fun hc11 => ?_)
    · exact absurd hc11 (by decide)
    · refine Go.aloadN C X d16_14 (n := 15) rfl rfl rfl ?_
      refine Go.iload C X d16_15 (n := 17) rfl rfl ?_
      refine Go.aloadN C X d16_17 (n := 18) rfl rfl rfl ?_
      refine Go.iloadN C X d16_18 (n := 19) rfl rfl ?_
      refine Go.caloadL C X eT V_a (i := 1) rfl (v := .int x1) rfl d16_19 (n := 20) rfl ?_
      refine Go.stat C X eT (argsL := [(.ref u), (.int (1 : Int32)), (.int x1)]) (rest := []) (putChar_4_1 l Z a0 hw n0 _ S1 S2 S3 u x1 ((x0 >>> ((0 : Int32) &&& 31)).toInt8.toInt32) ((x0 >>> ((8 : Int32) &&& 31)).toInt8.toInt32) (0 : Int32) (0 : Int32) (0 : Int32) (0 : Int32) (0 : Int32) (0 : Int32) g_u O V_u) (wd hw 97 rfl) (wd hw 98 rfl) (wd hw 18 rfl) (wd hw 99 rfl) (by decide) (lenOf pd_2 rfl) rfl d16_20 (n := 23) rfl rfl (by decide) (W := 0) rfl (by decide) (by decide) (by decide) ?_
      clear X eT
      intro T h v L X eT hQ
      obtain ⟨rfl, Nq, KK, V_u⟩ := hQ
      replace N := N.app Nq
      replace V_a := V_a.keep KK (ninS ne_a_u nin0)
      replace KP := KP.trans KK (allS (Or.inr sz_u) all0)
      replace O := O.keep KK (allS g_u all0)
      show Go p e below _ (T.setTop (mkF m 23 #[.val (.ref a), .val (.int (1 : Int32)), .val (.int (4 : Int32)), .val (.ref u), .val (.int (1 : Int32))] []))
      refine Go.iinc C X d16_23 (n := 26) rfl (v := (1 : Int32)) rfl rfl (l' := #[.val (.ref a), .val (.int ((1 : Int32) + (1 : Int32))), .val (.int (4 : Int32)), .val (.ref u), .val (.int (1 : Int32))]) rfl ?_
      show Go p e below _ (T.setTop (mkF m 26 #[.val (.ref a), .val (.int (2 : Int32)), .val (.int (4 : Int32)), .val (.ref u), .val (.int (1 : Int32))] []))
      refine Go.iinc C X d16_26 (n := 29) rfl (v := (1 : Int32)) rfl rfl (l' := #[.val (.ref a), .val (.int (2 : Int32)), .val (.int (4 : Int32)), .val (.ref u), .val (.int ((1 : Int32) + (1 : Int32)))]) rfl ?_
      show Go p e below _ (T.setTop (mkF m 29 #[.val (.ref a), .val (.int (2 : Int32)), .val (.int (4 : Int32)), .val (.ref u), .val (.int (2 : Int32))] []))
      refine Go.goto C X d16_29 (n := 8) (by decide) (by decide) ?_
      refine Go.iload C X d16_8 (n := 10) rfl rfl ?_
      refine Go.iloadN C X d16_10 (n := 11) rfl rfl ?_
      refine Go.icmp_ge C X d16_11 (n1 := 32) (n2 := 14) (by decide) (by decide) rfl (fun hc11 => ?_) (fun hc11 => ?_)
      · exact absurd hc11 (by decide)
      · refine Go.aloadN C X d16_14 (n := 15) rfl rfl rfl ?_
        refine Go.iload C X d16_15 (n := 17) rfl rfl ?_
        refine Go.aloadN C X d16_17 (n := 18) rfl rfl rfl ?_
        refine Go.iloadN C X d16_18 (n := 19) rfl rfl ?_
        refine Go.caloadL C X eT V_a (i := 2) rfl (v := .int x2) rfl d16_19 (n := 20) rfl ?_
        refine Go.stat C X eT (argsL := [(.ref u), (.int (2 : Int32)), (.int x2)]) (rest := []) (putChar_4_2 l Z a0 hw n0 _ S1 S2 S3 u x2 ((x0 >>> ((0 : Int32) &&& 31)).toInt8.toInt32) ((x0 >>> ((8 : Int32) &&& 31)).toInt8.toInt32) ((x1 >>> ((0 : Int32) &&& 31)).toInt8.toInt32) ((x1 >>> ((8 : Int32) &&& 31)).toInt8.toInt32) (0 : Int32) (0 : Int32) (0 : Int32) (0 : Int32) g_u O V_u) (wd hw 97 rfl) (wd hw 98 rfl) (wd hw 18 rfl) (wd hw 99 rfl) (by decide) (lenOf pd_2 rfl) rfl d16_20 (n := 23) rfl rfl (by decide) (W := 0) rfl (by decide) (by decide) (by decide) ?_
        clear X eT
        intro T h v L X eT hQ
        obtain ⟨rfl, Nq, KK, V_u⟩ := hQ
        replace N := N.app Nq
        replace V_a := V_a.keep KK (ninS ne_a_u nin0)
        replace KP := KP.trans KK (allS (Or.inr sz_u) all0)
        replace O := O.keep KK (allS g_u all0)
        show Go p e below _ (T.setTop (mkF m 23 #[.val (.ref a), .val (.int (2 : Int32)), .val (.int (4 : Int32)), .val (.ref u), .val (.int (2 : Int32))] []))
        refine Go.iinc C X d16_23 (n := 26) rfl (v := (1 : Int32)) rfl rfl (l' := #[.val (.ref a), .val (.int ((2 : Int32) + (1 : Int32))), .val (.int (4 : Int32)), .val (.ref u), .val (.int (2 : Int32))]) rfl ?_
        show Go p e below _ (T.setTop (mkF m 26 #[.val (.ref a), .val (.int (3 : Int32)), .val (.int (4 : Int32)), .val (.ref u), .val (.int (2 : Int32))] []))
        refine Go.iinc C X d16_26 (n := 29) rfl (v := (1 : Int32)) rfl rfl (l' := #[.val (.ref a), .val (.int (3 : Int32)), .val (.int (4 : Int32)), .val (.ref u), .val (.int ((2 : Int32) + (1 : Int32)))]) rfl ?_
        show Go p e below _ (T.setTop (mkF m 29 #[.val (.ref a), .val (.int (3 : Int32)), .val (.int (4 : Int32)), .val (.ref u), .val (.int (3 : Int32))] []))
        refine Go.goto C X d16_29 (n := 8) (by decide) (by decide) ?_
        refine Go.iload C X d16_8 (n := 10) rfl rfl ?_
        refine Go.iloadN C X d16_10 (n := 11) rfl rfl ?_
        refine Go.icmp_ge C X d16_11 (n1 := 32) (n2 := 14) (by decide) (by decide) rfl (fun hc11 => ?_) (fun hc11 => ?_)
        · exact absurd hc11 (by decide)
        · refine Go.aloadN C X d16_14 (n := 15) rfl rfl rfl ?_
          refine Go.iload C X d16_15 (n := 17) rfl rfl ?_
          refine Go.aloadN C X d16_17 (n := 18) rfl rfl rfl ?_
          refine Go.iloadN C X d16_18 (n := 19) rfl rfl ?_
          refine Go.caloadL C X eT V_a (i := 3) rfl (v := .int x3) rfl d16_19 (n := 20) rfl ?_
          refine Go.stat C X eT (argsL := [(.ref u), (.int (3 : Int32)), (.int x3)]) (rest := []) (putChar_4_3 l Z a0 hw n0 _ S1 S2 S3 u x3 ((x0 >>> ((0 : Int32) &&& 31)).toInt8.toInt32) ((x0 >>> ((8 : Int32) &&& 31)).toInt8.toInt32) ((x1 >>> ((0 : Int32) &&& 31)).toInt8.toInt32) ((x1 >>> ((8 : Int32) &&& 31)).toInt8.toInt32) ((x2 >>> ((0 : Int32) &&& 31)).toInt8.toInt32) ((x2 >>> ((8 : Int32) &&& 31)).toInt8.toInt32) (0 : Int32) (0 : Int32) g_u O V_u) (wd hw 97 rfl) (wd hw 98 rfl) (wd hw 18 rfl) (wd hw 99 rfl) (by decide) (lenOf pd_2 rfl) rfl d16_20 (n := 23) rfl rfl (by decide) (W := 0) rfl (by decide) (by decide) (by decide) ?_
          clear X eT
          intro T h v L X eT hQ
          obtain ⟨rfl, Nq, KK, V_u⟩ := hQ
          replace N := N.app Nq
          replace V_a := V_a.keep KK (ninS ne_a_u nin0)
          replace KP := KP.trans KK (allS (Or.inr sz_u) all0)
          replace O := O.keep KK (allS g_u all0)
          show Go p e below _ (T.setTop (mkF m 23 #[.val (.ref a), .val (.int (3 : Int32)), .val (.int (4 : Int32)), .val (.ref u), .val (.int (3 : Int32))] []))
          refine Go.iinc C X d16_23 (n := 26) rfl (v := (1 : Int32)) rfl rfl (l' := #[.val (.ref a), .val (.int ((3 : Int32) + (1 : Int32))), .val (.int (4 : Int32)), .val (.ref u), .val (.int (3 : Int32))]) rfl ?_
          show Go p e below _ (T.setTop (mkF m 26 #[.val (.ref a), .val (.int (4 : Int32)), .val (.int (4 : Int32)), .val (.ref u), .val (.int (3 : Int32))] []))
          refine Go.iinc C X d16_26 (n := 29) rfl (v := (1 : Int32)) rfl rfl (l' := #[.val (.ref a), .val (.int (4 : Int32)), .val (.int (4 : Int32)), .val (.ref u), .val (.int ((3 : Int32) + (1 : Int32)))]) rfl ?_
          show Go p e below _ (T.setTop (mkF m 29 #[.val (.ref a), .val (.int (4 : Int32)), .val (.int (4 : Int32)), .val (.ref u), .val (.int (4 : Int32))] []))
          refine Go.goto C X d16_29 (n := 8) (by decide) (by decide) ?_
          refine Go.iload C X d16_8 (n := 10) rfl rfl ?_
          refine Go.iloadN C X d16_10 (n := 11) rfl rfl ?_
          refine Go.icmp_ge C X d16_11 (n1 := 32) (n2 := 14) (by decide) (by decide) rfl (fun hc11 => ?_) (fun hc11 => ?_)
          · refine Go.aloadN C X d16_32 (n := 33) rfl rfl rfl ?_
            refine Go.retA C X eT rfl rfl rfl d16_33 (by decide) (by decide) ?_
            exact ⟨u, rfl, N, KP, sz_u, V_u⟩
          · exact absurd hc11 (by decide)
theorem d20_0 : decode jdk_52_method_5_code 0 = .ok (.getstatic 44, 3) := by decide +kernel
theorem d20_3 : decode jdk_52_method_5_code 3 = .ok (.ifCond .ne 25, 3) := by decide +kernel
theorem d20_6 : decode jdk_52_method_5_code 6 = .ok (.iload_n 1, 1) := by decide +kernel
theorem d20_7 : decode jdk_52_method_5_code 7 = .ok (.ifCond .lt 11, 3) := by decide +kernel
theorem d20_10 : decode jdk_52_method_5_code 10 = .ok (.iload_n 1, 1) := by decide +kernel
theorem d20_11 : decode jdk_52_method_5_code 11 = .ok (.aload_n 0, 1) := by decide +kernel
theorem d20_12 : decode jdk_52_method_5_code 12 = .ok (.invokestatic 48, 3) := by decide +kernel
theorem d20_15 : decode jdk_52_method_5_code 15 = .ok (.if_icmp .lt 13, 3) := by decide +kernel
theorem d20_18 : decode jdk_52_method_5_code 18 = .ok (.new 52, 3) := by decide +kernel
theorem d20_21 : decode jdk_52_method_5_code 21 = .ok (.dup, 1) := by decide +kernel
theorem d20_22 : decode jdk_52_method_5_code 22 = .ok (.ldc 54, 2) := by decide +kernel
theorem d20_24 : decode jdk_52_method_5_code 24 = .ok (.invokespecial 56, 3) := by decide +kernel
theorem d20_27 : decode jdk_52_method_5_code 27 = .ok (.athrow, 1) := by decide +kernel
theorem d20_28 : decode jdk_52_method_5_code 28 = .ok (.iload_n 1, 1) := by decide +kernel
theorem d20_29 : decode jdk_52_method_5_code 29 = .ok (.iconst 1, 1) := by decide +kernel
theorem d20_30 : decode jdk_52_method_5_code 30 = .ok (.ishl, 1) := by decide +kernel
theorem d20_31 : decode jdk_52_method_5_code 31 = .ok (.istore_n 1, 1) := by decide +kernel
theorem d20_32 : decode jdk_52_method_5_code 32 = .ok (.aload_n 0, 1) := by decide +kernel
theorem d20_33 : decode jdk_52_method_5_code 33 = .ok (.iload_n 1, 1) := by decide +kernel
theorem d20_34 : decode jdk_52_method_5_code 34 = .ok (.iinc 1 1, 3) := by decide +kernel
theorem d20_37 : decode jdk_52_method_5_code 37 = .ok (.baload, 1) := by decide +kernel
theorem d20_38 : decode jdk_52_method_5_code 38 = .ok (.sipush 255, 3) := by decide +kernel
theorem d20_41 : decode jdk_52_method_5_code 41 = .ok (.iand, 1) := by decide +kernel
theorem d20_42 : decode jdk_52_method_5_code 42 = .ok (.getstatic 59, 3) := by decide +kernel
theorem d20_45 : decode jdk_52_method_5_code 45 = .ok (.ishl, 1) := by decide +kernel
theorem d20_46 : decode jdk_52_method_5_code 46 = .ok (.aload_n 0, 1) := by decide +kernel
theorem d20_47 : decode jdk_52_method_5_code 47 = .ok (.iload_n 1, 1) := by decide +kernel
theorem d20_48 : decode jdk_52_method_5_code 48 = .ok (.baload, 1) := by decide +kernel
theorem d20_49 : decode jdk_52_method_5_code 49 = .ok (.sipush 255, 3) := by decide +kernel
theorem d20_52 : decode jdk_52_method_5_code 52 = .ok (.iand, 1) := by decide +kernel
theorem d20_53 : decode jdk_52_method_5_code 53 = .ok (.getstatic 63, 3) := by decide +kernel
theorem d20_56 : decode jdk_52_method_5_code 56 = .ok (.ishl, 1) := by decide +kernel
theorem d20_57 : decode jdk_52_method_5_code 57 = .ok (.ior, 1) := by decide +kernel
theorem d20_58 : decode jdk_52_method_5_code 58 = .ok (.i2c, 1) := by decide +kernel
theorem d20_59 : decode jdk_52_method_5_code 59 = .ok (.ireturn, 1) := by decide +kernel
set_option maxRecDepth 65536 in
set_option maxHeartbeats 40000000 in
theorem getChar_4_0 (l : Launch) (Z : State) (a0 : Array Value) (hw : ∀ d ∈ (tables_1 ++ jdkStatics_1), d.before a0 Z = true) (n0 : Nat) (h0 : Heap) (S1 : Sta Z Z.heap "java/lang/StringUTF16" "$assertionsDisabled" "Z" (.int 1)) (S2 : Sta Z Z.heap "java/lang/StringUTF16" "HI_BYTE_SHIFT" "I" (.int 0)) (S3 : Sta Z Z.heap "java/lang/StringUTF16" "LO_BYTE_SHIFT" "I" (.int 8)) (u : Addr) (x0 x1 x2 x3 : Int32) (r0 : 0 ≤ x0.toInt ∧ x0.toInt < 65536) (O : Old Z n0 h0) (V_u : Arl Z h0 u .byte [(.int ((x0 >>> ((0 : Int32) &&& 31)).toInt8.toInt32)), (.int ((x0 >>> ((8 : Int32) &&& 31)).toInt8.toInt32)), (.int ((x1 >>> ((0 : Int32) &&& 31)).toInt8.toInt32)), (.int ((x1 >>> ((8 : Int32) &&& 31)).toInt8.toInt32)), (.int ((x2 >>> ((0 : Int32) &&& 31)).toInt8.toInt32)), (.int ((x2 >>> ((8 : Int32) &&& 31)).toInt8.toInt32)), (.int ((x3 >>> ((0 : Int32) &&& 31)).toInt8.toInt32)), (.int ((x3 >>> ((8 : Int32) &&& 31)).toInt8.toInt32))]) :
    Ctr l Z (⟨"java/lang/StringUTF16", "getChar", "([BI)C"⟩ : MethodName) jdk_52_method_5_code 2 (some .char) ({ frames := 0, cells := 0, slots := 0, locals := 0 } : Room) #[(.ref u), (.int (0 : Int32))] h0 (fun v h L => v = some (.int x0) ∧ L = [] ∧ h = h0) := by
  refine Ctr.mk (plainFor_of_name pn_0) (ls := #[.val (.ref u), .val (.int (0 : Int32))]) (fun m => by first | (simp [entryFrame, mkF, argsToLocals, Value.category]; done) | rfl) ?_
  intro p e s m below meth c T C X eT hs0
  have N := Fr.nil n0
  show Go p e below _ (T.setTop (mkF m 0 #[.val (.ref u), .val (.int (0 : Int32))] []))
  refine Go.getS C X eT (wd hw 100 rfl) Via.refl (S1.old O) d20_0 (n := 3) rfl ?_
  clear X eT
  intro T X eT
  refine Go.if0_ne C X d20_3 (n1 := 28) (n2 := 6) (by decide) (by decide) rfl (fun hc3 => ?_) (fun hc3 => ?_)
  · refine Go.iloadN C X d20_28 (n := 29) rfl rfl ?_
    refine Go.iconst C X d20_29 (n := 30) rfl (v := (1 : Int32)) rfl ?_
    refine Go.ishl C X d20_30 (n := 31) rfl ?_
    show Go p e below _ (T.setTop (mkF m 31 #[.val (.ref u), .val (.int (0 : Int32))] [(.int (0 : Int32))]))
    refine Go.istoreN C X d20_31 (n := 32) rfl (l' := #[.val (.ref u), .val (.int (0 : Int32))]) rfl ?_
    refine Go.aloadN C X d20_32 (n := 33) rfl rfl rfl ?_
    refine Go.iloadN C X d20_33 (n := 34) rfl rfl ?_
    refine Go.iinc C X d20_34 (n := 37) rfl (v := (1 : Int32)) rfl rfl (l' := #[.val (.ref u), .val (.int ((0 : Int32) + (1 : Int32)))]) rfl ?_
    show Go p e below _ (T.setTop (mkF m 37 #[.val (.ref u), .val (.int (1 : Int32))] [(.int (0 : Int32)), (.ref u)]))
    refine Go.baloadL C X eT V_u (i := 0) rfl (v := .int ((x0 >>> ((0 : Int32) &&& 31)).toInt8.toInt32)) rfl d20_37 (n := 38) rfl ?_
    refine Go.sipush C X d20_38 (n := 41) rfl (v := (255 : Int32)) rfl ?_
    refine Go.iand C X d20_41 (n := 42) rfl ?_
    refine Go.getS C X eT (wd hw 101 rfl) Via.refl (S2.old O) d20_42 (n := 45) rfl ?_
    clear X eT
    intro T X eT
    refine Go.ishl C X d20_45 (n := 46) rfl ?_
    refine Go.aloadN C X d20_46 (n := 47) rfl rfl rfl ?_
    refine Go.iloadN C X d20_47 (n := 48) rfl rfl ?_
    refine Go.baloadL C X eT V_u (i := 1) rfl (v := .int ((x0 >>> ((8 : Int32) &&& 31)).toInt8.toInt32)) rfl d20_48 (n := 49) rfl ?_
    refine Go.sipush C X d20_49 (n := 52) rfl (v := (255 : Int32)) rfl ?_
    refine Go.iand C X d20_52 (n := 53) rfl ?_
    refine Go.getS C X eT (wd hw 102 rfl) Via.refl (S3.old O) d20_53 (n := 56) rfl ?_
    clear X eT
    intro T X eT
    refine Go.ishl C X d20_56 (n := 57) rfl ?_
    refine Go.ior C X d20_57 (n := 58) rfl ?_
    refine Go.i2c C X d20_58 (n := 59) rfl ?_
    refine Go.retN C X eT (Or.inr (Or.inr (Or.inl rfl))) (w := x0) (own_gc r0) d20_59 (by decide) (by decide) ?_
    exact ⟨rfl, rfl, rfl⟩
  · exact absurd hc3 (by decide)
set_option maxRecDepth 65536 in
set_option maxHeartbeats 40000000 in
theorem getChar_4_1 (l : Launch) (Z : State) (a0 : Array Value) (hw : ∀ d ∈ (tables_1 ++ jdkStatics_1), d.before a0 Z = true) (n0 : Nat) (h0 : Heap) (S1 : Sta Z Z.heap "java/lang/StringUTF16" "$assertionsDisabled" "Z" (.int 1)) (S2 : Sta Z Z.heap "java/lang/StringUTF16" "HI_BYTE_SHIFT" "I" (.int 0)) (S3 : Sta Z Z.heap "java/lang/StringUTF16" "LO_BYTE_SHIFT" "I" (.int 8)) (u : Addr) (x0 x1 x2 x3 : Int32) (r1 : 0 ≤ x1.toInt ∧ x1.toInt < 65536) (O : Old Z n0 h0) (V_u : Arl Z h0 u .byte [(.int ((x0 >>> ((0 : Int32) &&& 31)).toInt8.toInt32)), (.int ((x0 >>> ((8 : Int32) &&& 31)).toInt8.toInt32)), (.int ((x1 >>> ((0 : Int32) &&& 31)).toInt8.toInt32)), (.int ((x1 >>> ((8 : Int32) &&& 31)).toInt8.toInt32)), (.int ((x2 >>> ((0 : Int32) &&& 31)).toInt8.toInt32)), (.int ((x2 >>> ((8 : Int32) &&& 31)).toInt8.toInt32)), (.int ((x3 >>> ((0 : Int32) &&& 31)).toInt8.toInt32)), (.int ((x3 >>> ((8 : Int32) &&& 31)).toInt8.toInt32))]) :
    Ctr l Z (⟨"java/lang/StringUTF16", "getChar", "([BI)C"⟩ : MethodName) jdk_52_method_5_code 2 (some .char) ({ frames := 0, cells := 0, slots := 0, locals := 0 } : Room) #[(.ref u), (.int (1 : Int32))] h0 (fun v h L => v = some (.int x1) ∧ L = [] ∧ h = h0) := by
  refine Ctr.mk (plainFor_of_name pn_0) (ls := #[.val (.ref u), .val (.int (1 : Int32))]) (fun m => by first | (simp [entryFrame, mkF, argsToLocals, Value.category]; done) | rfl) ?_
  intro p e s m below meth c T C X eT hs0
  have N := Fr.nil n0
  show Go p e below _ (T.setTop (mkF m 0 #[.val (.ref u), .val (.int (1 : Int32))] []))
  refine Go.getS C X eT (wd hw 100 rfl) Via.refl (S1.old O) d20_0 (n := 3) rfl ?_
  clear X eT
  intro T X eT
  refine Go.if0_ne C X d20_3 (n1 := 28) (n2 := 6) (by decide) (by decide) rfl (fun hc3 => ?_) (fun hc3 => ?_)
  · refine Go.iloadN C X d20_28 (n := 29) rfl rfl ?_
    refine Go.iconst C X d20_29 (n := 30) rfl (v := (1 : Int32)) rfl ?_
    refine Go.ishl C X d20_30 (n := 31) rfl ?_
    show Go p e below _ (T.setTop (mkF m 31 #[.val (.ref u), .val (.int (1 : Int32))] [(.int (2 : Int32))]))
    refine Go.istoreN C X d20_31 (n := 32) rfl (l' := #[.val (.ref u), .val (.int (2 : Int32))]) rfl ?_
    refine Go.aloadN C X d20_32 (n := 33) rfl rfl rfl ?_
    refine Go.iloadN C X d20_33 (n := 34) rfl rfl ?_
    refine Go.iinc C X d20_34 (n := 37) rfl (v := (1 : Int32)) rfl rfl (l' := #[.val (.ref u), .val (.int ((2 : Int32) + (1 : Int32)))]) rfl ?_
    show Go p e below _ (T.setTop (mkF m 37 #[.val (.ref u), .val (.int (3 : Int32))] [(.int (2 : Int32)), (.ref u)]))
    refine Go.baloadL C X eT V_u (i := 2) rfl (v := .int ((x1 >>> ((0 : Int32) &&& 31)).toInt8.toInt32)) rfl d20_37 (n := 38) rfl ?_
    refine Go.sipush C X d20_38 (n := 41) rfl (v := (255 : Int32)) rfl ?_
    refine Go.iand C X d20_41 (n := 42) rfl ?_
    refine Go.getS C X eT (wd hw 101 rfl) Via.refl (S2.old O) d20_42 (n := 45) rfl ?_
    clear X eT
    intro T X eT
    refine Go.ishl C X d20_45 (n := 46) rfl ?_
    refine Go.aloadN C X d20_46 (n := 47) rfl rfl rfl ?_
    refine Go.iloadN C X d20_47 (n := 48) rfl rfl ?_
    refine Go.baloadL C X eT V_u (i := 3) rfl (v := .int ((x1 >>> ((8 : Int32) &&& 31)).toInt8.toInt32)) rfl d20_48 (n := 49) rfl ?_
    refine Go.sipush C X d20_49 (n := 52) rfl (v := (255 : Int32)) rfl ?_
    refine Go.iand C X d20_52 (n := 53) rfl ?_
    refine Go.getS C X eT (wd hw 102 rfl) Via.refl (S3.old O) d20_53 (n := 56) rfl ?_
    clear X eT
    intro T X eT
    refine Go.ishl C X d20_56 (n := 57) rfl ?_
    refine Go.ior C X d20_57 (n := 58) rfl ?_
    refine Go.i2c C X d20_58 (n := 59) rfl ?_
    refine Go.retN C X eT (Or.inr (Or.inr (Or.inl rfl))) (w := x1) (own_gc r1) d20_59 (by decide) (by decide) ?_
    exact ⟨rfl, rfl, rfl⟩
  · exact absurd hc3 (by decide)
set_option maxRecDepth 65536 in
set_option maxHeartbeats 40000000 in
theorem getChar_4_2 (l : Launch) (Z : State) (a0 : Array Value) (hw : ∀ d ∈ (tables_1 ++ jdkStatics_1), d.before a0 Z = true) (n0 : Nat) (h0 : Heap) (S1 : Sta Z Z.heap "java/lang/StringUTF16" "$assertionsDisabled" "Z" (.int 1)) (S2 : Sta Z Z.heap "java/lang/StringUTF16" "HI_BYTE_SHIFT" "I" (.int 0)) (S3 : Sta Z Z.heap "java/lang/StringUTF16" "LO_BYTE_SHIFT" "I" (.int 8)) (u : Addr) (x0 x1 x2 x3 : Int32) (r2 : 0 ≤ x2.toInt ∧ x2.toInt < 65536) (O : Old Z n0 h0) (V_u : Arl Z h0 u .byte [(.int ((x0 >>> ((0 : Int32) &&& 31)).toInt8.toInt32)), (.int ((x0 >>> ((8 : Int32) &&& 31)).toInt8.toInt32)), (.int ((x1 >>> ((0 : Int32) &&& 31)).toInt8.toInt32)), (.int ((x1 >>> ((8 : Int32) &&& 31)).toInt8.toInt32)), (.int ((x2 >>> ((0 : Int32) &&& 31)).toInt8.toInt32)), (.int ((x2 >>> ((8 : Int32) &&& 31)).toInt8.toInt32)), (.int ((x3 >>> ((0 : Int32) &&& 31)).toInt8.toInt32)), (.int ((x3 >>> ((8 : Int32) &&& 31)).toInt8.toInt32))]) :
    Ctr l Z (⟨"java/lang/StringUTF16", "getChar", "([BI)C"⟩ : MethodName) jdk_52_method_5_code 2 (some .char) ({ frames := 0, cells := 0, slots := 0, locals := 0 } : Room) #[(.ref u), (.int (2 : Int32))] h0 (fun v h L => v = some (.int x2) ∧ L = [] ∧ h = h0) := by
  refine Ctr.mk (plainFor_of_name pn_0) (ls := #[.val (.ref u), .val (.int (2 : Int32))]) (fun m => by first | (simp [entryFrame, mkF, argsToLocals, Value.category]; done) | rfl) ?_
  intro p e s m below meth c T C X eT hs0
  have N := Fr.nil n0
  show Go p e below _ (T.setTop (mkF m 0 #[.val (.ref u), .val (.int (2 : Int32))] []))
  refine Go.getS C X eT (wd hw 100 rfl) Via.refl (S1.old O) d20_0 (n := 3) rfl ?_
  clear X eT
  intro T X eT
  refine Go.if0_ne C X d20_3 (n1 := 28) (n2 := 6) (by decide) (by decide) rfl (fun hc3 => ?_) (fun hc3 => ?_)
  · refine Go.iloadN C X d20_28 (n := 29) rfl rfl ?_
    refine Go.iconst C X d20_29 (n := 30) rfl (v := (1 : Int32)) rfl ?_
    refine Go.ishl C X d20_30 (n := 31) rfl ?_
    show Go p e below _ (T.setTop (mkF m 31 #[.val (.ref u), .val (.int (2 : Int32))] [(.int (4 : Int32))]))
    refine Go.istoreN C X d20_31 (n := 32) rfl (l' := #[.val (.ref u), .val (.int (4 : Int32))]) rfl ?_
    refine Go.aloadN C X d20_32 (n := 33) rfl rfl rfl ?_
    refine Go.iloadN C X d20_33 (n := 34) rfl rfl ?_
    refine Go.iinc C X d20_34 (n := 37) rfl (v := (1 : Int32)) rfl rfl (l' := #[.val (.ref u), .val (.int ((4 : Int32) + (1 : Int32)))]) rfl ?_
    show Go p e below _ (T.setTop (mkF m 37 #[.val (.ref u), .val (.int (5 : Int32))] [(.int (4 : Int32)), (.ref u)]))
    refine Go.baloadL C X eT V_u (i := 4) rfl (v := .int ((x2 >>> ((0 : Int32) &&& 31)).toInt8.toInt32)) rfl d20_37 (n := 38) rfl ?_
    refine Go.sipush C X d20_38 (n := 41) rfl (v := (255 : Int32)) rfl ?_
    refine Go.iand C X d20_41 (n := 42) rfl ?_
    refine Go.getS C X eT (wd hw 101 rfl) Via.refl (S2.old O) d20_42 (n := 45) rfl ?_
    clear X eT
    intro T X eT
    refine Go.ishl C X d20_45 (n := 46) rfl ?_
    refine Go.aloadN C X d20_46 (n := 47) rfl rfl rfl ?_
    refine Go.iloadN C X d20_47 (n := 48) rfl rfl ?_
    refine Go.baloadL C X eT V_u (i := 5) rfl (v := .int ((x2 >>> ((8 : Int32) &&& 31)).toInt8.toInt32)) rfl d20_48 (n := 49) rfl ?_
    refine Go.sipush C X d20_49 (n := 52) rfl (v := (255 : Int32)) rfl ?_
    refine Go.iand C X d20_52 (n := 53) rfl ?_
    refine Go.getS C X eT (wd hw 102 rfl) Via.refl (S3.old O) d20_53 (n := 56) rfl ?_
    clear X eT
    intro T X eT
    refine Go.ishl C X d20_56 (n := 57) rfl ?_
    refine Go.ior C X d20_57 (n := 58) rfl ?_
    refine Go.i2c C X d20_58 (n := 59) rfl ?_
    refine Go.retN C X eT (Or.inr (Or.inr (Or.inl rfl))) (w := x2) (own_gc r2) d20_59 (by decide) (by decide) ?_
    exact ⟨rfl, rfl, rfl⟩
  · exact absurd hc3 (by decide)
set_option maxRecDepth 65536 in
set_option maxHeartbeats 40000000 in
theorem getChar_4_3 (l : Launch) (Z : State) (a0 : Array Value) (hw : ∀ d ∈ (tables_1 ++ jdkStatics_1), d.before a0 Z = true) (n0 : Nat) (h0 : Heap) (S1 : Sta Z Z.heap "java/lang/StringUTF16" "$assertionsDisabled" "Z" (.int 1)) (S2 : Sta Z Z.heap "java/lang/StringUTF16" "HI_BYTE_SHIFT" "I" (.int 0)) (S3 : Sta Z Z.heap "java/lang/StringUTF16" "LO_BYTE_SHIFT" "I" (.int 8)) (u : Addr) (x0 x1 x2 x3 : Int32) (r3 : 0 ≤ x3.toInt ∧ x3.toInt < 65536) (O : Old Z n0 h0) (V_u : Arl Z h0 u .byte [(.int ((x0 >>> ((0 : Int32) &&& 31)).toInt8.toInt32)), (.int ((x0 >>> ((8 : Int32) &&& 31)).toInt8.toInt32)), (.int ((x1 >>> ((0 : Int32) &&& 31)).toInt8.toInt32)), (.int ((x1 >>> ((8 : Int32) &&& 31)).toInt8.toInt32)), (.int ((x2 >>> ((0 : Int32) &&& 31)).toInt8.toInt32)), (.int ((x2 >>> ((8 : Int32) &&& 31)).toInt8.toInt32)), (.int ((x3 >>> ((0 : Int32) &&& 31)).toInt8.toInt32)), (.int ((x3 >>> ((8 : Int32) &&& 31)).toInt8.toInt32))]) :
    Ctr l Z (⟨"java/lang/StringUTF16", "getChar", "([BI)C"⟩ : MethodName) jdk_52_method_5_code 2 (some .char) ({ frames := 0, cells := 0, slots := 0, locals := 0 } : Room) #[(.ref u), (.int (3 : Int32))] h0 (fun v h L => v = some (.int x3) ∧ L = [] ∧ h = h0) := by
  refine Ctr.mk (plainFor_of_name pn_0) (ls := #[.val (.ref u), .val (.int (3 : Int32))]) (fun m => by first | (simp [entryFrame, mkF, argsToLocals, Value.category]; done) | rfl) ?_
  intro p e s m below meth c T C X eT hs0
  have N := Fr.nil n0
  show Go p e below _ (T.setTop (mkF m 0 #[.val (.ref u), .val (.int (3 : Int32))] []))
  refine Go.getS C X eT (wd hw 100 rfl) Via.refl (S1.old O) d20_0 (n := 3) rfl ?_
  clear X eT
  intro T X eT
  refine Go.if0_ne C X d20_3 (n1 := 28) (n2 := 6) (by decide) (by decide) rfl (fun hc3 => ?_) (fun hc3 => ?_)
  · refine Go.iloadN C X d20_28 (n := 29) rfl rfl ?_
    refine Go.iconst C X d20_29 (n := 30) rfl (v := (1 : Int32)) rfl ?_
    refine Go.ishl C X d20_30 (n := 31) rfl ?_
    show Go p e below _ (T.setTop (mkF m 31 #[.val (.ref u), .val (.int (3 : Int32))] [(.int (6 : Int32))]))
    refine Go.istoreN C X d20_31 (n := 32) rfl (l' := #[.val (.ref u), .val (.int (6 : Int32))]) rfl ?_
    refine Go.aloadN C X d20_32 (n := 33) rfl rfl rfl ?_
    refine Go.iloadN C X d20_33 (n := 34) rfl rfl ?_
    refine Go.iinc C X d20_34 (n := 37) rfl (v := (1 : Int32)) rfl rfl (l' := #[.val (.ref u), .val (.int ((6 : Int32) + (1 : Int32)))]) rfl ?_
    show Go p e below _ (T.setTop (mkF m 37 #[.val (.ref u), .val (.int (7 : Int32))] [(.int (6 : Int32)), (.ref u)]))
    refine Go.baloadL C X eT V_u (i := 6) rfl (v := .int ((x3 >>> ((0 : Int32) &&& 31)).toInt8.toInt32)) rfl d20_37 (n := 38) rfl ?_
    refine Go.sipush C X d20_38 (n := 41) rfl (v := (255 : Int32)) rfl ?_
    refine Go.iand C X d20_41 (n := 42) rfl ?_
    refine Go.getS C X eT (wd hw 101 rfl) Via.refl (S2.old O) d20_42 (n := 45) rfl ?_
    clear X eT
    intro T X eT
    refine Go.ishl C X d20_45 (n := 46) rfl ?_
    refine Go.aloadN C X d20_46 (n := 47) rfl rfl rfl ?_
    refine Go.iloadN C X d20_47 (n := 48) rfl rfl ?_
    refine Go.baloadL C X eT V_u (i := 7) rfl (v := .int ((x3 >>> ((8 : Int32) &&& 31)).toInt8.toInt32)) rfl d20_48 (n := 49) rfl ?_
    refine Go.sipush C X d20_49 (n := 52) rfl (v := (255 : Int32)) rfl ?_
    refine Go.iand C X d20_52 (n := 53) rfl ?_
    refine Go.getS C X eT (wd hw 102 rfl) Via.refl (S3.old O) d20_53 (n := 56) rfl ?_
    clear X eT
    intro T X eT
    refine Go.ishl C X d20_56 (n := 57) rfl ?_
    refine Go.ior C X d20_57 (n := 58) rfl ?_
    refine Go.i2c C X d20_58 (n := 59) rfl ?_
    refine Go.retN C X eT (Or.inr (Or.inr (Or.inl rfl))) (w := x3) (own_gc r3) d20_59 (by decide) (by decide) ?_
    exact ⟨rfl, rfl, rfl⟩
  · exact absurd hc3 (by decide)
theorem pd_3 : parseMethodDescriptor "([CI[BII)I" = some ⟨[(.array .char), .int, (.array .byte), .int, .int], some .int⟩ := by decide +kernel
theorem pd_4 : parseMethodDescriptor "([CII)[B" = some ⟨[(.array .char), .int, .int], some (.array .byte)⟩ := by decide +kernel
theorem pd_5 : parseMethodDescriptor "([BI)C" = some ⟨[(.array .byte), .int], some .char⟩ := by decide +kernel
theorem d4_0 : decode jdk_52_method_16_code 0 = .ok (.iload_n 2, 1) := by decide +kernel
theorem d4_1 : decode jdk_52_method_16_code 1 = .ok (.newarray .byte, 2) := by decide +kernel
theorem d4_3 : decode jdk_52_method_16_code 3 = .ok (.astore_n 3, 1) := by decide +kernel
theorem d4_4 : decode jdk_52_method_16_code 4 = .ok (.aload_n 0, 1) := by decide +kernel
theorem d4_5 : decode jdk_52_method_16_code 5 = .ok (.iload_n 1, 1) := by decide +kernel
theorem d4_6 : decode jdk_52_method_16_code 6 = .ok (.aload_n 3, 1) := by decide +kernel
theorem d4_7 : decode jdk_52_method_16_code 7 = .ok (.iconst 0, 1) := by decide +kernel
theorem d4_8 : decode jdk_52_method_16_code 8 = .ok (.iload_n 2, 1) := by decide +kernel
theorem d4_9 : decode jdk_52_method_16_code 9 = .ok (.invokestatic 115, 3) := by decide +kernel
theorem d4_12 : decode jdk_52_method_16_code 12 = .ok (.istore 4, 2) := by decide +kernel
theorem d4_14 : decode jdk_52_method_16_code 14 = .ok (.iload 4, 2) := by decide +kernel
theorem d4_16 : decode jdk_52_method_16_code 16 = .ok (.iload_n 2, 1) := by decide +kernel
theorem d4_17 : decode jdk_52_method_16_code 17 = .ok (.if_icmp .eq 40, 3) := by decide +kernel
theorem d4_20 : decode jdk_52_method_16_code 20 = .ok (.aload_n 0, 1) := by decide +kernel
theorem d4_21 : decode jdk_52_method_16_code 21 = .ok (.iload_n 1, 1) := by decide +kernel
theorem d4_22 : decode jdk_52_method_16_code 22 = .ok (.iload_n 2, 1) := by decide +kernel
theorem d4_23 : decode jdk_52_method_16_code 23 = .ok (.invokestatic 119, 3) := by decide +kernel
theorem d4_26 : decode jdk_52_method_16_code 26 = .ok (.astore 5, 2) := by decide +kernel
theorem d4_28 : decode jdk_52_method_16_code 28 = .ok (.aload 5, 2) := by decide +kernel
theorem d4_30 : decode jdk_52_method_16_code 30 = .ok (.iload 4, 2) := by decide +kernel
theorem d4_32 : decode jdk_52_method_16_code 32 = .ok (.invokestatic 71, 3) := by decide +kernel
theorem d4_35 : decode jdk_52_method_16_code 35 = .ok (.sipush 255, 3) := by decide +kernel
theorem d4_38 : decode jdk_52_method_16_code 38 = .ok (.if_icmp .gt 16, 3) := by decide +kernel
theorem d4_41 : decode jdk_52_method_16_code 41 = .ok (.aload 5, 2) := by decide +kernel
theorem d4_43 : decode jdk_52_method_16_code 43 = .ok (.iconst 0, 1) := by decide +kernel
theorem d4_44 : decode jdk_52_method_16_code 44 = .ok (.aload_n 3, 1) := by decide +kernel
theorem d4_45 : decode jdk_52_method_16_code 45 = .ok (.iconst 0, 1) := by decide +kernel
theorem d4_46 : decode jdk_52_method_16_code 46 = .ok (.iload_n 2, 1) := by decide +kernel
theorem d4_47 : decode jdk_52_method_16_code 47 = .ok (.invokestatic 123, 3) := by decide +kernel
theorem d4_50 : decode jdk_52_method_16_code 50 = .ok (.iload_n 2, 1) := by decide +kernel
theorem d4_51 : decode jdk_52_method_16_code 51 = .ok (.if_icmp .eq 6, 3) := by decide +kernel
theorem d4_54 : decode jdk_52_method_16_code 54 = .ok (.aload 5, 2) := by decide +kernel
theorem d4_56 : decode jdk_52_method_16_code 56 = .ok (.areturn, 1) := by decide +kernel
theorem d4_57 : decode jdk_52_method_16_code 57 = .ok (.aload_n 3, 1) := by decide +kernel
theorem d4_58 : decode jdk_52_method_16_code 58 = .ok (.areturn, 1) := by decide +kernel
set_option maxRecDepth 65536 in
set_option maxHeartbeats 40000000 in
theorem compress_4_0 (l : Launch) (Z : State) (a0 : Array Value) (hw : ∀ d ∈ (tables_1 ++ jdkStatics_1), d.before a0 Z = true) (n0 : Nat) (h0 : Heap) (S1 : Sta Z Z.heap "java/lang/StringUTF16" "$assertionsDisabled" "Z" (.int 1)) (S2 : Sta Z Z.heap "java/lang/StringUTF16" "HI_BYTE_SHIFT" "I" (.int 0)) (S3 : Sta Z Z.heap "java/lang/StringUTF16" "LO_BYTE_SHIFT" "I" (.int 8)) (a : Addr) (x0 x1 x2 x3 : Int32) (u0 : (255 : Int32) < x0) (r0 : 0 ≤ x0.toInt ∧ x0.toInt < 65536) (r1 : 0 ≤ x1.toInt ∧ x1.toInt < 65536) (r2 : 0 ≤ x2.toInt ∧ x2.toInt < 65536) (r3 : 0 ≤ x3.toInt ∧ x3.toInt < 65536) (O : Old Z n0 h0) (V_a : Arl Z h0 a .char [(.int x0), (.int x1), (.int x2), (.int x3)]) :
    Ctr l Z (⟨"java/lang/StringUTF16", "compress", "([CII)[B"⟩ : MethodName) jdk_52_method_16_code 6 (some (.array .byte)) ({ frames := 3, cells := 2, slots := 12, locals := 40 } : Room) #[(.ref a), (.int (0 : Int32)), (.int (4 : Int32))] h0 (fun v h L => ∃ b, v = some (.ref b) ∧ Fr n0 L ∧ Keep h0 h [] ∧ h0.size ≤ b ∧ Arl Z h b .byte [(.int ((x0 >>> ((0 : Int32) &&& 31)).toInt8.toInt32)), (.int ((x0 >>> ((8 : Int32) &&& 31)).toInt8.toInt32)), (.int ((x1 >>> ((0 : Int32) &&& 31)).toInt8.toInt32)), (.int ((x1 >>> ((8 : Int32) &&& 31)).toInt8.toInt32)), (.int ((x2 >>> ((0 : Int32) &&& 31)).toInt8.toInt32)), (.int ((x2 >>> ((8 : Int32) &&& 31)).toInt8.toInt32)), (.int ((x3 >>> ((0 : Int32) &&& 31)).toInt8.toInt32)), (.int ((x3 >>> ((8 : Int32) &&& 31)).toInt8.toInt32))]) := by
  refine Ctr.mk (plainFor_of_name pn_0) (ls := #[.val (.ref a), .val (.int (0 : Int32)), .val (.int (4 : Int32)), .unset, .unset, .unset]) (fun m => by first | (simp [entryFrame, mkF, argsToLocals, Value.category]; done) | rfl) ?_
  intro p e s m below meth c T C X eT hs0
  have N := Fr.nil n0
  have KP := Keep.refl h0 []
  show Go p e below _ (T.setTop (mkF m 0 #[.val (.ref a), .val (.int (0 : Int32)), .val (.int (4 : Int32)), .unset, .unset, .unset] []))
  refine Go.iloadN C X d4_0 (n := 1) rfl rfl ?_
  refine Go.newL C X eT (wd hw 20 rfl) (i := 4) rfl (cap := 4) (by decide) d4_1 (n := 3) rfl (by decide) (by decide) (by decide) ?_
  clear X eT
  intro T h b z_b X eT E V_b
  have ne_a_b : a ≠ b := Nat.ne_of_lt (Nat.lt_of_lt_of_le V_a.lt (Nat.le_of_eq z_b.symm))
  have g_b : n0 ≤ b := by rw [z_b]; exact O.le
  have s_b : h0.size ≤ b := by rw [z_b]; exact KP.1
  replace V_a := V_a.ext E
  replace KP := KP.ext E
  replace O := O.ext E
  replace V_b : Arl Z h b .byte [(.int (0 : Int32)), (.int (0 : Int32)), (.int (0 : Int32)), (.int (0 : Int32))] := V_b
  refine Go.astoreN C X d4_3 (n := 4) rfl rfl (l' := #[.val (.ref a), .val (.int (0 : Int32)), .val (.int (4 : Int32)), .val (.ref b), .unset, .unset]) rfl ?_
  refine Go.aloadN C X d4_4 (n := 5) rfl rfl rfl ?_
  refine Go.iloadN C X d4_5 (n := 6) rfl rfl ?_
  refine Go.aloadN C X d4_6 (n := 7) rfl rfl rfl ?_
  refine Go.iconst C X d4_7 (n := 8) rfl (v := (0 : Int32)) rfl ?_
  refine Go.iloadN C X d4_8 (n := 9) rfl rfl ?_
  refine Go.stat C X eT (argsL := [(.ref a), (.int (0 : Int32)), (.ref b), (.int (0 : Int32)), (.int (4 : Int32))]) (rest := []) (loop_4_0 l Z a0 hw n0 _ a b x0 x1 x2 x3 u0 r0 r1 r2 r3 g_b ne_a_b V_a V_b) (wd hw 21 rfl) (wd hw 22 rfl) (wd hw 18 rfl) (wd hw 23 rfl) (by decide) (lenOf pd_3 rfl) rfl d4_9 (n := 12) rfl rfl (by decide) (W := 0) rfl (by decide) (by decide) (by decide) ?_
  clear X eT
  intro T h v L X eT hQ
  obtain ⟨rfl, Nq, KK, V_b⟩ := hQ
  replace N := N.app Nq
  replace V_a := V_a.keep KK (ninS ne_a_b nin0)
  replace KP := KP.trans KK (allS (Or.inr s_b) all0)
  replace O := O.keep KK (allS g_b all0)
  show Go p e below _ (T.setTop (mkF m 12 #[.val (.ref a), .val (.int (0 : Int32)), .val (.int (4 : Int32)), .val (.ref b), .unset, .unset] [(.int (0 : Int32))]))
  refine Go.istore C X d4_12 (n := 14) rfl (l' := #[.val (.ref a), .val (.int (0 : Int32)), .val (.int (4 : Int32)), .val (.ref b), .val (.int (0 : Int32)), .unset]) rfl ?_
  refine Go.iload C X d4_14 (n := 16) rfl rfl ?_
  refine Go.iloadN C X d4_16 (n := 17) rfl rfl ?_
  refine Go.icmp_eq C X d4_17 (n1 := 57) (n2 := 20) (by decide) (by decide) rfl (fun hc17 => ?_) (fun hc17 => ?_)
  · exact absurd hc17 (by decide)
  · refine Go.aloadN C X d4_20 (n := 21) rfl rfl rfl ?_
    refine Go.iloadN C X d4_21 (n := 22) rfl rfl ?_
    refine Go.iloadN C X d4_22 (n := 23) rfl rfl ?_
    refine Go.stat C X eT (argsL := [(.ref a), (.int (0 : Int32)), (.int (4 : Int32))]) (rest := []) (toBytes_4 l Z a0 hw n0 _ S1 S2 S3 a x0 x1 x2 x3 O V_a) (wd hw 87 rfl) (wd hw 88 rfl) (wd hw 18 rfl) (wd hw 89 rfl) (by decide) (lenOf pd_4 rfl) rfl d4_23 (n := 26) rfl rfl (by decide) (W := 0) rfl (by decide) (by decide) (by decide) ?_
    clear X eT
    intro T h v L X eT hQ
    obtain ⟨u, rfl, Nq, KK, s_u, V_u⟩ := hQ
    replace N := N.app Nq
    have ne_a_u : a ≠ u := Nat.ne_of_lt (Nat.lt_of_lt_of_le V_a.lt s_u)
    have ne_b_u : b ≠ u := Nat.ne_of_lt (Nat.lt_of_lt_of_le V_b.lt s_u)
    have g_u : n0 ≤ u := Nat.le_trans O.le s_u
    have sz_u : h0.size ≤ u := Nat.le_trans KP.1 s_u
    replace V_a := V_a.keep KK nin0
    replace KP := KP.trans KK all0
    replace O := O.keep KK all0
    replace V_b := V_b.keep KK nin0
    show Go p e below _ (T.setTop (mkF m 26 #[.val (.ref a), .val (.int (0 : Int32)), .val (.int (4 : Int32)), .val (.ref b), .val (.int (0 : Int32)), .unset] [(.ref u)]))
    refine Go.astore C X d4_26 (n := 28) rfl rfl (l' := #[.val (.ref a), .val (.int (0 : Int32)), .val (.int (4 : Int32)), .val (.ref b), .val (.int (0 : Int32)), .val (.ref u)]) rfl ?_
    refine Go.aload C X d4_28 (n := 30) rfl rfl rfl ?_
    refine Go.iload C X d4_30 (n := 32) rfl rfl ?_
    refine Go.stat C X eT (argsL := [(.ref u), (.int (0 : Int32))]) (rest := []) (getChar_4_0 l Z a0 hw n0 _ S1 S2 S3 u x0 x1 x2 x3 r0 O V_u) (wd hw 103 rfl) (wd hw 104 rfl) (wd hw 18 rfl) (wd hw 105 rfl) (by decide) (lenOf pd_5 rfl) rfl d4_32 (n := 35) rfl rfl (by decide) (W := 0) rfl (by decide) (by decide) (by decide) ?_
    clear X eT
    intro T h' v L X eT hQ
    obtain ⟨rfl, rfl, hE⟩ := hQ
    replace hE := hE.symm
    subst hE
    replace N := N.app (Fr.nil n0)
    show Go p e below _ (T.setTop (mkF m 35 #[.val (.ref a), .val (.int (0 : Int32)), .val (.int (4 : Int32)), .val (.ref b), .val (.int (0 : Int32)), .val (.ref u)] [(.int x0)]))
    refine Go.sipush C X d4_35 (n := 38) rfl (v := (255 : Int32)) rfl ?_
    refine Go.icmp_gt C X d4_38 (n1 := 54) (n2 := 41) (by decide) (by decide) rfl (fun hc38 => ?_) (fun hc38 => ?_)
    · refine Go.aload C X d4_54 (n := 56) rfl rfl rfl ?_
      refine Go.retA C X eT rfl rfl rfl d4_56 (by decide) (by decide) ?_
      exact ⟨u, rfl, N, KP, sz_u, V_u⟩
    · exact absurd u0 hc38
theorem d6_0 : decode jdk_52_method_15_code 0 = .ok (.iload_n 1, 1) := by decide +kernel
theorem d6_1 : decode jdk_52_method_15_code 1 = .ok (.aload_n 0, 1) := by decide +kernel
theorem d6_2 : decode jdk_52_method_15_code 2 = .ok (.arraylength, 1) := by decide +kernel
theorem d6_3 : decode jdk_52_method_15_code 3 = .ok (.isub, 1) := by decide +kernel
theorem d6_4 : decode jdk_52_method_15_code 4 = .ok (.bipush 31, 2) := by decide +kernel
theorem d6_6 : decode jdk_52_method_15_code 6 = .ok (.iushr, 1) := by decide +kernel
theorem d6_7 : decode jdk_52_method_15_code 7 = .ok (.i2b, 1) := by decide +kernel
theorem d6_8 : decode jdk_52_method_15_code 8 = .ok (.ireturn, 1) := by decide +kernel
set_option maxRecDepth 65536 in
set_option maxHeartbeats 40000000 in
theorem cfal_4_8 (l : Launch) (Z : State) (a0 : Array Value) (hw : ∀ d ∈ (tables_1 ++ jdkStatics_1), d.before a0 Z = true) (n0 : Nat) (h0 : Heap) (b : Addr) (vs : List Value) (hlen : vs.length = 8) (V_b : Arl Z h0 b .byte vs) :
    Ctr l Z (⟨"java/lang/StringUTF16", "coderFromArrayLen", "([BI)B"⟩ : MethodName) jdk_52_method_15_code 2 (some .byte) ({ frames := 0, cells := 0, slots := 0, locals := 0 } : Room) #[(.ref b), (.int (4 : Int32))] h0 (fun v h L => v = some (.int (1 : Int32)) ∧ L = [] ∧ h = h0) := by
  refine Ctr.mk (plainFor_of_name pn_0) (ls := #[.val (.ref b), .val (.int (4 : Int32))]) (fun m => by first | (simp [entryFrame, mkF, argsToLocals, Value.category]; done) | rfl) ?_
  intro p e s m below meth c T C X eT hs0
  have N := Fr.nil n0
  show Go p e below _ (T.setTop (mkF m 0 #[.val (.ref b), .val (.int (4 : Int32))] []))
  refine Go.iloadN C X d6_0 (n := 1) rfl rfl ?_
  refine Go.aloadN C X d6_1 (n := 2) rfl rfl rfl ?_
  refine Go.lengthL C X eT V_b (z := (8 : Int32)) (by rw [hlen]; rfl) d6_2 (n := 3) rfl ?_
  refine Go.isub C X d6_3 (n := 4) rfl ?_
  show Go p e below _ (T.setTop (mkF m 4 #[.val (.ref b), .val (.int (4 : Int32))] [(.int (-4 : Int32))]))
  refine Go.bipush C X d6_4 (n := 6) rfl (v := (31 : Int32)) rfl ?_
  refine Go.iushr C X d6_6 (n := 7) rfl ?_
  show Go p e below _ (T.setTop (mkF m 7 #[.val (.ref b), .val (.int (4 : Int32))] [(.int (1 : Int32))]))
  refine Go.i2b C X d6_7 (n := 8) rfl ?_
  show Go p e below _ (T.setTop (mkF m 8 #[.val (.ref b), .val (.int (4 : Int32))] [(.int (1 : Int32))]))
  refine Go.retN C X eT (Or.inr (Or.inl rfl)) (w := (1 : Int32)) (by decide) d6_8 (by decide) (by decide) ?_
  exact ⟨rfl, rfl, rfl⟩
theorem pd_6 : parseMethodDescriptor "([BI)B" = some ⟨[(.array .byte), .int], some .byte⟩ := by decide +kernel
theorem pn_1 : plainName "java/lang/String" = true := by first | (simp [plainName, overriddenIn]; done) | decide +kernel
theorem d2_0 : decode jdk_42_method_149_code 0 = .ok (.aload_n 0, 1) := by decide +kernel
theorem d2_1 : decode jdk_42_method_149_code 1 = .ok (.invokespecial 1, 3) := by decide +kernel
theorem d2_4 : decode jdk_42_method_149_code 4 = .ok (.iload_n 3, 1) := by decide +kernel
theorem d2_5 : decode jdk_42_method_149_code 5 = .ok (.ifCond .ne 22, 3) := by decide +kernel
theorem d2_8 : decode jdk_42_method_149_code 8 = .ok (.aload_n 0, 1) := by decide +kernel
theorem d2_9 : decode jdk_42_method_149_code 9 = .ok (.ldc 7, 2) := by decide +kernel
theorem d2_11 : decode jdk_42_method_149_code 11 = .ok (.getfield 9, 3) := by decide +kernel
theorem d2_14 : decode jdk_42_method_149_code 14 = .ok (.putfield 9, 3) := by decide +kernel
theorem d2_17 : decode jdk_42_method_149_code 17 = .ok (.aload_n 0, 1) := by decide +kernel
theorem d2_18 : decode jdk_42_method_149_code 18 = .ok (.ldc 7, 2) := by decide +kernel
theorem d2_20 : decode jdk_42_method_149_code 20 = .ok (.getfield 15, 3) := by decide +kernel
theorem d2_23 : decode jdk_42_method_149_code 23 = .ok (.putfield 15, 3) := by decide +kernel
theorem d2_26 : decode jdk_42_method_149_code 26 = .ok (.return_, 1) := by decide +kernel
theorem d2_27 : decode jdk_42_method_149_code 27 = .ok (.getstatic 38, 3) := by decide +kernel
theorem d2_30 : decode jdk_42_method_149_code 30 = .ok (.ifCond .eq 28, 3) := by decide +kernel
theorem d2_33 : decode jdk_42_method_149_code 33 = .ok (.aload_n 1, 1) := by decide +kernel
theorem d2_34 : decode jdk_42_method_149_code 34 = .ok (.iload_n 2, 1) := by decide +kernel
theorem d2_35 : decode jdk_42_method_149_code 35 = .ok (.iload_n 3, 1) := by decide +kernel
theorem d2_36 : decode jdk_42_method_149_code 36 = .ok (.invokestatic 177, 3) := by decide +kernel
theorem d2_39 : decode jdk_42_method_149_code 39 = .ok (.astore 5, 2) := by decide +kernel
theorem d2_41 : decode jdk_42_method_149_code 41 = .ok (.aload_n 0, 1) := by decide +kernel
theorem d2_42 : decode jdk_42_method_149_code 42 = .ok (.aload 5, 2) := by decide +kernel
theorem d2_44 : decode jdk_42_method_149_code 44 = .ok (.iload_n 3, 1) := by decide +kernel
theorem d2_45 : decode jdk_42_method_149_code 45 = .ok (.invokestatic 47, 3) := by decide +kernel
theorem d2_48 : decode jdk_42_method_149_code 48 = .ok (.putfield 15, 3) := by decide +kernel
theorem d2_51 : decode jdk_42_method_149_code 51 = .ok (.aload_n 0, 1) := by decide +kernel
theorem d2_52 : decode jdk_42_method_149_code 52 = .ok (.aload 5, 2) := by decide +kernel
theorem d2_54 : decode jdk_42_method_149_code 54 = .ok (.putfield 9, 3) := by decide +kernel
theorem d2_57 : decode jdk_42_method_149_code 57 = .ok (.return_, 1) := by decide +kernel
theorem d2_58 : decode jdk_42_method_149_code 58 = .ok (.aload_n 0, 1) := by decide +kernel
theorem d2_59 : decode jdk_42_method_149_code 59 = .ok (.iconst 1, 1) := by decide +kernel
theorem d2_60 : decode jdk_42_method_149_code 60 = .ok (.putfield 15, 3) := by decide +kernel
theorem d2_63 : decode jdk_42_method_149_code 63 = .ok (.aload_n 0, 1) := by decide +kernel
theorem d2_64 : decode jdk_42_method_149_code 64 = .ok (.aload_n 1, 1) := by decide +kernel
theorem d2_65 : decode jdk_42_method_149_code 65 = .ok (.iload_n 2, 1) := by decide +kernel
theorem d2_66 : decode jdk_42_method_149_code 66 = .ok (.iload_n 3, 1) := by decide +kernel
theorem d2_67 : decode jdk_42_method_149_code 67 = .ok (.invokestatic 180, 3) := by decide +kernel
theorem d2_70 : decode jdk_42_method_149_code 70 = .ok (.putfield 9, 3) := by decide +kernel
theorem d2_73 : decode jdk_42_method_149_code 73 = .ok (.return_, 1) := by decide +kernel
set_option maxRecDepth 65536 in
set_option maxHeartbeats 40000000 in
theorem init4_4_0 (l : Launch) (Z : State) (a0 : Array Value) (hw : ∀ d ∈ (tables_1 ++ jdkStatics_1), d.before a0 Z = true) (n0 : Nat) (h0 : Heap) (cs : Int32) (SZ : Sta Z Z.heap "java/lang/String" "COMPACT_STRINGS" "Z" (.int cs)) (hcs : cs ≠ 0) (S1 : Sta Z Z.heap "java/lang/StringUTF16" "$assertionsDisabled" "Z" (.int 1)) (S2 : Sta Z Z.heap "java/lang/StringUTF16" "HI_BYTE_SHIFT" "I" (.int 0)) (S3 : Sta Z Z.heap "java/lang/StringUTF16" "LO_BYTE_SHIFT" "I" (.int 8)) (t a : Addr) (g_t : n0 ≤ t) (ne_a_t : a ≠ t) (E_t : Exa Z h0 t "java/lang/String") (F_t_value : Fld Z h0 t "java/lang/String" "value" "[B" .null) (F_t_coder : Fld Z h0 t "java/lang/String" "coder" "B" (.int 0)) (x0 x1 x2 x3 : Int32) (u0 : (255 : Int32) < x0) (r0 : 0 ≤ x0.toInt ∧ x0.toInt < 65536) (r1 : 0 ≤ x1.toInt ∧ x1.toInt < 65536) (r2 : 0 ≤ x2.toInt ∧ x2.toInt < 65536) (r3 : 0 ≤ x3.toInt ∧ x3.toInt < 65536) (O : Old Z n0 h0) (V_a : Arl Z h0 a .char [(.int x0), (.int x1), (.int x2), (.int x3)]) :
    Ctr l Z (⟨"java/lang/String", "<init>", "([CIILjava/lang/Void;)V"⟩ : MethodName) jdk_42_method_149_code 6 none ({ frames := 4, cells := 2, slots := 12, locals := 57 } : Room) #[(.ref t), (.ref a), (.int (0 : Int32)), (.int (4 : Int32)), .null] h0 (fun v h L => v = none ∧ Fr n0 L ∧ Keep h0 h [t] ∧ ∃ b, h0.size ≤ b ∧ Fld Z h t "java/lang/String" "value" "[B" (.ref b) ∧ Fld Z h t "java/lang/String" "coder" "B" (.int (1 : Int32)) ∧ Arl Z h b .byte [(.int ((x0 >>> ((0 : Int32) &&& 31)).toInt8.toInt32)), (.int ((x0 >>> ((8 : Int32) &&& 31)).toInt8.toInt32)), (.int ((x1 >>> ((0 : Int32) &&& 31)).toInt8.toInt32)), (.int ((x1 >>> ((8 : Int32) &&& 31)).toInt8.toInt32)), (.int ((x2 >>> ((0 : Int32) &&& 31)).toInt8.toInt32)), (.int ((x2 >>> ((8 : Int32) &&& 31)).toInt8.toInt32)), (.int ((x3 >>> ((0 : Int32) &&& 31)).toInt8.toInt32)), (.int ((x3 >>> ((8 : Int32) &&& 31)).toInt8.toInt32))]) := by
  refine Ctr.mk (plainFor_of_name pn_1) (ls := #[.val (.ref t), .val (.ref a), .val (.int (0 : Int32)), .val (.int (4 : Int32)), .val .null, .unset]) (fun m => by first | (simp [entryFrame, mkF, argsToLocals, Value.category]; done) | rfl) ?_
  intro p e s m below meth c T C X eT hs0
  have N := Fr.nil n0
  have KP := Keep.refl h0 [t]
  show Go p e below _ (T.setTop (mkF m 0 #[.val (.ref t), .val (.ref a), .val (.int (0 : Int32)), .val (.int (4 : Int32)), .val .null, .unset] []))
  refine Go.aloadN C X d2_0 (n := 1) rfl rfl rfl ?_
  refine Go.initO C X eT (W := 0) (wd hw 12 rfl) (wd hw 13 rfl) (wd hw 14 rfl) d2_1 (n := 4) rfl rfl (by decide) rfl (by decide) ?_
  clear X eT
  intro T X eT
  refine Go.iloadN C X d2_4 (n := 5) rfl rfl ?_
  refine Go.if0_ne C X d2_5 (n1 := 27) (n2 := 8) (by decide) (by decide) rfl (fun hc5 => ?_) (fun hc5 => ?_)
  · refine Go.getS C X eT (wd hw 15 rfl) Via.refl (SZ.old O) d2_27 (n := 30) rfl ?_
    clear X eT
    intro T X eT
    refine Go.if0_eq C X d2_30 (n1 := 58) (n2 := 33) (by decide) (by decide) rfl (fun hc30 => ?_) (fun hc30 => ?_)
    · exact absurd hc30 hcs
    · refine Go.aloadN C X d2_33 (n := 34) rfl rfl rfl ?_
      refine Go.iloadN C X d2_34 (n := 35) rfl rfl ?_
      refine Go.iloadN C X d2_35 (n := 36) rfl rfl ?_
      refine Go.stat C X eT (argsL := [(.ref a), (.int (0 : Int32)), (.int (4 : Int32))]) (rest := []) (compress_4_0 l Z a0 hw n0 _ S1 S2 S3 a x0 x1 x2 x3 u0 r0 r1 r2 r3 O V_a) (wd hw 16 rfl) (wd hw 17 rfl) (wd hw 18 rfl) (wd hw 19 rfl) (by decide) (lenOf pd_4 rfl) rfl d2_36 (n := 39) rfl rfl (by decide) (W := 0) rfl (by decide) (by decide) (by decide) ?_
      clear X eT
      intro T h v L X eT hQ
      obtain ⟨b, rfl, Nq, KK, s_b, V_b⟩ := hQ
      replace N := N.app Nq
      have ne_t_b : t ≠ b := Nat.ne_of_lt (Nat.lt_of_lt_of_le E_t.lt s_b)
      have ne_a_b : a ≠ b := Nat.ne_of_lt (Nat.lt_of_lt_of_le V_a.lt s_b)
      have g_b : n0 ≤ b := Nat.le_trans O.le s_b
      have sz_b : h0.size ≤ b := Nat.le_trans KP.1 s_b
      replace E_t := E_t.keep KK
      replace F_t_value := F_t_value.keep KK nin0
      replace F_t_coder := F_t_coder.keep KK nin0
      replace O := O.keep KK all0
      replace KP := KP.trans KK all0
      replace V_a := V_a.keep KK nin0
      show Go p e below _ (T.setTop (mkF m 39 #[.val (.ref t), .val (.ref a), .val (.int (0 : Int32)), .val (.int (4 : Int32)), .val .null, .unset] [(.ref b)]))
      refine Go.astore C X d2_39 (n := 41) rfl rfl (l' := #[.val (.ref t), .val (.ref a), .val (.int (0 : Int32)), .val (.int (4 : Int32)), .val .null, .val (.ref b)]) rfl ?_
      refine Go.aloadN C X d2_41 (n := 42) rfl rfl rfl ?_
      refine Go.aload C X d2_42 (n := 44) rfl rfl rfl ?_
      refine Go.iloadN C X d2_44 (n := 45) rfl rfl ?_
      refine Go.stat C X eT (argsL := [(.ref b), (.int (4 : Int32))]) (rest := [(.ref t)]) (cfal_4_8 l Z a0 hw n0 _ b _ rfl V_b) (wd hw 24 rfl) (wd hw 25 rfl) (wd hw 18 rfl) (wd hw 26 rfl) (by decide) (lenOf pd_6 rfl) rfl d2_45 (n := 48) rfl rfl (by decide) (W := 1) rfl (by decide) (by decide) (by decide) ?_
      clear X eT
      intro T h' v L X eT hQ
      obtain ⟨rfl, rfl, hE⟩ := hQ
      replace hE := hE.symm
      subst hE
      replace N := N.app (Fr.nil n0)
      show Go p e below _ (T.setTop (mkF m 48 #[.val (.ref t), .val (.ref a), .val (.int (0 : Int32)), .val (.int (4 : Int32)), .val .null, .val (.ref b)] [(.int (1 : Int32)), (.ref t)]))
      refine Go.putF C X eT (wd hw 27 rfl) Via.refl F_t_coder E_t (Or.inr ⟨(wd hw 28 rfl), rfl, rfl⟩) (wd hw 3 rfl) (ty := .byte) (by decide) rfl rfl d2_48 (n := 51) rfl ?_
      clear X eT
      intro T h X eT W
      replace E_t := E_t.wr W
      replace F_t_value := F_t_value.other W (Or.inr (slot_ne (Or.inr (wd hw 30 rfl)) (Or.inr (wd hw 28 rfl)) (by decide) (t := (.array .byte)) (t' := .byte) (by decide) (by decide)))
      replace F_t_coder := F_t_coder.same W
      replace O := O.wr W g_t
      replace KP := KP.wr W (Or.inl (List.mem_of_getElem? (i := 0) rfl))
      replace V_a := V_a.other W ne_a_t
      replace V_b := V_b.other W (Ne.symm ne_t_b)
      replace N := Fr.snoc X N g_t
      refine Go.aloadN C X d2_51 (n := 52) rfl rfl rfl ?_
      refine Go.aload C X d2_52 (n := 54) rfl rfl rfl ?_
      refine Go.putF C X eT (wd hw 29 rfl) Via.refl F_t_value E_t (Or.inr ⟨(wd hw 30 rfl), rfl, rfl⟩) (wd hw 3 rfl) (ty := (.array .byte)) (by decide) rfl rfl d2_54 (n := 57) rfl ?_
      clear X eT
      intro T h X eT W
      replace E_t := E_t.wr W
      replace F_t_value := F_t_value.same W
      replace F_t_coder := F_t_coder.other W (Or.inr (slot_ne (Or.inr (wd hw 28 rfl)) (Or.inr (wd hw 30 rfl)) (by decide) (t := .byte) (t' := (.array .byte)) (by decide) (by decide)))
      replace O := O.wr W g_t
      replace KP := KP.wr W (Or.inl (List.mem_of_getElem? (i := 0) rfl))
      replace V_a := V_a.other W ne_a_t
      replace V_b := V_b.other W (Ne.symm ne_t_b)
      replace N := Fr.snoc X N g_t
      refine Go.ret0 C X eT d2_57 (by decide) (by decide) ?_
      exact ⟨rfl, N, KP, b, sz_b, F_t_value, F_t_coder, V_b⟩
  · exact absurd hc5 (by decide)
theorem pd_7 : parseMethodDescriptor "([CIILjava/lang/Void;)V" = some ⟨[(.array .char), .int, .int, (.object "java/lang/Void")], none⟩ := by decide +kernel
theorem d1_0 : decode jdk_42_method_3_code 0 = .ok (.aload_n 0, 1) := by decide +kernel
theorem d1_1 : decode jdk_42_method_3_code 1 = .ok (.aload_n 1, 1) := by decide +kernel
theorem d1_2 : decode jdk_42_method_3_code 2 = .ok (.iconst 0, 1) := by decide +kernel
theorem d1_3 : decode jdk_42_method_3_code 3 = .ok (.aload_n 1, 1) := by decide +kernel
theorem d1_4 : decode jdk_42_method_3_code 4 = .ok (.arraylength, 1) := by decide +kernel
theorem d1_5 : decode jdk_42_method_3_code 5 = .ok (.aconst_null, 1) := by decide +kernel
theorem d1_6 : decode jdk_42_method_3_code 6 = .ok (.invokespecial 27, 3) := by decide +kernel
theorem d1_9 : decode jdk_42_method_3_code 9 = .ok (.return_, 1) := by decide +kernel
set_option maxRecDepth 65536 in
set_option maxHeartbeats 40000000 in
theorem init1_4_0 (l : Launch) (Z : State) (a0 : Array Value) (hw : ∀ d ∈ (tables_1 ++ jdkStatics_1), d.before a0 Z = true) (n0 : Nat) (h0 : Heap) (cs : Int32) (SZ : Sta Z Z.heap "java/lang/String" "COMPACT_STRINGS" "Z" (.int cs)) (hcs : cs ≠ 0) (S1 : Sta Z Z.heap "java/lang/StringUTF16" "$assertionsDisabled" "Z" (.int 1)) (S2 : Sta Z Z.heap "java/lang/StringUTF16" "HI_BYTE_SHIFT" "I" (.int 0)) (S3 : Sta Z Z.heap "java/lang/StringUTF16" "LO_BYTE_SHIFT" "I" (.int 8)) (t a : Addr) (g_t : n0 ≤ t) (ne_a_t : a ≠ t) (E_t : Exa Z h0 t "java/lang/String") (F_t_value : Fld Z h0 t "java/lang/String" "value" "[B" .null) (F_t_coder : Fld Z h0 t "java/lang/String" "coder" "B" (.int 0)) (x0 x1 x2 x3 : Int32) (u0 : (255 : Int32) < x0) (r0 : 0 ≤ x0.toInt ∧ x0.toInt < 65536) (r1 : 0 ≤ x1.toInt ∧ x1.toInt < 65536) (r2 : 0 ≤ x2.toInt ∧ x2.toInt < 65536) (r3 : 0 ≤ x3.toInt ∧ x3.toInt < 65536) (O : Old Z n0 h0) (V_a : Arl Z h0 a .char [(.int x0), (.int x1), (.int x2), (.int x3)]) :
    Ctr l Z (⟨"java/lang/String", "<init>", "([C)V"⟩ : MethodName) jdk_42_method_3_code 2 none ({ frames := 5, cells := 2, slots := 12, locals := 74 } : Room) #[(.ref t), (.ref a)] h0 (fun v h L => v = none ∧ Fr n0 L ∧ Keep h0 h [t] ∧ ∃ b, h0.size ≤ b ∧ Fld Z h t "java/lang/String" "value" "[B" (.ref b) ∧ Fld Z h t "java/lang/String" "coder" "B" (.int (1 : Int32)) ∧ Arl Z h b .byte [(.int ((x0 >>> ((0 : Int32) &&& 31)).toInt8.toInt32)), (.int ((x0 >>> ((8 : Int32) &&& 31)).toInt8.toInt32)), (.int ((x1 >>> ((0 : Int32) &&& 31)).toInt8.toInt32)), (.int ((x1 >>> ((8 : Int32) &&& 31)).toInt8.toInt32)), (.int ((x2 >>> ((0 : Int32) &&& 31)).toInt8.toInt32)), (.int ((x2 >>> ((8 : Int32) &&& 31)).toInt8.toInt32)), (.int ((x3 >>> ((0 : Int32) &&& 31)).toInt8.toInt32)), (.int ((x3 >>> ((8 : Int32) &&& 31)).toInt8.toInt32))]) := by
  refine Ctr.mk (plainFor_of_name pn_1) (ls := #[.val (.ref t), .val (.ref a)]) (fun m => by first | (simp [entryFrame, mkF, argsToLocals, Value.category]; done) | rfl) ?_
  intro p e s m below meth c T C X eT hs0
  have N := Fr.nil n0
  have KP := Keep.refl h0 [t]
  show Go p e below _ (T.setTop (mkF m 0 #[.val (.ref t), .val (.ref a)] []))
  refine Go.aloadN C X d1_0 (n := 1) rfl rfl rfl ?_
  refine Go.aloadN C X d1_1 (n := 2) rfl rfl rfl ?_
  refine Go.iconst C X d1_2 (n := 3) rfl (v := (0 : Int32)) rfl ?_
  refine Go.aloadN C X d1_3 (n := 4) rfl rfl rfl ?_
  refine Go.lengthL C X eT V_a (z := (4 : Int32)) rfl d1_4 (n := 5) rfl ?_
  refine Go.aconstNull C X d1_5 (n := 6) rfl ?_
  refine Go.spec C X eT (argsL := [(.ref a), (.int (0 : Int32)), (.int (4 : Int32)), .null]) (rest := []) (a := t) (init4_4_0 l Z a0 hw n0 _ cs SZ hcs S1 S2 S3 t a g_t ne_a_t E_t F_t_value F_t_coder x0 x1 x2 x3 u0 r0 r1 r2 r3 O V_a) rfl (wd hw 8 rfl) (wd hw 9 rfl) (wd hw 4 rfl) (wd hw 11 rfl) (by decide) (lenOf pd_7 rfl) rfl d1_6 (n := 9) rfl rfl (by decide) (W := 0) rfl (by decide) (by decide) (by decide) ?_
  clear X eT
  intro T h v L X eT hQ
  obtain ⟨rfl, Nq, KK, b, s_b, F_t_value, F_t_coder, V_b⟩ := hQ
  replace N := N.app Nq
  replace E_t := E_t.keep KK
  replace O := O.keep KK (allS g_t all0)
  replace KP := KP.trans KK (allS (Or.inl (List.mem_of_getElem? (i := 0) rfl)) all0)
  replace V_a := V_a.keep KK (ninS ne_a_t nin0)
  show Go p e below _ (T.setTop (mkF m 9 #[.val (.ref t), .val (.ref a)] []))
  refine Go.ret0 C X eT d1_9 (by decide) (by decide) ?_
  exact ⟨rfl, N, KP, b, s_b, F_t_value, F_t_coder, V_b⟩
set_option maxRecDepth 65536 in
set_option maxHeartbeats 40000000 in
theorem loop_4_1 (l : Launch) (Z : State) (a0 : Array Value) (hw : ∀ d ∈ (tables_1 ++ jdkStatics_1), d.before a0 Z = true) (n0 : Nat) (h0 : Heap) (a b : Addr) (x0 x1 x2 x3 : Int32) (l0 : ¬ (255 : Int32) < x0) (u1 : (255 : Int32) < x1) (r0 : 0 ≤ x0.toInt ∧ x0.toInt < 65536) (r1 : 0 ≤ x1.toInt ∧ x1.toInt < 65536) (r2 : 0 ≤ x2.toInt ∧ x2.toInt < 65536) (r3 : 0 ≤ x3.toInt ∧ x3.toInt < 65536) (g_b : n0 ≤ b) (ne_a_b : a ≠ b) (V_a : Arl Z h0 a .char [(.int x0), (.int x1), (.int x2), (.int x3)]) (V_b : Arl Z h0 b .byte [(.int (0 : Int32)), (.int (0 : Int32)), (.int (0 : Int32)), (.int (0 : Int32))]) :
    Ctr l Z (⟨"java/lang/StringUTF16", "compress", "([CI[BII)I"⟩ : MethodName) jdk_52_method_21_code 7 (some .int) ({ frames := 0, cells := 0, slots := 0, locals := 0 } : Room) #[(.ref a), (.int (0 : Int32)), (.ref b), (.int (0 : Int32)), (.int (4 : Int32))] h0 (fun v h L => v = some (.int (1 : Int32)) ∧ Fr n0 L ∧ Keep h0 h [b] ∧ Arl Z h b .byte [(.int (x0.toInt8.toInt32)), (.int (0 : Int32)), (.int (0 : Int32)), (.int (0 : Int32))]) := by
  refine Ctr.mk (plainFor_of_name pn_0) (ls := #[.val (.ref a), .val (.int (0 : Int32)), .val (.ref b), .val (.int (0 : Int32)), .val (.int (4 : Int32)), .unset, .unset]) (fun m => by first | (simp [entryFrame, mkF, argsToLocals, Value.category]; done) | rfl) ?_
  intro p e s m below meth c T C X eT hs0
  have N := Fr.nil n0
  have KP := Keep.refl h0 [b]
  show Go p e below _ (T.setTop (mkF m 0 #[.val (.ref a), .val (.int (0 : Int32)), .val (.ref b), .val (.int (0 : Int32)), .val (.int (4 : Int32)), .unset, .unset] []))
  refine Go.iconst C X d5_0 (n := 1) rfl (v := (0 : Int32)) rfl ?_
  refine Go.istore C X d5_1 (n := 3) rfl (l' := #[.val (.ref a), .val (.int (0 : Int32)), .val (.ref b), .val (.int (0 : Int32)), .val (.int (4 : Int32)), .val (.int (0 : Int32)), .unset]) rfl ?_
  refine Go.iload C X d5_3 (n := 5) rfl rfl ?_
  refine Go.iload C X d5_5 (n := 7) rfl rfl ?_
  refine Go.icmp_ge C X d5_7 (n1 := 44) (n2 := 10) (by decide) (by decide) rfl (fun hc7 => ?_) (fun hc7 => ?_)
  · exact absurd hc7 (by decide)
  · refine Go.aloadN C X d5_10 (n := 11) rfl rfl rfl ?_
    refine Go.iloadN C X d5_11 (n := 12) rfl rfl ?_
    refine Go.caloadL C X eT V_a (i := 0) rfl (v := .int x0) rfl d5_12 (n := 13) rfl ?_
    refine Go.istore C X d5_13 (n := 15) rfl (l' := #[.val (.ref a), .val (.int (0 : Int32)), .val (.ref b), .val (.int (0 : Int32)), .val (.int (4 : Int32)), .val (.int (0 : Int32)), .val (.int x0)]) rfl ?_
    refine Go.iload C X d5_15 (n := 17) rfl rfl ?_
    refine Go.sipush C X d5_17 (n := 20) rfl (v := (255 : Int32)) rfl ?_
    refine Go.icmp_le C X d5_20 (n1 := 26) (n2 := 23) (by decide) (by decide) rfl (fun hc20 => ?_) (fun hc20 => ?_)
    · refine Go.aloadN C X d5_26 (n := 27) rfl rfl rfl ?_
      refine Go.iloadN C X d5_27 (n := 28) rfl rfl ?_
      refine Go.iload C X d5_28 (n := 30) rfl rfl ?_
      refine Go.i2b C X d5_30 (n := 31) rfl ?_
      refine Go.bastoreL C X eT V_b (i := 0) rfl (by simp) d5_31 (n := 32) rfl ?_
      clear X eT
      intro T h X eT W V_new
      replace V_a := V_a.other W ne_a_b
      replace KP := KP.wr W (Or.inl (List.mem_of_getElem? (i := 0) rfl))
      clear V_b
      rw [own_b8] at V_new
      have V_b : Arl Z h b .byte [(.int (x0.toInt8.toInt32)), (.int (0 : Int32)), (.int (0 : Int32)), (.int (0 : Int32))] := V_new
      clear V_new
      replace N := Fr.snoc X N g_b
      refine Go.iinc C X d5_32 (n := 35) rfl (v := (1 : Int32)) rfl rfl (l' := #[.val (.ref a), .val (.int ((0 : Int32) + (1 : Int32))), .val (.ref b), .val (.int (0 : Int32)), .val (.int (4 : Int32)), .val (.int (0 : Int32)), .val (.int x0)]) rfl ?_
      show Go p e below _ (T.setTop (mkF m 35 #[.val (.ref a), .val (.int (1 : Int32)), .val (.ref b), .val (.int (0 : Int32)), .val (.int (4 : Int32)), .val (.int (0 : Int32)), .val (.int x0)] []))
      refine Go.iinc C X d5_35 (n := 38) rfl (v := (1 : Int32)) rfl rfl (l' := #[.val (.ref a), .val (.int (1 : Int32)), .val (.ref b), .val (.int ((0 : Int32) + (1 : Int32))), .val (.int (4 : Int32)), .val (.int (0 : Int32)), .val (.int x0)]) rfl ?_
      show Go p e below _ (T.setTop (mkF m 38 #[.val (.ref a), .val (.int (1 : Int32)), .val (.ref b), .val (.int (1 : Int32)), .val (.int (4 : Int32)), .val (.int (0 : Int32)), .val (.int x0)] []))
      refine Go.iinc C X d5_38 (n := 41) rfl (v := (1 : Int32)) rfl rfl (l' := #[.val (.ref a), .val (.int (1 : Int32)), .val (.ref b), .val (.int (1 : Int32)), .val (.int (4 : Int32)), .val (.int ((0 : Int32) + (1 : Int32))), .val (.int x0)]) rfl ?_
      show Go p e below _ (T.setTop (mkF m 41 #[.val (.ref a), .val (.int (1 : Int32)), .val (.ref b), .val (.int (1 : Int32)), .val (.int (4 : Int32)), .val (.int (1 : Int32)), .val (.int x0)] []))
      refine Go.goto C X d5_41 (n := 3) (by decide) (by decide) ?_
      refine Go.iload C X d5_3 (n := 5) rfl rfl ?_
      refine Go.iload C X d5_5 (n := 7) rfl rfl ?_
      refine Go.icmp_ge C X d5_7 (n1 := 44) (n2 := 10) (by decide) (by decide) rfl (fun hc7 => ?_) (fun hc7 => ?_)
      · exact absurd hc7 (by decide)
      · refine Go.aloadN C X d5_10 (n := 11) rfl rfl rfl ?_
        refine Go.iloadN C X d5_11 (n := 12) rfl rfl ?_
        refine Go.caloadL C X eT V_a (i := 1) rfl (v := .int x1) rfl d5_12 (n := 13) rfl ?_
        refine Go.istore C X d5_13 (n := 15) rfl (l' := #[.val (.ref a), .val (.int (1 : Int32)), .val (.ref b), .val (.int (1 : Int32)), .val (.int (4 : Int32)), .val (.int (1 : Int32)), .val (.int x1)]) rfl ?_
        refine Go.iload C X d5_15 (n := 17) rfl rfl ?_
        refine Go.sipush C X d5_17 (n := 20) rfl (v := (255 : Int32)) rfl ?_
        refine Go.icmp_le C X d5_20 (n1 := 26) (n2 := 23) (by decide) (by decide) rfl (fun hc20 => ?_) (fun hc20 => ?_)
        · exact absurd u1 hc20
        · refine Go.iload C X d5_23 (n := 25) rfl rfl ?_
          refine Go.retI C X eT d5_25 (by decide) (by decide) ?_
          exact ⟨rfl, N, KP, V_b⟩
    · exact absurd hc20 l0
set_option maxRecDepth 65536 in
set_option maxHeartbeats 40000000 in
theorem compress_4_1 (l : Launch) (Z : State) (a0 : Array Value) (hw : ∀ d ∈ (tables_1 ++ jdkStatics_1), d.before a0 Z = true) (n0 : Nat) (h0 : Heap) (S1 : Sta Z Z.heap "java/lang/StringUTF16" "$assertionsDisabled" "Z" (.int 1)) (S2 : Sta Z Z.heap "java/lang/StringUTF16" "HI_BYTE_SHIFT" "I" (.int 0)) (S3 : Sta Z Z.heap "java/lang/StringUTF16" "LO_BYTE_SHIFT" "I" (.int 8)) (a : Addr) (x0 x1 x2 x3 : Int32) (l0 : ¬ (255 : Int32) < x0) (u1 : (255 : Int32) < x1) (r0 : 0 ≤ x0.toInt ∧ x0.toInt < 65536) (r1 : 0 ≤ x1.toInt ∧ x1.toInt < 65536) (r2 : 0 ≤ x2.toInt ∧ x2.toInt < 65536) (r3 : 0 ≤ x3.toInt ∧ x3.toInt < 65536) (O : Old Z n0 h0) (V_a : Arl Z h0 a .char [(.int x0), (.int x1), (.int x2), (.int x3)]) :
    Ctr l Z (⟨"java/lang/StringUTF16", "compress", "([CII)[B"⟩ : MethodName) jdk_52_method_16_code 6 (some (.array .byte)) ({ frames := 3, cells := 2, slots := 12, locals := 40 } : Room) #[(.ref a), (.int (0 : Int32)), (.int (4 : Int32))] h0 (fun v h L => ∃ b, v = some (.ref b) ∧ Fr n0 L ∧ Keep h0 h [] ∧ h0.size ≤ b ∧ Arl Z h b .byte [(.int ((x0 >>> ((0 : Int32) &&& 31)).toInt8.toInt32)), (.int ((x0 >>> ((8 : Int32) &&& 31)).toInt8.toInt32)), (.int ((x1 >>> ((0 : Int32) &&& 31)).toInt8.toInt32)), (.int ((x1 >>> ((8 : Int32) &&& 31)).toInt8.toInt32)), (.int ((x2 >>> ((0 : Int32) &&& 31)).toInt8.toInt32)), (.int ((x2 >>> ((8 : Int32) &&& 31)).toInt8.toInt32)), (.int ((x3 >>> ((0 : Int32) &&& 31)).toInt8.toInt32)), (.int ((x3 >>> ((8 : Int32) &&& 31)).toInt8.toInt32))]) := by
  refine Ctr.mk (plainFor_of_name pn_0) (ls := #[.val (.ref a), .val (.int (0 : Int32)), .val (.int (4 : Int32)), .unset, .unset, .unset]) (fun m => by first | (simp [entryFrame, mkF, argsToLocals, Value.category]; done) | rfl) ?_
  intro p e s m below meth c T C X eT hs0
  have N := Fr.nil n0
  have KP := Keep.refl h0 []
  show Go p e below _ (T.setTop (mkF m 0 #[.val (.ref a), .val (.int (0 : Int32)), .val (.int (4 : Int32)), .unset, .unset, .unset] []))
  refine Go.iloadN C X d4_0 (n := 1) rfl rfl ?_
  refine Go.newL C X eT (wd hw 20 rfl) (i := 4) rfl (cap := 4) (by decide) d4_1 (n := 3) rfl (by decide) (by decide) (by decide) ?_
  clear X eT
  intro T h b z_b X eT E V_b
  have ne_a_b : a ≠ b := Nat.ne_of_lt (Nat.lt_of_lt_of_le V_a.lt (Nat.le_of_eq z_b.symm))
  have g_b : n0 ≤ b := by rw [z_b]; exact O.le
  have s_b : h0.size ≤ b := by rw [z_b]; exact KP.1
  replace V_a := V_a.ext E
  replace KP := KP.ext E
  replace O := O.ext E
  replace V_b : Arl Z h b .byte [(.int (0 : Int32)), (.int (0 : Int32)), (.int (0 : Int32)), (.int (0 : Int32))] := V_b
  refine Go.astoreN C X d4_3 (n := 4) rfl rfl (l' := #[.val (.ref a), .val (.int (0 : Int32)), .val (.int (4 : Int32)), .val (.ref b), .unset, .unset]) rfl ?_
  refine Go.aloadN C X d4_4 (n := 5) rfl rfl rfl ?_
  refine Go.iloadN C X d4_5 (n := 6) rfl rfl ?_
  refine Go.aloadN C X d4_6 (n := 7) rfl rfl rfl ?_
  refine Go.iconst C X d4_7 (n := 8) rfl (v := (0 : Int32)) rfl ?_
  refine Go.iloadN C X d4_8 (n := 9) rfl rfl ?_
  refine Go.stat C X eT (argsL := [(.ref a), (.int (0 : Int32)), (.ref b), (.int (0 : Int32)), (.int (4 : Int32))]) (rest := []) (loop_4_1 l Z a0 hw n0 _ a b x0 x1 x2 x3 l0 u1 r0 r1 r2 r3 g_b ne_a_b V_a V_b) (wd hw 21 rfl) (wd hw 22 rfl) (wd hw 18 rfl) (wd hw 23 rfl) (by decide) (lenOf pd_3 rfl) rfl d4_9 (n := 12) rfl rfl (by decide) (W := 0) rfl (by decide) (by decide) (by decide) ?_
  clear X eT
  intro T h v L X eT hQ
  obtain ⟨rfl, Nq, KK, V_b⟩ := hQ
  replace N := N.app Nq
  replace V_a := V_a.keep KK (ninS ne_a_b nin0)
  replace KP := KP.trans KK (allS (Or.inr s_b) all0)
  replace O := O.keep KK (allS g_b all0)
  show Go p e below _ (T.setTop (mkF m 12 #[.val (.ref a), .val (.int (0 : Int32)), .val (.int (4 : Int32)), .val (.ref b), .unset, .unset] [(.int (1 : Int32))]))
  refine Go.istore C X d4_12 (n := 14) rfl (l' := #[.val (.ref a), .val (.int (0 : Int32)), .val (.int (4 : Int32)), .val (.ref b), .val (.int (1 : Int32)), .unset]) rfl ?_
  refine Go.iload C X d4_14 (n := 16) rfl rfl ?_
  refine Go.iloadN C X d4_16 (n := 17) rfl rfl ?_
  refine Go.icmp_eq C X d4_17 (n1 := 57) (n2 := 20) (by decide) (by decide) rfl (fun hc17 => ?_) (fun hc17 => ?_)
  · exact absurd hc17 (by decide)
  · refine Go.aloadN C X d4_20 (n := 21) rfl rfl rfl ?_
    refine Go.iloadN C X d4_21 (n := 22) rfl rfl ?_
    refine Go.iloadN C X d4_22 (n := 23) rfl rfl ?_
    refine Go.stat C X eT (argsL := [(.ref a), (.int (0 : Int32)), (.int (4 : Int32))]) (rest := []) (toBytes_4 l Z a0 hw n0 _ S1 S2 S3 a x0 x1 x2 x3 O V_a) (wd hw 87 rfl) (wd hw 88 rfl) (wd hw 18 rfl) (wd hw 89 rfl) (by decide) (lenOf pd_4 rfl) rfl d4_23 (n := 26) rfl rfl (by decide) (W := 0) rfl (by decide) (by decide) (by decide) ?_
    clear X eT
    intro T h v L X eT hQ
    obtain ⟨u, rfl, Nq, KK, s_u, V_u⟩ := hQ
    replace N := N.app Nq
    have ne_a_u : a ≠ u := Nat.ne_of_lt (Nat.lt_of_lt_of_le V_a.lt s_u)
    have ne_b_u : b ≠ u := Nat.ne_of_lt (Nat.lt_of_lt_of_le V_b.lt s_u)
    have g_u : n0 ≤ u := Nat.le_trans O.le s_u
    have sz_u : h0.size ≤ u := Nat.le_trans KP.1 s_u
    replace V_a := V_a.keep KK nin0
    replace KP := KP.trans KK all0
    replace O := O.keep KK all0
    replace V_b := V_b.keep KK nin0
    show Go p e below _ (T.setTop (mkF m 26 #[.val (.ref a), .val (.int (0 : Int32)), .val (.int (4 : Int32)), .val (.ref b), .val (.int (1 : Int32)), .unset] [(.ref u)]))
    refine Go.astore C X d4_26 (n := 28) rfl rfl (l' := #[.val (.ref a), .val (.int (0 : Int32)), .val (.int (4 : Int32)), .val (.ref b), .val (.int (1 : Int32)), .val (.ref u)]) rfl ?_
    refine Go.aload C X d4_28 (n := 30) rfl rfl rfl ?_
    refine Go.iload C X d4_30 (n := 32) rfl rfl ?_
    refine Go.stat C X eT (argsL := [(.ref u), (.int (1 : Int32))]) (rest := []) (getChar_4_1 l Z a0 hw n0 _ S1 S2 S3 u x0 x1 x2 x3 r1 O V_u) (wd hw 103 rfl) (wd hw 104 rfl) (wd hw 18 rfl) (wd hw 105 rfl) (by decide) (lenOf pd_5 rfl) rfl d4_32 (n := 35) rfl rfl (by decide) (W := 0) rfl (by decide) (by decide) (by decide) ?_
    clear X eT
    intro T h' v L X eT hQ
    obtain ⟨rfl, rfl, hE⟩ := hQ
    replace hE := hE.symm
    subst hE
    replace N := N.app (Fr.nil n0)
    show Go p e below _ (T.setTop (mkF m 35 #[.val (.ref a), .val (.int (0 : Int32)), .val (.int (4 : Int32)), .val (.ref b), .val (.int (1 : Int32)), .val (.ref u)] [(.int x1)]))
    refine Go.sipush C X d4_35 (n := 38) rfl (v := (255 : Int32)) rfl ?_
    refine Go.icmp_gt C X d4_38 (n1 := 54) (n2 := 41) (by decide) (by decide) rfl (fun hc38 => ?_) (fun hc38 => ?_)
    · refine Go.aload C X d4_54 (n := 56) rfl rfl rfl ?_
      refine Go.retA C X eT rfl rfl rfl d4_56 (by decide) (by decide) ?_
      exact ⟨u, rfl, N, KP, sz_u, V_u⟩
    · exact absurd u1 hc38
set_option maxRecDepth 65536 in
set_option maxHeartbeats 40000000 in
theorem init4_4_1 (l : Launch) (Z : State) (a0 : Array Value) (hw : ∀ d ∈ (tables_1 ++ jdkStatics_1), d.before a0 Z = true) (n0 : Nat) (h0 : Heap) (cs : Int32) (SZ : Sta Z Z.heap "java/lang/String" "COMPACT_STRINGS" "Z" (.int cs)) (hcs : cs ≠ 0) (S1 : Sta Z Z.heap "java/lang/StringUTF16" "$assertionsDisabled" "Z" (.int 1)) (S2 : Sta Z Z.heap "java/lang/StringUTF16" "HI_BYTE_SHIFT" "I" (.int 0)) (S3 : Sta Z Z.heap "java/lang/StringUTF16" "LO_BYTE_SHIFT" "I" (.int 8)) (t a : Addr) (g_t : n0 ≤ t) (ne_a_t : a ≠ t) (E_t : Exa Z h0 t "java/lang/String") (F_t_value : Fld Z h0 t "java/lang/String" "value" "[B" .null) (F_t_coder : Fld Z h0 t "java/lang/String" "coder" "B" (.int 0)) (x0 x1 x2 x3 : Int32) (l0 : ¬ (255 : Int32) < x0) (u1 : (255 : Int32) < x1) (r0 : 0 ≤ x0.toInt ∧ x0.toInt < 65536) (r1 : 0 ≤ x1.toInt ∧ x1.toInt < 65536) (r2 : 0 ≤ x2.toInt ∧ x2.toInt < 65536) (r3 : 0 ≤ x3.toInt ∧ x3.toInt < 65536) (O : Old Z n0 h0) (V_a : Arl Z h0 a .char [(.int x0), (.int x1), (.int x2), (.int x3)]) :
    Ctr l Z (⟨"java/lang/String", "<init>", "([CIILjava/lang/Void;)V"⟩ : MethodName) jdk_42_method_149_code 6 none ({ frames := 4, cells := 2, slots := 12, locals := 57 } : Room) #[(.ref t), (.ref a), (.int (0 : Int32)), (.int (4 : Int32)), .null] h0 (fun v h L => v = none ∧ Fr n0 L ∧ Keep h0 h [t] ∧ ∃ b, h0.size ≤ b ∧ Fld Z h t "java/lang/String" "value" "[B" (.ref b) ∧ Fld Z h t "java/lang/String" "coder" "B" (.int (1 : Int32)) ∧ Arl Z h b .byte [(.int ((x0 >>> ((0 : Int32) &&& 31)).toInt8.toInt32)), (.int ((x0 >>> ((8 : Int32) &&& 31)).toInt8.toInt32)), (.int ((x1 >>> ((0 : Int32) &&& 31)).toInt8.toInt32)), (.int ((x1 >>> ((8 : Int32) &&& 31)).toInt8.toInt32)), (.int ((x2 >>> ((0 : Int32) &&& 31)).toInt8.toInt32)), (.int ((x2 >>> ((8 : Int32) &&& 31)).toInt8.toInt32)), (.int ((x3 >>> ((0 : Int32) &&& 31)).toInt8.toInt32)), (.int ((x3 >>> ((8 : Int32) &&& 31)).toInt8.toInt32))]) := by
  refine Ctr.mk (plainFor_of_name pn_1) (ls := #[.val (.ref t), .val (.ref a), .val (.int (0 : Int32)), .val (.int (4 : Int32)), .val .null, .unset]) (fun m => by first | (simp [entryFrame, mkF, argsToLocals, Value.category]; done) | rfl) ?_
  intro p e s m below meth c T C X eT hs0
  have N := Fr.nil n0
  have KP := Keep.refl h0 [t]
  show Go p e below _ (T.setTop (mkF m 0 #[.val (.ref t), .val (.ref a), .val (.int (0 : Int32)), .val (.int (4 : Int32)), .val .null, .unset] []))
  refine Go.aloadN C X d2_0 (n := 1) rfl rfl rfl ?_
  refine Go.initO C X eT (W := 0) (wd hw 12 rfl) (wd hw 13 rfl) (wd hw 14 rfl) d2_1 (n := 4) rfl rfl (by decide) rfl (by decide) ?_
  clear X eT
  intro T X eT
  refine Go.iloadN C X d2_4 (n := 5) rfl rfl ?_
  refine Go.if0_ne C X d2_5 (n1 := 27) (n2 := 8) (by decide) (by decide) rfl (fun hc5 => ?_) (fun hc5 => ?_)
  · refine Go.getS C X eT (wd hw 15 rfl) Via.refl (SZ.old O) d2_27 (n := 30) rfl ?_
    clear X eT
    intro T X eT
    refine Go.if0_eq C X d2_30 (n1 := 58) (n2 := 33) (by decide) (by decide) rfl (fun hc30 => ?_) (fun hc30 => ?_)
    · exact absurd hc30 hcs
    · refine Go.aloadN C X d2_33 (n := 34) rfl rfl rfl ?_
      refine Go.iloadN C X d2_34 (n := 35) rfl rfl ?_
      refine Go.iloadN C X d2_35 (n := 36) rfl rfl ?_
      refine Go.stat C X eT (argsL := [(.ref a), (.int (0 : Int32)), (.int (4 : Int32))]) (rest := []) (compress_4_1 l Z a0 hw n0 _ S1 S2 S3 a x0 x1 x2 x3 l0 u1 r0 r1 r2 r3 O V_a) (wd hw 16 rfl) (wd hw 17 rfl) (wd hw 18 rfl) (wd hw 19 rfl) (by decide) (lenOf pd_4 rfl) rfl d2_36 (n := 39) rfl rfl (by decide) (W := 0) rfl (by decide) (by decide) (by decide) ?_
      clear X eT
      intro T h v L X eT hQ
      obtain ⟨b, rfl, Nq, KK, s_b, V_b⟩ := hQ
      replace N := N.app Nq
      have ne_t_b : t ≠ b := Nat.ne_of_lt (Nat.lt_of_lt_of_le E_t.lt s_b)
      have ne_a_b : a ≠ b := Nat.ne_of_lt (Nat.lt_of_lt_of_le V_a.lt s_b)
      have g_b : n0 ≤ b := Nat.le_trans O.le s_b
      have sz_b : h0.size ≤ b := Nat.le_trans KP.1 s_b
      replace E_t := E_t.keep KK
      replace F_t_value := F_t_value.keep KK nin0
      replace F_t_coder := F_t_coder.keep KK nin0
      replace O := O.keep KK all0
      replace KP := KP.trans KK all0
      replace V_a := V_a.keep KK nin0
      show Go p e below _ (T.setTop (mkF m 39 #[.val (.ref t), .val (.ref a), .val (.int (0 : Int32)), .val (.int (4 : Int32)), .val .null, .unset] [(.ref b)]))
      refine Go.astore C X d2_39 (n := 41) rfl rfl (l' := #[.val (.ref t), .val (.ref a), .val (.int (0 : Int32)), .val (.int (4 : Int32)), .val .null, .val (.ref b)]) rfl ?_
      refine Go.aloadN C X d2_41 (n := 42) rfl rfl rfl ?_
      refine Go.aload C X d2_42 (n := 44) rfl rfl rfl ?_
      refine Go.iloadN C X d2_44 (n := 45) rfl rfl ?_
      refine Go.stat C X eT (argsL := [(.ref b), (.int (4 : Int32))]) (rest := [(.ref t)]) (cfal_4_8 l Z a0 hw n0 _ b _ rfl V_b) (wd hw 24 rfl) (wd hw 25 rfl) (wd hw 18 rfl) (wd hw 26 rfl) (by decide) (lenOf pd_6 rfl) rfl d2_45 (n := 48) rfl rfl (by decide) (W := 1) rfl (by decide) (by decide) (by decide) ?_
      clear X eT
      intro T h' v L X eT hQ
      obtain ⟨rfl, rfl, hE⟩ := hQ
      replace hE := hE.symm
      subst hE
      replace N := N.app (Fr.nil n0)
      show Go p e below _ (T.setTop (mkF m 48 #[.val (.ref t), .val (.ref a), .val (.int (0 : Int32)), .val (.int (4 : Int32)), .val .null, .val (.ref b)] [(.int (1 : Int32)), (.ref t)]))
      refine Go.putF C X eT (wd hw 27 rfl) Via.refl F_t_coder E_t (Or.inr ⟨(wd hw 28 rfl), rfl, rfl⟩) (wd hw 3 rfl) (ty := .byte) (by decide) rfl rfl d2_48 (n := 51) rfl ?_
      clear X eT
      intro T h X eT W
      replace E_t := E_t.wr W
      replace F_t_value := F_t_value.other W (Or.inr (slot_ne (Or.inr (wd hw 30 rfl)) (Or.inr (wd hw 28 rfl)) (by decide) (t := (.array .byte)) (t' := .byte) (by decide) (by decide)))
      replace F_t_coder := F_t_coder.same W
      replace O := O.wr W g_t
      replace KP := KP.wr W (Or.inl (List.mem_of_getElem? (i := 0) rfl))
      replace V_a := V_a.other W ne_a_t
      replace V_b := V_b.other W (Ne.symm ne_t_b)
      replace N := Fr.snoc X N g_t
      refine Go.aloadN C X d2_51 (n := 52) rfl rfl rfl ?_
      refine Go.aload C X d2_52 (n := 54) rfl rfl rfl ?_
      refine Go.putF C X eT (wd hw 29 rfl) Via.refl F_t_value E_t (Or.inr ⟨(wd hw 30 rfl), rfl, rfl⟩) (wd hw 3 rfl) (ty := (.array .byte)) (by decide) rfl rfl d2_54 (n := 57) rfl ?_
      clear X eT
      intro T h X eT W
      replace E_t := E_t.wr W
      replace F_t_value := F_t_value.same W
      replace F_t_coder := F_t_coder.other W (Or.inr (slot_ne (Or.inr (wd hw 28 rfl)) (Or.inr (wd hw 30 rfl)) (by decide) (t := .byte) (t' := (.array .byte)) (by decide) (by decide)))
      replace O := O.wr W g_t
      replace KP := KP.wr W (Or.inl (List.mem_of_getElem? (i := 0) rfl))
      replace V_a := V_a.other W ne_a_t
      replace V_b := V_b.other W (Ne.symm ne_t_b)
      replace N := Fr.snoc X N g_t
      refine Go.ret0 C X eT d2_57 (by decide) (by decide) ?_
      exact ⟨rfl, N, KP, b, sz_b, F_t_value, F_t_coder, V_b⟩
  · exact absurd hc5 (by decide)
set_option maxRecDepth 65536 in
set_option maxHeartbeats 40000000 in
theorem init1_4_1 (l : Launch) (Z : State) (a0 : Array Value) (hw : ∀ d ∈ (tables_1 ++ jdkStatics_1), d.before a0 Z = true) (n0 : Nat) (h0 : Heap) (cs : Int32) (SZ : Sta Z Z.heap "java/lang/String" "COMPACT_STRINGS" "Z" (.int cs)) (hcs : cs ≠ 0) (S1 : Sta Z Z.heap "java/lang/StringUTF16" "$assertionsDisabled" "Z" (.int 1)) (S2 : Sta Z Z.heap "java/lang/StringUTF16" "HI_BYTE_SHIFT" "I" (.int 0)) (S3 : Sta Z Z.heap "java/lang/StringUTF16" "LO_BYTE_SHIFT" "I" (.int 8)) (t a : Addr) (g_t : n0 ≤ t) (ne_a_t : a ≠ t) (E_t : Exa Z h0 t "java/lang/String") (F_t_value : Fld Z h0 t "java/lang/String" "value" "[B" .null) (F_t_coder : Fld Z h0 t "java/lang/String" "coder" "B" (.int 0)) (x0 x1 x2 x3 : Int32) (l0 : ¬ (255 : Int32) < x0) (u1 : (255 : Int32) < x1) (r0 : 0 ≤ x0.toInt ∧ x0.toInt < 65536) (r1 : 0 ≤ x1.toInt ∧ x1.toInt < 65536) (r2 : 0 ≤ x2.toInt ∧ x2.toInt < 65536) (r3 : 0 ≤ x3.toInt ∧ x3.toInt < 65536) (O : Old Z n0 h0) (V_a : Arl Z h0 a .char [(.int x0), (.int x1), (.int x2), (.int x3)]) :
    Ctr l Z (⟨"java/lang/String", "<init>", "([C)V"⟩ : MethodName) jdk_42_method_3_code 2 none ({ frames := 5, cells := 2, slots := 12, locals := 74 } : Room) #[(.ref t), (.ref a)] h0 (fun v h L => v = none ∧ Fr n0 L ∧ Keep h0 h [t] ∧ ∃ b, h0.size ≤ b ∧ Fld Z h t "java/lang/String" "value" "[B" (.ref b) ∧ Fld Z h t "java/lang/String" "coder" "B" (.int (1 : Int32)) ∧ Arl Z h b .byte [(.int ((x0 >>> ((0 : Int32) &&& 31)).toInt8.toInt32)), (.int ((x0 >>> ((8 : Int32) &&& 31)).toInt8.toInt32)), (.int ((x1 >>> ((0 : Int32) &&& 31)).toInt8.toInt32)), (.int ((x1 >>> ((8 : Int32) &&& 31)).toInt8.toInt32)), (.int ((x2 >>> ((0 : Int32) &&& 31)).toInt8.toInt32)), (.int ((x2 >>> ((8 : Int32) &&& 31)).toInt8.toInt32)), (.int ((x3 >>> ((0 : Int32) &&& 31)).toInt8.toInt32)), (.int ((x3 >>> ((8 : Int32) &&& 31)).toInt8.toInt32))]) := by
  refine Ctr.mk (plainFor_of_name pn_1) (ls := #[.val (.ref t), .val (.ref a)]) (fun m => by first | (simp [entryFrame, mkF, argsToLocals, Value.category]; done) | rfl) ?_
  intro p e s m below meth c T C X eT hs0
  have N := Fr.nil n0
  have KP := Keep.refl h0 [t]
  show Go p e below _ (T.setTop (mkF m 0 #[.val (.ref t), .val (.ref a)] []))
  refine Go.aloadN C X d1_0 (n := 1) rfl rfl rfl ?_
  refine Go.aloadN C X d1_1 (n := 2) rfl rfl rfl ?_
  refine Go.iconst C X d1_2 (n := 3) rfl (v := (0 : Int32)) rfl ?_
  refine Go.aloadN C X d1_3 (n := 4) rfl rfl rfl ?_
  refine Go.lengthL C X eT V_a (z := (4 : Int32)) rfl d1_4 (n := 5) rfl ?_
  refine Go.aconstNull C X d1_5 (n := 6) rfl ?_
  refine Go.spec C X eT (argsL := [(.ref a), (.int (0 : Int32)), (.int (4 : Int32)), .null]) (rest := []) (a := t) (init4_4_1 l Z a0 hw n0 _ cs SZ hcs S1 S2 S3 t a g_t ne_a_t E_t F_t_value F_t_coder x0 x1 x2 x3 l0 u1 r0 r1 r2 r3 O V_a) rfl (wd hw 8 rfl) (wd hw 9 rfl) (wd hw 4 rfl) (wd hw 11 rfl) (by decide) (lenOf pd_7 rfl) rfl d1_6 (n := 9) rfl rfl (by decide) (W := 0) rfl (by decide) (by decide) (by decide) ?_
  clear X eT
  intro T h v L X eT hQ
  obtain ⟨rfl, Nq, KK, b, s_b, F_t_value, F_t_coder, V_b⟩ := hQ
  replace N := N.app Nq
  replace E_t := E_t.keep KK
  replace O := O.keep KK (allS g_t all0)
  replace KP := KP.trans KK (allS (Or.inl (List.mem_of_getElem? (i := 0) rfl)) all0)
  replace V_a := V_a.keep KK (ninS ne_a_t nin0)
  show Go p e below _ (T.setTop (mkF m 9 #[.val (.ref t), .val (.ref a)] []))
  refine Go.ret0 C X eT d1_9 (by decide) (by decide) ?_
  exact ⟨rfl, N, KP, b, s_b, F_t_value, F_t_coder, V_b⟩
set_option maxRecDepth 65536 in
set_option maxHeartbeats 40000000 in
theorem loop_4_2 (l : Launch) (Z : State) (a0 : Array Value) (hw : ∀ d ∈ (tables_1 ++ jdkStatics_1), d.before a0 Z = true) (n0 : Nat) (h0 : Heap) (a b : Addr) (x0 x1 x2 x3 : Int32) (l0 : ¬ (255 : Int32) < x0) (l1 : ¬ (255 : Int32) < x1) (u2 : (255 : Int32) < x2) (r0 : 0 ≤ x0.toInt ∧ x0.toInt < 65536) (r1 : 0 ≤ x1.toInt ∧ x1.toInt < 65536) (r2 : 0 ≤ x2.toInt ∧ x2.toInt < 65536) (r3 : 0 ≤ x3.toInt ∧ x3.toInt < 65536) (g_b : n0 ≤ b) (ne_a_b : a ≠ b) (V_a : Arl Z h0 a .char [(.int x0), (.int x1), (.int x2), (.int x3)]) (V_b : Arl Z h0 b .byte [(.int (0 : Int32)), (.int (0 : Int32)), (.int (0 : Int32)), (.int (0 : Int32))]) :
    Ctr l Z (⟨"java/lang/StringUTF16", "compress", "([CI[BII)I"⟩ : MethodName) jdk_52_method_21_code 7 (some .int) ({ frames := 0, cells := 0, slots := 0, locals := 0 } : Room) #[(.ref a), (.int (0 : Int32)), (.ref b), (.int (0 : Int32)), (.int (4 : Int32))] h0 (fun v h L => v = some (.int (2 : Int32)) ∧ Fr n0 L ∧ Keep h0 h [b] ∧ Arl Z h b .byte [(.int (x0.toInt8.toInt32)), (.int (x1.toInt8.toInt32)), (.int (0 : Int32)), (.int (0 : Int32))]) := by
  refine Ctr.mk (plainFor_of_name pn_0) (ls := #[.val (.ref a), .val (.int (0 : Int32)), .val (.ref b), .val (.int (0 : Int32)), .val (.int (4 : Int32)), .unset, .unset]) (fun m => by first | (simp [entryFrame, mkF, argsToLocals, Value.category]; done) | rfl) ?_
  intro p e s m below meth c T C X eT hs0
  have N := Fr.nil n0
  have KP := Keep.refl h0 [b]
  show Go p e below _ (T.setTop (mkF m 0 #[.val (.ref a), .val (.int (0 : Int32)), .val (.ref b), .val (.int (0 : Int32)), .val (.int (4 : Int32)), .unset, .unset] []))
  refine Go.iconst C X d5_0 (n := 1) rfl (v := (0 : Int32)) rfl ?_
  refine Go.istore C X d5_1 (n := 3) rfl (l' := #[.val (.ref a), .val (.int (0 : Int32)), .val (.ref b), .val (.int (0 : Int32)), .val (.int (4 : Int32)), .val (.int (0 : Int32)), .unset]) rfl ?_
  refine Go.iload C X d5_3 (n := 5) rfl rfl ?_
  refine Go.iload C X d5_5 (n := 7) rfl rfl ?_
  refine Go.icmp_ge C X d5_7 (n1 := 44) (n2 := 10) (by decide) (by decide) rfl (fun hc7 => ?_) (fun hc7 => ?_)
  · exact absurd hc7 (by decide)
  · refine Go.aloadN C X d5_10 (n := 11) rfl rfl rfl ?_
    refine Go.iloadN C X d5_11 (n := 12) rfl rfl ?_
    refine Go.caloadL C X eT V_a (i := 0) rfl (v := .int x0) rfl d5_12 (n := 13) rfl ?_
    refine Go.istore C X d5_13 (n := 15) rfl (l' := #[.val (.ref a), .val (.int (0 : Int32)), .val (.ref b), .val (.int (0 : Int32)), .val (.int (4 : Int32)), .val (.int (0 : Int32)), .val (.int x0)]) rfl ?_
    refine Go.iload C X d5_15 (n := 17) rfl rfl ?_
    refine Go.sipush C X d5_17 (n := 20) rfl (v := (255 : Int32)) rfl ?_
    refine Go.icmp_le C X d5_20 (n1 := 26) (n2 := 23) (by decide) (by decide) rfl (fun hc20 => ?_) (fun hc20 => ?_)
    · refine Go.aloadN C X d5_26 (n := 27) rfl rfl rfl ?_
      refine Go.iloadN C X d5_27 (n := 28) rfl rfl ?_
      refine Go.iload C X d5_28 (n := 30) rfl rfl ?_
      refine Go.i2b C X d5_30 (n := 31) rfl ?_
      refine Go.bastoreL C X eT V_b (i := 0) rfl (by simp) d5_31 (n := 32) rfl ?_
      clear X eT
      intro T h X eT W V_new
      replace V_a := V_a.other W ne_a_b
      replace KP := KP.wr W (Or.inl (List.mem_of_getElem? (i := 0) rfl))
      clear V_b
      rw [own_b8] at V_new
      have V_b : Arl Z h b .byte [(.int (x0.toInt8.toInt32)), (.int (0 : Int32)), (.int (0 : Int32)), (.int (0 : Int32))] := V_new
      clear V_new
      replace N := Fr.snoc X N g_b
      refine Go.iinc C X d5_32 (n := 35) rfl (v := (1 : Int32)) rfl rfl (l' := #[.val (.ref a), .val (.int ((0 : Int32) + (1 : Int32))), .val (.ref b), .val (.int (0 : Int32)), .val (.int (4 : Int32)), .val (.int (0 : Int32)), .val (.int x0)]) rfl ?_
      show Go p e below _ (T.setTop (mkF m 35 #[.val (.ref a), .val (.int (1 : Int32)), .val (.ref b), .val (.int (0 : Int32)), .val (.int (4 : Int32)), .val (.int (0 : Int32)), .val (.int x0)] []))
      refine Go.iinc C X d5_35 (n := 38) rfl (v := (1 : Int32)) rfl rfl (l' := #[.val (.ref a), .val (.int (1 : Int32)), .val (.ref b), .val (.int ((0 : Int32) + (1 : Int32))), .val (.int (4 : Int32)), .val (.int (0 : Int32)), .val (.int x0)]) rfl ?_
      show Go p e below _ (T.setTop (mkF m 38 #[.val (.ref a), .val (.int (1 : Int32)), .val (.ref b), .val (.int (1 : Int32)), .val (.int (4 : Int32)), .val (.int (0 : Int32)), .val (.int x0)] []))
      refine Go.iinc C X d5_38 (n := 41) rfl (v := (1 : Int32)) rfl rfl (l' := #[.val (.ref a), .val (.int (1 : Int32)), .val (.ref b), .val (.int (1 : Int32)), .val (.int (4 : Int32)), .val (.int ((0 : Int32) + (1 : Int32))), .val (.int x0)]) rfl ?_
      show Go p e below _ (T.setTop (mkF m 41 #[.val (.ref a), .val (.int (1 : Int32)), .val (.ref b), .val (.int (1 : Int32)), .val (.int (4 : Int32)), .val (.int (1 : Int32)), .val (.int x0)] []))
      refine Go.goto C X d5_41 (n := 3) (by decide) (by decide) ?_
      refine Go.iload C X d5_3 (n := 5) rfl rfl ?_
      refine Go.iload C X d5_5 (n := 7) rfl rfl ?_
      refine Go.icmp_ge C X d5_7 (n1 := 44) (n2 := 10) (by decide) (by decide) rfl (fun hc7 => ?_) (fun hc7 => ?_)
      · exact absurd hc7 (by decide)
      · refine Go.aloadN C X d5_10 (n := 11) rfl rfl rfl ?_
        refine Go.iloadN C X d5_11 (n := 12) rfl rfl ?_
        refine Go.caloadL C X eT V_a (i := 1) rfl (v := .int x1) rfl d5_12 (n := 13) rfl ?_
        refine Go.istore C X d5_13 (n := 15) rfl (l' := #[.val (.ref a), .val (.int (1 : Int32)), .val (.ref b), .val (.int (1 : Int32)), .val (.int (4 : Int32)), .val (.int (1 : Int32)), .val (.int x1)]) rfl ?_
        refine Go.iload C X d5_15 (n := 17) rfl rfl ?_
        refine Go.sipush C X d5_17 (n := 20) rfl (v := (255 : Int32)) rfl ?_
        refine Go.icmp_le C X d5_20 (n1 := 26) (n2 := 23) (by decide) (by decide) rfl (fun hc20 => ?_) (fun hc20 => ?_)
        · refine Go.aloadN C X d5_26 (n := 27) rfl rfl rfl ?_
          refine Go.iloadN C X d5_27 (n := 28) rfl rfl ?_
          refine Go.iload C X d5_28 (n := 30) rfl rfl ?_
          refine Go.i2b C X d5_30 (n := 31) rfl ?_
          refine Go.bastoreL C X eT V_b (i := 1) rfl (by simp) d5_31 (n := 32) rfl ?_
          clear X eT
          intro T h X eT W V_new
          replace V_a := V_a.other W ne_a_b
          replace KP := KP.wr W (Or.inl (List.mem_of_getElem? (i := 0) rfl))
          clear V_b
          rw [own_b8] at V_new
          have V_b : Arl Z h b .byte [(.int (x0.toInt8.toInt32)), (.int (x1.toInt8.toInt32)), (.int (0 : Int32)), (.int (0 : Int32))] := V_new
          clear V_new
          replace N := Fr.snoc X N g_b
          refine Go.iinc C X d5_32 (n := 35) rfl (v := (1 : Int32)) rfl rfl (l' := #[.val (.ref a), .val (.int ((1 : Int32) + (1 : Int32))), .val (.ref b), .val (.int (1 : Int32)), .val (.int (4 : Int32)), .val (.int (1 : Int32)), .val (.int x1)]) rfl ?_
          show Go p e below _ (T.setTop (mkF m 35 #[.val (.ref a), .val (.int (2 : Int32)), .val (.ref b), .val (.int (1 : Int32)), .val (.int (4 : Int32)), .val (.int (1 : Int32)), .val (.int x1)] []))
          refine Go.iinc C X d5_35 (n := 38) rfl (v := (1 : Int32)) rfl rfl (l' := #[.val (.ref a), .val (.int (2 : Int32)), .val (.ref b), .val (.int ((1 : Int32) + (1 : Int32))), .val (.int (4 : Int32)), .val (.int (1 : Int32)), .val (.int x1)]) rfl ?_
          show Go p e below _ (T.setTop (mkF m 38 #[.val (.ref a), .val (.int (2 : Int32)), .val (.ref b), .val (.int (2 : Int32)), .val (.int (4 : Int32)), .val (.int (1 : Int32)), .val (.int x1)] []))
          refine Go.iinc C X d5_38 (n := 41) rfl (v := (1 : Int32)) rfl rfl (l' := #[.val (.ref a), .val (.int (2 : Int32)), .val (.ref b), .val (.int (2 : Int32)), .val (.int (4 : Int32)), .val (.int ((1 : Int32) + (1 : Int32))), .val (.int x1)]) rfl ?_
          show Go p e below _ (T.setTop (mkF m 41 #[.val (.ref a), .val (.int (2 : Int32)), .val (.ref b), .val (.int (2 : Int32)), .val (.int (4 : Int32)), .val (.int (2 : Int32)), .val (.int x1)] []))
          refine Go.goto C X d5_41 (n := 3) (by decide) (by decide) ?_
          refine Go.iload C X d5_3 (n := 5) rfl rfl ?_
          refine Go.iload C X d5_5 (n := 7) rfl rfl ?_
          refine Go.icmp_ge C X d5_7 (n1 := 44) (n2 := 10) (by decide) (by decide) rfl (fun hc7 => ?_) (fun hc7 => ?_)
          · exact absurd hc7 (by decide)
          · refine Go.aloadN C X d5_10 (n := 11) rfl rfl rfl ?_
            refine Go.iloadN C X d5_11 (n := 12) rfl rfl ?_
            refine Go.caloadL C X eT V_a (i := 2) rfl (v := .int x2) rfl d5_12 (n := 13) rfl ?_
            refine Go.istore C X d5_13 (n := 15) rfl (l' := #[.val (.ref a), .val (.int (2 : Int32)), .val (.ref b), .val (.int (2 : Int32)), .val (.int (4 : Int32)), .val (.int (2 : Int32)), .val (.int x2)]) rfl ?_
            refine Go.iload C X d5_15 (n := 17) rfl rfl ?_
            refine Go.sipush C X d5_17 (n := 20) rfl (v := (255 : Int32)) rfl ?_
            refine Go.icmp_le C X d5_20 (n1 := 26) (n2 := 23) (by decide) (by decide) rfl (fun hc20 => ?_) (fun hc20 => ?_)
            · exact absurd u2 hc20
            · refine Go.iload C X d5_23 (n := 25) rfl rfl ?_
              refine Go.retI C X eT d5_25 (by decide) (by decide) ?_
              exact ⟨rfl, N, KP, V_b⟩
        · exact absurd hc20 l1
    · exact absurd hc20 l0
set_option maxRecDepth 65536 in
set_option maxHeartbeats 40000000 in
theorem compress_4_2 (l : Launch) (Z : State) (a0 : Array Value) (hw : ∀ d ∈ (tables_1 ++ jdkStatics_1), d.before a0 Z = true) (n0 : Nat) (h0 : Heap) (S1 : Sta Z Z.heap "java/lang/StringUTF16" "$assertionsDisabled" "Z" (.int 1)) (S2 : Sta Z Z.heap "java/lang/StringUTF16" "HI_BYTE_SHIFT" "I" (.int 0)) (S3 : Sta Z Z.heap "java/lang/StringUTF16" "LO_BYTE_SHIFT" "I" (.int 8)) (a : Addr) (x0 x1 x2 x3 : Int32) (l0 : ¬ (255 : Int32) < x0) (l1 : ¬ (255 : Int32) < x1) (u2 : (255 : Int32) < x2) (r0 : 0 ≤ x0.toInt ∧ x0.toInt < 65536) (r1 : 0 ≤ x1.toInt ∧ x1.toInt < 65536) (r2 : 0 ≤ x2.toInt ∧ x2.toInt < 65536) (r3 : 0 ≤ x3.toInt ∧ x3.toInt < 65536) (O : Old Z n0 h0) (V_a : Arl Z h0 a .char [(.int x0), (.int x1), (.int x2), (.int x3)]) :
    Ctr l Z (⟨"java/lang/StringUTF16", "compress", "([CII)[B"⟩ : MethodName) jdk_52_method_16_code 6 (some (.array .byte)) ({ frames := 3, cells := 2, slots := 12, locals := 40 } : Room) #[(.ref a), (.int (0 : Int32)), (.int (4 : Int32))] h0 (fun v h L => ∃ b, v = some (.ref b) ∧ Fr n0 L ∧ Keep h0 h [] ∧ h0.size ≤ b ∧ Arl Z h b .byte [(.int ((x0 >>> ((0 : Int32) &&& 31)).toInt8.toInt32)), (.int ((x0 >>> ((8 : Int32) &&& 31)).toInt8.toInt32)), (.int ((x1 >>> ((0 : Int32) &&& 31)).toInt8.toInt32)), (.int ((x1 >>> ((8 : Int32) &&& 31)).toInt8.toInt32)), (.int ((x2 >>> ((0 : Int32) &&& 31)).toInt8.toInt32)), (.int ((x2 >>> ((8 : Int32) &&& 31)).toInt8.toInt32)), (.int ((x3 >>> ((0 : Int32) &&& 31)).toInt8.toInt32)), (.int ((x3 >>> ((8 : Int32) &&& 31)).toInt8.toInt32))]) := by
  refine Ctr.mk (plainFor_of_name pn_0) (ls := #[.val (.ref a), .val (.int (0 : Int32)), .val (.int (4 : Int32)), .unset, .unset, .unset]) (fun m => by first | (simp [entryFrame, mkF, argsToLocals, Value.category]; done) | rfl) ?_
  intro p e s m below meth c T C X eT hs0
  have N := Fr.nil n0
  have KP := Keep.refl h0 []
  show Go p e below _ (T.setTop (mkF m 0 #[.val (.ref a), .val (.int (0 : Int32)), .val (.int (4 : Int32)), .unset, .unset, .unset] []))
  refine Go.iloadN C X d4_0 (n := 1) rfl rfl ?_
  refine Go.newL C X eT (wd hw 20 rfl) (i := 4) rfl (cap := 4) (by decide) d4_1 (n := 3) rfl (by decide) (by decide) (by decide) ?_
  clear X eT
  intro T h b z_b X eT E V_b
  have ne_a_b : a ≠ b := Nat.ne_of_lt (Nat.lt_of_lt_of_le V_a.lt (Nat.le_of_eq z_b.symm))
  have g_b : n0 ≤ b := by rw [z_b]; exact O.le
  have s_b : h0.size ≤ b := by rw [z_b]; exact KP.1
  replace V_a := V_a.ext E
  replace KP := KP.ext E
  replace O := O.ext E
  replace V_b : Arl Z h b .byte [(.int (0 : Int32)), (.int (0 : Int32)), (.int (0 : Int32)), (.int (0 : Int32))] := V_b
  refine Go.astoreN C X d4_3 (n := 4) rfl rfl (l' := #[.val (.ref a), .val (.int (0 : Int32)), .val (.int (4 : Int32)), .val (.ref b), .unset, .unset]) rfl ?_
  refine Go.aloadN C X d4_4 (n := 5) rfl rfl rfl ?_
  refine Go.iloadN C X d4_5 (n := 6) rfl rfl ?_
  refine Go.aloadN C X d4_6 (n := 7) rfl rfl rfl ?_
  refine Go.iconst C X d4_7 (n := 8) rfl (v := (0 : Int32)) rfl ?_
  refine Go.iloadN C X d4_8 (n := 9) rfl rfl ?_
  refine Go.stat C X eT (argsL := [(.ref a), (.int (0 : Int32)), (.ref b), (.int (0 : Int32)), (.int (4 : Int32))]) (rest := []) (loop_4_2 l Z a0 hw n0 _ a b x0 x1 x2 x3 l0 l1 u2 r0 r1 r2 r3 g_b ne_a_b V_a V_b) (wd hw 21 rfl) (wd hw 22 rfl) (wd hw 18 rfl) (wd hw 23 rfl) (by decide) (lenOf pd_3 rfl) rfl d4_9 (n := 12) rfl rfl (by decide) (W := 0) rfl (by decide) (by decide) (by decide) ?_
  clear X eT
  intro T h v L X eT hQ
  obtain ⟨rfl, Nq, KK, V_b⟩ := hQ
  replace N := N.app Nq
  replace V_a := V_a.keep KK (ninS ne_a_b nin0)
  replace KP := KP.trans KK (allS (Or.inr s_b) all0)
  replace O := O.keep KK (allS g_b all0)
  show Go p e below _ (T.setTop (mkF m 12 #[.val (.ref a), .val (.int (0 : Int32)), .val (.int (4 : Int32)), .val (.ref b), .unset, .unset] [(.int (2 : Int32))]))
  refine Go.istore C X d4_12 (n := 14) rfl (l' := #[.val (.ref a), .val (.int (0 : Int32)), .val (.int (4 : Int32)), .val (.ref b), .val (.int (2 : Int32)), .unset]) rfl ?_
  refine Go.iload C X d4_14 (n := 16) rfl rfl ?_
  refine Go.iloadN C X d4_16 (n := 17) rfl rfl ?_
  refine Go.icmp_eq C X d4_17 (n1 := 57) (n2 := 20) (by decide) (by decide) rfl (fun hc17 => ?_) (fun hc17 => ?_)
  · exact absurd hc17 (by decide)
  · refine Go.aloadN C X d4_20 (n := 21) rfl rfl rfl ?_
    refine Go.iloadN C X d4_21 (n := 22) rfl rfl ?_
    refine Go.iloadN C X d4_22 (n := 23) rfl rfl ?_
    refine Go.stat C X eT (argsL := [(.ref a), (.int (0 : Int32)), (.int (4 : Int32))]) (rest := []) (toBytes_4 l Z a0 hw n0 _ S1 S2 S3 a x0 x1 x2 x3 O V_a) (wd hw 87 rfl) (wd hw 88 rfl) (wd hw 18 rfl) (wd hw 89 rfl) (by decide) (lenOf pd_4 rfl) rfl d4_23 (n := 26) rfl rfl (by decide) (W := 0) rfl (by decide) (by decide) (by decide) ?_
    clear X eT
    intro T h v L X eT hQ
    obtain ⟨u, rfl, Nq, KK, s_u, V_u⟩ := hQ
    replace N := N.app Nq
    have ne_a_u : a ≠ u := Nat.ne_of_lt (Nat.lt_of_lt_of_le V_a.lt s_u)
    have ne_b_u : b ≠ u := Nat.ne_of_lt (Nat.lt_of_lt_of_le V_b.lt s_u)
    have g_u : n0 ≤ u := Nat.le_trans O.le s_u
    have sz_u : h0.size ≤ u := Nat.le_trans KP.1 s_u
    replace V_a := V_a.keep KK nin0
    replace KP := KP.trans KK all0
    replace O := O.keep KK all0
    replace V_b := V_b.keep KK nin0
    show Go p e below _ (T.setTop (mkF m 26 #[.val (.ref a), .val (.int (0 : Int32)), .val (.int (4 : Int32)), .val (.ref b), .val (.int (2 : Int32)), .unset] [(.ref u)]))
    refine Go.astore C X d4_26 (n := 28) rfl rfl (l' := #[.val (.ref a), .val (.int (0 : Int32)), .val (.int (4 : Int32)), .val (.ref b), .val (.int (2 : Int32)), .val (.ref u)]) rfl ?_
    refine Go.aload C X d4_28 (n := 30) rfl rfl rfl ?_
    refine Go.iload C X d4_30 (n := 32) rfl rfl ?_
    refine Go.stat C X eT (argsL := [(.ref u), (.int (2 : Int32))]) (rest := []) (getChar_4_2 l Z a0 hw n0 _ S1 S2 S3 u x0 x1 x2 x3 r2 O V_u) (wd hw 103 rfl) (wd hw 104 rfl) (wd hw 18 rfl) (wd hw 105 rfl) (by decide) (lenOf pd_5 rfl) rfl d4_32 (n := 35) rfl rfl (by decide) (W := 0) rfl (by decide) (by decide) (by decide) ?_
    clear X eT
    intro T h' v L X eT hQ
    obtain ⟨rfl, rfl, hE⟩ := hQ
    replace hE := hE.symm
    subst hE
    replace N := N.app (Fr.nil n0)
    show Go p e below _ (T.setTop (mkF m 35 #[.val (.ref a), .val (.int (0 : Int32)), .val (.int (4 : Int32)), .val (.ref b), .val (.int (2 : Int32)), .val (.ref u)] [(.int x2)]))
    refine Go.sipush C X d4_35 (n := 38) rfl (v := (255 : Int32)) rfl ?_
    refine Go.icmp_gt C X d4_38 (n1 := 54) (n2 := 41) (by decide) (by decide) rfl (fun hc38 => ?_) (fun hc38 => ?_)
    · refine Go.aload C X d4_54 (n := 56) rfl rfl rfl ?_
      refine Go.retA C X eT rfl rfl rfl d4_56 (by decide) (by decide) ?_
      exact ⟨u, rfl, N, KP, sz_u, V_u⟩
    · exact absurd u2 hc38
set_option maxRecDepth 65536 in
set_option maxHeartbeats 40000000 in
theorem init4_4_2 (l : Launch) (Z : State) (a0 : Array Value) (hw : ∀ d ∈ (tables_1 ++ jdkStatics_1), d.before a0 Z = true) (n0 : Nat) (h0 : Heap) (cs : Int32) (SZ : Sta Z Z.heap "java/lang/String" "COMPACT_STRINGS" "Z" (.int cs)) (hcs : cs ≠ 0) (S1 : Sta Z Z.heap "java/lang/StringUTF16" "$assertionsDisabled" "Z" (.int 1)) (S2 : Sta Z Z.heap "java/lang/StringUTF16" "HI_BYTE_SHIFT" "I" (.int 0)) (S3 : Sta Z Z.heap "java/lang/StringUTF16" "LO_BYTE_SHIFT" "I" (.int 8)) (t a : Addr) (g_t : n0 ≤ t) (ne_a_t : a ≠ t) (E_t : Exa Z h0 t "java/lang/String") (F_t_value : Fld Z h0 t "java/lang/String" "value" "[B" .null) (F_t_coder : Fld Z h0 t "java/lang/String" "coder" "B" (.int 0)) (x0 x1 x2 x3 : Int32) (l0 : ¬ (255 : Int32) < x0) (l1 : ¬ (255 : Int32) < x1) (u2 : (255 : Int32) < x2) (r0 : 0 ≤ x0.toInt ∧ x0.toInt < 65536) (r1 : 0 ≤ x1.toInt ∧ x1.toInt < 65536) (r2 : 0 ≤ x2.toInt ∧ x2.toInt < 65536) (r3 : 0 ≤ x3.toInt ∧ x3.toInt < 65536) (O : Old Z n0 h0) (V_a : Arl Z h0 a .char [(.int x0), (.int x1), (.int x2), (.int x3)]) :
    Ctr l Z (⟨"java/lang/String", "<init>", "([CIILjava/lang/Void;)V"⟩ : MethodName) jdk_42_method_149_code 6 none ({ frames := 4, cells := 2, slots := 12, locals := 57 } : Room) #[(.ref t), (.ref a), (.int (0 : Int32)), (.int (4 : Int32)), .null] h0 (fun v h L => v = none ∧ Fr n0 L ∧ Keep h0 h [t] ∧ ∃ b, h0.size ≤ b ∧ Fld Z h t "java/lang/String" "value" "[B" (.ref b) ∧ Fld Z h t "java/lang/String" "coder" "B" (.int (1 : Int32)) ∧ Arl Z h b .byte [(.int ((x0 >>> ((0 : Int32) &&& 31)).toInt8.toInt32)), (.int ((x0 >>> ((8 : Int32) &&& 31)).toInt8.toInt32)), (.int ((x1 >>> ((0 : Int32) &&& 31)).toInt8.toInt32)), (.int ((x1 >>> ((8 : Int32) &&& 31)).toInt8.toInt32)), (.int ((x2 >>> ((0 : Int32) &&& 31)).toInt8.toInt32)), (.int ((x2 >>> ((8 : Int32) &&& 31)).toInt8.toInt32)), (.int ((x3 >>> ((0 : Int32) &&& 31)).toInt8.toInt32)), (.int ((x3 >>> ((8 : Int32) &&& 31)).toInt8.toInt32))]) := by
  refine Ctr.mk (plainFor_of_name pn_1) (ls := #[.val (.ref t), .val (.ref a), .val (.int (0 : Int32)), .val (.int (4 : Int32)), .val .null, .unset]) (fun m => by first | (simp [entryFrame, mkF, argsToLocals, Value.category]; done) | rfl) ?_
  intro p e s m below meth c T C X eT hs0
  have N := Fr.nil n0
  have KP := Keep.refl h0 [t]
  show Go p e below _ (T.setTop (mkF m 0 #[.val (.ref t), .val (.ref a), .val (.int (0 : Int32)), .val (.int (4 : Int32)), .val .null, .unset] []))
  refine Go.aloadN C X d2_0 (n := 1) rfl rfl rfl ?_
  refine Go.initO C X eT (W := 0) (wd hw 12 rfl) (wd hw 13 rfl) (wd hw 14 rfl) d2_1 (n := 4) rfl rfl (by decide) rfl (by decide) ?_
  clear X eT
  intro T X eT
  refine Go.iloadN C X d2_4 (n := 5) rfl rfl ?_
  refine Go.if0_ne C X d2_5 (n1 := 27) (n2 := 8) (by decide) (by decide) rfl (fun hc5 => ?_) (fun hc5 => ?_)
  · refine Go.getS C X eT (wd hw 15 rfl) Via.refl (SZ.old O) d2_27 (n := 30) rfl ?_
    clear X eT
    intro T X eT
    refine Go.if0_eq C X d2_30 (n1 := 58) (n2 := 33) (by decide) (by decide) rfl (fun hc30 => ?_) (fun hc30 => ?_)
    · exact absurd hc30 hcs
    · refine Go.aloadN C X d2_33 (n := 34) rfl rfl rfl ?_
      refine Go.iloadN C X d2_34 (n := 35) rfl rfl ?_
      refine Go.iloadN C X d2_35 (n := 36) rfl rfl ?_
      refine Go.stat C X eT (argsL := [(.ref a), (.int (0 : Int32)), (.int (4 : Int32))]) (rest := []) (compress_4_2 l Z a0 hw n0 _ S1 S2 S3 a x0 x1 x2 x3 l0 l1 u2 r0 r1 r2 r3 O V_a) (wd hw 16 rfl) (wd hw 17 rfl) (wd hw 18 rfl) (wd hw 19 rfl) (by decide) (lenOf pd_4 rfl) rfl d2_36 (n := 39) rfl rfl (by decide) (W := 0) rfl (by decide) (by decide) (by decide) ?_
      clear X eT
      intro T h v L X eT hQ
      obtain ⟨b, rfl, Nq, KK, s_b, V_b⟩ := hQ
      replace N := N.app Nq
      have ne_t_b : t ≠ b := Nat.ne_of_lt (Nat.lt_of_lt_of_le E_t.lt s_b)
      have ne_a_b : a ≠ b := Nat.ne_of_lt (Nat.lt_of_lt_of_le V_a.lt s_b)
      have g_b : n0 ≤ b := Nat.le_trans O.le s_b
      have sz_b : h0.size ≤ b := Nat.le_trans KP.1 s_b
      replace E_t := E_t.keep KK
      replace F_t_value := F_t_value.keep KK nin0
      replace F_t_coder := F_t_coder.keep KK nin0
      replace O := O.keep KK all0
      replace KP := KP.trans KK all0
      replace V_a := V_a.keep KK nin0
      show Go p e below _ (T.setTop (mkF m 39 #[.val (.ref t), .val (.ref a), .val (.int (0 : Int32)), .val (.int (4 : Int32)), .val .null, .unset] [(.ref b)]))
      refine Go.astore C X d2_39 (n := 41) rfl rfl (l' := #[.val (.ref t), .val (.ref a), .val (.int (0 : Int32)), .val (.int (4 : Int32)), .val .null, .val (.ref b)]) rfl ?_
      refine Go.aloadN C X d2_41 (n := 42) rfl rfl rfl ?_
      refine Go.aload C X d2_42 (n := 44) rfl rfl rfl ?_
      refine Go.iloadN C X d2_44 (n := 45) rfl rfl ?_
      refine Go.stat C X eT (argsL := [(.ref b), (.int (4 : Int32))]) (rest := [(.ref t)]) (cfal_4_8 l Z a0 hw n0 _ b _ rfl V_b) (wd hw 24 rfl) (wd hw 25 rfl) (wd hw 18 rfl) (wd hw 26 rfl) (by decide) (lenOf pd_6 rfl) rfl d2_45 (n := 48) rfl rfl (by decide) (W := 1) rfl (by decide) (by decide) (by decide) ?_
      clear X eT
      intro T h' v L X eT hQ
      obtain ⟨rfl, rfl, hE⟩ := hQ
      replace hE := hE.symm
      subst hE
      replace N := N.app (Fr.nil n0)
      show Go p e below _ (T.setTop (mkF m 48 #[.val (.ref t), .val (.ref a), .val (.int (0 : Int32)), .val (.int (4 : Int32)), .val .null, .val (.ref b)] [(.int (1 : Int32)), (.ref t)]))
      refine Go.putF C X eT (wd hw 27 rfl) Via.refl F_t_coder E_t (Or.inr ⟨(wd hw 28 rfl), rfl, rfl⟩) (wd hw 3 rfl) (ty := .byte) (by decide) rfl rfl d2_48 (n := 51) rfl ?_
      clear X eT
      intro T h X eT W
      replace E_t := E_t.wr W
      replace F_t_value := F_t_value.other W (Or.inr (slot_ne (Or.inr (wd hw 30 rfl)) (Or.inr (wd hw 28 rfl)) (by decide) (t := (.array .byte)) (t' := .byte) (by decide) (by decide)))
      replace F_t_coder := F_t_coder.same W
      replace O := O.wr W g_t
      replace KP := KP.wr W (Or.inl (List.mem_of_getElem? (i := 0) rfl))
      replace V_a := V_a.other W ne_a_t
      replace V_b := V_b.other W (Ne.symm ne_t_b)
      replace N := Fr.snoc X N g_t
      refine Go.aloadN C X d2_51 (n := 52) rfl rfl rfl ?_
      refine Go.aload C X d2_52 (n := 54) rfl rfl rfl ?_
      refine Go.putF C X eT (wd hw 29 rfl) Via.refl F_t_value E_t (Or.inr ⟨(wd hw 30 rfl), rfl, rfl⟩) (wd hw 3 rfl) (ty := (.array .byte)) (by decide) rfl rfl d2_54 (n := 57) rfl ?_
      clear X eT
      intro T h X eT W
      replace E_t := E_t.wr W
      replace F_t_value := F_t_value.same W
      replace F_t_coder := F_t_coder.other W (Or.inr (slot_ne (Or.inr (wd hw 28 rfl)) (Or.inr (wd hw 30 rfl)) (by decide) (t := .byte) (t' := (.array .byte)) (by decide) (by decide)))
      replace O := O.wr W g_t
      replace KP := KP.wr W (Or.inl (List.mem_of_getElem? (i := 0) rfl))
      replace V_a := V_a.other W ne_a_t
      replace V_b := V_b.other W (Ne.symm ne_t_b)
      replace N := Fr.snoc X N g_t
      refine Go.ret0 C X eT d2_57 (by decide) (by decide) ?_
      exact ⟨rfl, N, KP, b, sz_b, F_t_value, F_t_coder, V_b⟩
  · exact absurd hc5 (by decide)
set_option maxRecDepth 65536 in
set_option maxHeartbeats 40000000 in
theorem init1_4_2 (l : Launch) (Z : State) (a0 : Array Value) (hw : ∀ d ∈ (tables_1 ++ jdkStatics_1), d.before a0 Z = true) (n0 : Nat) (h0 : Heap) (cs : Int32) (SZ : Sta Z Z.heap "java/lang/String" "COMPACT_STRINGS" "Z" (.int cs)) (hcs : cs ≠ 0) (S1 : Sta Z Z.heap "java/lang/StringUTF16" "$assertionsDisabled" "Z" (.int 1)) (S2 : Sta Z Z.heap "java/lang/StringUTF16" "HI_BYTE_SHIFT" "I" (.int 0)) (S3 : Sta Z Z.heap "java/lang/StringUTF16" "LO_BYTE_SHIFT" "I" (.int 8)) (t a : Addr) (g_t : n0 ≤ t) (ne_a_t : a ≠ t) (E_t : Exa Z h0 t "java/lang/String") (F_t_value : Fld Z h0 t "java/lang/String" "value" "[B" .null) (F_t_coder : Fld Z h0 t "java/lang/String" "coder" "B" (.int 0)) (x0 x1 x2 x3 : Int32) (l0 : ¬ (255 : Int32) < x0) (l1 : ¬ (255 : Int32) < x1) (u2 : (255 : Int32) < x2) (r0 : 0 ≤ x0.toInt ∧ x0.toInt < 65536) (r1 : 0 ≤ x1.toInt ∧ x1.toInt < 65536) (r2 : 0 ≤ x2.toInt ∧ x2.toInt < 65536) (r3 : 0 ≤ x3.toInt ∧ x3.toInt < 65536) (O : Old Z n0 h0) (V_a : Arl Z h0 a .char [(.int x0), (.int x1), (.int x2), (.int x3)]) :
    Ctr l Z (⟨"java/lang/String", "<init>", "([C)V"⟩ : MethodName) jdk_42_method_3_code 2 none ({ frames := 5, cells := 2, slots := 12, locals := 74 } : Room) #[(.ref t), (.ref a)] h0 (fun v h L => v = none ∧ Fr n0 L ∧ Keep h0 h [t] ∧ ∃ b, h0.size ≤ b ∧ Fld Z h t "java/lang/String" "value" "[B" (.ref b) ∧ Fld Z h t "java/lang/String" "coder" "B" (.int (1 : Int32)) ∧ Arl Z h b .byte [(.int ((x0 >>> ((0 : Int32) &&& 31)).toInt8.toInt32)), (.int ((x0 >>> ((8 : Int32) &&& 31)).toInt8.toInt32)), (.int ((x1 >>> ((0 : Int32) &&& 31)).toInt8.toInt32)), (.int ((x1 >>> ((8 : Int32) &&& 31)).toInt8.toInt32)), (.int ((x2 >>> ((0 : Int32) &&& 31)).toInt8.toInt32)), (.int ((x2 >>> ((8 : Int32) &&& 31)).toInt8.toInt32)), (.int ((x3 >>> ((0 : Int32) &&& 31)).toInt8.toInt32)), (.int ((x3 >>> ((8 : Int32) &&& 31)).toInt8.toInt32))]) := by
  refine Ctr.mk (plainFor_of_name pn_1) (ls := #[.val (.ref t), .val (.ref a)]) (fun m => by first | (simp [entryFrame, mkF, argsToLocals, Value.category]; done) | rfl) ?_
  intro p e s m below meth c T C X eT hs0
  have N := Fr.nil n0
  have KP := Keep.refl h0 [t]
  show Go p e below _ (T.setTop (mkF m 0 #[.val (.ref t), .val (.ref a)] []))
  refine Go.aloadN C X d1_0 (n := 1) rfl rfl rfl ?_
  refine Go.aloadN C X d1_1 (n := 2) rfl rfl rfl ?_
  refine Go.iconst C X d1_2 (n := 3) rfl (v := (0 : Int32)) rfl ?_
  refine Go.aloadN C X d1_3 (n := 4) rfl rfl rfl ?_
  refine Go.lengthL C X eT V_a (z := (4 : Int32)) rfl d1_4 (n := 5) rfl ?_
  refine Go.aconstNull C X d1_5 (n := 6) rfl ?_
  refine Go.spec C X eT (argsL := [(.ref a), (.int (0 : Int32)), (.int (4 : Int32)), .null]) (rest := []) (a := t) (init4_4_2 l Z a0 hw n0 _ cs SZ hcs S1 S2 S3 t a g_t ne_a_t E_t F_t_value F_t_coder x0 x1 x2 x3 l0 l1 u2 r0 r1 r2 r3 O V_a) rfl (wd hw 8 rfl) (wd hw 9 rfl) (wd hw 4 rfl) (wd hw 11 rfl) (by decide) (lenOf pd_7 rfl) rfl d1_6 (n := 9) rfl rfl (by decide) (W := 0) rfl (by decide) (by decide) (by decide) ?_
  clear X eT
  intro T h v L X eT hQ
  obtain ⟨rfl, Nq, KK, b, s_b, F_t_value, F_t_coder, V_b⟩ := hQ
  replace N := N.app Nq
  replace E_t := E_t.keep KK
  replace O := O.keep KK (allS g_t all0)
  replace KP := KP.trans KK (allS (Or.inl (List.mem_of_getElem? (i := 0) rfl)) all0)
  replace V_a := V_a.keep KK (ninS ne_a_t nin0)
  show Go p e below _ (T.setTop (mkF m 9 #[.val (.ref t), .val (.ref a)] []))
  refine Go.ret0 C X eT d1_9 (by decide) (by decide) ?_
  exact ⟨rfl, N, KP, b, s_b, F_t_value, F_t_coder, V_b⟩
set_option maxRecDepth 65536 in
set_option maxHeartbeats 40000000 in
theorem loop_4_3 (l : Launch) (Z : State) (a0 : Array Value) (hw : ∀ d ∈ (tables_1 ++ jdkStatics_1), d.before a0 Z = true) (n0 : Nat) (h0 : Heap) (a b : Addr) (x0 x1 x2 x3 : Int32) (l0 : ¬ (255 : Int32) < x0) (l1 : ¬ (255 : Int32) < x1) (l2 : ¬ (255 : Int32) < x2) (u3 : (255 : Int32) < x3) (r0 : 0 ≤ x0.toInt ∧ x0.toInt < 65536) (r1 : 0 ≤ x1.toInt ∧ x1.toInt < 65536) (r2 : 0 ≤ x2.toInt ∧ x2.toInt < 65536) (r3 : 0 ≤ x3.toInt ∧ x3.toInt < 65536) (g_b : n0 ≤ b) (ne_a_b : a ≠ b) (V_a : Arl Z h0 a .char [(.int x0), (.int x1), (.int x2), (.int x3)]) (V_b : Arl Z h0 b .byte [(.int (0 : Int32)), (.int (0 : Int32)), (.int (0 : Int32)), (.int (0 : Int32))]) :
    Ctr l Z (⟨"java/lang/StringUTF16", "compress", "([CI[BII)I"⟩ : MethodName) jdk_52_method_21_code 7 (some .int) ({ frames := 0, cells := 0, slots := 0, locals := 0 } : Room) #[(.ref a), (.int (0 : Int32)), (.ref b), (.int (0 : Int32)), (.int (4 : Int32))] h0 (fun v h L => v = some (.int (3 : Int32)) ∧ Fr n0 L ∧ Keep h0 h [b] ∧ Arl Z h b .byte [(.int (x0.toInt8.toInt32)), (.int (x1.toInt8.toInt32)), (.int (x2.toInt8.toInt32)), (.int (0 : Int32))]) := by
  refine Ctr.mk (plainFor_of_name pn_0) (ls := #[.val (.ref a), .val (.int (0 : Int32)), .val (.ref b), .val (.int (0 : Int32)), .val (.int (4 : Int32)), .unset, .unset]) (fun m => by first | (simp [entryFrame, mkF, argsToLocals, Value.category]; done) | rfl) ?_
  intro p e s m below meth c T C X eT hs0
  have N := Fr.nil n0
  have KP := Keep.refl h0 [b]
  show Go p e below _ (T.setTop (mkF m 0 #[.val (.ref a), .val (.int (0 : Int32)), .val (.ref b), .val (.int (0 : Int32)), .val (.int (4 : Int32)), .unset, .unset] []))
  refine Go.iconst C X d5_0 (n := 1) rfl (v := (0 : Int32)) rfl ?_
  refine Go.istore C X d5_1 (n := 3) rfl (l' := #[.val (.ref a), .val (.int (0 : Int32)), .val (.ref b), .val (.int (0 : Int32)), .val (.int (4 : Int32)), .val (.int (0 : Int32)), .unset]) rfl ?_
  refine Go.iload C X d5_3 (n := 5) rfl rfl ?_
  refine Go.iload C X d5_5 (n := 7) rfl rfl ?_
  refine Go.icmp_ge C X d5_7 (n1 := 44) (n2 := 10) (by decide) (by decide) rfl (fun hc7 => ?_) (fun hc7 => ?_)
  · exact absurd hc7 (by decide)
  · refine Go.aloadN C X d5_10 (n := 11) rfl rfl rfl ?_
    refine Go.iloadN C X d5_11 (n := 12) rfl rfl ?_
    refine Go.caloadL C X eT V_a (i := 0) rfl (v := .int x0) rfl d5_12 (n := 13) rfl ?_
    refine Go.istore C X d5_13 (n := 15) rfl (l' := #[.val (.ref a), .val (.int (0 : Int32)), .val (.ref b), .val (.int (0 : Int32)), .val (.int (4 : Int32)), .val (.int (0 : Int32)), .val (.int x0)]) rfl ?_
    refine Go.iload C X d5_15 (n := 17) rfl rfl ?_
    refine Go.sipush C X d5_17 (n := 20) rfl (v := (255 : Int32)) rfl ?_
    refine Go.icmp_le C X d5_20 (n1 := 26) (n2 := 23) (by decide) (by decide) rfl (fun hc20 => ?_) (fun hc20 => ?_)
    · refine Go.aloadN C X d5_26 (n := 27) rfl rfl rfl ?_
      refine Go.iloadN C X d5_27 (n := 28) rfl rfl ?_
      refine Go.iload C X d5_28 (n := 30) rfl rfl ?_
      refine Go.i2b C X d5_30 (n := 31) rfl ?_
      refine Go.bastoreL C X eT V_b (i := 0) rfl (by simp) d5_31 (n := 32) rfl ?_
      clear X eT
      intro T h X eT W V_new
      replace V_a := V_a.other W ne_a_b
      replace KP := KP.wr W (Or.inl (List.mem_of_getElem? (i := 0) rfl))
      clear V_b
      rw [own_b8] at V_new
      have V_b : Arl Z h b .byte [(.int (x0.toInt8.toInt32)), (.int (0 : Int32)), (.int (0 : Int32)), (.int (0 : Int32))] := V_new
      clear V_new
      replace N := Fr.snoc X N g_b
      refine Go.iinc C X d5_32 (n := 35) rfl (v := (1 : Int32)) rfl rfl (l' := #[.val (.ref a), .val (.int ((0 : Int32) + (1 : Int32))), .val (.ref b), .val (.int (0 : Int32)), .val (.int (4 : Int32)), .val (.int (0 : Int32)), .val (.int x0)]) rfl ?_
      show Go p e below _ (T.setTop (mkF m 35 #[.val (.ref a), .val (.int (1 : Int32)), .val (.ref b), .val (.int (0 : Int32)), .val (.int (4 : Int32)), .val (.int (0 : Int32)), .val (.int x0)] []))
      refine Go.iinc C X d5_35 (n := 38) rfl (v := (1 : Int32)) rfl rfl (l' := #[.val (.ref a), .val (.int (1 : Int32)), .val (.ref b), .val (.int ((0 : Int32) + (1 : Int32))), .val (.int (4 : Int32)), .val (.int (0 : Int32)), .val (.int x0)]) rfl ?_
      show Go p e below _ (T.setTop (mkF m 38 #[.val (.ref a), .val (.int (1 : Int32)), .val (.ref b), .val (.int (1 : Int32)), .val (.int (4 : Int32)), .val (.int (0 : Int32)), .val (.int x0)] []))
      refine Go.iinc C X d5_38 (n := 41) rfl (v := (1 : Int32)) rfl rfl (l' := #[.val (.ref a), .val (.int (1 : Int32)), .val (.ref b), .val (.int (1 : Int32)), .val (.int (4 : Int32)), .val (.int ((0 : Int32) + (1 : Int32))), .val (.int x0)]) rfl ?_
      show Go p e below _ (T.setTop (mkF m 41 #[.val (.ref a), .val (.int (1 : Int32)), .val (.ref b), .val (.int (1 : Int32)), .val (.int (4 : Int32)), .val (.int (1 : Int32)), .val (.int x0)] []))
      refine Go.goto C X d5_41 (n := 3) (by decide) (by decide) ?_
      refine Go.iload C X d5_3 (n := 5) rfl rfl ?_
      refine Go.iload C X d5_5 (n := 7) rfl rfl ?_
      refine Go.icmp_ge C X d5_7 (n1 := 44) (n2 := 10) (by decide) (by decide) rfl (fun hc7 => ?_) (fun hc7 => ?_)
      · exact absurd hc7 (by decide)
      · refine Go.aloadN C X d5_10 (n := 11) rfl rfl rfl ?_
        refine Go.iloadN C X d5_11 (n := 12) rfl rfl ?_
        refine Go.caloadL C X eT V_a (i := 1) rfl (v := .int x1) rfl d5_12 (n := 13) rfl ?_
        refine Go.istore C X d5_13 (n := 15) rfl (l' := #[.val (.ref a), .val (.int (1 : Int32)), .val (.ref b), .val (.int (1 : Int32)), .val (.int (4 : Int32)), .val (.int (1 : Int32)), .val (.int x1)]) rfl ?_
        refine Go.iload C X d5_15 (n := 17) rfl rfl ?_
        refine Go.sipush C X d5_17 (n := 20) rfl (v := (255 : Int32)) rfl ?_
        refine Go.icmp_le C X d5_20 (n1 := 26) (n2 := 23) (by decide) (by decide) rfl (fun hc20 => ?_) (fun hc20 => ?_)
        · refine Go.aloadN C X d5_26 (n := 27) rfl rfl rfl ?_
          refine Go.iloadN C X d5_27 (n := 28) rfl rfl ?_
          refine Go.iload C X d5_28 (n := 30) rfl rfl ?_
          refine Go.i2b C X d5_30 (n := 31) rfl ?_
          refine Go.bastoreL C X eT V_b (i := 1) rfl (by simp) d5_31 (n := 32) rfl ?_
          clear X eT
          intro T h X eT W V_new
          replace V_a := V_a.other W ne_a_b
          replace KP := KP.wr W (Or.inl (List.mem_of_getElem? (i := 0) rfl))
          clear V_b
          rw [own_b8] at V_new
          have V_b : Arl Z h b .byte [(.int (x0.toInt8.toInt32)), (.int (x1.toInt8.toInt32)), (.int (0 : Int32)), (.int (0 : Int32))] := V_new
          clear V_new
          replace N := Fr.snoc X N g_b
          refine Go.iinc C X d5_32 (n := 35) rfl (v := (1 : Int32)) rfl rfl (l' := #[.val (.ref a), .val (.int ((1 : Int32) + (1 : Int32))), .val (.ref b), .val (.int (1 : Int32)), .val (.int (4 : Int32)), .val (.int (1 : Int32)), .val (.int x1)]) rfl ?_
          show Go p e below _ (T.setTop (mkF m 35 #[.val (.ref a), .val (.int (2 : Int32)), .val (.ref b), .val (.int (1 : Int32)), .val (.int (4 : Int32)), .val (.int (1 : Int32)), .val (.int x1)] []))
          refine Go.iinc C X d5_35 (n := 38) rfl (v := (1 : Int32)) rfl rfl (l' := #[.val (.ref a), .val (.int (2 : Int32)), .val (.ref b), .val (.int ((1 : Int32) + (1 : Int32))), .val (.int (4 : Int32)), .val (.int (1 : Int32)), .val (.int x1)]) rfl ?_
          show Go p e below _ (T.setTop (mkF m 38 #[.val (.ref a), .val (.int (2 : Int32)), .val (.ref b), .val (.int (2 : Int32)), .val (.int (4 : Int32)), .val (.int (1 : Int32)), .val (.int x1)] []))
          refine Go.iinc C X d5_38 (n := 41) rfl (v := (1 : Int32)) rfl rfl (l' := #[.val (.ref a), .val (.int (2 : Int32)), .val (.ref b), .val (.int (2 : Int32)), .val (.int (4 : Int32)), .val (.int ((1 : Int32) + (1 : Int32))), .val (.int x1)]) rfl ?_
          show Go p e below _ (T.setTop (mkF m 41 #[.val (.ref a), .val (.int (2 : Int32)), .val (.ref b), .val (.int (2 : Int32)), .val (.int (4 : Int32)), .val (.int (2 : Int32)), .val (.int x1)] []))
          refine Go.goto C X d5_41 (n := 3) (by decide) (by decide) ?_
          refine Go.iload C X d5_3 (n := 5) rfl rfl ?_
          refine Go.iload C X d5_5 (n := 7) rfl rfl ?_
          refine Go.icmp_ge C X d5_7 (n1 := 44) (n2 := 10) (by decide) (by decide) rfl (fun hc7 => ?_) (fun hc7 => ?_)
          · exact absurd hc7 (by decide)
          · refine Go.aloadN C X d5_10 (n := 11) rfl rfl rfl ?_
            refine Go.iloadN C X d5_11 (n := 12) rfl rfl ?_
            refine Go.caloadL C X eT V_a (i := 2) rfl (v := .int x2) rfl d5_12 (n := 13) rfl ?_
            refine Go.istore C X d5_13 (n := 15) rfl (l' := #[.val (.ref a), .val (.int (2 : Int32)), .val (.ref b), .val (.int (2 : Int32)), .val (.int (4 : Int32)), .val (.int (2 : Int32)), .val (.int x2)]) rfl ?_
            refine Go.iload C X d5_15 (n := 17) rfl rfl ?_
            refine Go.sipush C X d5_17 (n := 20) rfl (v := (255 : Int32)) rfl ?_
            refine Go.icmp_le C X d5_20 (n1 := 26) (n2 := 23) (by decide) (by decide) rfl (fun hc20 => ?_) (fun hc20 => ?_)
            · refine Go.aloadN C X d5_26 (n := 27) rfl rfl rfl ?_
              refine Go.iloadN C X d5_27 (n := 28) rfl rfl ?_
              refine Go.iload C X d5_28 (n := 30) rfl rfl ?_
              refine Go.i2b C X d5_30 (n := 31) rfl ?_
              refine Go.bastoreL C X eT V_b (i := 2) rfl (by simp) d5_31 (n := 32) rfl ?_
              clear X eT
              intro T h X eT W V_new
              replace V_a := V_a.other W ne_a_b
              replace KP := KP.wr W (Or.inl (List.mem_of_getElem? (i := 0) rfl))
              clear V_b
              rw [own_b8] at V_new
              have V_b : Arl Z h b .byte [(.int (x0.toInt8.toInt32)), (.int (x1.toInt8.toInt32)), (.int (x2.toInt8.toInt32)), (.int (0 : Int32))] := V_new
              clear V_new
              replace N := Fr.snoc X N g_b
              refine Go.iinc C X d5_32 (n := 35) rfl (v := (1 : Int32)) rfl rfl (l' := #[.val (.ref a), .val (.int ((2 : Int32) + (1 : Int32))), .val (.ref b), .val (.int (2 : Int32)), .val (.int (4 : Int32)), .val (.int (2 : Int32)), .val (.int x2)]) rfl ?_
              show Go p e below _ (T.setTop (mkF m 35 #[.val (.ref a), .val (.int (3 : Int32)), .val (.ref b), .val (.int (2 : Int32)), .val (.int (4 : Int32)), .val (.int (2 : Int32)), .val (.int x2)] []))
              refine Go.iinc C X d5_35 (n := 38) rfl (v := (1 : Int32)) rfl rfl (l' := #[.val (.ref a), .val (.int (3 : Int32)), .val (.ref b), .val (.int ((2 : Int32) + (1 : Int32))), .val (.int (4 : Int32)), .val (.int (2 : Int32)), .val (.int x2)]) rfl ?_
              show Go p e below _ (T.setTop (mkF m 38 #[.val (.ref a), .val (.int (3 : Int32)), .val (.ref b), .val (.int (3 : Int32)), .val (.int (4 : Int32)), .val (.int (2 : Int32)), .val (.int x2)] []))
              refine Go.iinc C X d5_38 (n := 41) rfl (v := (1 : Int32)) rfl rfl (l' := #[.val (.ref a), .val (.int (3 : Int32)), .val (.ref b), .val (.int (3 : Int32)), .val (.int (4 : Int32)), .val (.int ((2 : Int32) + (1 : Int32))), .val (.int x2)]) rfl ?_
              show Go p e below _ (T.setTop (mkF m 41 #[.val (.ref a), .val (.int (3 : Int32)), .val (.ref b), .val (.int (3 : Int32)), .val (.int (4 : Int32)), .val (.int (3 : Int32)), .val (.int x2)] []))
              refine Go.goto C X d5_41 (n := 3) (by decide) (by decide) ?_
              refine Go.iload C X d5_3 (n := 5) rfl rfl ?_
              refine Go.iload C X d5_5 (n := 7) rfl rfl ?_
              refine Go.icmp_ge C X d5_7 (n1 := 44) (n2 := 10) (by decide) (by decide) rfl (fun hc7 => ?_) (fun hc7 => ?_)
              · exact absurd hc7 (by decide)
              · refine Go.aloadN C X d5_10 (n := 11) rfl rfl rfl ?_
                refine Go.iloadN C X d5_11 (n := 12) rfl rfl ?_
                refine Go.caloadL C X eT V_a (i := 3) rfl (v := .int x3) rfl d5_12 (n := 13) rfl ?_
                refine Go.istore C X d5_13 (n := 15) rfl (l' := #[.val (.ref a), .val (.int (3 : Int32)), .val (.ref b), .val (.int (3 : Int32)), .val (.int (4 : Int32)), .val (.int (3 : Int32)), .val (.int x3)]) rfl ?_
                refine Go.iload C X d5_15 (n := 17) rfl rfl ?_
                refine Go.sipush C X d5_17 (n := 20) rfl (v := (255 : Int32)) rfl ?_
                refine Go.icmp_le C X d5_20 (n1 := 26) (n2 := 23) (by decide) (by decide) rfl (fun hc20 => ?_) (fun hc20 => ?_)
                · exact absurd u3 hc20
                · refine Go.iload C X d5_23 (n := 25) rfl rfl ?_
                  refine Go.retI C X eT d5_25 (by decide) (by decide) ?_
                  exact ⟨rfl, N, KP, V_b⟩
            · exact absurd hc20 l2
        · exact absurd hc20 l1
    · exact absurd hc20 l0
set_option maxRecDepth 65536 in
set_option maxHeartbeats 40000000 in
theorem compress_4_3 (l : Launch) (Z : State) (a0 : Array Value) (hw : ∀ d ∈ (tables_1 ++ jdkStatics_1), d.before a0 Z = true) (n0 : Nat) (h0 : Heap) (S1 : Sta Z Z.heap "java/lang/StringUTF16" "$assertionsDisabled" "Z" (.int 1)) (S2 : Sta Z Z.heap "java/lang/StringUTF16" "HI_BYTE_SHIFT" "I" (.int 0)) (S3 : Sta Z Z.heap "java/lang/StringUTF16" "LO_BYTE_SHIFT" "I" (.int 8)) (a : Addr) (x0 x1 x2 x3 : Int32) (l0 : ¬ (255 : Int32) < x0) (l1 : ¬ (255 : Int32) < x1) (l2 : ¬ (255 : Int32) < x2) (u3 : (255 : Int32) < x3) (r0 : 0 ≤ x0.toInt ∧ x0.toInt < 65536) (r1 : 0 ≤ x1.toInt ∧ x1.toInt < 65536) (r2 : 0 ≤ x2.toInt ∧ x2.toInt < 65536) (r3 : 0 ≤ x3.toInt ∧ x3.toInt < 65536) (O : Old Z n0 h0) (V_a : Arl Z h0 a .char [(.int x0), (.int x1), (.int x2), (.int x3)]) :
    Ctr l Z (⟨"java/lang/StringUTF16", "compress", "([CII)[B"⟩ : MethodName) jdk_52_method_16_code 6 (some (.array .byte)) ({ frames := 3, cells := 2, slots := 12, locals := 40 } : Room) #[(.ref a), (.int (0 : Int32)), (.int (4 : Int32))] h0 (fun v h L => ∃ b, v = some (.ref b) ∧ Fr n0 L ∧ Keep h0 h [] ∧ h0.size ≤ b ∧ Arl Z h b .byte [(.int ((x0 >>> ((0 : Int32) &&& 31)).toInt8.toInt32)), (.int ((x0 >>> ((8 : Int32) &&& 31)).toInt8.toInt32)), (.int ((x1 >>> ((0 : Int32) &&& 31)).toInt8.toInt32)), (.int ((x1 >>> ((8 : Int32) &&& 31)).toInt8.toInt32)), (.int ((x2 >>> ((0 : Int32) &&& 31)).toInt8.toInt32)), (.int ((x2 >>> ((8 : Int32) &&& 31)).toInt8.toInt32)), (.int ((x3 >>> ((0 : Int32) &&& 31)).toInt8.toInt32)), (.int ((x3 >>> ((8 : Int32) &&& 31)).toInt8.toInt32))]) := by
  refine Ctr.mk (plainFor_of_name pn_0) (ls := #[.val (.ref a), .val (.int (0 : Int32)), .val (.int (4 : Int32)), .unset, .unset, .unset]) (fun m => by first | (simp [entryFrame, mkF, argsToLocals, Value.category]; done) | rfl) ?_
  intro p e s m below meth c T C X eT hs0
  have N := Fr.nil n0
  have KP := Keep.refl h0 []
  show Go p e below _ (T.setTop (mkF m 0 #[.val (.ref a), .val (.int (0 : Int32)), .val (.int (4 : Int32)), .unset, .unset, .unset] []))
  refine Go.iloadN C X d4_0 (n := 1) rfl rfl ?_
  refine Go.newL C X eT (wd hw 20 rfl) (i := 4) rfl (cap := 4) (by decide) d4_1 (n := 3) rfl (by decide) (by decide) (by decide) ?_
  clear X eT
  intro T h b z_b X eT E V_b
  have ne_a_b : a ≠ b := Nat.ne_of_lt (Nat.lt_of_lt_of_le V_a.lt (Nat.le_of_eq z_b.symm))
  have g_b : n0 ≤ b := by rw [z_b]; exact O.le
  have s_b : h0.size ≤ b := by rw [z_b]; exact KP.1
  replace V_a := V_a.ext E
  replace KP := KP.ext E
  replace O := O.ext E
  replace V_b : Arl Z h b .byte [(.int (0 : Int32)), (.int (0 : Int32)), (.int (0 : Int32)), (.int (0 : Int32))] := V_b
  refine Go.astoreN C X d4_3 (n := 4) rfl rfl (l' := #[.val (.ref a), .val (.int (0 : Int32)), .val (.int (4 : Int32)), .val (.ref b), .unset, .unset]) rfl ?_
  refine Go.aloadN C X d4_4 (n := 5) rfl rfl rfl ?_
  refine Go.iloadN C X d4_5 (n := 6) rfl rfl ?_
  refine Go.aloadN C X d4_6 (n := 7) rfl rfl rfl ?_
  refine Go.iconst C X d4_7 (n := 8) rfl (v := (0 : Int32)) rfl ?_
  refine Go.iloadN C X d4_8 (n := 9) rfl rfl ?_
  refine Go.stat C X eT (argsL := [(.ref a), (.int (0 : Int32)), (.ref b), (.int (0 : Int32)), (.int (4 : Int32))]) (rest := []) (loop_4_3 l Z a0 hw n0 _ a b x0 x1 x2 x3 l0 l1 l2 u3 r0 r1 r2 r3 g_b ne_a_b V_a V_b) (wd hw 21 rfl) (wd hw 22 rfl) (wd hw 18 rfl) (wd hw 23 rfl) (by decide) (lenOf pd_3 rfl) rfl d4_9 (n := 12) rfl rfl (by decide) (W := 0) rfl (by decide) (by decide) (by decide) ?_
  clear X eT
  intro T h v L X eT hQ
  obtain ⟨rfl, Nq, KK, V_b⟩ := hQ
  replace N := N.app Nq
  replace V_a := V_a.keep KK (ninS ne_a_b nin0)
  replace KP := KP.trans KK (allS (Or.inr s_b) all0)
  replace O := O.keep KK (allS g_b all0)
  show Go p e below _ (T.setTop (mkF m 12 #[.val (.ref a), .val (.int (0 : Int32)), .val (.int (4 : Int32)), .val (.ref b), .unset, .unset] [(.int (3 : Int32))]))
  refine Go.istore C X d4_12 (n := 14) rfl (l' := #[.val (.ref a), .val (.int (0 : Int32)), .val (.int (4 : Int32)), .val (.ref b), .val (.int (3 : Int32)), .unset]) rfl ?_
  refine Go.iload C X d4_14 (n := 16) rfl rfl ?_
  refine Go.iloadN C X d4_16 (n := 17) rfl rfl ?_
  refine Go.icmp_eq C X d4_17 (n1 := 57) (n2 := 20) (by decide) (by decide) rfl (fun hc17 => ?_) (fun hc17 => ?_)
  · exact absurd hc17 (by decide)
  · refine Go.aloadN C X d4_20 (n := 21) rfl rfl rfl ?_
    refine Go.iloadN C X d4_21 (n := 22) rfl rfl ?_
    refine Go.iloadN C X d4_22 (n := 23) rfl rfl ?_
    refine Go.stat C X eT (argsL := [(.ref a), (.int (0 : Int32)), (.int (4 : Int32))]) (rest := []) (toBytes_4 l Z a0 hw n0 _ S1 S2 S3 a x0 x1 x2 x3 O V_a) (wd hw 87 rfl) (wd hw 88 rfl) (wd hw 18 rfl) (wd hw 89 rfl) (by decide) (lenOf pd_4 rfl) rfl d4_23 (n := 26) rfl rfl (by decide) (W := 0) rfl (by decide) (by decide) (by decide) ?_
    clear X eT
    intro T h v L X eT hQ
    obtain ⟨u, rfl, Nq, KK, s_u, V_u⟩ := hQ
    replace N := N.app Nq
    have ne_a_u : a ≠ u := Nat.ne_of_lt (Nat.lt_of_lt_of_le V_a.lt s_u)
    have ne_b_u : b ≠ u := Nat.ne_of_lt (Nat.lt_of_lt_of_le V_b.lt s_u)
    have g_u : n0 ≤ u := Nat.le_trans O.le s_u
    have sz_u : h0.size ≤ u := Nat.le_trans KP.1 s_u
    replace V_a := V_a.keep KK nin0
    replace KP := KP.trans KK all0
    replace O := O.keep KK all0
    replace V_b := V_b.keep KK nin0
    show Go p e below _ (T.setTop (mkF m 26 #[.val (.ref a), .val (.int (0 : Int32)), .val (.int (4 : Int32)), .val (.ref b), .val (.int (3 : Int32)), .unset] [(.ref u)]))
    refine Go.astore C X d4_26 (n := 28) rfl rfl (l' := #[.val (.ref a), .val (.int (0 : Int32)), .val (.int (4 : Int32)), .val (.ref b), .val (.int (3 : Int32)), .val (.ref u)]) rfl ?_
    refine Go.aload C X d4_28 (n := 30) rfl rfl rfl ?_
    refine Go.iload C X d4_30 (n := 32) rfl rfl ?_
    refine Go.stat C X eT (argsL := [(.ref u), (.int (3 : Int32))]) (rest := []) (getChar_4_3 l Z a0 hw n0 _ S1 S2 S3 u x0 x1 x2 x3 r3 O V_u) (wd hw 103 rfl) (wd hw 104 rfl) (wd hw 18 rfl) (wd hw 105 rfl) (by decide) (lenOf pd_5 rfl) rfl d4_32 (n := 35) rfl rfl (by decide) (W := 0) rfl (by decide) (by decide) (by decide) ?_
    clear X eT
    intro T h' v L X eT hQ
    obtain ⟨rfl, rfl, hE⟩ := hQ
    replace hE := hE.symm
    subst hE
    replace N := N.app (Fr.nil n0)
    show Go p e below _ (T.setTop (mkF m 35 #[.val (.ref a), .val (.int (0 : Int32)), .val (.int (4 : Int32)), .val (.ref b), .val (.int (3 : Int32)), .val (.ref u)] [(.int x3)]))
    refine Go.sipush C X d4_35 (n := 38) rfl (v := (255 : Int32)) rfl ?_
    refine Go.icmp_gt C X d4_38 (n1 := 54) (n2 := 41) (by decide) (by decide) rfl (fun hc38 => ?_) (fun hc38 => ?_)
    · refine Go.aload C X d4_54 (n := 56) rfl rfl rfl ?_
      refine Go.retA C X eT rfl rfl rfl d4_56 (by decide) (by decide) ?_
      exact ⟨u, rfl, N, KP, sz_u, V_u⟩
    · exact absurd u3 hc38
set_option maxRecDepth 65536 in
set_option maxHeartbeats 40000000 in
theorem init4_4_3 (l : Launch) (Z : State) (a0 : Array Value) (hw : ∀ d ∈ (tables_1 ++ jdkStatics_1), d.before a0 Z = true) (n0 : Nat) (h0 : Heap) (cs : Int32) (SZ : Sta Z Z.heap "java/lang/String" "COMPACT_STRINGS" "Z" (.int cs)) (hcs : cs ≠ 0) (S1 : Sta Z Z.heap "java/lang/StringUTF16" "$assertionsDisabled" "Z" (.int 1)) (S2 : Sta Z Z.heap "java/lang/StringUTF16" "HI_BYTE_SHIFT" "I" (.int 0)) (S3 : Sta Z Z.heap "java/lang/StringUTF16" "LO_BYTE_SHIFT" "I" (.int 8)) (t a : Addr) (g_t : n0 ≤ t) (ne_a_t : a ≠ t) (E_t : Exa Z h0 t "java/lang/String") (F_t_value : Fld Z h0 t "java/lang/String" "value" "[B" .null) (F_t_coder : Fld Z h0 t "java/lang/String" "coder" "B" (.int 0)) (x0 x1 x2 x3 : Int32) (l0 : ¬ (255 : Int32) < x0) (l1 : ¬ (255 : Int32) < x1) (l2 : ¬ (255 : Int32) < x2) (u3 : (255 : Int32) < x3) (r0 : 0 ≤ x0.toInt ∧ x0.toInt < 65536) (r1 : 0 ≤ x1.toInt ∧ x1.toInt < 65536) (r2 : 0 ≤ x2.toInt ∧ x2.toInt < 65536) (r3 : 0 ≤ x3.toInt ∧ x3.toInt < 65536) (O : Old Z n0 h0) (V_a : Arl Z h0 a .char [(.int x0), (.int x1), (.int x2), (.int x3)]) :
    Ctr l Z (⟨"java/lang/String", "<init>", "([CIILjava/lang/Void;)V"⟩ : MethodName) jdk_42_method_149_code 6 none ({ frames := 4, cells := 2, slots := 12, locals := 57 } : Room) #[(.ref t), (.ref a), (.int (0 : Int32)), (.int (4 : Int32)), .null] h0 (fun v h L => v = none ∧ Fr n0 L ∧ Keep h0 h [t] ∧ ∃ b, h0.size ≤ b ∧ Fld Z h t "java/lang/String" "value" "[B" (.ref b) ∧ Fld Z h t "java/lang/String" "coder" "B" (.int (1 : Int32)) ∧ Arl Z h b .byte [(.int ((x0 >>> ((0 : Int32) &&& 31)).toInt8.toInt32)), (.int ((x0 >>> ((8 : Int32) &&& 31)).toInt8.toInt32)), (.int ((x1 >>> ((0 : Int32) &&& 31)).toInt8.toInt32)), (.int ((x1 >>> ((8 : Int32) &&& 31)).toInt8.toInt32)), (.int ((x2 >>> ((0 : Int32) &&& 31)).toInt8.toInt32)), (.int ((x2 >>> ((8 : Int32) &&& 31)).toInt8.toInt32)), (.int ((x3 >>> ((0 : Int32) &&& 31)).toInt8.toInt32)), (.int ((x3 >>> ((8 : Int32) &&& 31)).toInt8.toInt32))]) := by
  refine Ctr.mk (plainFor_of_name pn_1) (ls := #[.val (.ref t), .val (.ref a), .val (.int (0 : Int32)), .val (.int (4 : Int32)), .val .null, .unset]) (fun m => by first | (simp [entryFrame, mkF, argsToLocals, Value.category]; done) | rfl) ?_
  intro p e s m below meth c T C X eT hs0
  have N := Fr.nil n0
  have KP := Keep.refl h0 [t]
  show Go p e below _ (T.setTop (mkF m 0 #[.val (.ref t), .val (.ref a), .val (.int (0 : Int32)), .val (.int (4 : Int32)), .val .null, .unset] []))
  refine Go.aloadN C X d2_0 (n := 1) rfl rfl rfl ?_
  refine Go.initO C X eT (W := 0) (wd hw 12 rfl) (wd hw 13 rfl) (wd hw 14 rfl) d2_1 (n := 4) rfl rfl (by decide) rfl (by decide) ?_
  clear X eT
  intro T X eT
  refine Go.iloadN C X d2_4 (n := 5) rfl rfl ?_
  refine Go.if0_ne C X d2_5 (n1 := 27) (n2 := 8) (by decide) (by decide) rfl (fun hc5 => ?_) (fun hc5 => ?_)
  · refine Go.getS C X eT (wd hw 15 rfl) Via.refl (SZ.old O) d2_27 (n := 30) rfl ?_
    clear X eT
    intro T X eT
    refine Go.if0_eq C X d2_30 (n1 := 58) (n2 := 33) (by decide) (by decide) rfl (fun hc30 => ?_) (fun hc30 => ?_)
    · exact absurd hc30 hcs
    · refine Go.aloadN C X d2_33 (n := 34) rfl rfl rfl ?_
      refine Go.iloadN C X d2_34 (n := 35) rfl rfl ?_
      refine Go.iloadN C X d2_35 (n := 36) rfl rfl ?_
      refine Go.stat C X eT (argsL := [(.ref a), (.int (0 : Int32)), (.int (4 : Int32))]) (rest := []) (compress_4_3 l Z a0 hw n0 _ S1 S2 S3 a x0 x1 x2 x3 l0 l1 l2 u3 r0 r1 r2 r3 O V_a) (wd hw 16 rfl) (wd hw 17 rfl) (wd hw 18 rfl) (wd hw 19 rfl) (by decide) (lenOf pd_4 rfl) rfl d2_36 (n := 39) rfl rfl (by decide) (W := 0) rfl (by decide) (by decide) (by decide) ?_
      clear X eT
      intro T h v L X eT hQ
      obtain ⟨b, rfl, Nq, KK, s_b, V_b⟩ := hQ
      replace N := N.app Nq
      have ne_t_b : t ≠ b := Nat.ne_of_lt (Nat.lt_of_lt_of_le E_t.lt s_b)
      have ne_a_b : a ≠ b := Nat.ne_of_lt (Nat.lt_of_lt_of_le V_a.lt s_b)
      have g_b : n0 ≤ b := Nat.le_trans O.le s_b
      have sz_b : h0.size ≤ b := Nat.le_trans KP.1 s_b
      replace E_t := E_t.keep KK
      replace F_t_value := F_t_value.keep KK nin0
      replace F_t_coder := F_t_coder.keep KK nin0
      replace O := O.keep KK all0
      replace KP := KP.trans KK all0
      replace V_a := V_a.keep KK nin0
      show Go p e below _ (T.setTop (mkF m 39 #[.val (.ref t), .val (.ref a), .val (.int (0 : Int32)), .val (.int (4 : Int32)), .val .null, .unset] [(.ref b)]))
      refine Go.astore C X d2_39 (n := 41) rfl rfl (l' := #[.val (.ref t), .val (.ref a), .val (.int (0 : Int32)), .val (.int (4 : Int32)), .val .null, .val (.ref b)]) rfl ?_
      refine Go.aloadN C X d2_41 (n := 42) rfl rfl rfl ?_
      refine Go.aload C X d2_42 (n := 44) rfl rfl rfl ?_
      refine Go.iloadN C X d2_44 (n := 45) rfl rfl ?_
      refine Go.stat C X eT (argsL := [(.ref b), (.int (4 : Int32))]) (rest := [(.ref t)]) (cfal_4_8 l Z a0 hw n0 _ b _ rfl V_b) (wd hw 24 rfl) (wd hw 25 rfl) (wd hw 18 rfl) (wd hw 26 rfl) (by decide) (lenOf pd_6 rfl) rfl d2_45 (n := 48) rfl rfl (by decide) (W := 1) rfl (by decide) (by decide) (by decide) ?_
      clear X eT
      intro T h' v L X eT hQ
      obtain ⟨rfl, rfl, hE⟩ := hQ
      replace hE := hE.symm
      subst hE
      replace N := N.app (Fr.nil n0)
      show Go p e below _ (T.setTop (mkF m 48 #[.val (.ref t), .val (.ref a), .val (.int (0 : Int32)), .val (.int (4 : Int32)), .val .null, .val (.ref b)] [(.int (1 : Int32)), (.ref t)]))
      refine Go.putF C X eT (wd hw 27 rfl) Via.refl F_t_coder E_t (Or.inr ⟨(wd hw 28 rfl), rfl, rfl⟩) (wd hw 3 rfl) (ty := .byte) (by decide) rfl rfl d2_48 (n := 51) rfl ?_
      clear X eT
      intro T h X eT W
      replace E_t := E_t.wr W
      replace F_t_value := F_t_value.other W (Or.inr (slot_ne (Or.inr (wd hw 30 rfl)) (Or.inr (wd hw 28 rfl)) (by decide) (t := (.array .byte)) (t' := .byte) (by decide) (by decide)))
      replace F_t_coder := F_t_coder.same W
      replace O := O.wr W g_t
      replace KP := KP.wr W (Or.inl (List.mem_of_getElem? (i := 0) rfl))
      replace V_a := V_a.other W ne_a_t
      replace V_b := V_b.other W (Ne.symm ne_t_b)
      replace N := Fr.snoc X N g_t
      refine Go.aloadN C X d2_51 (n := 52) rfl rfl rfl ?_
      refine Go.aload C X d2_52 (n := 54) rfl rfl rfl ?_
      refine Go.putF C X eT (wd hw 29 rfl) Via.refl F_t_value E_t (Or.inr ⟨(wd hw 30 rfl), rfl, rfl⟩) (wd hw 3 rfl) (ty := (.array .byte)) (by decide) rfl rfl d2_54 (n := 57) rfl ?_
      clear X eT
      intro T h X eT W
      replace E_t := E_t.wr W
      replace F_t_value := F_t_value.same W
      replace F_t_coder := F_t_coder.other W (Or.inr (slot_ne (Or.inr (wd hw 28 rfl)) (Or.inr (wd hw 30 rfl)) (by decide) (t := .byte) (t' := (.array .byte)) (by decide) (by decide)))
      replace O := O.wr W g_t
      replace KP := KP.wr W (Or.inl (List.mem_of_getElem? (i := 0) rfl))
      replace V_a := V_a.other W ne_a_t
      replace V_b := V_b.other W (Ne.symm ne_t_b)
      replace N := Fr.snoc X N g_t
      refine Go.ret0 C X eT d2_57 (by decide) (by decide) ?_
      exact ⟨rfl, N, KP, b, sz_b, F_t_value, F_t_coder, V_b⟩
  · exact absurd hc5 (by decide)
set_option maxRecDepth 65536 in
set_option maxHeartbeats 40000000 in
theorem init1_4_3 (l : Launch) (Z : State) (a0 : Array Value) (hw : ∀ d ∈ (tables_1 ++ jdkStatics_1), d.before a0 Z = true) (n0 : Nat) (h0 : Heap) (cs : Int32) (SZ : Sta Z Z.heap "java/lang/String" "COMPACT_STRINGS" "Z" (.int cs)) (hcs : cs ≠ 0) (S1 : Sta Z Z.heap "java/lang/StringUTF16" "$assertionsDisabled" "Z" (.int 1)) (S2 : Sta Z Z.heap "java/lang/StringUTF16" "HI_BYTE_SHIFT" "I" (.int 0)) (S3 : Sta Z Z.heap "java/lang/StringUTF16" "LO_BYTE_SHIFT" "I" (.int 8)) (t a : Addr) (g_t : n0 ≤ t) (ne_a_t : a ≠ t) (E_t : Exa Z h0 t "java/lang/String") (F_t_value : Fld Z h0 t "java/lang/String" "value" "[B" .null) (F_t_coder : Fld Z h0 t "java/lang/String" "coder" "B" (.int 0)) (x0 x1 x2 x3 : Int32) (l0 : ¬ (255 : Int32) < x0) (l1 : ¬ (255 : Int32) < x1) (l2 : ¬ (255 : Int32) < x2) (u3 : (255 : Int32) < x3) (r0 : 0 ≤ x0.toInt ∧ x0.toInt < 65536) (r1 : 0 ≤ x1.toInt ∧ x1.toInt < 65536) (r2 : 0 ≤ x2.toInt ∧ x2.toInt < 65536) (r3 : 0 ≤ x3.toInt ∧ x3.toInt < 65536) (O : Old Z n0 h0) (V_a : Arl Z h0 a .char [(.int x0), (.int x1), (.int x2), (.int x3)]) :
    Ctr l Z (⟨"java/lang/String", "<init>", "([C)V"⟩ : MethodName) jdk_42_method_3_code 2 none ({ frames := 5, cells := 2, slots := 12, locals := 74 } : Room) #[(.ref t), (.ref a)] h0 (fun v h L => v = none ∧ Fr n0 L ∧ Keep h0 h [t] ∧ ∃ b, h0.size ≤ b ∧ Fld Z h t "java/lang/String" "value" "[B" (.ref b) ∧ Fld Z h t "java/lang/String" "coder" "B" (.int (1 : Int32)) ∧ Arl Z h b .byte [(.int ((x0 >>> ((0 : Int32) &&& 31)).toInt8.toInt32)), (.int ((x0 >>> ((8 : Int32) &&& 31)).toInt8.toInt32)), (.int ((x1 >>> ((0 : Int32) &&& 31)).toInt8.toInt32)), (.int ((x1 >>> ((8 : Int32) &&& 31)).toInt8.toInt32)), (.int ((x2 >>> ((0 : Int32) &&& 31)).toInt8.toInt32)), (.int ((x2 >>> ((8 : Int32) &&& 31)).toInt8.toInt32)), (.int ((x3 >>> ((0 : Int32) &&& 31)).toInt8.toInt32)), (.int ((x3 >>> ((8 : Int32) &&& 31)).toInt8.toInt32))]) := by
  refine Ctr.mk (plainFor_of_name pn_1) (ls := #[.val (.ref t), .val (.ref a)]) (fun m => by first | (simp [entryFrame, mkF, argsToLocals, Value.category]; done) | rfl) ?_
  intro p e s m below meth c T C X eT hs0
  have N := Fr.nil n0
  have KP := Keep.refl h0 [t]
  show Go p e below _ (T.setTop (mkF m 0 #[.val (.ref t), .val (.ref a)] []))
  refine Go.aloadN C X d1_0 (n := 1) rfl rfl rfl ?_
  refine Go.aloadN C X d1_1 (n := 2) rfl rfl rfl ?_
  refine Go.iconst C X d1_2 (n := 3) rfl (v := (0 : Int32)) rfl ?_
  refine Go.aloadN C X d1_3 (n := 4) rfl rfl rfl ?_
  refine Go.lengthL C X eT V_a (z := (4 : Int32)) rfl d1_4 (n := 5) rfl ?_
  refine Go.aconstNull C X d1_5 (n := 6) rfl ?_
  refine Go.spec C X eT (argsL := [(.ref a), (.int (0 : Int32)), (.int (4 : Int32)), .null]) (rest := []) (a := t) (init4_4_3 l Z a0 hw n0 _ cs SZ hcs S1 S2 S3 t a g_t ne_a_t E_t F_t_value F_t_coder x0 x1 x2 x3 l0 l1 l2 u3 r0 r1 r2 r3 O V_a) rfl (wd hw 8 rfl) (wd hw 9 rfl) (wd hw 4 rfl) (wd hw 11 rfl) (by decide) (lenOf pd_7 rfl) rfl d1_6 (n := 9) rfl rfl (by decide) (W := 0) rfl (by decide) (by decide) (by decide) ?_
  clear X eT
  intro T h v L X eT hQ
  obtain ⟨rfl, Nq, KK, b, s_b, F_t_value, F_t_coder, V_b⟩ := hQ
  replace N := N.app Nq
  replace E_t := E_t.keep KK
  replace O := O.keep KK (allS g_t all0)
  replace KP := KP.trans KK (allS (Or.inl (List.mem_of_getElem? (i := 0) rfl)) all0)
  replace V_a := V_a.keep KK (ninS ne_a_t nin0)
  show Go p e below _ (T.setTop (mkF m 9 #[.val (.ref t), .val (.ref a)] []))
  refine Go.ret0 C X eT d1_9 (by decide) (by decide) ?_
  exact ⟨rfl, N, KP, b, s_b, F_t_value, F_t_coder, V_b⟩
set_option maxRecDepth 65536 in
set_option maxHeartbeats 40000000 in
theorem loop_4_4 (l : Launch) (Z : State) (a0 : Array Value) (hw : ∀ d ∈ (tables_1 ++ jdkStatics_1), d.before a0 Z = true) (n0 : Nat) (h0 : Heap) (a b : Addr) (x0 x1 x2 x3 : Int32) (l0 : ¬ (255 : Int32) < x0) (l1 : ¬ (255 : Int32) < x1) (l2 : ¬ (255 : Int32) < x2) (l3 : ¬ (255 : Int32) < x3) (g_b : n0 ≤ b) (ne_a_b : a ≠ b) (V_a : Arl Z h0 a .char [(.int x0), (.int x1), (.int x2), (.int x3)]) (V_b : Arl Z h0 b .byte [(.int (0 : Int32)), (.int (0 : Int32)), (.int (0 : Int32)), (.int (0 : Int32))]) :
    Ctr l Z (⟨"java/lang/StringUTF16", "compress", "([CI[BII)I"⟩ : MethodName) jdk_52_method_21_code 7 (some .int) ({ frames := 0, cells := 0, slots := 0, locals := 0 } : Room) #[(.ref a), (.int (0 : Int32)), (.ref b), (.int (0 : Int32)), (.int (4 : Int32))] h0 (fun v h L => v = some (.int (4 : Int32)) ∧ Fr n0 L ∧ Keep h0 h [b] ∧ Arl Z h b .byte [(.int (x0.toInt8.toInt32)), (.int (x1.toInt8.toInt32)), (.int (x2.toInt8.toInt32)), (.int (x3.toInt8.toInt32))]) := by
  refine Ctr.mk (plainFor_of_name pn_0) (ls := #[.val (.ref a), .val (.int (0 : Int32)), .val (.ref b), .val (.int (0 : Int32)), .val (.int (4 : Int32)), .unset, .unset]) (fun m => by first | (simp [entryFrame, mkF, argsToLocals, Value.category]; done) | rfl) ?_
  intro p e s m below meth c T C X eT hs0
  have N := Fr.nil n0
  have KP := Keep.refl h0 [b]
  show Go p e below _ (T.setTop (mkF m 0 #[.val (.ref a), .val (.int (0 : Int32)), .val (.ref b), .val (.int (0 : Int32)), .val (.int (4 : Int32)), .unset, .unset] []))
  refine Go.iconst C X d5_0 (n := 1) rfl (v := (0 : Int32)) rfl ?_
  refine Go.istore C X d5_1 (n := 3) rfl (l' := #[.val (.ref a), .val (.int (0 : Int32)), .val (.ref b), .val (.int (0 : Int32)), .val (.int (4 : Int32)), .val (.int (0 : Int32)), .unset]) rfl ?_
  refine Go.iload C X d5_3 (n := 5) rfl rfl ?_
  refine Go.iload C X d5_5 (n := 7) rfl rfl ?_
  refine Go.icmp_ge C X d5_7 (n1 := 44) (n2 := 10) (by decide) (by decide) rfl (fun hc7 => ?_) (fun hc7 => ?_)
  · exact absurd hc7 (by decide)
  · refine Go.aloadN C X d5_10 (n := 11) rfl rfl rfl ?_
    refine Go.iloadN C X d5_11 (n := 12) rfl rfl ?_
    refine Go.caloadL C X eT V_a (i := 0) rfl (v := .int x0) rfl d5_12 (n := 13) rfl ?_
    refine Go.istore C X d5_13 (n := 15) rfl (l' := #[.val (.ref a), .val (.int (0 : Int32)), .val (.ref b), .val (.int (0 : Int32)), .val (.int (4 : Int32)), .val (.int (0 : Int32)), .val (.int x0)]) rfl ?_
    refine Go.iload C X d5_15 (n := 17) rfl rfl ?_
    refine Go.sipush C X d5_17 (n := 20) rfl (v := (255 : Int32)) rfl ?_
    refine Go.icmp_le C X d5_20 (n1 := 26) (n2 := 23) (by decide) (by decide) rfl (fun hc20 => ?_) (fun hc20 => ?_)
    · refine Go.aloadN C X d5_26 (n := 27) rfl rfl rfl ?_
      refine Go.iloadN C X d5_27 (n := 28) rfl rfl ?_
      refine Go.iload C X d5_28 (n := 30) rfl rfl ?_
      refine Go.i2b C X d5_30 (n := 31) rfl ?_
      refine Go.bastoreL C X eT V_b (i := 0) rfl (by simp) d5_31 (n := 32) rfl ?_
      clear X eT
      intro T h X eT W V_new
      replace V_a := V_a.other W ne_a_b
      replace KP := KP.wr W (Or.inl (List.mem_of_getElem? (i := 0) rfl))
      clear V_b
      rw [own_b8] at V_new
      have V_b : Arl Z h b .byte [(.int (x0.toInt8.toInt32)), (.int (0 : Int32)), (.int (0 : Int32)), (.int (0 : Int32))] := V_new
      clear V_new
      replace N := Fr.snoc X N g_b
      refine Go.iinc C X d5_32 (n := 35) rfl (v := (1 : Int32)) rfl rfl (l' := #[.val (.ref a), .val (.int ((0 : Int32) + (1 : Int32))), .val (.ref b), .val (.int (0 : Int32)), .val (.int (4 : Int32)), .val (.int (0 : Int32)), .val (.int x0)]) rfl ?_
      show Go p e below _ (T.setTop (mkF m 35 #[.val (.ref a), .val (.int (1 : Int32)), .val (.ref b), .val (.int (0 : Int32)), .val (.int (4 : Int32)), .val (.int (0 : Int32)), .val (.int x0)] []))
      refine Go.iinc C X d5_35 (n := 38) rfl (v := (1 : Int32)) rfl rfl (l' := #[.val (.ref a), .val (.int (1 : Int32)), .val (.ref b), .val (.int ((0 : Int32) + (1 : Int32))), .val (.int (4 : Int32)), .val (.int (0 : Int32)), .val (.int x0)]) rfl ?_
      show Go p e below _ (T.setTop (mkF m 38 #[.val (.ref a), .val (.int (1 : Int32)), .val (.ref b), .val (.int (1 : Int32)), .val (.int (4 : Int32)), .val (.int (0 : Int32)), .val (.int x0)] []))
      refine Go.iinc C X d5_38 (n := 41) rfl (v := (1 : Int32)) rfl rfl (l' := #[.val (.ref a), .val (.int (1 : Int32)), .val (.ref b), .val (.int (1 : Int32)), .val (.int (4 : Int32)), .val (.int ((0 : Int32) + (1 : Int32))), .val (.int x0)]) rfl ?_
      show Go p e below _ (T.setTop (mkF m 41 #[.val (.ref a), .val (.int (1 : Int32)), .val (.ref b), .val (.int (1 : Int32)), .val (.int (4 : Int32)), .val (.int (1 : Int32)), .val (.int x0)] []))
      refine Go.goto C X d5_41 (n := 3) (by decide) (by decide) ?_
      refine Go.iload C X d5_3 (n := 5) rfl rfl ?_
      refine Go.iload C X d5_5 (n := 7) rfl rfl ?_
      refine Go.icmp_ge C X d5_7 (n1 := 44) (n2 := 10) (by decide) (by decide) rfl (fun hc7 => ?_) (fun hc7 => ?_)
      · exact absurd hc7 (by decide)
      · refine Go.aloadN C X d5_10 (n := 11) rfl rfl rfl ?_
        refine Go.iloadN C X d5_11 (n := 12) rfl rfl ?_
        refine Go.caloadL C X eT V_a (i := 1) rfl (v := .int x1) rfl d5_12 (n := 13) rfl ?_
        refine Go.istore C X d5_13 (n := 15) rfl (l' := #[.val (.ref a), .val (.int (1 : Int32)), .val (.ref b), .val (.int (1 : Int32)), .val (.int (4 : Int32)), .val (.int (1 : Int32)), .val (.int x1)]) rfl ?_
        refine Go.iload C X d5_15 (n := 17) rfl rfl ?_
        refine Go.sipush C X d5_17 (n := 20) rfl (v := (255 : Int32)) rfl ?_
        refine Go.icmp_le C X d5_20 (n1 := 26) (n2 := 23) (by decide) (by decide) rfl (fun hc20 => ?_) (fun hc20 => ?_)
        · refine Go.aloadN C X d5_26 (n := 27) rfl rfl rfl ?_
          refine Go.iloadN C X d5_27 (n := 28) rfl rfl ?_
          refine Go.iload C X d5_28 (n := 30) rfl rfl ?_
          refine Go.i2b C X d5_30 (n := 31) rfl ?_
          refine Go.bastoreL C X eT V_b (i := 1) rfl (by simp) d5_31 (n := 32) rfl ?_
          clear X eT
          intro T h X eT W V_new
          replace V_a := V_a.other W ne_a_b
          replace KP := KP.wr W (Or.inl (List.mem_of_getElem? (i := 0) rfl))
          clear V_b
          rw [own_b8] at V_new
          have V_b : Arl Z h b .byte [(.int (x0.toInt8.toInt32)), (.int (x1.toInt8.toInt32)), (.int (0 : Int32)), (.int (0 : Int32))] := V_new
          clear V_new
          replace N := Fr.snoc X N g_b
          refine Go.iinc C X d5_32 (n := 35) rfl (v := (1 : Int32)) rfl rfl (l' := #[.val (.ref a), .val (.int ((1 : Int32) + (1 : Int32))), .val (.ref b), .val (.int (1 : Int32)), .val (.int (4 : Int32)), .val (.int (1 : Int32)), .val (.int x1)]) rfl ?_
          show Go p e below _ (T.setTop (mkF m 35 #[.val (.ref a), .val (.int (2 : Int32)), .val (.ref b), .val (.int (1 : Int32)), .val (.int (4 : Int32)), .val (.int (1 : Int32)), .val (.int x1)] []))
          refine Go.iinc C X d5_35 (n := 38) rfl (v := (1 : Int32)) rfl rfl (l' := #[.val (.ref a), .val (.int (2 : Int32)), .val (.ref b), .val (.int ((1 : Int32) + (1 : Int32))), .val (.int (4 : Int32)), .val (.int (1 : Int32)), .val (.int x1)]) rfl ?_
          show Go p e below _ (T.setTop (mkF m 38 #[.val (.ref a), .val (.int (2 : Int32)), .val (.ref b), .val (.int (2 : Int32)), .val (.int (4 : Int32)), .val (.int (1 : Int32)), .val (.int x1)] []))
          refine Go.iinc C X d5_38 (n := 41) rfl (v := (1 : Int32)) rfl rfl (l' := #[.val (.ref a), .val (.int (2 : Int32)), .val (.ref b), .val (.int (2 : Int32)), .val (.int (4 : Int32)), .val (.int ((1 : Int32) + (1 : Int32))), .val (.int x1)]) rfl ?_
          show Go p e below _ (T.setTop (mkF m 41 #[.val (.ref a), .val (.int (2 : Int32)), .val (.ref b), .val (.int (2 : Int32)), .val (.int (4 : Int32)), .val (.int (2 : Int32)), .val (.int x1)] []))
          refine Go.goto C X d5_41 (n := 3) (by decide) (by decide) ?_
          refine Go.iload C X d5_3 (n := 5) rfl rfl ?_
          refine Go.iload C X d5_5 (n := 7) rfl rfl ?_
          refine Go.icmp_ge C X d5_7 (n1 := 44) (n2 := 10) (by decide) (by decide) rfl (fun hc7 => ?_) (fun hc7 => ?_)
          · exact absurd hc7 (by decide)
          · refine Go.aloadN C X d5_10 (n := 11) rfl rfl rfl ?_
            refine Go.iloadN C X d5_11 (n := 12) rfl rfl ?_
            refine Go.caloadL C X eT V_a (i := 2) rfl (v := .int x2) rfl d5_12 (n := 13) rfl ?_
            refine Go.istore C X d5_13 (n := 15) rfl (l' := #[.val (.ref a), .val (.int (2 : Int32)), .val (.ref b), .val (.int (2 : Int32)), .val (.int (4 : Int32)), .val (.int (2 : Int32)), .val (.int x2)]) rfl ?_
            refine Go.iload C X d5_15 (n := 17) rfl rfl ?_
            refine Go.sipush C X d5_17 (n := 20) rfl (v := (255 : Int32)) rfl ?_
            refine Go.icmp_le C X d5_20 (n1 := 26) (n2 := 23) (by decide) (by decide) rfl (fun hc20 => ?_) (fun hc20 => ?_)
            · refine Go.aloadN C X d5_26 (n := 27) rfl rfl rfl ?_
              refine Go.iloadN C X d5_27 (n := 28) rfl rfl ?_
              refine Go.iload C X d5_28 (n := 30) rfl rfl ?_
              refine Go.i2b C X d5_30 (n := 31) rfl ?_
              refine Go.bastoreL C X eT V_b (i := 2) rfl (by simp) d5_31 (n := 32) rfl ?_
              clear X eT
              intro T h X eT W V_new
              replace V_a := V_a.other W ne_a_b
              replace KP := KP.wr W (Or.inl (List.mem_of_getElem? (i := 0) rfl))
              clear V_b
              rw [own_b8] at V_new
              have V_b : Arl Z h b .byte [(.int (x0.toInt8.toInt32)), (.int (x1.toInt8.toInt32)), (.int (x2.toInt8.toInt32)), (.int (0 : Int32))] := V_new
              clear V_new
              replace N := Fr.snoc X N g_b
              refine Go.iinc C X d5_32 (n := 35) rfl (v := (1 : Int32)) rfl rfl (l' := #[.val (.ref a), .val (.int ((2 : Int32) + (1 : Int32))), .val (.ref b), .val (.int (2 : Int32)), .val (.int (4 : Int32)), .val (.int (2 : Int32)), .val (.int x2)]) rfl ?_
              show Go p e below _ (T.setTop (mkF m 35 #[.val (.ref a), .val (.int (3 : Int32)), .val (.ref b), .val (.int (2 : Int32)), .val (.int (4 : Int32)), .val (.int (2 : Int32)), .val (.int x2)] []))
              refine Go.iinc C X d5_35 (n := 38) rfl (v := (1 : Int32)) rfl rfl (l' := #[.val (.ref a), .val (.int (3 : Int32)), .val (.ref b), .val (.int ((2 : Int32) + (1 : Int32))), .val (.int (4 : Int32)), .val (.int (2 : Int32)), .val (.int x2)]) rfl ?_
              show Go p e below _ (T.setTop (mkF m 38 #[.val (.ref a), .val (.int (3 : Int32)), .val (.ref b), .val (.int (3 : Int32)), .val (.int (4 : Int32)), .val (.int (2 : Int32)), .val (.int x2)] []))
              refine Go.iinc C X d5_38 (n := 41) rfl (v := (1 : Int32)) rfl rfl (l' := #[.val (.ref a), .val (.int (3 : Int32)), .val (.ref b), .val (.int (3 : Int32)), .val (.int (4 : Int32)), .val (.int ((2 : Int32) + (1 : Int32))), .val (.int x2)]) rfl ?_
              show Go p e below _ (T.setTop (mkF m 41 #[.val (.ref a), .val (.int (3 : Int32)), .val (.ref b), .val (.int (3 : Int32)), .val (.int (4 : Int32)), .val (.int (3 : Int32)), .val (.int x2)] []))
              refine Go.goto C X d5_41 (n := 3) (by decide) (by decide) ?_
              refine Go.iload C X d5_3 (n := 5) rfl rfl ?_
              refine Go.iload C X d5_5 (n := 7) rfl rfl ?_
              refine Go.icmp_ge C X d5_7 (n1 := 44) (n2 := 10) (by decide) (by decide) rfl (fun hc7 => ?_) (fun hc7 => ?_)
              · exact absurd hc7 (by decide)
              · refine Go.aloadN C X d5_10 (n := 11) rfl rfl rfl ?_
                refine Go.iloadN C X d5_11 (n := 12) rfl rfl ?_
                refine Go.caloadL C X eT V_a (i := 3) rfl (v := .int x3) rfl d5_12 (n := 13) rfl ?_
                refine Go.istore C X d5_13 (n := 15) rfl (l' := #[.val (.ref a), .val (.int (3 : Int32)), .val (.ref b), .val (.int (3 : Int32)), .val (.int (4 : Int32)), .val (.int (3 : Int32)), .val (.int x3)]) rfl ?_
                refine Go.iload C X d5_15 (n := 17) rfl rfl ?_
                refine Go.sipush C X d5_17 (n := 20) rfl (v := (255 : Int32)) rfl ?_
                refine Go.icmp_le C X d5_20 (n1 := 26) (n2 := 23) (by decide) (by decide) rfl (fun hc20 => ?_) (fun hc20 => ?_)
                · refine Go.aloadN C X d5_26 (n := 27) rfl rfl rfl ?_
                  refine Go.iloadN C X d5_27 (n := 28) rfl rfl ?_
                  refine Go.iload C X d5_28 (n := 30) rfl rfl ?_
                  refine Go.i2b C X d5_30 (n := 31) rfl ?_
                  refine Go.bastoreL C X eT V_b (i := 3) rfl (by simp) d5_31 (n := 32) rfl ?_
                  clear X eT
                  intro T h X eT W V_new
                  replace V_a := V_a.other W ne_a_b
                  replace KP := KP.wr W (Or.inl (List.mem_of_getElem? (i := 0) rfl))
                  clear V_b
                  rw [own_b8] at V_new
                  have V_b : Arl Z h b .byte [(.int (x0.toInt8.toInt32)), (.int (x1.toInt8.toInt32)), (.int (x2.toInt8.toInt32)), (.int (x3.toInt8.toInt32))] := V_new
                  clear V_new
                  replace N := Fr.snoc X N g_b
                  refine Go.iinc C X d5_32 (n := 35) rfl (v := (1 : Int32)) rfl rfl (l' := #[.val (.ref a), .val (.int ((3 : Int32) + (1 : Int32))), .val (.ref b), .val (.int (3 : Int32)), .val (.int (4 : Int32)), .val (.int (3 : Int32)), .val (.int x3)]) rfl ?_
                  show Go p e below _ (T.setTop (mkF m 35 #[.val (.ref a), .val (.int (4 : Int32)), .val (.ref b), .val (.int (3 : Int32)), .val (.int (4 : Int32)), .val (.int (3 : Int32)), .val (.int x3)] []))
                  refine Go.iinc C X d5_35 (n := 38) rfl (v := (1 : Int32)) rfl rfl (l' := #[.val (.ref a), .val (.int (4 : Int32)), .val (.ref b), .val (.int ((3 : Int32) + (1 : Int32))), .val (.int (4 : Int32)), .val (.int (3 : Int32)), .val (.int x3)]) rfl ?_
                  show Go p e below _ (T.setTop (mkF m 38 #[.val (.ref a), .val (.int (4 : Int32)), .val (.ref b), .val (.int (4 : Int32)), .val (.int (4 : Int32)), .val (.int (3 : Int32)), .val (.int x3)] []))
                  refine Go.iinc C X d5_38 (n := 41) rfl (v := (1 : Int32)) rfl rfl (l' := #[.val (.ref a), .val (.int (4 : Int32)), .val (.ref b), .val (.int (4 : Int32)), .val (.int (4 : Int32)), .val (.int ((3 : Int32) + (1 : Int32))), .val (.int x3)]) rfl ?_
                  show Go p e below _ (T.setTop (mkF m 41 #[.val (.ref a), .val (.int (4 : Int32)), .val (.ref b), .val (.int (4 : Int32)), .val (.int (4 : Int32)), .val (.int (4 : Int32)), .val (.int x3)] []))
                  refine Go.goto C X d5_41 (n := 3) (by decide) (by decide) ?_
                  refine Go.iload C X d5_3 (n := 5) rfl rfl ?_
                  refine Go.iload C X d5_5 (n := 7) rfl rfl ?_
                  refine Go.icmp_ge C X d5_7 (n1 := 44) (n2 := 10) (by decide) (by decide) rfl (fun hc7 => ?_) (fun hc7 => ?_)
                  · refine Go.iload C X d5_44 (n := 46) rfl rfl ?_
                    refine Go.retI C X eT d5_46 (by decide) (by decide) ?_
                    exact ⟨rfl, N, KP, V_b⟩
                  · exact absurd hc7 (by decide)
                · exact absurd hc20 l3
            · exact absurd hc20 l2
        · exact absurd hc20 l1
    · exact absurd hc20 l0
set_option maxRecDepth 65536 in
set_option maxHeartbeats 40000000 in
theorem compress_4_4 (l : Launch) (Z : State) (a0 : Array Value) (hw : ∀ d ∈ (tables_1 ++ jdkStatics_1), d.before a0 Z = true) (n0 : Nat) (h0 : Heap) (a : Addr) (x0 x1 x2 x3 : Int32) (l0 : ¬ (255 : Int32) < x0) (l1 : ¬ (255 : Int32) < x1) (l2 : ¬ (255 : Int32) < x2) (l3 : ¬ (255 : Int32) < x3) (O : Old Z n0 h0) (V_a : Arl Z h0 a .char [(.int x0), (.int x1), (.int x2), (.int x3)]) :
    Ctr l Z (⟨"java/lang/StringUTF16", "compress", "([CII)[B"⟩ : MethodName) jdk_52_method_16_code 6 (some (.array .byte)) ({ frames := 1, cells := 1, slots := 4, locals := 18 } : Room) #[(.ref a), (.int (0 : Int32)), (.int (4 : Int32))] h0 (fun v h L => ∃ b, v = some (.ref b) ∧ Fr n0 L ∧ Keep h0 h [] ∧ h0.size ≤ b ∧ Arl Z h b .byte [(.int (x0.toInt8.toInt32)), (.int (x1.toInt8.toInt32)), (.int (x2.toInt8.toInt32)), (.int (x3.toInt8.toInt32))]) := by
  refine Ctr.mk (plainFor_of_name pn_0) (ls := #[.val (.ref a), .val (.int (0 : Int32)), .val (.int (4 : Int32)), .unset, .unset, .unset]) (fun m => by first | (simp [entryFrame, mkF, argsToLocals, Value.category]; done) | rfl) ?_
  intro p e s m below meth c T C X eT hs0
  have N := Fr.nil n0
  have KP := Keep.refl h0 []
  show Go p e below _ (T.setTop (mkF m 0 #[.val (.ref a), .val (.int (0 : Int32)), .val (.int (4 : Int32)), .unset, .unset, .unset] []))
  refine Go.iloadN C X d4_0 (n := 1) rfl rfl ?_
  refine Go.newL C X eT (wd hw 20 rfl) (i := 4) rfl (cap := 4) (by decide) d4_1 (n := 3) rfl (by decide) (by decide) (by decide) ?_
  clear X eT
  intro T h b z_b X eT E V_b
  have ne_a_b : a ≠ b := Nat.ne_of_lt (Nat.lt_of_lt_of_le V_a.lt (Nat.le_of_eq z_b.symm))
  have g_b : n0 ≤ b := by rw [z_b]; exact O.le
  have s_b : h0.size ≤ b := by rw [z_b]; exact KP.1
  replace V_a := V_a.ext E
  replace KP := KP.ext E
  replace O := O.ext E
  replace V_b : Arl Z h b .byte [(.int (0 : Int32)), (.int (0 : Int32)), (.int (0 : Int32)), (.int (0 : Int32))] := V_b
  refine Go.astoreN C X d4_3 (n := 4) rfl rfl (l' := #[.val (.ref a), .val (.int (0 : Int32)), .val (.int (4 : Int32)), .val (.ref b), .unset, .unset]) rfl ?_
  refine Go.aloadN C X d4_4 (n := 5) rfl rfl rfl ?_
  refine Go.iloadN C X d4_5 (n := 6) rfl rfl ?_
  refine Go.aloadN C X d4_6 (n := 7) rfl rfl rfl ?_
  refine Go.iconst C X d4_7 (n := 8) rfl (v := (0 : Int32)) rfl ?_
  refine Go.iloadN C X d4_8 (n := 9) rfl rfl ?_
  refine Go.stat C X eT (argsL := [(.ref a), (.int (0 : Int32)), (.ref b), (.int (0 : Int32)), (.int (4 : Int32))]) (rest := []) (loop_4_4 l Z a0 hw n0 _ a b x0 x1 x2 x3 l0 l1 l2 l3 g_b ne_a_b V_a V_b) (wd hw 21 rfl) (wd hw 22 rfl) (wd hw 18 rfl) (wd hw 23 rfl) (by decide) (lenOf pd_3 rfl) rfl d4_9 (n := 12) rfl rfl (by decide) (W := 0) rfl (by decide) (by decide) (by decide) ?_
  clear X eT
  intro T h v L X eT hQ
  obtain ⟨rfl, Nq, KK, V_b⟩ := hQ
  replace N := N.app Nq
  replace V_a := V_a.keep KK (ninS ne_a_b nin0)
  replace KP := KP.trans KK (allS (Or.inr s_b) all0)
  replace O := O.keep KK (allS g_b all0)
  show Go p e below _ (T.setTop (mkF m 12 #[.val (.ref a), .val (.int (0 : Int32)), .val (.int (4 : Int32)), .val (.ref b), .unset, .unset] [(.int (4 : Int32))]))
  refine Go.istore C X d4_12 (n := 14) rfl (l' := #[.val (.ref a), .val (.int (0 : Int32)), .val (.int (4 : Int32)), .val (.ref b), .val (.int (4 : Int32)), .unset]) rfl ?_
  refine Go.iload C X d4_14 (n := 16) rfl rfl ?_
  refine Go.iloadN C X d4_16 (n := 17) rfl rfl ?_
  refine Go.icmp_eq C X d4_17 (n1 := 57) (n2 := 20) (by decide) (by decide) rfl (fun hc17 => ?_) (fun hc17 => ?_)
  · refine Go.aloadN C X d4_57 (n := 58) rfl rfl rfl ?_
    refine Go.retA C X eT rfl rfl rfl d4_58 (by decide) (by decide) ?_
    exact ⟨b, rfl, N, KP, s_b, V_b⟩
  · exact absurd hc17 (by decide)
set_option maxRecDepth 65536 in
set_option maxHeartbeats 40000000 in
theorem cfal_4_4 (l : Launch) (Z : State) (a0 : Array Value) (hw : ∀ d ∈ (tables_1 ++ jdkStatics_1), d.before a0 Z = true) (n0 : Nat) (h0 : Heap) (b : Addr) (vs : List Value) (hlen : vs.length = 4) (V_b : Arl Z h0 b .byte vs) :
    Ctr l Z (⟨"java/lang/StringUTF16", "coderFromArrayLen", "([BI)B"⟩ : MethodName) jdk_52_method_15_code 2 (some .byte) ({ frames := 0, cells := 0, slots := 0, locals := 0 } : Room) #[(.ref b), (.int (4 : Int32))] h0 (fun v h L => v = some (.int (0 : Int32)) ∧ L = [] ∧ h = h0) := by
  refine Ctr.mk (plainFor_of_name pn_0) (ls := #[.val (.ref b), .val (.int (4 : Int32))]) (fun m => by first | (simp [entryFrame, mkF, argsToLocals, Value.category]; done) | rfl) ?_
  intro p e s m below meth c T C X eT hs0
  have N := Fr.nil n0
  show Go p e below _ (T.setTop (mkF m 0 #[.val (.ref b), .val (.int (4 : Int32))] []))
  refine Go.iloadN C X d6_0 (n := 1) rfl rfl ?_
  refine Go.aloadN C X d6_1 (n := 2) rfl rfl rfl ?_
  refine Go.lengthL C X eT V_b (z := (4 : Int32)) (by rw [hlen]; rfl) d6_2 (n := 3) rfl ?_
  refine Go.isub C X d6_3 (n := 4) rfl ?_
  show Go p e below _ (T.setTop (mkF m 4 #[.val (.ref b), .val (.int (4 : Int32))] [(.int (0 : Int32))]))
  refine Go.bipush C X d6_4 (n := 6) rfl (v := (31 : Int32)) rfl ?_
  refine Go.iushr C X d6_6 (n := 7) rfl ?_
  show Go p e below _ (T.setTop (mkF m 7 #[.val (.ref b), .val (.int (4 : Int32))] [(.int (0 : Int32))]))
  refine Go.i2b C X d6_7 (n := 8) rfl ?_
  show Go p e below _ (T.setTop (mkF m 8 #[.val (.ref b), .val (.int (4 : Int32))] [(.int (0 : Int32))]))
  refine Go.retN C X eT (Or.inr (Or.inl rfl)) (w := (0 : Int32)) (by decide) d6_8 (by decide) (by decide) ?_
  exact ⟨rfl, rfl, rfl⟩
set_option maxRecDepth 65536 in
set_option maxHeartbeats 40000000 in
theorem init4_4_4 (l : Launch) (Z : State) (a0 : Array Value) (hw : ∀ d ∈ (tables_1 ++ jdkStatics_1), d.before a0 Z = true) (n0 : Nat) (h0 : Heap) (cs : Int32) (SZ : Sta Z Z.heap "java/lang/String" "COMPACT_STRINGS" "Z" (.int cs)) (hcs : cs ≠ 0) (t a : Addr) (g_t : n0 ≤ t) (ne_a_t : a ≠ t) (E_t : Exa Z h0 t "java/lang/String") (F_t_value : Fld Z h0 t "java/lang/String" "value" "[B" .null) (F_t_coder : Fld Z h0 t "java/lang/String" "coder" "B" (.int 0)) (x0 x1 x2 x3 : Int32) (l0 : ¬ (255 : Int32) < x0) (l1 : ¬ (255 : Int32) < x1) (l2 : ¬ (255 : Int32) < x2) (l3 : ¬ (255 : Int32) < x3) (O : Old Z n0 h0) (V_a : Arl Z h0 a .char [(.int x0), (.int x1), (.int x2), (.int x3)]) :
    Ctr l Z (⟨"java/lang/String", "<init>", "([CIILjava/lang/Void;)V"⟩ : MethodName) jdk_42_method_149_code 6 none ({ frames := 2, cells := 1, slots := 4, locals := 35 } : Room) #[(.ref t), (.ref a), (.int (0 : Int32)), (.int (4 : Int32)), .null] h0 (fun v h L => v = none ∧ Fr n0 L ∧ Keep h0 h [t] ∧ ∃ b, h0.size ≤ b ∧ Fld Z h t "java/lang/String" "value" "[B" (.ref b) ∧ Fld Z h t "java/lang/String" "coder" "B" (.int (0 : Int32)) ∧ Arl Z h b .byte [(.int (x0.toInt8.toInt32)), (.int (x1.toInt8.toInt32)), (.int (x2.toInt8.toInt32)), (.int (x3.toInt8.toInt32))]) := by
  refine Ctr.mk (plainFor_of_name pn_1) (ls := #[.val (.ref t), .val (.ref a), .val (.int (0 : Int32)), .val (.int (4 : Int32)), .val .null, .unset]) (fun m => by first | (simp [entryFrame, mkF, argsToLocals, Value.category]; done) | rfl) ?_
  intro p e s m below meth c T C X eT hs0
  have N := Fr.nil n0
  have KP := Keep.refl h0 [t]
  show Go p e below _ (T.setTop (mkF m 0 #[.val (.ref t), .val (.ref a), .val (.int (0 : Int32)), .val (.int (4 : Int32)), .val .null, .unset] []))
  refine Go.aloadN C X d2_0 (n := 1) rfl rfl rfl ?_
  refine Go.initO C X eT (W := 0) (wd hw 12 rfl) (wd hw 13 rfl) (wd hw 14 rfl) d2_1 (n := 4) rfl rfl (by decide) rfl (by decide) ?_
  clear X eT
  intro T X eT
  refine Go.iloadN C X d2_4 (n := 5) rfl rfl ?_
  refine Go.if0_ne C X d2_5 (n1 := 27) (n2 := 8) (by decide) (by decide) rfl (fun hc5 => ?_) (fun hc5 => ?_)
  · refine Go.getS C X eT (wd hw 15 rfl) Via.refl (SZ.old O) d2_27 (n := 30) rfl ?_
    clear X eT
    intro T X eT
    refine Go.if0_eq C X d2_30 (n1 := 58) (n2 := 33) (by decide) (by decide) rfl (fun hc30 => ?_) (fun hc30 => ?_)
    · exact absurd hc30 hcs
    · refine Go.aloadN C X d2_33 (n := 34) rfl rfl rfl ?_
      refine Go.iloadN C X d2_34 (n := 35) rfl rfl ?_
      refine Go.iloadN C X d2_35 (n := 36) rfl rfl ?_
      refine Go.stat C X eT (argsL := [(.ref a), (.int (0 : Int32)), (.int (4 : Int32))]) (rest := []) (compress_4_4 l Z a0 hw n0 _ a x0 x1 x2 x3 l0 l1 l2 l3 O V_a) (wd hw 16 rfl) (wd hw 17 rfl) (wd hw 18 rfl) (wd hw 19 rfl) (by decide) (lenOf pd_4 rfl) rfl d2_36 (n := 39) rfl rfl (by decide) (W := 0) rfl (by decide) (by decide) (by decide) ?_
      clear X eT
      intro T h v L X eT hQ
      obtain ⟨b, rfl, Nq, KK, s_b, V_b⟩ := hQ
      replace N := N.app Nq
      have ne_t_b : t ≠ b := Nat.ne_of_lt (Nat.lt_of_lt_of_le E_t.lt s_b)
      have ne_a_b : a ≠ b := Nat.ne_of_lt (Nat.lt_of_lt_of_le V_a.lt s_b)
      have g_b : n0 ≤ b := Nat.le_trans O.le s_b
      have sz_b : h0.size ≤ b := Nat.le_trans KP.1 s_b
      replace E_t := E_t.keep KK
      replace F_t_value := F_t_value.keep KK nin0
      replace F_t_coder := F_t_coder.keep KK nin0
      replace O := O.keep KK all0
      replace KP := KP.trans KK all0
      replace V_a := V_a.keep KK nin0
      show Go p e below _ (T.setTop (mkF m 39 #[.val (.ref t), .val (.ref a), .val (.int (0 : Int32)), .val (.int (4 : Int32)), .val .null, .unset] [(.ref b)]))
      refine Go.astore C X d2_39 (n := 41) rfl rfl (l' := #[.val (.ref t), .val (.ref a), .val (.int (0 : Int32)), .val (.int (4 : Int32)), .val .null, .val (.ref b)]) rfl ?_
      refine Go.aloadN C X d2_41 (n := 42) rfl rfl rfl ?_
      refine Go.aload C X d2_42 (n := 44) rfl rfl rfl ?_
      refine Go.iloadN C X d2_44 (n := 45) rfl rfl ?_
      refine Go.stat C X eT (argsL := [(.ref b), (.int (4 : Int32))]) (rest := [(.ref t)]) (cfal_4_4 l Z a0 hw n0 _ b _ rfl V_b) (wd hw 24 rfl) (wd hw 25 rfl) (wd hw 18 rfl) (wd hw 26 rfl) (by decide) (lenOf pd_6 rfl) rfl d2_45 (n := 48) rfl rfl (by decide) (W := 1) rfl (by decide) (by decide) (by decide) ?_
      clear X eT
      intro T h' v L X eT hQ
      obtain ⟨rfl, rfl, hE⟩ := hQ
      replace hE := hE.symm
      subst hE
      replace N := N.app (Fr.nil n0)
      show Go p e below _ (T.setTop (mkF m 48 #[.val (.ref t), .val (.ref a), .val (.int (0 : Int32)), .val (.int (4 : Int32)), .val .null, .val (.ref b)] [(.int (0 : Int32)), (.ref t)]))
      refine Go.putF C X eT (wd hw 27 rfl) Via.refl F_t_coder E_t (Or.inr ⟨(wd hw 28 rfl), rfl, rfl⟩) (wd hw 3 rfl) (ty := .byte) (by decide) rfl rfl d2_48 (n := 51) rfl ?_
      clear X eT
      intro T h X eT W
      replace E_t := E_t.wr W
      replace F_t_value := F_t_value.other W (Or.inr (slot_ne (Or.inr (wd hw 30 rfl)) (Or.inr (wd hw 28 rfl)) (by decide) (t := (.array .byte)) (t' := .byte) (by decide) (by decide)))
      replace F_t_coder := F_t_coder.same W
      replace O := O.wr W g_t
      replace KP := KP.wr W (Or.inl (List.mem_of_getElem? (i := 0) rfl))
      replace V_a := V_a.other W ne_a_t
      replace V_b := V_b.other W (Ne.symm ne_t_b)
      replace N := Fr.snoc X N g_t
      refine Go.aloadN C X d2_51 (n := 52) rfl rfl rfl ?_
      refine Go.aload C X d2_52 (n := 54) rfl rfl rfl ?_
      refine Go.putF C X eT (wd hw 29 rfl) Via.refl F_t_value E_t (Or.inr ⟨(wd hw 30 rfl), rfl, rfl⟩) (wd hw 3 rfl) (ty := (.array .byte)) (by decide) rfl rfl d2_54 (n := 57) rfl ?_
      clear X eT
      intro T h X eT W
      replace E_t := E_t.wr W
      replace F_t_value := F_t_value.same W
      replace F_t_coder := F_t_coder.other W (Or.inr (slot_ne (Or.inr (wd hw 28 rfl)) (Or.inr (wd hw 30 rfl)) (by decide) (t := .byte) (t' := (.array .byte)) (by decide) (by decide)))
      replace O := O.wr W g_t
      replace KP := KP.wr W (Or.inl (List.mem_of_getElem? (i := 0) rfl))
      replace V_a := V_a.other W ne_a_t
      replace V_b := V_b.other W (Ne.symm ne_t_b)
      replace N := Fr.snoc X N g_t
      refine Go.ret0 C X eT d2_57 (by decide) (by decide) ?_
      exact ⟨rfl, N, KP, b, sz_b, F_t_value, F_t_coder, V_b⟩
  · exact absurd hc5 (by decide)
set_option maxRecDepth 65536 in
set_option maxHeartbeats 40000000 in
theorem init1_4_4 (l : Launch) (Z : State) (a0 : Array Value) (hw : ∀ d ∈ (tables_1 ++ jdkStatics_1), d.before a0 Z = true) (n0 : Nat) (h0 : Heap) (cs : Int32) (SZ : Sta Z Z.heap "java/lang/String" "COMPACT_STRINGS" "Z" (.int cs)) (hcs : cs ≠ 0) (t a : Addr) (g_t : n0 ≤ t) (ne_a_t : a ≠ t) (E_t : Exa Z h0 t "java/lang/String") (F_t_value : Fld Z h0 t "java/lang/String" "value" "[B" .null) (F_t_coder : Fld Z h0 t "java/lang/String" "coder" "B" (.int 0)) (x0 x1 x2 x3 : Int32) (l0 : ¬ (255 : Int32) < x0) (l1 : ¬ (255 : Int32) < x1) (l2 : ¬ (255 : Int32) < x2) (l3 : ¬ (255 : Int32) < x3) (O : Old Z n0 h0) (V_a : Arl Z h0 a .char [(.int x0), (.int x1), (.int x2), (.int x3)]) :
    Ctr l Z (⟨"java/lang/String", "<init>", "([C)V"⟩ : MethodName) jdk_42_method_3_code 2 none ({ frames := 5, cells := 2, slots := 12, locals := 74 } : Room) #[(.ref t), (.ref a)] h0 (fun v h L => v = none ∧ Fr n0 L ∧ Keep h0 h [t] ∧ ∃ b, h0.size ≤ b ∧ Fld Z h t "java/lang/String" "value" "[B" (.ref b) ∧ Fld Z h t "java/lang/String" "coder" "B" (.int (0 : Int32)) ∧ Arl Z h b .byte [(.int (x0.toInt8.toInt32)), (.int (x1.toInt8.toInt32)), (.int (x2.toInt8.toInt32)), (.int (x3.toInt8.toInt32))]) := by
  refine Ctr.mk (plainFor_of_name pn_1) (ls := #[.val (.ref t), .val (.ref a)]) (fun m => by first | (simp [entryFrame, mkF, argsToLocals, Value.category]; done) | rfl) ?_
  intro p e s m below meth c T C X eT hs0
  have N := Fr.nil n0
  have KP := Keep.refl h0 [t]
  show Go p e below _ (T.setTop (mkF m 0 #[.val (.ref t), .val (.ref a)] []))
  refine Go.aloadN C X d1_0 (n := 1) rfl rfl rfl ?_
  refine Go.aloadN C X d1_1 (n := 2) rfl rfl rfl ?_
  refine Go.iconst C X d1_2 (n := 3) rfl (v := (0 : Int32)) rfl ?_
  refine Go.aloadN C X d1_3 (n := 4) rfl rfl rfl ?_
  refine Go.lengthL C X eT V_a (z := (4 : Int32)) rfl d1_4 (n := 5) rfl ?_
  refine Go.aconstNull C X d1_5 (n := 6) rfl ?_
  refine Go.spec C X eT (argsL := [(.ref a), (.int (0 : Int32)), (.int (4 : Int32)), .null]) (rest := []) (a := t) (init4_4_4 l Z a0 hw n0 _ cs SZ hcs t a g_t ne_a_t E_t F_t_value F_t_coder x0 x1 x2 x3 l0 l1 l2 l3 O V_a) rfl (wd hw 8 rfl) (wd hw 9 rfl) (wd hw 4 rfl) (wd hw 11 rfl) (by decide) (lenOf pd_7 rfl) rfl d1_6 (n := 9) rfl rfl (by decide) (W := 0) rfl (by decide) (by decide) (by decide) ?_
  clear X eT
  intro T h v L X eT hQ
  obtain ⟨rfl, Nq, KK, b, s_b, F_t_value, F_t_coder, V_b⟩ := hQ
  replace N := N.app Nq
  replace E_t := E_t.keep KK
  replace O := O.keep KK (allS g_t all0)
  replace KP := KP.trans KK (allS (Or.inl (List.mem_of_getElem? (i := 0) rfl)) all0)
  replace V_a := V_a.keep KK (ninS ne_a_t nin0)
  show Go p e below _ (T.setTop (mkF m 9 #[.val (.ref t), .val (.ref a)] []))
  refine Go.ret0 C X eT d1_9 (by decide) (by decide) ?_
  exact ⟨rfl, N, KP, b, s_b, F_t_value, F_t_coder, V_b⟩
/-- the String: its bytes, in either form -/
def StrB (Z : State) (h : Heap) (q b : Addr) (x0 x1 x2 x3 : Int32) : Prop := Exa Z h q "java/lang/String" ∧ Fld Z h q "java/lang/String" "value" "[B" (.ref b) ∧
  ((Fld Z h q "java/lang/String" "coder" "B" (.int 0) ∧ Arl Z h b .byte [(.int (x0.toInt8.toInt32)), (.int (x1.toInt8.toInt32)), (.int (x2.toInt8.toInt32)), (.int (x3.toInt8.toInt32))] ∧ ((¬ (255 : Int32) < x0) ∧ (¬ (255 : Int32) < x1) ∧ (¬ (255 : Int32) < x2) ∧ (¬ (255 : Int32) < x3))) ∨ (Fld Z h q "java/lang/String" "coder" "B" (.int 1) ∧ Arl Z h b .byte [(.int ((x0 >>> ((0 : Int32) &&& 31)).toInt8.toInt32)), (.int ((x0 >>> ((8 : Int32) &&& 31)).toInt8.toInt32)), (.int ((x1 >>> ((0 : Int32) &&& 31)).toInt8.toInt32)), (.int ((x1 >>> ((8 : Int32) &&& 31)).toInt8.toInt32)), (.int ((x2 >>> ((0 : Int32) &&& 31)).toInt8.toInt32)), (.int ((x2 >>> ((8 : Int32) &&& 31)).toInt8.toInt32)), (.int ((x3 >>> ((0 : Int32) &&& 31)).toInt8.toInt32)), (.int ((x3 >>> ((8 : Int32) &&& 31)).toInt8.toInt32))]))
section
variable {Z : State} {h h' : Heap} {q b a : Addr} {x0 x1 x2 x3 : Int32} {sl : Nat} {v : Value} {ws : List Addr}
theorem StrB.lt1 (F : StrB Z h q b x0 x1 x2 x3) : q < h.size := F.1.lt
theorem StrB.lt2 (F : StrB Z h q b x0 x1 x2 x3) : b < h.size := by rcases F.2.2 with ⟨-, A, -⟩ | ⟨-, A⟩ <;> exact A.lt
theorem StrB.ext (F : StrB Z h q b x0 x1 x2 x3) (E : Ext h h') : StrB Z h' q b x0 x1 x2 x3 := ⟨F.1.ext E, F.2.1.ext E, F.2.2.imp (fun ⟨f, A, r⟩ => ⟨f.ext E, A.ext E, r⟩) (fun ⟨f, A⟩ => ⟨f.ext E, A.ext E⟩)⟩
theorem StrB.other (F : StrB Z h q b x0 x1 x2 x3) (W : Wr h h' a sl v) (n1 : q ≠ a) (n2 : b ≠ a) : StrB Z h' q b x0 x1 x2 x3 := ⟨F.1.wr W, F.2.1.other W (Or.inl n1), F.2.2.imp (fun ⟨f, A, r⟩ => ⟨f.other W (Or.inl n1), A.other W n2, r⟩) (fun ⟨f, A⟩ => ⟨f.other W (Or.inl n1), A.other W n2⟩)⟩
theorem StrB.keep (F : StrB Z h q b x0 x1 x2 x3) (W : Keep h h' ws) (n1 : q ∉ ws) (n2 : b ∉ ws) : StrB Z h' q b x0 x1 x2 x3 := ⟨F.1.keep W, F.2.1.keep W n1, F.2.2.imp (fun ⟨f, A, r⟩ => ⟨f.keep W n1, A.keep W n2, r⟩) (fun ⟨f, A⟩ => ⟨f.keep W n1, A.keep W n2⟩)⟩
end
set_option maxRecDepth 65536 in
set_option maxHeartbeats 40000000 in
theorem init1A (l : Launch) (Z : State) (a0 : Array Value) (hw : ∀ d ∈ (tables_1 ++ jdkStatics_1), d.before a0 Z = true) (n0 : Nat) (h0 : Heap) (cs : Int32) (SZ : Sta Z Z.heap "java/lang/String" "COMPACT_STRINGS" "Z" (.int cs)) (hcs : cs ≠ 0) (S1 : Sta Z Z.heap "java/lang/StringUTF16" "$assertionsDisabled" "Z" (.int 1)) (S2 : Sta Z Z.heap "java/lang/StringUTF16" "HI_BYTE_SHIFT" "I" (.int 0)) (S3 : Sta Z Z.heap "java/lang/StringUTF16" "LO_BYTE_SHIFT" "I" (.int 8)) (t a : Addr) (g_t : n0 ≤ t) (ne_a_t : a ≠ t) (E_t : Exa Z h0 t "java/lang/String") (F_t_value : Fld Z h0 t "java/lang/String" "value" "[B" .null) (F_t_coder : Fld Z h0 t "java/lang/String" "coder" "B" (.int 0)) (x0 x1 x2 x3 : Int32) (r0 : 0 ≤ x0.toInt ∧ x0.toInt < 65536) (r1 : 0 ≤ x1.toInt ∧ x1.toInt < 65536) (r2 : 0 ≤ x2.toInt ∧ x2.toInt < 65536) (r3 : 0 ≤ x3.toInt ∧ x3.toInt < 65536) (O : Old Z n0 h0) (V_a : Arl Z h0 a .char [(.int x0), (.int x1), (.int x2), (.int x3)]) :
    Ctr l Z (⟨"java/lang/String", "<init>", "([C)V"⟩ : MethodName) jdk_42_method_3_code 2 none ({ frames := 5, cells := 2, slots := 12, locals := 74 } : Room) #[.ref t, .ref a] h0 (fun v h L => v = none ∧ Fr n0 L ∧ Keep h0 h [t] ∧ ∃ b, h0.size ≤ b ∧ StrB Z h t b x0 x1 x2 x3) := by
  by_cases u0 : (255 : Int32) < x0
  · exact (init1_4_0 l Z a0 hw n0 h0 cs SZ hcs S1 S2 S3 t a g_t ne_a_t E_t F_t_value F_t_coder x0 x1 x2 x3 u0 r0 r1 r2 r3 O V_a).mono (fun v h L ⟨q1, q2, q3, b, q4, q5, q6, q7⟩ => ⟨q1, q2, q3, b, q4, E_t.keep q3, q5, Or.inr ⟨q6, q7⟩⟩)
  by_cases u1 : (255 : Int32) < x1
  · exact (init1_4_1 l Z a0 hw n0 h0 cs SZ hcs S1 S2 S3 t a g_t ne_a_t E_t F_t_value F_t_coder x0 x1 x2 x3 u0 u1 r0 r1 r2 r3 O V_a).mono (fun v h L ⟨q1, q2, q3, b, q4, q5, q6, q7⟩ => ⟨q1, q2, q3, b, q4, E_t.keep q3, q5, Or.inr ⟨q6, q7⟩⟩)
  by_cases u2 : (255 : Int32) < x2
  · exact (init1_4_2 l Z a0 hw n0 h0 cs SZ hcs S1 S2 S3 t a g_t ne_a_t E_t F_t_value F_t_coder x0 x1 x2 x3 u0 u1 u2 r0 r1 r2 r3 O V_a).mono (fun v h L ⟨q1, q2, q3, b, q4, q5, q6, q7⟩ => ⟨q1, q2, q3, b, q4, E_t.keep q3, q5, Or.inr ⟨q6, q7⟩⟩)
  by_cases u3 : (255 : Int32) < x3
  · exact (init1_4_3 l Z a0 hw n0 h0 cs SZ hcs S1 S2 S3 t a g_t ne_a_t E_t F_t_value F_t_coder x0 x1 x2 x3 u0 u1 u2 u3 r0 r1 r2 r3 O V_a).mono (fun v h L ⟨q1, q2, q3, b, q4, q5, q6, q7⟩ => ⟨q1, q2, q3, b, q4, E_t.keep q3, q5, Or.inr ⟨q6, q7⟩⟩)
  exact (init1_4_4 l Z a0 hw n0 h0 cs SZ hcs t a g_t ne_a_t E_t F_t_value F_t_coder x0 x1 x2 x3 u0 u1 u2 u3 O V_a).mono (fun v h L ⟨q1, q2, q3, b, q4, q5, q6, q7⟩ => ⟨q1, q2, q3, b, q4, E_t.keep q3, q5, Or.inl ⟨q6, q7, u0, u1, u2, u3⟩⟩)
theorem d10_0 : decode jdk_42_method_154_code 0 = .ok (.getstatic 38, 3) := by decide +kernel
theorem d10_3 : decode jdk_42_method_154_code 3 = .ok (.ifCond .eq 14, 3) := by decide +kernel
theorem d10_6 : decode jdk_42_method_154_code 6 = .ok (.aload_n 0, 1) := by decide +kernel
theorem d10_7 : decode jdk_42_method_154_code 7 = .ok (.getfield 15, 3) := by decide +kernel
theorem d10_10 : decode jdk_42_method_154_code 10 = .ok (.ifCond .ne 7, 3) := by decide +kernel
theorem d10_13 : decode jdk_42_method_154_code 13 = .ok (.iconst 1, 1) := by decide +kernel
theorem d10_14 : decode jdk_42_method_154_code 14 = .ok (.goto 4, 3) := by decide +kernel
theorem d10_17 : decode jdk_42_method_154_code 17 = .ok (.iconst 0, 1) := by decide +kernel
theorem d10_18 : decode jdk_42_method_154_code 18 = .ok (.ireturn, 1) := by decide +kernel
set_option maxRecDepth 65536 in
set_option maxHeartbeats 40000000 in
theorem isl_0 (l : Launch) (Z : State) (a0 : Array Value) (hw : ∀ d ∈ (tables_1 ++ jdkStatics_1), d.before a0 Z = true) (n0 : Nat) (h0 : Heap) (cs : Int32) (SZ : Sta Z Z.heap "java/lang/String" "COMPACT_STRINGS" "Z" (.int cs)) (hcs : cs ≠ 0) (q : Addr) (O : Old Z n0 h0) (F_q_coder : Fld Z h0 q "java/lang/String" "coder" "B" (.int 0)) :
    Ctr l Z (⟨"java/lang/String", "isLatin1", "()Z"⟩ : MethodName) jdk_42_method_154_code 1 (some .boolean) ({ frames := 0, cells := 0, slots := 0, locals := 0 } : Room) #[(.ref q)] h0 (fun v h L => v = some (.int (1 : Int32)) ∧ L = [] ∧ h = h0) := by
  refine Ctr.mk (plainFor_of_name pn_1) (ls := #[.val (.ref q)]) (fun m => by first | (simp [entryFrame, mkF, argsToLocals, Value.category]; done) | rfl) ?_
  intro p e s m below meth c T C X eT hs0
  have N := Fr.nil n0
  show Go p e below _ (T.setTop (mkF m 0 #[.val (.ref q)] []))
  refine Go.getS C X eT (wd hw 15 rfl) Via.refl (SZ.old O) d10_0 (n := 3) rfl ?_
  clear X eT
  intro T X eT
  refine Go.if0_eq C X d10_3 (n1 := 17) (n2 := 6) (by decide) (by decide) rfl (fun hc3 => ?_) (fun hc3 => ?_)
  · exact absurd hc3 hcs
  · refine Go.aloadN C X d10_6 (n := 7) rfl rfl rfl ?_
    refine Go.getF C X eT (wd hw 27 rfl) Via.refl F_q_coder d10_7 (n := 10) rfl ?_
    clear X eT
    intro T X eT
    refine Go.if0_ne C X d10_10 (n1 := 17) (n2 := 13) (by decide) (by decide) rfl (fun hc10 => ?_) (fun hc10 => ?_)
    · exact absurd hc10 (by decide)
    · refine Go.iconst C X d10_13 (n := 14) rfl (v := (1 : Int32)) rfl ?_
      refine Go.goto C X d10_14 (n := 18) (by decide) (by decide) ?_
      refine Go.retN C X eT (Or.inl rfl) (w := (1 : Int32)) (by decide) d10_18 (by decide) (by decide) ?_
      exact ⟨rfl, rfl, rfl⟩
set_option maxRecDepth 65536 in
set_option maxHeartbeats 40000000 in
theorem isl_1 (l : Launch) (Z : State) (a0 : Array Value) (hw : ∀ d ∈ (tables_1 ++ jdkStatics_1), d.before a0 Z = true) (n0 : Nat) (h0 : Heap) (cs : Int32) (SZ : Sta Z Z.heap "java/lang/String" "COMPACT_STRINGS" "Z" (.int cs)) (hcs : cs ≠ 0) (q : Addr) (O : Old Z n0 h0) (F_q_coder : Fld Z h0 q "java/lang/String" "coder" "B" (.int 1)) :
    Ctr l Z (⟨"java/lang/String", "isLatin1", "()Z"⟩ : MethodName) jdk_42_method_154_code 1 (some .boolean) ({ frames := 0, cells := 0, slots := 0, locals := 0 } : Room) #[(.ref q)] h0 (fun v h L => v = some (.int (0 : Int32)) ∧ L = [] ∧ h = h0) := by
  refine Ctr.mk (plainFor_of_name pn_1) (ls := #[.val (.ref q)]) (fun m => by first | (simp [entryFrame, mkF, argsToLocals, Value.category]; done) | rfl) ?_
  intro p e s m below meth c T C X eT hs0
  have N := Fr.nil n0
  show Go p e below _ (T.setTop (mkF m 0 #[.val (.ref q)] []))
  refine Go.getS C X eT (wd hw 15 rfl) Via.refl (SZ.old O) d10_0 (n := 3) rfl ?_
  clear X eT
  intro T X eT
  refine Go.if0_eq C X d10_3 (n1 := 17) (n2 := 6) (by decide) (by decide) rfl (fun hc3 => ?_) (fun hc3 => ?_)
  · exact absurd hc3 hcs
  · refine Go.aloadN C X d10_6 (n := 7) rfl rfl rfl ?_
    refine Go.getF C X eT (wd hw 27 rfl) Via.refl F_q_coder d10_7 (n := 10) rfl ?_
    clear X eT
    intro T X eT
    refine Go.if0_ne C X d10_10 (n1 := 17) (n2 := 13) (by decide) (by decide) rfl (fun hc10 => ?_) (fun hc10 => ?_)
    · refine Go.iconst C X d10_17 (n := 18) rfl (v := (0 : Int32)) rfl ?_
      refine Go.retN C X eT (Or.inl rfl) (w := (0 : Int32)) (by decide) d10_18 (by decide) (by decide) ?_
      exact ⟨rfl, rfl, rfl⟩
    · exact absurd hc10 (by decide)
theorem pn_2 : plainName "java/lang/StringLatin1" = true := by first | (simp [plainName, overriddenIn]; done) | decide +kernel
theorem d12_0 : decode jdk_43_method_49_code 0 = .ok (.iconst 0, 1) := by decide +kernel
theorem d12_1 : decode jdk_43_method_49_code 1 = .ok (.istore 5, 2) := by decide +kernel
theorem d12_3 : decode jdk_43_method_49_code 3 = .ok (.iload 5, 2) := by decide +kernel
theorem d12_5 : decode jdk_43_method_49_code 5 = .ok (.iload 4, 2) := by decide +kernel
theorem d12_7 : decode jdk_43_method_49_code 7 = .ok (.if_icmp .ge 26, 3) := by decide +kernel
theorem d12_10 : decode jdk_43_method_49_code 10 = .ok (.aload_n 2, 1) := by decide +kernel
theorem d12_11 : decode jdk_43_method_49_code 11 = .ok (.iload_n 3, 1) := by decide +kernel
theorem d12_12 : decode jdk_43_method_49_code 12 = .ok (.iinc 3 1, 3) := by decide +kernel
theorem d12_15 : decode jdk_43_method_49_code 15 = .ok (.aload_n 0, 1) := by decide +kernel
theorem d12_16 : decode jdk_43_method_49_code 16 = .ok (.iload_n 1, 1) := by decide +kernel
theorem d12_17 : decode jdk_43_method_49_code 17 = .ok (.iinc 1 1, 3) := by decide +kernel
theorem d12_20 : decode jdk_43_method_49_code 20 = .ok (.baload, 1) := by decide +kernel
theorem d12_21 : decode jdk_43_method_49_code 21 = .ok (.sipush 255, 3) := by decide +kernel
theorem d12_24 : decode jdk_43_method_49_code 24 = .ok (.iand, 1) := by decide +kernel
theorem d12_25 : decode jdk_43_method_49_code 25 = .ok (.i2c, 1) := by decide +kernel
theorem d12_26 : decode jdk_43_method_49_code 26 = .ok (.castore, 1) := by decide +kernel
theorem d12_27 : decode jdk_43_method_49_code 27 = .ok (.iinc 5 1, 3) := by decide +kernel
theorem d12_30 : decode jdk_43_method_49_code 30 = .ok (.goto (-27), 3) := by decide +kernel
theorem d12_33 : decode jdk_43_method_49_code 33 = .ok (.return_, 1) := by decide +kernel
set_option maxRecDepth 65536 in
set_option maxHeartbeats 40000000 in
theorem infl (l : Launch) (Z : State) (a0 : Array Value) (hw : ∀ d ∈ (tables_1 ++ jdkStatics_1), d.before a0 Z = true) (n0 : Nat) (h0 : Heap) (b cd : Addr) (x0 x1 x2 x3 : Int32) (r0 : 0 ≤ x0.toInt ∧ x0.toInt < 65536) (r1 : 0 ≤ x1.toInt ∧ x1.toInt < 65536) (r2 : 0 ≤ x2.toInt ∧ x2.toInt < 65536) (r3 : 0 ≤ x3.toInt ∧ x3.toInt < 65536) (l0 : ¬ (255 : Int32) < x0) (l1 : ¬ (255 : Int32) < x1) (l2 : ¬ (255 : Int32) < x2) (l3 : ¬ (255 : Int32) < x3) (g_cd : n0 ≤ cd) (ne_b_cd : b ≠ cd) (O : Old Z n0 h0) (V_b : Arl Z h0 b .byte [(.int (x0.toInt8.toInt32)), (.int (x1.toInt8.toInt32)), (.int (x2.toInt8.toInt32)), (.int (x3.toInt8.toInt32))]) (V_cd : Arl Z h0 cd .char [(.int (0 : Int32)), (.int (0 : Int32)), (.int (0 : Int32)), (.int (0 : Int32))]) :
    Ctr l Z (⟨"java/lang/StringLatin1", "inflate", "([BI[CII)V"⟩ : MethodName) jdk_43_method_49_code 6 none ({ frames := 0, cells := 0, slots := 0, locals := 0 } : Room) #[(.ref b), (.int (0 : Int32)), (.ref cd), (.int (0 : Int32)), (.int (4 : Int32))] h0 (fun v h L => v = none ∧ Fr n0 L ∧ Keep h0 h [cd] ∧ Arl Z h cd .char [(.int x0), (.int x1), (.int x2), (.int x3)]) := by
  refine Ctr.mk (plainFor_of_name pn_2) (ls := #[.val (.ref b), .val (.int (0 : Int32)), .val (.ref cd), .val (.int (0 : Int32)), .val (.int (4 : Int32)), .unset]) (fun m => by first | (simp [entryFrame, mkF, argsToLocals, Value.category]; done) | rfl) ?_
  intro p e s m below meth c T C X eT hs0
  have N := Fr.nil n0
  have KP := Keep.refl h0 [cd]
  show Go p e below _ (T.setTop (mkF m 0 #[.val (.ref b), .val (.int (0 : Int32)), .val (.ref cd), .val (.int (0 : Int32)), .val (.int (4 : Int32)), .unset] []))
  refine Go.iconst C X d12_0 (n := 1) rfl (v := (0 : Int32)) rfl ?_
  refine Go.istore C X d12_1 (n := 3) rfl (l' := #[.val (.ref b), .val (.int (0 : Int32)), .val (.ref cd), .val (.int (0 : Int32)), .val (.int (4 : Int32)), .val (.int (0 : Int32))]) rfl ?_
  refine Go.iload C X d12_3 (n := 5) rfl rfl ?_
  refine Go.iload C X d12_5 (n := 7) rfl rfl ?_
  refine Go.icmp_ge C X d12_7 (n1 := 33) (n2 := 10) (by decide) (by decide) rfl (fun hc7 => ?_) (fun hc7 => ?_)
  · exact absurd hc7 (by decide)
  · refine Go.aloadN C X d12_10 (n := 11) rfl rfl rfl ?_
    refine Go.iloadN C X d12_11 (n := 12) rfl rfl ?_
    refine Go.iinc C X d12_12 (n := 15) rfl (v := (1 : Int32)) rfl rfl (l' := #[.val (.ref b), .val (.int (0 : Int32)), .val (.ref cd), .val (.int ((0 : Int32) + (1 : Int32))), .val (.int (4 : Int32)), .val (.int (0 : Int32))]) rfl ?_
    show Go p e below _ (T.setTop (mkF m 15 #[.val (.ref b), .val (.int (0 : Int32)), .val (.ref cd), .val (.int (1 : Int32)), .val (.int (4 : Int32)), .val (.int (0 : Int32))] [(.int (0 : Int32)), (.ref cd)]))
    refine Go.aloadN C X d12_15 (n := 16) rfl rfl rfl ?_
    refine Go.iloadN C X d12_16 (n := 17) rfl rfl ?_
    refine Go.iinc C X d12_17 (n := 20) rfl (v := (1 : Int32)) rfl rfl (l' := #[.val (.ref b), .val (.int ((0 : Int32) + (1 : Int32))), .val (.ref cd), .val (.int (1 : Int32)), .val (.int (4 : Int32)), .val (.int (0 : Int32))]) rfl ?_
    show Go p e below _ (T.setTop (mkF m 20 #[.val (.ref b), .val (.int (1 : Int32)), .val (.ref cd), .val (.int (1 : Int32)), .val (.int (4 : Int32)), .val (.int (0 : Int32))] [(.int (0 : Int32)), (.ref b), (.int (0 : Int32)), (.ref cd)]))
    refine Go.baloadL C X eT V_b (i := 0) rfl (v := .int (x0.toInt8.toInt32)) rfl d12_20 (n := 21) rfl ?_
    refine Go.sipush C X d12_21 (n := 24) rfl (v := (255 : Int32)) rfl ?_
    refine Go.iand C X d12_24 (n := 25) rfl ?_
    refine Go.i2c C X d12_25 (n := 26) rfl ?_
    refine Go.castoreL C X eT V_cd (i := 0) rfl (by simp) d12_26 (n := 27) rfl ?_
    clear X eT
    intro T h X eT W V_new
    replace V_b := V_b.other W ne_b_cd
    replace KP := KP.wr W (Or.inl (List.mem_of_getElem? (i := 0) rfl))
    replace O := O.wr W g_cd
    clear V_cd
    rw [own_lc r0.1 l0] at V_new
    have V_cd : Arl Z h cd .char [(.int x0), (.int (0 : Int32)), (.int (0 : Int32)), (.int (0 : Int32))] := V_new
    clear V_new
    replace N := Fr.snoc X N g_cd
    refine Go.iinc C X d12_27 (n := 30) rfl (v := (1 : Int32)) rfl rfl (l' := #[.val (.ref b), .val (.int (1 : Int32)), .val (.ref cd), .val (.int (1 : Int32)), .val (.int (4 : Int32)), .val (.int ((0 : Int32) + (1 : Int32)))]) rfl ?_
    show Go p e below _ (T.setTop (mkF m 30 #[.val (.ref b), .val (.int (1 : Int32)), .val (.ref cd), .val (.int (1 : Int32)), .val (.int (4 : Int32)), .val (.int (1 : Int32))] []))
    refine Go.goto C X d12_30 (n := 3) (by decide) (by decide) ?_
    refine Go.iload C X d12_3 (n := 5) rfl rfl ?_
    refine Go.iload C X d12_5 (n := 7) rfl rfl ?_
    refine Go.icmp_ge C X d12_7 (n1 := 33) (n2 := 10) (by decide) (by decide) rfl (fun hc7 => ?_) (fun hc7 => ?_)
    · exact absurd hc7 (by decide)
    · refine Go.aloadN C X d12_10 (n := 11) rfl rfl rfl ?_
      refine Go.iloadN C X d12_11 (n := 12) rfl rfl ?_
      refine Go.iinc C X d12_12 (n := 15) rfl (v := (1 : Int32)) rfl rfl (l' := #[.val (.ref b), .val (.int (1 : Int32)), .val (.ref cd), .val (.int ((1 : Int32) + (1 : Int32))), .val (.int (4 : Int32)), .val (.int (1 : Int32))]) rfl ?_
      show Go p e below _ (T.setTop (mkF m 15 #[.val (.ref b), .val (.int (1 : Int32)), .val (.ref cd), .val (.int (2 : Int32)), .val (.int (4 : Int32)), .val (.int (1 : Int32))] [(.int (1 : Int32)), (.ref cd)]))
      refine Go.aloadN C X d12_15 (n := 16) rfl rfl rfl ?_
      refine Go.iloadN C X d12_16 (n := 17) rfl rfl ?_
      refine Go.iinc C X d12_17 (n := 20) rfl (v := (1 : Int32)) rfl rfl (l' := #[.val (.ref b), .val (.int ((1 : Int32) + (1 : Int32))), .val (.ref cd), .val (.int (2 : Int32)), .val (.int (4 : Int32)), .val (.int (1 : Int32))]) rfl ?_
      show Go p e below _ (T.setTop (mkF m 20 #[.val (.ref b), .val (.int (2 : Int32)), .val (.ref cd), .val (.int (2 : Int32)), .val (.int (4 : Int32)), .val (.int (1 : Int32))] [(.int (1 : Int32)), (.ref b), (.int (1 : Int32)), (.ref cd)]))
      refine Go.baloadL C X eT V_b (i := 1) rfl (v := .int (x1.toInt8.toInt32)) rfl d12_20 (n := 21) rfl ?_
      refine Go.sipush C X d12_21 (n := 24) rfl (v := (255 : Int32)) rfl ?_
      refine Go.iand C X d12_24 (n := 25) rfl ?_
      refine Go.i2c C X d12_25 (n := 26) rfl ?_
      refine Go.castoreL C X eT V_cd (i := 1) rfl (by simp) d12_26 (n := 27) rfl ?_
      clear X eT
      intro T h X eT W V_new
      replace V_b := V_b.other W ne_b_cd
      replace KP := KP.wr W (Or.inl (List.mem_of_getElem? (i := 0) rfl))
      replace O := O.wr W g_cd
      clear V_cd
      rw [own_lc r1.1 l1] at V_new
      have V_cd : Arl Z h cd .char [(.int x0), (.int x1), (.int (0 : Int32)), (.int (0 : Int32))] := V_new
      clear V_new
      replace N := Fr.snoc X N g_cd
      refine Go.iinc C X d12_27 (n := 30) rfl (v := (1 : Int32)) rfl rfl (l' := #[.val (.ref b), .val (.int (2 : Int32)), .val (.ref cd), .val (.int (2 : Int32)), .val (.int (4 : Int32)), .val (.int ((1 : Int32) + (1 : Int32)))]) rfl ?_
      show Go p e below _ (T.setTop (mkF m 30 #[.val (.ref b), .val (.int (2 : Int32)), .val (.ref cd), .val (.int (2 : Int32)), .val (.int (4 : Int32)), .val (.int (2 : Int32))] []))
      refine Go.goto C X d12_30 (n := 3) (by decide) (by decide) ?_
      refine Go.iload C X d12_3 (n := 5) rfl rfl ?_
      refine Go.iload C X d12_5 (n := 7) rfl rfl ?_
      refine Go.icmp_ge C X d12_7 (n1 := 33) (n2 := 10) (by decide) (by decide) rfl (fun hc7 => ?_) (fun hc7 => ?_)
      · exact absurd hc7 (by decide)
      · refine Go.aloadN C X d12_10 (n := 11) rfl rfl rfl ?_
        refine Go.iloadN C X d12_11 (n := 12) rfl rfl ?_
        refine Go.iinc C X d12_12 (n := 15) rfl (v := (1 : Int32)) rfl rfl (l' := #[.val (.ref b), .val (.int (2 : Int32)), .val (.ref cd), .val (.int ((2 : Int32) + (1 : Int32))), .val (.int (4 : Int32)), .val (.int (2 : Int32))]) rfl ?_
        show Go p e below _ (T.setTop (mkF m 15 #[.val (.ref b), .val (.int (2 : Int32)), .val (.ref cd), .val (.int (3 : Int32)), .val (.int (4 : Int32)), .val (.int (2 : Int32))] [(.int (2 : Int32)), (.ref cd)]))
        refine Go.aloadN C X d12_15 (n := 16) rfl rfl rfl ?_
        refine Go.iloadN C X d12_16 (n := 17) rfl rfl ?_
        refine Go.iinc C X d12_17 (n := 20) rfl (v := (1 : Int32)) rfl rfl (l' := #[.val (.ref b), .val (.int ((2 : Int32) + (1 : Int32))), .val (.ref cd), .val (.int (3 : Int32)), .val (.int (4 : Int32)), .val (.int (2 : Int32))]) rfl ?_
        show Go p e below _ (T.setTop (mkF m 20 #[.val (.ref b), .val (.int (3 : Int32)), .val (.ref cd), .val (.int (3 : Int32)), .val (.int (4 : Int32)), .val (.int (2 : Int32))] [(.int (2 : Int32)), (.ref b), (.int (2 : Int32)), (.ref cd)]))
        refine Go.baloadL C X eT V_b (i := 2) rfl (v := .int (x2.toInt8.toInt32)) rfl d12_20 (n := 21) rfl ?_
        refine Go.sipush C X d12_21 (n := 24) rfl (v := (255 : Int32)) rfl ?_
        refine Go.iand C X d12_24 (n := 25) rfl ?_
        refine Go.i2c C X d12_25 (n := 26) rfl ?_
        refine Go.castoreL C X eT V_cd (i := 2) rfl (by simp) d12_26 (n := 27) rfl ?_
        clear X eT
        intro T h X eT W V_new
        replace V_b := V_b.other W ne_b_cd
        replace KP := KP.wr W (Or.inl (List.mem_of_getElem? (i := 0) rfl))
        replace O := O.wr W g_cd
        clear V_cd
        rw [own_lc r2.1 l2] at V_new
        have V_cd : Arl Z h cd .char [(.int x0), (.int x1), (.int x2), (.int (0 : Int32))] := V_new
        clear V_new
        replace N := Fr.snoc X N g_cd
        refine Go.iinc C X d12_27 (n := 30) rfl (v := (1 : Int32)) rfl rfl (l' := #[.val (.ref b), .val (.int (3 : Int32)), .val (.ref cd), .val (.int (3 : Int32)), .val (.int (4 : Int32)), .val (.int ((2 : Int32) + (1 : Int32)))]) rfl ?_
        show Go p e below _ (T.setTop (mkF m 30 #[.val (.ref b), .val (.int (3 : Int32)), .val (.ref cd), .val (.int (3 : Int32)), .val (.int (4 : Int32)), .val (.int (3 : Int32))] []))
        refine Go.goto C X d12_30 (n := 3) (by decide) (by decide) ?_
        refine Go.iload C X d12_3 (n := 5) rfl rfl ?_
        refine Go.iload C X d12_5 (n := 7) rfl rfl ?_
        refine Go.icmp_ge C X d12_7 (n1 := 33) (n2 := 10) (by decide) (by decide) rfl (fun hc7 => ?_) (fun hc7 => ?_)
        · exact absurd hc7 (by decide)
        · refine Go.aloadN C X d12_10 (n := 11) rfl rfl rfl ?_
          refine Go.iloadN C X d12_11 (n := 12) rfl rfl ?_
          refine Go.iinc C X d12_12 (n := 15) rfl (v := (1 : Int32)) rfl rfl (l' := #[.val (.ref b), .val (.int (3 : Int32)), .val (.ref cd), .val (.int ((3 : Int32) + (1 : Int32))), .val (.int (4 : Int32)), .val (.int (3 : Int32))]) rfl ?_
          show Go p e below _ (T.setTop (mkF m 15 #[.val (.ref b), .val (.int (3 : Int32)), .val (.ref cd), .val (.int (4 : Int32)), .val (.int (4 : Int32)), .val (.int (3 : Int32))] [(.int (3 : Int32)), (.ref cd)]))
          refine Go.aloadN C X d12_15 (n := 16) rfl rfl rfl ?_
          refine Go.iloadN C X d12_16 (n := 17) rfl rfl ?_
          refine Go.iinc C X d12_17 (n := 20) rfl (v := (1 : Int32)) rfl rfl (l' := #[.val (.ref b), .val (.int ((3 : Int32) + (1 : Int32))), .val (.ref cd), .val (.int (4 : Int32)), .val (.int (4 : Int32)), .val (.int (3 : Int32))]) rfl ?_
          show Go p e below _ (T.setTop (mkF m 20 #[.val (.ref b), .val (.int (4 : Int32)), .val (.ref cd), .val (.int (4 : Int32)), .val (.int (4 : Int32)), .val (.int (3 : Int32))] [(.int (3 : Int32)), (.ref b), (.int (3 : Int32)), (.ref cd)]))
          refine Go.baloadL C X eT V_b (i := 3) rfl (v := .int (x3.toInt8.toInt32)) rfl d12_20 (n := 21) rfl ?_
          refine Go.sipush C X d12_21 (n := 24) rfl (v := (255 : Int32)) rfl ?_
          refine Go.iand C X d12_24 (n := 25) rfl ?_
          refine Go.i2c C X d12_25 (n := 26) rfl ?_
          refine Go.castoreL C X eT V_cd (i := 3) rfl (by simp) d12_26 (n := 27) rfl ?_
          clear X eT
          intro T h X eT W V_new
          replace V_b := V_b.other W ne_b_cd
          replace KP := KP.wr W (Or.inl (List.mem_of_getElem? (i := 0) rfl))
          replace O := O.wr W g_cd
          clear V_cd
          rw [own_lc r3.1 l3] at V_new
          have V_cd : Arl Z h cd .char [(.int x0), (.int x1), (.int x2), (.int x3)] := V_new
          clear V_new
          replace N := Fr.snoc X N g_cd
          refine Go.iinc C X d12_27 (n := 30) rfl (v := (1 : Int32)) rfl rfl (l' := #[.val (.ref b), .val (.int (4 : Int32)), .val (.ref cd), .val (.int (4 : Int32)), .val (.int (4 : Int32)), .val (.int ((3 : Int32) + (1 : Int32)))]) rfl ?_
          show Go p e below _ (T.setTop (mkF m 30 #[.val (.ref b), .val (.int (4 : Int32)), .val (.ref cd), .val (.int (4 : Int32)), .val (.int (4 : Int32)), .val (.int (4 : Int32))] []))
          refine Go.goto C X d12_30 (n := 3) (by decide) (by decide) ?_
          refine Go.iload C X d12_3 (n := 5) rfl rfl ?_
          refine Go.iload C X d12_5 (n := 7) rfl rfl ?_
          refine Go.icmp_ge C X d12_7 (n1 := 33) (n2 := 10) (by decide) (by decide) rfl (fun hc7 => ?_) (fun hc7 => ?_)
          · refine Go.ret0 C X eT d12_33 (by decide) (by decide) ?_
            exact ⟨rfl, N, KP, V_cd⟩
          · exact absurd hc7 (by decide)
theorem pd_8 : parseMethodDescriptor "([BI[CII)V" = some ⟨[(.array .byte), .int, (.array .char), .int, .int], none⟩ := by decide +kernel
theorem d11_0 : decode jdk_43_method_9_code 0 = .ok (.aload_n 0, 1) := by decide +kernel
theorem d11_1 : decode jdk_43_method_9_code 1 = .ok (.arraylength, 1) := by decide +kernel
theorem d11_2 : decode jdk_43_method_9_code 2 = .ok (.newarray .char, 2) := by decide +kernel
theorem d11_4 : decode jdk_43_method_9_code 4 = .ok (.astore_n 1, 1) := by decide +kernel
theorem d11_5 : decode jdk_43_method_9_code 5 = .ok (.aload_n 0, 1) := by decide +kernel
theorem d11_6 : decode jdk_43_method_9_code 6 = .ok (.iconst 0, 1) := by decide +kernel
theorem d11_7 : decode jdk_43_method_9_code 7 = .ok (.aload_n 1, 1) := by decide +kernel
theorem d11_8 : decode jdk_43_method_9_code 8 = .ok (.iconst 0, 1) := by decide +kernel
theorem d11_9 : decode jdk_43_method_9_code 9 = .ok (.aload_n 0, 1) := by decide +kernel
theorem d11_10 : decode jdk_43_method_9_code 10 = .ok (.arraylength, 1) := by decide +kernel
theorem d11_11 : decode jdk_43_method_9_code 11 = .ok (.invokestatic 13, 3) := by decide +kernel
theorem d11_14 : decode jdk_43_method_9_code 14 = .ok (.aload_n 1, 1) := by decide +kernel
theorem d11_15 : decode jdk_43_method_9_code 15 = .ok (.areturn, 1) := by decide +kernel
set_option maxRecDepth 65536 in
set_option maxHeartbeats 40000000 in
theorem toCharsL (l : Launch) (Z : State) (a0 : Array Value) (hw : ∀ d ∈ (tables_1 ++ jdkStatics_1), d.before a0 Z = true) (n0 : Nat) (h0 : Heap) (b : Addr) (x0 x1 x2 x3 : Int32) (r0 : 0 ≤ x0.toInt ∧ x0.toInt < 65536) (r1 : 0 ≤ x1.toInt ∧ x1.toInt < 65536) (r2 : 0 ≤ x2.toInt ∧ x2.toInt < 65536) (r3 : 0 ≤ x3.toInt ∧ x3.toInt < 65536) (l0 : ¬ (255 : Int32) < x0) (l1 : ¬ (255 : Int32) < x1) (l2 : ¬ (255 : Int32) < x2) (l3 : ¬ (255 : Int32) < x3) (O : Old Z n0 h0) (V_b : Arl Z h0 b .byte [(.int (x0.toInt8.toInt32)), (.int (x1.toInt8.toInt32)), (.int (x2.toInt8.toInt32)), (.int (x3.toInt8.toInt32))]) :
    Ctr l Z (⟨"java/lang/StringLatin1", "toChars", "([B)[C"⟩ : MethodName) jdk_43_method_9_code 2 (some (.array .char)) ({ frames := 1, cells := 1, slots := 4, locals := 17 } : Room) #[(.ref b)] h0 (fun v h L => ∃ cd, v = some (.ref cd) ∧ Fr n0 L ∧ Keep h0 h [] ∧ h0.size ≤ cd ∧ Arl Z h cd .char [(.int x0), (.int x1), (.int x2), (.int x3)]) := by
  refine Ctr.mk (plainFor_of_name pn_2) (ls := #[.val (.ref b), .unset]) (fun m => by first | (simp [entryFrame, mkF, argsToLocals, Value.category]; done) | rfl) ?_
  intro p e s m below meth c T C X eT hs0
  have N := Fr.nil n0
  have KP := Keep.refl h0 []
  show Go p e below _ (T.setTop (mkF m 0 #[.val (.ref b), .unset] []))
  refine Go.aloadN C X d11_0 (n := 1) rfl rfl rfl ?_
  refine Go.lengthL C X eT V_b (z := (4 : Int32)) rfl d11_1 (n := 2) rfl ?_
  refine Go.newL C X eT (wd hw 0 rfl) (i := 4) rfl (cap := 4) (by decide) d11_2 (n := 4) rfl (by decide) (by decide) (by decide) ?_
  clear X eT
  intro T h cd z_cd X eT E V_cd
  have ne_b_cd : b ≠ cd := Nat.ne_of_lt (Nat.lt_of_lt_of_le V_b.lt (Nat.le_of_eq z_cd.symm))
  have g_cd : n0 ≤ cd := by rw [z_cd]; exact O.le
  have s_cd : h0.size ≤ cd := by rw [z_cd]; exact KP.1
  replace V_b := V_b.ext E
  replace KP := KP.ext E
  replace O := O.ext E
  replace V_cd : Arl Z h cd .char [(.int (0 : Int32)), (.int (0 : Int32)), (.int (0 : Int32)), (.int (0 : Int32))] := V_cd
  refine Go.astoreN C X d11_4 (n := 5) rfl rfl (l' := #[.val (.ref b), .val (.ref cd)]) rfl ?_
  refine Go.aloadN C X d11_5 (n := 6) rfl rfl rfl ?_
  refine Go.iconst C X d11_6 (n := 7) rfl (v := (0 : Int32)) rfl ?_
  refine Go.aloadN C X d11_7 (n := 8) rfl rfl rfl ?_
  refine Go.iconst C X d11_8 (n := 9) rfl (v := (0 : Int32)) rfl ?_
  refine Go.aloadN C X d11_9 (n := 10) rfl rfl rfl ?_
  refine Go.lengthL C X eT V_b (z := (4 : Int32)) rfl d11_10 (n := 11) rfl ?_
  refine Go.stat C X eT (argsL := [(.ref b), (.int (0 : Int32)), (.ref cd), (.int (0 : Int32)), (.int (4 : Int32))]) (rest := []) (infl l Z a0 hw n0 _ b cd x0 x1 x2 x3 r0 r1 r2 r3 l0 l1 l2 l3 g_cd ne_b_cd O V_b V_cd) (wd hw 60 rfl) (wd hw 61 rfl) (wd hw 58 rfl) (wd hw 62 rfl) (by decide) (lenOf pd_8 rfl) rfl d11_11 (n := 14) rfl rfl (by decide) (W := 0) rfl (by decide) (by decide) (by decide) ?_
  clear X eT
  intro T h v L X eT hQ
  obtain ⟨rfl, Nq, KK, V_cd⟩ := hQ
  replace N := N.app Nq
  replace V_b := V_b.keep KK (ninS ne_b_cd nin0)
  replace KP := KP.trans KK (allS (Or.inr s_cd) all0)
  replace O := O.keep KK (allS g_cd all0)
  show Go p e below _ (T.setTop (mkF m 14 #[.val (.ref b), .val (.ref cd)] []))
  refine Go.aloadN C X d11_14 (n := 15) rfl rfl rfl ?_
  refine Go.retA C X eT rfl rfl rfl d11_15 (by decide) (by decide) ?_
  exact ⟨cd, rfl, N, KP, s_cd, V_cd⟩
theorem d24_0 : decode jdk_52_method_6_code 0 = .ok (.aload_n 0, 1) := by decide +kernel
theorem d24_1 : decode jdk_52_method_6_code 1 = .ok (.arraylength, 1) := by decide +kernel
theorem d24_2 : decode jdk_52_method_6_code 2 = .ok (.iconst 1, 1) := by decide +kernel
theorem d24_3 : decode jdk_52_method_6_code 3 = .ok (.ishr, 1) := by decide +kernel
theorem d24_4 : decode jdk_52_method_6_code 4 = .ok (.ireturn, 1) := by decide +kernel
set_option maxRecDepth 65536 in
set_option maxHeartbeats 40000000 in
theorem ulen (l : Launch) (Z : State) (a0 : Array Value) (hw : ∀ d ∈ (tables_1 ++ jdkStatics_1), d.before a0 Z = true) (n0 : Nat) (h0 : Heap) (b : Addr) (x0 x1 x2 x3 : Int32) (V_b : Arl Z h0 b .byte [(.int ((x0 >>> ((0 : Int32) &&& 31)).toInt8.toInt32)), (.int ((x0 >>> ((8 : Int32) &&& 31)).toInt8.toInt32)), (.int ((x1 >>> ((0 : Int32) &&& 31)).toInt8.toInt32)), (.int ((x1 >>> ((8 : Int32) &&& 31)).toInt8.toInt32)), (.int ((x2 >>> ((0 : Int32) &&& 31)).toInt8.toInt32)), (.int ((x2 >>> ((8 : Int32) &&& 31)).toInt8.toInt32)), (.int ((x3 >>> ((0 : Int32) &&& 31)).toInt8.toInt32)), (.int ((x3 >>> ((8 : Int32) &&& 31)).toInt8.toInt32))]) :
    Ctr l Z (⟨"java/lang/StringUTF16", "length", "([B)I"⟩ : MethodName) jdk_52_method_6_code 1 (some .int) ({ frames := 0, cells := 0, slots := 0, locals := 0 } : Room) #[(.ref b)] h0 (fun v h L => v = some (.int (4 : Int32)) ∧ L = [] ∧ h = h0) := by
  refine Ctr.mk (plainFor_of_name pn_0) (ls := #[.val (.ref b)]) (fun m => by first | (simp [entryFrame, mkF, argsToLocals, Value.category]; done) | rfl) ?_
  intro p e s m below meth c T C X eT hs0
  have N := Fr.nil n0
  show Go p e below _ (T.setTop (mkF m 0 #[.val (.ref b)] []))
  refine Go.aloadN C X d24_0 (n := 1) rfl rfl rfl ?_
  refine Go.lengthL C X eT V_b (z := (8 : Int32)) rfl d24_1 (n := 2) rfl ?_
  refine Go.iconst C X d24_2 (n := 3) rfl (v := (1 : Int32)) rfl ?_
  refine Go.ishr C X d24_3 (n := 4) rfl ?_
  show Go p e below _ (T.setTop (mkF m 4 #[.val (.ref b)] [(.int (4 : Int32))]))
  refine Go.retI C X eT d24_4 (by decide) (by decide) ?_
  exact ⟨rfl, rfl, rfl⟩
theorem pn_3 : plainName "jdk/internal/util/Preconditions" = true := by first | (simp [plainName, overriddenIn]; done) | decide +kernel
theorem d26_0 : decode jdk_41_method_13_code 0 = .ok (.iload_n 2, 1) := by decide +kernel
theorem d26_1 : decode jdk_41_method_13_code 1 = .ok (.iload_n 0, 1) := by decide +kernel
theorem d26_2 : decode jdk_41_method_13_code 2 = .ok (.ior, 1) := by decide +kernel
theorem d26_3 : decode jdk_41_method_13_code 3 = .ok (.iload_n 1, 1) := by decide +kernel
theorem d26_4 : decode jdk_41_method_13_code 4 = .ok (.ior, 1) := by decide +kernel
theorem d26_5 : decode jdk_41_method_13_code 5 = .ok (.ifCond .lt 10, 3) := by decide +kernel
theorem d26_8 : decode jdk_41_method_13_code 8 = .ok (.iload_n 1, 1) := by decide +kernel
theorem d26_9 : decode jdk_41_method_13_code 9 = .ok (.iload_n 2, 1) := by decide +kernel
theorem d26_10 : decode jdk_41_method_13_code 10 = .ok (.iload_n 0, 1) := by decide +kernel
theorem d26_11 : decode jdk_41_method_13_code 11 = .ok (.isub, 1) := by decide +kernel
theorem d26_12 : decode jdk_41_method_13_code 12 = .ok (.if_icmp .le 11, 3) := by decide +kernel
theorem d26_15 : decode jdk_41_method_13_code 15 = .ok (.aload_n 3, 1) := by decide +kernel
theorem d26_16 : decode jdk_41_method_13_code 16 = .ok (.iload_n 0, 1) := by decide +kernel
theorem d26_17 : decode jdk_41_method_13_code 17 = .ok (.iload_n 1, 1) := by decide +kernel
theorem d26_18 : decode jdk_41_method_13_code 18 = .ok (.iload_n 2, 1) := by decide +kernel
theorem d26_19 : decode jdk_41_method_13_code 19 = .ok (.invokestatic 103, 3) := by decide +kernel
theorem d26_22 : decode jdk_41_method_13_code 22 = .ok (.athrow, 1) := by decide +kernel
theorem d26_23 : decode jdk_41_method_13_code 23 = .ok (.iload_n 0, 1) := by decide +kernel
theorem d26_24 : decode jdk_41_method_13_code 24 = .ok (.ireturn, 1) := by decide +kernel
set_option maxRecDepth 65536 in
set_option maxHeartbeats 40000000 in
theorem cfisN (l : Launch) (Z : State) (a0 : Array Value) (hw : ∀ d ∈ (tables_1 ++ jdkStatics_1), d.before a0 Z = true) (n0 : Nat) (h0 : Heap)  :
    Ctr l Z (⟨"jdk/internal/util/Preconditions", "checkFromIndexSize", "(IIILjava/util/function/BiFunction;)I"⟩ : MethodName) jdk_41_method_13_code 4 (some .int) ({ frames := 0, cells := 0, slots := 0, locals := 0 } : Room) #[(.int (0 : Int32)), (.int (4 : Int32)), (.int (4 : Int32)), .null] h0 (fun v h L => v = some (.int (0 : Int32)) ∧ L = [] ∧ h = h0) := by
  refine Ctr.mk (plainFor_of_name pn_3) (ls := #[.val (.int (0 : Int32)), .val (.int (4 : Int32)), .val (.int (4 : Int32)), .val .null]) (fun m => by first | (simp [entryFrame, mkF, argsToLocals, Value.category]; done) | rfl) ?_
  intro p e s m below meth c T C X eT hs0
  have N := Fr.nil n0
  show Go p e below _ (T.setTop (mkF m 0 #[.val (.int (0 : Int32)), .val (.int (4 : Int32)), .val (.int (4 : Int32)), .val .null] []))
  refine Go.iloadN C X d26_0 (n := 1) rfl rfl ?_
  refine Go.iloadN C X d26_1 (n := 2) rfl rfl ?_
  refine Go.ior C X d26_2 (n := 3) rfl ?_
  show Go p e below _ (T.setTop (mkF m 3 #[.val (.int (0 : Int32)), .val (.int (4 : Int32)), .val (.int (4 : Int32)), .val .null] [(.int (4 : Int32))]))
  refine Go.iloadN C X d26_3 (n := 4) rfl rfl ?_
  refine Go.ior C X d26_4 (n := 5) rfl ?_
  show Go p e below _ (T.setTop (mkF m 5 #[.val (.int (0 : Int32)), .val (.int (4 : Int32)), .val (.int (4 : Int32)), .val .null] [(.int (4 : Int32))]))
  refine Go.if0_lt C X d26_5 (n1 := 15) (n2 := 8) (by decide) (by decide) rfl (fun hc5 => ?_) (fun hc5 => ?_)
  · exact absurd hc5 (by decide)
  · refine Go.iloadN C X d26_8 (n := 9) rfl rfl ?_
    refine Go.iloadN C X d26_9 (n := 10) rfl rfl ?_
    refine Go.iloadN C X d26_10 (n := 11) rfl rfl ?_
    refine Go.isub C X d26_11 (n := 12) rfl ?_
    show Go p e below _ (T.setTop (mkF m 12 #[.val (.int (0 : Int32)), .val (.int (4 : Int32)), .val (.int (4 : Int32)), .val .null] [(.int (4 : Int32)), (.int (4 : Int32))]))
    refine Go.icmp_le C X d26_12 (n1 := 23) (n2 := 15) (by decide) (by decide) rfl (fun hc12 => ?_) (fun hc12 => ?_)
    · refine Go.iloadN C X d26_23 (n := 24) rfl rfl ?_
      refine Go.retI C X eT d26_24 (by decide) (by decide) ?_
      exact ⟨rfl, rfl, rfl⟩
    · exact absurd hc12 (by decide)
theorem pd_9 : parseMethodDescriptor "(IIILjava/util/function/BiFunction;)I" = some ⟨[.int, .int, .int, (.object "java/util/function/BiFunction")], some .int⟩ := by decide +kernel
theorem d25_0 : decode jdk_42_method_157_code 0 = .ok (.iload_n 0, 1) := by decide +kernel
theorem d25_1 : decode jdk_42_method_157_code 1 = .ok (.iload_n 1, 1) := by decide +kernel
theorem d25_2 : decode jdk_42_method_157_code 2 = .ok (.iload_n 2, 1) := by decide +kernel
theorem d25_3 : decode jdk_42_method_157_code 3 = .ok (.getstatic 1053, 3) := by decide +kernel
theorem d25_6 : decode jdk_42_method_157_code 6 = .ok (.invokestatic 1065, 3) := by decide +kernel
theorem d25_9 : decode jdk_42_method_157_code 9 = .ok (.ireturn, 1) := by decide +kernel
set_option maxRecDepth 65536 in
set_option maxHeartbeats 40000000 in
theorem cboN (l : Launch) (Z : State) (a0 : Array Value) (hw : ∀ d ∈ (tables_1 ++ jdkStatics_1), d.before a0 Z = true) (n0 : Nat) (h0 : Heap) (S4 : Sta Z Z.heap "jdk/internal/util/Preconditions" "SIOOBE_FORMATTER" "Ljava/util/function/BiFunction;" .null) (O : Old Z n0 h0) :
    Ctr l Z (⟨"java/lang/String", "checkBoundsOffCount", "(III)I"⟩ : MethodName) jdk_42_method_157_code 3 (some .int) ({ frames := 1, cells := 0, slots := 0, locals := 15 } : Room) #[(.int (0 : Int32)), (.int (4 : Int32)), (.int (4 : Int32))] h0 (fun v h L => v = some (.int (0 : Int32)) ∧ L = [] ∧ h = h0) := by
  refine Ctr.mk (plainFor_of_name pn_1) (ls := #[.val (.int (0 : Int32)), .val (.int (4 : Int32)), .val (.int (4 : Int32))]) (fun m => by first | (simp [entryFrame, mkF, argsToLocals, Value.category]; done) | rfl) ?_
  intro p e s m below meth c T C X eT hs0
  have N := Fr.nil n0
  show Go p e below _ (T.setTop (mkF m 0 #[.val (.int (0 : Int32)), .val (.int (4 : Int32)), .val (.int (4 : Int32))] []))
  refine Go.iloadN C X d25_0 (n := 1) rfl rfl ?_
  refine Go.iloadN C X d25_1 (n := 2) rfl rfl ?_
  refine Go.iloadN C X d25_2 (n := 3) rfl rfl ?_
  refine Go.getS C X eT (wd hw 121 rfl) Via.refl (S4.old O) d25_3 (n := 6) rfl ?_
  clear X eT
  intro T X eT
  refine Go.stat C X eT (argsL := [(.int (0 : Int32)), (.int (4 : Int32)), (.int (4 : Int32)), .null]) (rest := []) (cfisN l Z a0 hw n0 _ ) (wd hw 123 rfl) (wd hw 124 rfl) (wd hw 122 rfl) (wd hw 125 rfl) (by decide) (lenOf pd_9 rfl) rfl d25_6 (n := 9) rfl rfl (by decide) (W := 0) rfl (by decide) (by decide) (by decide) ?_
  clear X eT
  intro T h' v L X eT hQ
  obtain ⟨rfl, rfl, hE⟩ := hQ
  replace hE := hE.symm
  subst hE
  replace N := N.app (Fr.nil n0)
  show Go p e below _ (T.setTop (mkF m 9 #[.val (.int (0 : Int32)), .val (.int (4 : Int32)), .val (.int (4 : Int32))] [(.int (0 : Int32))]))
  refine Go.retI C X eT d25_9 (by decide) (by decide) ?_
  exact ⟨rfl, rfl, rfl⟩
set_option maxRecDepth 65536 in
set_option maxHeartbeats 40000000 in
theorem cfisR (l : Launch) (Z : State) (a0 : Array Value) (hw : ∀ d ∈ (tables_1 ++ jdkStatics_1), d.before a0 Z = true) (n0 : Nat) (h0 : Heap) (f : Addr)  :
    Ctr l Z (⟨"jdk/internal/util/Preconditions", "checkFromIndexSize", "(IIILjava/util/function/BiFunction;)I"⟩ : MethodName) jdk_41_method_13_code 4 (some .int) ({ frames := 0, cells := 0, slots := 0, locals := 0 } : Room) #[(.int (0 : Int32)), (.int (4 : Int32)), (.int (4 : Int32)), (.ref f)] h0 (fun v h L => v = some (.int (0 : Int32)) ∧ L = [] ∧ h = h0) := by
  refine Ctr.mk (plainFor_of_name pn_3) (ls := #[.val (.int (0 : Int32)), .val (.int (4 : Int32)), .val (.int (4 : Int32)), .val (.ref f)]) (fun m => by first | (simp [entryFrame, mkF, argsToLocals, Value.category]; done) | rfl) ?_
  intro p e s m below meth c T C X eT hs0
  have N := Fr.nil n0
  show Go p e below _ (T.setTop (mkF m 0 #[.val (.int (0 : Int32)), .val (.int (4 : Int32)), .val (.int (4 : Int32)), .val (.ref f)] []))
  refine Go.iloadN C X d26_0 (n := 1) rfl rfl ?_
  refine Go.iloadN C X d26_1 (n := 2) rfl rfl ?_
  refine Go.ior C X d26_2 (n := 3) rfl ?_
  show Go p e below _ (T.setTop (mkF m 3 #[.val (.int (0 : Int32)), .val (.int (4 : Int32)), .val (.int (4 : Int32)), .val (.ref f)] [(.int (4 : Int32))]))
  refine Go.iloadN C X d26_3 (n := 4) rfl rfl ?_
  refine Go.ior C X d26_4 (n := 5) rfl ?_
  show Go p e below _ (T.setTop (mkF m 5 #[.val (.int (0 : Int32)), .val (.int (4 : Int32)), .val (.int (4 : Int32)), .val (.ref f)] [(.int (4 : Int32))]))
  refine Go.if0_lt C X d26_5 (n1 := 15) (n2 := 8) (by decide) (by decide) rfl (fun hc5 => ?_) (fun hc5 => ?_)
  · exact absurd hc5 (by decide)
  · refine Go.iloadN C X d26_8 (n := 9) rfl rfl ?_
    refine Go.iloadN C X d26_9 (n := 10) rfl rfl ?_
    refine Go.iloadN C X d26_10 (n := 11) rfl rfl ?_
    refine Go.isub C X d26_11 (n := 12) rfl ?_
    show Go p e below _ (T.setTop (mkF m 12 #[.val (.int (0 : Int32)), .val (.int (4 : Int32)), .val (.int (4 : Int32)), .val (.ref f)] [(.int (4 : Int32)), (.int (4 : Int32))]))
    refine Go.icmp_le C X d26_12 (n1 := 23) (n2 := 15) (by decide) (by decide) rfl (fun hc12 => ?_) (fun hc12 => ?_)
    · refine Go.iloadN C X d26_23 (n := 24) rfl rfl ?_
      refine Go.retI C X eT d26_24 (by decide) (by decide) ?_
      exact ⟨rfl, rfl, rfl⟩
    · exact absurd hc12 (by decide)
set_option maxRecDepth 65536 in
set_option maxHeartbeats 40000000 in
theorem cboR (l : Launch) (Z : State) (a0 : Array Value) (hw : ∀ d ∈ (tables_1 ++ jdkStatics_1), d.before a0 Z = true) (n0 : Nat) (h0 : Heap) (f : Addr) (S4 : Sta Z Z.heap "jdk/internal/util/Preconditions" "SIOOBE_FORMATTER" "Ljava/util/function/BiFunction;" (.ref f)) (O : Old Z n0 h0) :
    Ctr l Z (⟨"java/lang/String", "checkBoundsOffCount", "(III)I"⟩ : MethodName) jdk_42_method_157_code 3 (some .int) ({ frames := 1, cells := 0, slots := 0, locals := 15 } : Room) #[(.int (0 : Int32)), (.int (4 : Int32)), (.int (4 : Int32))] h0 (fun v h L => v = some (.int (0 : Int32)) ∧ L = [] ∧ h = h0) := by
  refine Ctr.mk (plainFor_of_name pn_1) (ls := #[.val (.int (0 : Int32)), .val (.int (4 : Int32)), .val (.int (4 : Int32))]) (fun m => by first | (simp [entryFrame, mkF, argsToLocals, Value.category]; done) | rfl) ?_
  intro p e s m below meth c T C X eT hs0
  have N := Fr.nil n0
  show Go p e below _ (T.setTop (mkF m 0 #[.val (.int (0 : Int32)), .val (.int (4 : Int32)), .val (.int (4 : Int32))] []))
  refine Go.iloadN C X d25_0 (n := 1) rfl rfl ?_
  refine Go.iloadN C X d25_1 (n := 2) rfl rfl ?_
  refine Go.iloadN C X d25_2 (n := 3) rfl rfl ?_
  refine Go.getS C X eT (wd hw 121 rfl) Via.refl (S4.old O) d25_3 (n := 6) rfl ?_
  clear X eT
  intro T X eT
  refine Go.stat C X eT (argsL := [(.int (0 : Int32)), (.int (4 : Int32)), (.int (4 : Int32)), (.ref f)]) (rest := []) (cfisR l Z a0 hw n0 _ f) (wd hw 123 rfl) (wd hw 124 rfl) (wd hw 122 rfl) (wd hw 125 rfl) (by decide) (lenOf pd_9 rfl) rfl d25_6 (n := 9) rfl rfl (by decide) (W := 0) rfl (by decide) (by decide) (by decide) ?_
  clear X eT
  intro T h' v L X eT hQ
  obtain ⟨rfl, rfl, hE⟩ := hQ
  replace hE := hE.symm
  subst hE
  replace N := N.app (Fr.nil n0)
  show Go p e below _ (T.setTop (mkF m 9 #[.val (.int (0 : Int32)), .val (.int (4 : Int32)), .val (.int (4 : Int32))] [(.int (0 : Int32))]))
  refine Go.retI C X eT d25_9 (by decide) (by decide) ?_
  exact ⟨rfl, rfl, rfl⟩
theorem cbo (l : Launch) (Z : State) (a0 : Array Value) (hw : ∀ d ∈ (tables_1 ++ jdkStatics_1), d.before a0 Z = true) (n0 : Nat) (h0 : Heap) (sf : Value) (hsf : sf.isRef = true) (S4 : Sta Z Z.heap "jdk/internal/util/Preconditions" "SIOOBE_FORMATTER" "Ljava/util/function/BiFunction;" sf) (O : Old Z n0 h0) : Ctr l Z (⟨"java/lang/String", "checkBoundsOffCount", "(III)I"⟩ : MethodName) jdk_42_method_157_code 3 (some .int) ({ frames := 1, cells := 0, slots := 0, locals := 15 } : Room) #[.int 0, .int 4, .int 4] h0 (fun v h L => v = some (.int (0 : Int32)) ∧ L = [] ∧ h = h0) := by
  rcases Jvm.RoadKit.ref_cases hsf with rfl | ⟨f, rfl⟩
  · exact cboN l Z a0 hw n0 h0 S4 O
  · exact cboR l Z a0 hw n0 h0 f S4 O
theorem pd_10 : parseMethodDescriptor "([B)I" = some ⟨[(.array .byte)], some .int⟩ := by decide +kernel
theorem pd_11 : parseMethodDescriptor "(III)I" = some ⟨[.int, .int, .int], some .int⟩ := by decide +kernel
theorem d23_0 : decode jdk_52_method_94_code 0 = .ok (.iload_n 0, 1) := by decide +kernel
theorem d23_1 : decode jdk_52_method_94_code 1 = .ok (.iload_n 1, 1) := by decide +kernel
theorem d23_2 : decode jdk_52_method_94_code 2 = .ok (.aload_n 2, 1) := by decide +kernel
theorem d23_3 : decode jdk_52_method_94_code 3 = .ok (.invokestatic 48, 3) := by decide +kernel
theorem d23_6 : decode jdk_52_method_94_code 6 = .ok (.invokestatic 419, 3) := by decide +kernel
theorem d23_9 : decode jdk_52_method_94_code 9 = .ok (.pop, 1) := by decide +kernel
theorem d23_10 : decode jdk_52_method_94_code 10 = .ok (.return_, 1) := by decide +kernel
set_option maxRecDepth 65536 in
set_option maxHeartbeats 40000000 in
theorem cbu (l : Launch) (Z : State) (a0 : Array Value) (hw : ∀ d ∈ (tables_1 ++ jdkStatics_1), d.before a0 Z = true) (n0 : Nat) (h0 : Heap) (sf : Value) (hsf : sf.isRef = true) (S4 : Sta Z Z.heap "jdk/internal/util/Preconditions" "SIOOBE_FORMATTER" "Ljava/util/function/BiFunction;" sf) (b : Addr) (x0 x1 x2 x3 : Int32) (O : Old Z n0 h0) (V_b : Arl Z h0 b .byte [(.int ((x0 >>> ((0 : Int32) &&& 31)).toInt8.toInt32)), (.int ((x0 >>> ((8 : Int32) &&& 31)).toInt8.toInt32)), (.int ((x1 >>> ((0 : Int32) &&& 31)).toInt8.toInt32)), (.int ((x1 >>> ((8 : Int32) &&& 31)).toInt8.toInt32)), (.int ((x2 >>> ((0 : Int32) &&& 31)).toInt8.toInt32)), (.int ((x2 >>> ((8 : Int32) &&& 31)).toInt8.toInt32)), (.int ((x3 >>> ((0 : Int32) &&& 31)).toInt8.toInt32)), (.int ((x3 >>> ((8 : Int32) &&& 31)).toInt8.toInt32))]) :
    Ctr l Z (⟨"java/lang/StringUTF16", "checkBoundsOffCount", "(II[B)V"⟩ : MethodName) jdk_52_method_94_code 3 none ({ frames := 2, cells := 0, slots := 0, locals := 29 } : Room) #[(.int (0 : Int32)), (.int (4 : Int32)), (.ref b)] h0 (fun v h L => v = none ∧ L = [] ∧ h = h0) := by
  refine Ctr.mk (plainFor_of_name pn_0) (ls := #[.val (.int (0 : Int32)), .val (.int (4 : Int32)), .val (.ref b)]) (fun m => by first | (simp [entryFrame, mkF, argsToLocals, Value.category]; done) | rfl) ?_
  intro p e s m below meth c T C X eT hs0
  have N := Fr.nil n0
  show Go p e below _ (T.setTop (mkF m 0 #[.val (.int (0 : Int32)), .val (.int (4 : Int32)), .val (.ref b)] []))
  refine Go.iloadN C X d23_0 (n := 1) rfl rfl ?_
  refine Go.iloadN C X d23_1 (n := 2) rfl rfl ?_
  refine Go.aloadN C X d23_2 (n := 3) rfl rfl rfl ?_
  refine Go.stat C X eT (argsL := [(.ref b)]) (rest := [(.int (4 : Int32)), (.int (0 : Int32))]) (ulen l Z a0 hw n0 _ b x0 x1 x2 x3 V_b) (wd hw 115 rfl) (wd hw 116 rfl) (wd hw 18 rfl) (wd hw 117 rfl) (by decide) (lenOf pd_10 rfl) rfl d23_3 (n := 6) rfl rfl (by decide) (W := 2) rfl (by decide) (by decide) (by decide) ?_
  clear X eT
  intro T h' v L X eT hQ
  obtain ⟨rfl, rfl, hE⟩ := hQ
  replace hE := hE.symm
  subst hE
  replace N := N.app (Fr.nil n0)
  show Go p e below _ (T.setTop (mkF m 6 #[.val (.int (0 : Int32)), .val (.int (4 : Int32)), .val (.ref b)] [(.int (4 : Int32)), (.int (4 : Int32)), (.int (0 : Int32))]))
  refine Go.stat C X eT (argsL := [(.int (0 : Int32)), (.int (4 : Int32)), (.int (4 : Int32))]) (rest := []) (cbo l Z a0 hw n0 _ sf hsf S4 O) (wd hw 118 rfl) (wd hw 119 rfl) (wd hw 4 rfl) (wd hw 120 rfl) (by decide) (lenOf pd_11 rfl) rfl d23_6 (n := 9) rfl rfl (by decide) (W := 0) rfl (by decide) (by decide) (by decide) ?_
  clear X eT
  intro T h' v L X eT hQ
  obtain ⟨rfl, rfl, hE⟩ := hQ
  replace hE := hE.symm
  subst hE
  replace N := N.app (Fr.nil n0)
  show Go p e below _ (T.setTop (mkF m 9 #[.val (.int (0 : Int32)), .val (.int (4 : Int32)), .val (.ref b)] [(.int (0 : Int32))]))
  refine Go.pop C X d23_9 (n := 10) rfl rfl ?_
  refine Go.ret0 C X eT d23_10 (by decide) (by decide) ?_
  exact ⟨rfl, rfl, rfl⟩
theorem pd_12 : parseMethodDescriptor "(II[B)V" = some ⟨[.int, .int, (.array .byte)], none⟩ := by decide +kernel
theorem d22_0 : decode jdk_52_method_26_code 0 = .ok (.iload_n 1, 1) := by decide +kernel
theorem d22_1 : decode jdk_52_method_26_code 1 = .ok (.iload_n 2, 1) := by decide +kernel
theorem d22_2 : decode jdk_52_method_26_code 2 = .ok (.if_icmp .ge 11, 3) := by decide +kernel
theorem d22_5 : decode jdk_52_method_26_code 5 = .ok (.iload_n 1, 1) := by decide +kernel
theorem d22_6 : decode jdk_52_method_26_code 6 = .ok (.iload_n 2, 1) := by decide +kernel
theorem d22_7 : decode jdk_52_method_26_code 7 = .ok (.iload_n 1, 1) := by decide +kernel
theorem d22_8 : decode jdk_52_method_26_code 8 = .ok (.isub, 1) := by decide +kernel
theorem d22_9 : decode jdk_52_method_26_code 9 = .ok (.aload_n 0, 1) := by decide +kernel
theorem d22_10 : decode jdk_52_method_26_code 10 = .ok (.invokestatic 173, 3) := by decide +kernel
theorem d22_13 : decode jdk_52_method_26_code 13 = .ok (.iload_n 1, 1) := by decide +kernel
theorem d22_14 : decode jdk_52_method_26_code 14 = .ok (.istore 5, 2) := by decide +kernel
theorem d22_16 : decode jdk_52_method_26_code 16 = .ok (.iload 5, 2) := by decide +kernel
theorem d22_18 : decode jdk_52_method_26_code 18 = .ok (.iload_n 2, 1) := by decide +kernel
theorem d22_19 : decode jdk_52_method_26_code 19 = .ok (.if_icmp .ge 22, 3) := by decide +kernel
theorem d22_22 : decode jdk_52_method_26_code 22 = .ok (.aload_n 3, 1) := by decide +kernel
theorem d22_23 : decode jdk_52_method_26_code 23 = .ok (.iload 4, 2) := by decide +kernel
theorem d22_25 : decode jdk_52_method_26_code 25 = .ok (.iinc 4 1, 3) := by decide +kernel
theorem d22_28 : decode jdk_52_method_26_code 28 = .ok (.aload_n 0, 1) := by decide +kernel
theorem d22_29 : decode jdk_52_method_26_code 29 = .ok (.iload 5, 2) := by decide +kernel
theorem d22_31 : decode jdk_52_method_26_code 31 = .ok (.invokestatic 71, 3) := by decide +kernel
theorem d22_34 : decode jdk_52_method_26_code 34 = .ok (.castore, 1) := by decide +kernel
theorem d22_35 : decode jdk_52_method_26_code 35 = .ok (.iinc 5 1, 3) := by decide +kernel
theorem d22_38 : decode jdk_52_method_26_code 38 = .ok (.goto (-22), 3) := by decide +kernel
theorem d22_41 : decode jdk_52_method_26_code 41 = .ok (.return_, 1) := by decide +kernel
set_option maxRecDepth 65536 in
set_option maxHeartbeats 40000000 in
theorem getChars (l : Launch) (Z : State) (a0 : Array Value) (hw : ∀ d ∈ (tables_1 ++ jdkStatics_1), d.before a0 Z = true) (n0 : Nat) (h0 : Heap) (S1 : Sta Z Z.heap "java/lang/StringUTF16" "$assertionsDisabled" "Z" (.int 1)) (S2 : Sta Z Z.heap "java/lang/StringUTF16" "HI_BYTE_SHIFT" "I" (.int 0)) (S3 : Sta Z Z.heap "java/lang/StringUTF16" "LO_BYTE_SHIFT" "I" (.int 8)) (sf : Value) (hsf : sf.isRef = true) (S4 : Sta Z Z.heap "jdk/internal/util/Preconditions" "SIOOBE_FORMATTER" "Ljava/util/function/BiFunction;" sf) (b cd : Addr) (x0 x1 x2 x3 : Int32) (r0 : 0 ≤ x0.toInt ∧ x0.toInt < 65536) (r1 : 0 ≤ x1.toInt ∧ x1.toInt < 65536) (r2 : 0 ≤ x2.toInt ∧ x2.toInt < 65536) (r3 : 0 ≤ x3.toInt ∧ x3.toInt < 65536) (g_cd : n0 ≤ cd) (ne_b_cd : b ≠ cd) (O : Old Z n0 h0) (V_b : Arl Z h0 b .byte [(.int ((x0 >>> ((0 : Int32) &&& 31)).toInt8.toInt32)), (.int ((x0 >>> ((8 : Int32) &&& 31)).toInt8.toInt32)), (.int ((x1 >>> ((0 : Int32) &&& 31)).toInt8.toInt32)), (.int ((x1 >>> ((8 : Int32) &&& 31)).toInt8.toInt32)), (.int ((x2 >>> ((0 : Int32) &&& 31)).toInt8.toInt32)), (.int ((x2 >>> ((8 : Int32) &&& 31)).toInt8.toInt32)), (.int ((x3 >>> ((0 : Int32) &&& 31)).toInt8.toInt32)), (.int ((x3 >>> ((8 : Int32) &&& 31)).toInt8.toInt32))]) (V_cd : Arl Z h0 cd .char [(.int (0 : Int32)), (.int (0 : Int32)), (.int (0 : Int32)), (.int (0 : Int32))]) :
    Ctr l Z (⟨"java/lang/StringUTF16", "getChars", "([BII[CI)V"⟩ : MethodName) jdk_52_method_26_code 6 none ({ frames := 3, cells := 0, slots := 0, locals := 43 } : Room) #[(.ref b), (.int (0 : Int32)), (.int (4 : Int32)), (.ref cd), (.int (0 : Int32))] h0 (fun v h L => v = none ∧ Fr n0 L ∧ Keep h0 h [cd] ∧ Arl Z h cd .char [(.int x0), (.int x1), (.int x2), (.int x3)]) := by
  refine Ctr.mk (plainFor_of_name pn_0) (ls := #[.val (.ref b), .val (.int (0 : Int32)), .val (.int (4 : Int32)), .val (.ref cd), .val (.int (0 : Int32)), .unset]) (fun m => by first | (simp [entryFrame, mkF, argsToLocals, Value.category]; done) | rfl) ?_
  intro p e s m below meth c T C X eT hs0
  have N := Fr.nil n0
  have KP := Keep.refl h0 [cd]
  show Go p e below _ (T.setTop (mkF m 0 #[.val (.ref b), .val (.int (0 : Int32)), .val (.int (4 : Int32)), .val (.ref cd), .val (.int (0 : Int32)), .unset] []))
  refine Go.iloadN C X d22_0 (n := 1) rfl rfl ?_
  refine Go.iloadN C X d22_1 (n := 2) rfl rfl ?_
  refine Go.icmp_ge C X d22_2 (n1 := 13) (n2 := 5) (by decide) (by decide) rfl (fun hc2 => ?_) (fun hc2 => ?_)
  · exact absurd hc2 (by decide)
  · refine Go.iloadN C X d22_5 (n := 6) rfl rfl ?_
    refine Go.iloadN C X d22_6 (n := 7) rfl rfl ?_
    refine Go.iloadN C X d22_7 (n := 8) rfl rfl ?_
    refine Go.isub C X d22_8 (n := 9) rfl ?_
    show Go p e below _ (T.setTop (mkF m 9 #[.val (.ref b), .val (.int (0 : Int32)), .val (.int (4 : Int32)), .val (.ref cd), .val (.int (0 : Int32)), .unset] [(.int (4 : Int32)), (.int (0 : Int32))]))
    refine Go.aloadN C X d22_9 (n := 10) rfl rfl rfl ?_
    refine Go.stat C X eT (argsL := [(.int (0 : Int32)), (.int (4 : Int32)), (.ref b)]) (rest := []) (cbu l Z a0 hw n0 _ sf hsf S4 b x0 x1 x2 x3 O V_b) (wd hw 112 rfl) (wd hw 113 rfl) (wd hw 18 rfl) (wd hw 114 rfl) (by decide) (lenOf pd_12 rfl) rfl d22_10 (n := 13) rfl rfl (by decide) (W := 0) rfl (by decide) (by decide) (by decide) ?_
    clear X eT
    intro T h' v L X eT hQ
    obtain ⟨rfl, rfl, hE⟩ := hQ
    replace hE := hE.symm
    subst hE
    replace N := N.app (Fr.nil n0)
    show Go p e below _ (T.setTop (mkF m 13 #[.val (.ref b), .val (.int (0 : Int32)), .val (.int (4 : Int32)), .val (.ref cd), .val (.int (0 : Int32)), .unset] []))
    refine Go.iloadN C X d22_13 (n := 14) rfl rfl ?_
    refine Go.istore C X d22_14 (n := 16) rfl (l' := #[.val (.ref b), .val (.int (0 : Int32)), .val (.int (4 : Int32)), .val (.ref cd), .val (.int (0 : Int32)), .val (.int (0 : Int32))]) rfl ?_
    refine Go.iload C X d22_16 (n := 18) rfl rfl ?_
    refine Go.iloadN C X d22_18 (n := 19) rfl rfl ?_
    refine Go.icmp_ge C X d22_19 (n1 := 41) (n2 := 22) (by decide) (by decide) rfl (fun hc19 => ?_) (fun hc19 => ?_)
    · exact absurd hc19 (by decide)
    · refine Go.aloadN C X d22_22 (n := 23) rfl rfl rfl ?_
      refine Go.iload C X d22_23 (n := 25) rfl rfl ?_
      refine Go.iinc C X d22_25 (n := 28) rfl (v := (1 : Int32)) rfl rfl (l' := #[.val (.ref b), .val (.int (0 : Int32)), .val (.int (4 : Int32)), .val (.ref cd), .val (.int ((0 : Int32) + (1 : Int32))), .val (.int (0 : Int32))]) rfl ?_
      show Go p e below _ (T.setTop (mkF m 28 #[.val (.ref b), .val (.int (0 : Int32)), .val (.int (4 : Int32)), .val (.ref cd), .val (.int (1 : Int32)), .val (.int (0 : Int32))] [(.int (0 : Int32)), (.ref cd)]))
      refine Go.aloadN C X d22_28 (n := 29) rfl rfl rfl ?_
      refine Go.iload C X d22_29 (n := 31) rfl rfl ?_
      refine Go.stat C X eT (argsL := [(.ref b), (.int (0 : Int32))]) (rest := [(.int (0 : Int32)), (.ref cd)]) (getChar_4_0 l Z a0 hw n0 _ S1 S2 S3 b x0 x1 x2 x3 r0 O V_b) (wd hw 103 rfl) (wd hw 104 rfl) (wd hw 18 rfl) (wd hw 105 rfl) (by decide) (lenOf pd_5 rfl) rfl d22_31 (n := 34) rfl rfl (by decide) (W := 2) rfl (by decide) (by decide) (by decide) ?_
      clear X eT
      intro T h' v L X eT hQ
      obtain ⟨rfl, rfl, hE⟩ := hQ
      replace hE := hE.symm
      subst hE
      replace N := N.app (Fr.nil n0)
      show Go p e below _ (T.setTop (mkF m 34 #[.val (.ref b), .val (.int (0 : Int32)), .val (.int (4 : Int32)), .val (.ref cd), .val (.int (1 : Int32)), .val (.int (0 : Int32))] [(.int x0), (.int (0 : Int32)), (.ref cd)]))
      refine Go.castoreL C X eT V_cd (i := 0) rfl (by simp) d22_34 (n := 35) rfl ?_
      clear X eT
      intro T h X eT W V_new
      replace V_b := V_b.other W ne_b_cd
      replace KP := KP.wr W (Or.inl (List.mem_of_getElem? (i := 0) rfl))
      replace O := O.wr W g_cd
      clear V_cd
      rw [own_nc r0] at V_new
      have V_cd : Arl Z h cd .char [(.int x0), (.int (0 : Int32)), (.int (0 : Int32)), (.int (0 : Int32))] := V_new
      clear V_new
      replace N := Fr.snoc X N g_cd
      refine Go.iinc C X d22_35 (n := 38) rfl (v := (1 : Int32)) rfl rfl (l' := #[.val (.ref b), .val (.int (0 : Int32)), .val (.int (4 : Int32)), .val (.ref cd), .val (.int (1 : Int32)), .val (.int ((0 : Int32) + (1 : Int32)))]) rfl ?_
      show Go p e below _ (T.setTop (mkF m 38 #[.val (.ref b), .val (.int (0 : Int32)), .val (.int (4 : Int32)), .val (.ref cd), .val (.int (1 : Int32)), .val (.int (1 : Int32))] []))
      refine Go.goto C X d22_38 (n := 16) (by decide) (by decide) ?_
      refine Go.iload C X d22_16 (n := 18) rfl rfl ?_
      refine Go.iloadN C X d22_18 (n := 19) rfl rfl ?_
      refine Go.icmp_ge C X d22_19 (n1 := 41) (n2 := 22) (by decide) (by decide) rfl (fun hc19 => ?_) (fun hc19 => ?_)
      · exact absurd hc19 (by decide)
      · refine Go.aloadN C X d22_22 (n := 23) rfl rfl rfl ?_
        refine Go.iload C X d22_23 (n := 25) rfl rfl ?_
        refine Go.iinc C X d22_25 (n := 28) rfl (v := (1 : Int32)) rfl rfl (l' := #[.val (.ref b), .val (.int (0 : Int32)), .val (.int (4 : Int32)), .val (.ref cd), .val (.int ((1 : Int32) + (1 : Int32))), .val (.int (1 : Int32))]) rfl ?_
        show Go p e below _ (T.setTop (mkF m 28 #[.val (.ref b), .val (.int (0 : Int32)), .val (.int (4 : Int32)), .val (.ref cd), .val (.int (2 : Int32)), .val (.int (1 : Int32))] [(.int (1 : Int32)), (.ref cd)]))
        refine Go.aloadN C X d22_28 (n := 29) rfl rfl rfl ?_
        refine Go.iload C X d22_29 (n := 31) rfl rfl ?_
        refine Go.stat C X eT (argsL := [(.ref b), (.int (1 : Int32))]) (rest := [(.int (1 : Int32)), (.ref cd)]) (getChar_4_1 l Z a0 hw n0 _ S1 S2 S3 b x0 x1 x2 x3 r1 O V_b) (wd hw 103 rfl) (wd hw 104 rfl) (wd hw 18 rfl) (wd hw 105 rfl) (by decide) (lenOf pd_5 rfl) rfl d22_31 (n := 34) rfl rfl (by decide) (W := 2) rfl (by decide) (by decide) (by decide) ?_
        clear X eT
        intro T h' v L X eT hQ
        obtain ⟨rfl, rfl, hE⟩ := hQ
        replace hE := hE.symm
        subst hE
        replace N := N.app (Fr.nil n0)
        show Go p e below _ (T.setTop (mkF m 34 #[.val (.ref b), .val (.int (0 : Int32)), .val (.int (4 : Int32)), .val (.ref cd), .val (.int (2 : Int32)), .val (.int (1 : Int32))] [(.int x1), (.int (1 : Int32)), (.ref cd)]))
        refine Go.castoreL C X eT V_cd (i := 1) rfl (by simp) d22_34 (n := 35) rfl ?_
        clear X eT
        intro T h X eT W V_new
        replace V_b := V_b.other W ne_b_cd
        replace KP := KP.wr W (Or.inl (List.mem_of_getElem? (i := 0) rfl))
        replace O := O.wr W g_cd
        clear V_cd
        rw [own_nc r1] at V_new
        have V_cd : Arl Z h cd .char [(.int x0), (.int x1), (.int (0 : Int32)), (.int (0 : Int32))] := V_new
        clear V_new
        replace N := Fr.snoc X N g_cd
        refine Go.iinc C X d22_35 (n := 38) rfl (v := (1 : Int32)) rfl rfl (l' := #[.val (.ref b), .val (.int (0 : Int32)), .val (.int (4 : Int32)), .val (.ref cd), .val (.int (2 : Int32)), .val (.int ((1 : Int32) + (1 : Int32)))]) rfl ?_
        show Go p e below _ (T.setTop (mkF m 38 #[.val (.ref b), .val (.int (0 : Int32)), .val (.int (4 : Int32)), .val (.ref cd), .val (.int (2 : Int32)), .val (.int (2 : Int32))] []))
        refine Go.goto C X d22_38 (n := 16) (by decide) (by decide) ?_
        refine Go.iload C X d22_16 (n := 18) rfl rfl ?_
        refine Go.iloadN C X d22_18 (n := 19) rfl rfl ?_
        refine Go.icmp_ge C X d22_19 (n1 := 41) (n2 := 22) (by decide) (by decide) rfl (fun hc19 => ?_) (fun hc19 => ?_)
        · exact absurd hc19 (by decide)
        · refine Go.aloadN C X d22_22 (n := 23) rfl rfl rfl ?_
          refine Go.iload C X d22_23 (n := 25) rfl rfl ?_
          refine Go.iinc C X d22_25 (n := 28) rfl (v := (1 : Int32)) rfl rfl (l' := #[.val (.ref b), .val (.int (0 : Int32)), .val (.int (4 : Int32)), .val (.ref cd), .val (.int ((2 : Int32) + (1 : Int32))), .val (.int (2 : Int32))]) rfl ?_
          show Go p e below _ (T.setTop (mkF m 28 #[.val (.ref b), .val (.int (0 : Int32)), .val (.int (4 : Int32)), .val (.ref cd), .val (.int (3 : Int32)), .val (.int (2 : Int32))] [(.int (2 : Int32)), (.ref cd)]))
          refine Go.aloadN C X d22_28 (n := 29) rfl rfl rfl ?_
          refine Go.iload C X d22_29 (n := 31) rfl rfl ?_
          refine Go.stat C X eT (argsL := [(.ref b), (.int (2 : Int32))]) (rest := [(.int (2 : Int32)), (.ref cd)]) (getChar_4_2 l Z a0 hw n0 _ S1 S2 S3 b x0 x1 x2 x3 r2 O V_b) (wd hw 103 rfl) (wd hw 104 rfl) (wd hw 18 rfl) (wd hw 105 rfl) (by decide) (lenOf pd_5 rfl) rfl d22_31 (n := 34) rfl rfl (by decide) (W := 2) rfl (by decide) (by decide) (by decide) ?_
          clear X eT
          intro T h' v L X eT hQ
          obtain ⟨rfl, rfl, hE⟩ := hQ
          replace hE := hE.symm
          subst hE
          replace N := N.app (Fr.nil n0)
          show Go p e below _ (T.setTop (mkF m 34 #[.val (.ref b), .val (.int (0 : Int32)), .val (.int (4 : Int32)), .val (.ref cd), .val (.int (3 : Int32)), .val (.int (2 : Int32))] [(.int x2), (.int (2 : Int32)), (.ref cd)]))
          refine Go.castoreL C X eT V_cd (i := 2) rfl (by simp) d22_34 (n := 35) rfl ?_
          clear X eT
          intro T h X eT W V_new
          replace V_b := V_b.other W ne_b_cd
          replace KP := KP.wr W (Or.inl (List.mem_of_getElem? (i := 0) rfl))
          replace O := O.wr W g_cd
          clear V_cd
          rw [own_nc r2] at V_new
          have V_cd : Arl Z h cd .char [(.int x0), (.int x1), (.int x2), (.int (0 : Int32))] := V_new
          clear V_new
          replace N := Fr.snoc X N g_cd
          refine Go.iinc C X d22_35 (n := 38) rfl (v := (1 : Int32)) rfl rfl (l' := #[.val (.ref b), .val (.int (0 : Int32)), .val (.int (4 : Int32)), .val (.ref cd), .val (.int (3 : Int32)), .val (.int ((2 : Int32) + (1 : Int32)))]) rfl ?_
          show Go p e below _ (T.setTop (mkF m 38 #[.val (.ref b), .val (.int (0 : Int32)), .val (.int (4 : Int32)), .val (.ref cd), .val (.int (3 : Int32)), .val (.int (3 : Int32))] []))
          refine Go.goto C X d22_38 (n := 16) (by decide) (by decide) ?_
          refine Go.iload C X d22_16 (n := 18) rfl rfl ?_
          refine Go.iloadN C X d22_18 (n := 19) rfl rfl ?_
          refine Go.icmp_ge C X d22_19 (n1 := 41) (n2 := 22) (by decide) (by decide) rfl (fun hc19 => ?_) (fun hc19 => ?_)
          · exact absurd hc19 (by decide)
          · refine Go.aloadN C X d22_22 (n := 23) rfl rfl rfl ?_
            refine Go.iload C X d22_23 (n := 25) rfl rfl ?_
            refine Go.iinc C X d22_25 (n := 28) rfl (v := (1 : Int32)) rfl rfl (l' := #[.val (.ref b), .val (.int (0 : Int32)), .val (.int (4 : Int32)), .val (.ref cd), .val (.int ((3 : Int32) + (1 : Int32))), .val (.int (3 : Int32))]) rfl ?_
            show Go p e below _ (T.setTop (mkF m 28 #[.val (.ref b), .val (.int (0 : Int32)), .val (.int (4 : Int32)), .val (.ref cd), .val (.int (4 : Int32)), .val (.int (3 : Int32))] [(.int (3 : Int32)), (.ref cd)]))
            refine Go.aloadN C X d22_28 (n := 29) rfl rfl rfl ?_
            refine Go.iload C X d22_29 (n := 31) rfl rfl ?_
            refine Go.stat C X eT (argsL := [(.ref b), (.int (3 : Int32))]) (rest := [(.int (3 : Int32)), (.ref cd)]) (getChar_4_3 l Z a0 hw n0 _ S1 S2 S3 b x0 x1 x2 x3 r3 O V_b) (wd hw 103 rfl) (wd hw 104 rfl) (wd hw 18 rfl) (wd hw 105 rfl) (by decide) (lenOf pd_5 rfl) rfl d22_31 (n := 34) rfl rfl (by decide) (W := 2) rfl (by decide) (by decide) (by decide) ?_
            clear X eT
            intro T h' v L X eT hQ
            obtain ⟨rfl, rfl, hE⟩ := hQ
            replace hE := hE.symm
            subst hE
            replace N := N.app (Fr.nil n0)
            show Go p e below _ (T.setTop (mkF m 34 #[.val (.ref b), .val (.int (0 : Int32)), .val (.int (4 : Int32)), .val (.ref cd), .val (.int (4 : Int32)), .val (.int (3 : Int32))] [(.int x3), (.int (3 : Int32)), (.ref cd)]))
            refine Go.castoreL C X eT V_cd (i := 3) rfl (by simp) d22_34 (n := 35) rfl ?_
            clear X eT
            intro T h X eT W V_new
            replace V_b := V_b.other W ne_b_cd
            replace KP := KP.wr W (Or.inl (List.mem_of_getElem? (i := 0) rfl))
            replace O := O.wr W g_cd
            clear V_cd
            rw [own_nc r3] at V_new
            have V_cd : Arl Z h cd .char [(.int x0), (.int x1), (.int x2), (.int x3)] := V_new
            clear V_new
            replace N := Fr.snoc X N g_cd
            refine Go.iinc C X d22_35 (n := 38) rfl (v := (1 : Int32)) rfl rfl (l' := #[.val (.ref b), .val (.int (0 : Int32)), .val (.int (4 : Int32)), .val (.ref cd), .val (.int (4 : Int32)), .val (.int ((3 : Int32) + (1 : Int32)))]) rfl ?_
            show Go p e below _ (T.setTop (mkF m 38 #[.val (.ref b), .val (.int (0 : Int32)), .val (.int (4 : Int32)), .val (.ref cd), .val (.int (4 : Int32)), .val (.int (4 : Int32))] []))
            refine Go.goto C X d22_38 (n := 16) (by decide) (by decide) ?_
            refine Go.iload C X d22_16 (n := 18) rfl rfl ?_
            refine Go.iloadN C X d22_18 (n := 19) rfl rfl ?_
            refine Go.icmp_ge C X d22_19 (n1 := 41) (n2 := 22) (by decide) (by decide) rfl (fun hc19 => ?_) (fun hc19 => ?_)
            · refine Go.ret0 C X eT d22_41 (by decide) (by decide) ?_
              exact ⟨rfl, N, KP, V_cd⟩
            · exact absurd hc19 (by decide)
theorem pd_13 : parseMethodDescriptor "([BII[CI)V" = some ⟨[(.array .byte), .int, .int, (.array .char), .int], none⟩ := by decide +kernel
theorem d21_0 : decode jdk_52_method_13_code 0 = .ok (.aload_n 0, 1) := by decide +kernel
theorem d21_1 : decode jdk_52_method_13_code 1 = .ok (.arraylength, 1) := by decide +kernel
theorem d21_2 : decode jdk_52_method_13_code 2 = .ok (.iconst 1, 1) := by decide +kernel
theorem d21_3 : decode jdk_52_method_13_code 3 = .ok (.ishr, 1) := by decide +kernel
theorem d21_4 : decode jdk_52_method_13_code 4 = .ok (.newarray .char, 2) := by decide +kernel
theorem d21_6 : decode jdk_52_method_13_code 6 = .ok (.astore_n 1, 1) := by decide +kernel
theorem d21_7 : decode jdk_52_method_13_code 7 = .ok (.aload_n 0, 1) := by decide +kernel
theorem d21_8 : decode jdk_52_method_13_code 8 = .ok (.iconst 0, 1) := by decide +kernel
theorem d21_9 : decode jdk_52_method_13_code 9 = .ok (.aload_n 1, 1) := by decide +kernel
theorem d21_10 : decode jdk_52_method_13_code 10 = .ok (.arraylength, 1) := by decide +kernel
theorem d21_11 : decode jdk_52_method_13_code 11 = .ok (.aload_n 1, 1) := by decide +kernel
theorem d21_12 : decode jdk_52_method_13_code 12 = .ok (.iconst 0, 1) := by decide +kernel
theorem d21_13 : decode jdk_52_method_13_code 13 = .ok (.invokestatic 103, 3) := by decide +kernel
theorem d21_16 : decode jdk_52_method_13_code 16 = .ok (.aload_n 1, 1) := by decide +kernel
theorem d21_17 : decode jdk_52_method_13_code 17 = .ok (.areturn, 1) := by decide +kernel
set_option maxRecDepth 65536 in
set_option maxHeartbeats 40000000 in
theorem toCharsU (l : Launch) (Z : State) (a0 : Array Value) (hw : ∀ d ∈ (tables_1 ++ jdkStatics_1), d.before a0 Z = true) (n0 : Nat) (h0 : Heap) (S1 : Sta Z Z.heap "java/lang/StringUTF16" "$assertionsDisabled" "Z" (.int 1)) (S2 : Sta Z Z.heap "java/lang/StringUTF16" "HI_BYTE_SHIFT" "I" (.int 0)) (S3 : Sta Z Z.heap "java/lang/StringUTF16" "LO_BYTE_SHIFT" "I" (.int 8)) (sf : Value) (hsf : sf.isRef = true) (S4 : Sta Z Z.heap "jdk/internal/util/Preconditions" "SIOOBE_FORMATTER" "Ljava/util/function/BiFunction;" sf) (b : Addr) (x0 x1 x2 x3 : Int32) (r0 : 0 ≤ x0.toInt ∧ x0.toInt < 65536) (r1 : 0 ≤ x1.toInt ∧ x1.toInt < 65536) (r2 : 0 ≤ x2.toInt ∧ x2.toInt < 65536) (r3 : 0 ≤ x3.toInt ∧ x3.toInt < 65536) (O : Old Z n0 h0) (V_b : Arl Z h0 b .byte [(.int ((x0 >>> ((0 : Int32) &&& 31)).toInt8.toInt32)), (.int ((x0 >>> ((8 : Int32) &&& 31)).toInt8.toInt32)), (.int ((x1 >>> ((0 : Int32) &&& 31)).toInt8.toInt32)), (.int ((x1 >>> ((8 : Int32) &&& 31)).toInt8.toInt32)), (.int ((x2 >>> ((0 : Int32) &&& 31)).toInt8.toInt32)), (.int ((x2 >>> ((8 : Int32) &&& 31)).toInt8.toInt32)), (.int ((x3 >>> ((0 : Int32) &&& 31)).toInt8.toInt32)), (.int ((x3 >>> ((8 : Int32) &&& 31)).toInt8.toInt32))]) :
    Ctr l Z (⟨"java/lang/StringUTF16", "toChars", "([B)[C"⟩ : MethodName) jdk_52_method_13_code 2 (some (.array .char)) ({ frames := 4, cells := 1, slots := 4, locals := 60 } : Room) #[(.ref b)] h0 (fun v h L => ∃ cd, v = some (.ref cd) ∧ Fr n0 L ∧ Keep h0 h [] ∧ h0.size ≤ cd ∧ Arl Z h cd .char [(.int x0), (.int x1), (.int x2), (.int x3)]) := by
  refine Ctr.mk (plainFor_of_name pn_0) (ls := #[.val (.ref b), .unset]) (fun m => by first | (simp [entryFrame, mkF, argsToLocals, Value.category]; done) | rfl) ?_
  intro p e s m below meth c T C X eT hs0
  have N := Fr.nil n0
  have KP := Keep.refl h0 []
  show Go p e below _ (T.setTop (mkF m 0 #[.val (.ref b), .unset] []))
  refine Go.aloadN C X d21_0 (n := 1) rfl rfl rfl ?_
  refine Go.lengthL C X eT V_b (z := (8 : Int32)) rfl d21_1 (n := 2) rfl ?_
  refine Go.iconst C X d21_2 (n := 3) rfl (v := (1 : Int32)) rfl ?_
  refine Go.ishr C X d21_3 (n := 4) rfl ?_
  show Go p e below _ (T.setTop (mkF m 4 #[.val (.ref b), .unset] [(.int (4 : Int32))]))
  refine Go.newL C X eT (wd hw 0 rfl) (i := 4) rfl (cap := 4) (by decide) d21_4 (n := 6) rfl (by decide) (by decide) (by decide) ?_
  clear X eT
  intro T h cd z_cd X eT E V_cd
  have ne_b_cd : b ≠ cd := Nat.ne_of_lt (Nat.lt_of_lt_of_le V_b.lt (Nat.le_of_eq z_cd.symm))
  have g_cd : n0 ≤ cd := by rw [z_cd]; exact O.le
  have s_cd : h0.size ≤ cd := by rw [z_cd]; exact KP.1
  replace V_b := V_b.ext E
  replace KP := KP.ext E
  replace O := O.ext E
  replace V_cd : Arl Z h cd .char [(.int (0 : Int32)), (.int (0 : Int32)), (.int (0 : Int32)), (.int (0 : Int32))] := V_cd
  refine Go.astoreN C X d21_6 (n := 7) rfl rfl (l' := #[.val (.ref b), .val (.ref cd)]) rfl ?_
  refine Go.aloadN C X d21_7 (n := 8) rfl rfl rfl ?_
  refine Go.iconst C X d21_8 (n := 9) rfl (v := (0 : Int32)) rfl ?_
  refine Go.aloadN C X d21_9 (n := 10) rfl rfl rfl ?_
  refine Go.lengthL C X eT V_cd (z := (4 : Int32)) rfl d21_10 (n := 11) rfl ?_
  refine Go.aloadN C X d21_11 (n := 12) rfl rfl rfl ?_
  refine Go.iconst C X d21_12 (n := 13) rfl (v := (0 : Int32)) rfl ?_
  refine Go.stat C X eT (argsL := [(.ref b), (.int (0 : Int32)), (.int (4 : Int32)), (.ref cd), (.int (0 : Int32))]) (rest := []) (getChars l Z a0 hw n0 _ S1 S2 S3 sf hsf S4 b cd x0 x1 x2 x3 r0 r1 r2 r3 g_cd ne_b_cd O V_b V_cd) (wd hw 109 rfl) (wd hw 110 rfl) (wd hw 18 rfl) (wd hw 111 rfl) (by decide) (lenOf pd_13 rfl) rfl d21_13 (n := 16) rfl rfl (by decide) (W := 0) rfl (by decide) (by decide) (by decide) ?_
  clear X eT
  intro T h v L X eT hQ
  obtain ⟨rfl, Nq, KK, V_cd⟩ := hQ
  replace N := N.app Nq
  replace V_b := V_b.keep KK (ninS ne_b_cd nin0)
  replace KP := KP.trans KK (allS (Or.inr s_cd) all0)
  replace O := O.keep KK (allS g_cd all0)
  show Go p e below _ (T.setTop (mkF m 16 #[.val (.ref b), .val (.ref cd)] []))
  refine Go.aloadN C X d21_16 (n := 17) rfl rfl rfl ?_
  refine Go.retA C X eT rfl rfl rfl d21_17 (by decide) (by decide) ?_
  exact ⟨cd, rfl, N, KP, s_cd, V_cd⟩
theorem pd_14 : parseMethodDescriptor "()Z" = some ⟨[], some .boolean⟩ := by decide +kernel
theorem pd_15 : parseMethodDescriptor "([B)[C" = some ⟨[(.array .byte)], some (.array .char)⟩ := by decide +kernel
theorem d9_0 : decode jdk_42_method_129_code 0 = .ok (.aload_n 0, 1) := by decide +kernel
theorem d9_1 : decode jdk_42_method_129_code 1 = .ok (.invokevirtual 492, 3) := by decide +kernel
theorem d9_4 : decode jdk_42_method_129_code 4 = .ok (.ifCond .eq 13, 3) := by decide +kernel
theorem d9_7 : decode jdk_42_method_129_code 7 = .ok (.aload_n 0, 1) := by decide +kernel
theorem d9_8 : decode jdk_42_method_129_code 8 = .ok (.getfield 9, 3) := by decide +kernel
theorem d9_11 : decode jdk_42_method_129_code 11 = .ok (.invokestatic 299, 3) := by decide +kernel
theorem d9_14 : decode jdk_42_method_129_code 14 = .ok (.goto 10, 3) := by decide +kernel
theorem d9_17 : decode jdk_42_method_129_code 17 = .ok (.aload_n 0, 1) := by decide +kernel
theorem d9_18 : decode jdk_42_method_129_code 18 = .ok (.getfield 9, 3) := by decide +kernel
theorem d9_21 : decode jdk_42_method_129_code 21 = .ok (.invokestatic 303, 3) := by decide +kernel
theorem d9_24 : decode jdk_42_method_129_code 24 = .ok (.areturn, 1) := by decide +kernel
set_option maxRecDepth 65536 in
set_option maxHeartbeats 40000000 in
theorem tca_0 (l : Launch) (Z : State) (a0 : Array Value) (hw : ∀ d ∈ (tables_1 ++ jdkStatics_1), d.before a0 Z = true) (n0 : Nat) (h0 : Heap) (cs : Int32) (SZ : Sta Z Z.heap "java/lang/String" "COMPACT_STRINGS" "Z" (.int cs)) (hcs : cs ≠ 0) (S1 : Sta Z Z.heap "java/lang/StringUTF16" "$assertionsDisabled" "Z" (.int 1)) (S2 : Sta Z Z.heap "java/lang/StringUTF16" "HI_BYTE_SHIFT" "I" (.int 0)) (S3 : Sta Z Z.heap "java/lang/StringUTF16" "LO_BYTE_SHIFT" "I" (.int 8)) (sf : Value) (hsf : sf.isRef = true) (S4 : Sta Z Z.heap "jdk/internal/util/Preconditions" "SIOOBE_FORMATTER" "Ljava/util/function/BiFunction;" sf) (q b : Addr) (x0 x1 x2 x3 : Int32) (r0 : 0 ≤ x0.toInt ∧ x0.toInt < 65536) (r1 : 0 ≤ x1.toInt ∧ x1.toInt < 65536) (r2 : 0 ≤ x2.toInt ∧ x2.toInt < 65536) (r3 : 0 ≤ x3.toInt ∧ x3.toInt < 65536) (l0 : ¬ (255 : Int32) < x0) (l1 : ¬ (255 : Int32) < x1) (l2 : ¬ (255 : Int32) < x2) (l3 : ¬ (255 : Int32) < x3) (O : Old Z n0 h0) (E_q : Exa Z h0 q "java/lang/String") (F_q_value : Fld Z h0 q "java/lang/String" "value" "[B" (.ref b)) (F_q_coder : Fld Z h0 q "java/lang/String" "coder" "B" (.int 0)) (V_b : Arl Z h0 b .byte [(.int (x0.toInt8.toInt32)), (.int (x1.toInt8.toInt32)), (.int (x2.toInt8.toInt32)), (.int (x3.toInt8.toInt32))]) :
    Ctr l Z (⟨"java/lang/String", "toCharArray", "()[C"⟩ : MethodName) jdk_42_method_129_code 1 (some (.array .char)) ({ frames := 5, cells := 1, slots := 4, locals := 73 } : Room) #[(.ref q)] h0 (fun v h L => ∃ cd, v = some (.ref cd) ∧ Fr n0 L ∧ Keep h0 h [] ∧ h0.size ≤ cd ∧ Arl Z h cd .char [(.int x0), (.int x1), (.int x2), (.int x3)]) := by
  refine Ctr.mk (plainFor_of_name pn_1) (ls := #[.val (.ref q)]) (fun m => by first | (simp [entryFrame, mkF, argsToLocals, Value.category]; done) | rfl) ?_
  intro p e s m below meth c T C X eT hs0
  have N := Fr.nil n0
  have KP := Keep.refl h0 []
  show Go p e below _ (T.setTop (mkF m 0 #[.val (.ref q)] []))
  refine Go.aloadN C X d9_0 (n := 1) rfl rfl rfl ?_
  refine Go.virt C X eT (argsL := []) (rest := []) (a := q) (isl_0 l Z a0 hw n0 _ cs SZ hcs q O F_q_coder) (wd hw 51 rfl) (wd hw 52 rfl) (notFace_of_selects (args := #[]) (mvT C.hZ (wd hw 54 rfl))) (wd hw 54 rfl) (wd hw 53 rfl) (wd hw 4 rfl) (wd hw 55 rfl) (by decide) E_q (lenOf pd_14 rfl) rfl d9_1 (n := 4) rfl rfl (by decide) (W := 0) rfl (by decide) (by decide) (by decide) ?_
  clear X eT
  intro T h' v L X eT hQ
  obtain ⟨rfl, rfl, hE⟩ := hQ
  replace hE := hE.symm
  subst hE
  replace N := N.app (Fr.nil n0)
  show Go p e below _ (T.setTop (mkF m 4 #[.val (.ref q)] [(.int (1 : Int32))]))
  refine Go.if0_eq C X d9_4 (n1 := 17) (n2 := 7) (by decide) (by decide) rfl (fun hc4 => ?_) (fun hc4 => ?_)
  · exact absurd hc4 (by decide)
  · refine Go.aloadN C X d9_7 (n := 8) rfl rfl rfl ?_
    refine Go.getF C X eT (wd hw 29 rfl) Via.refl F_q_value d9_8 (n := 11) rfl ?_
    clear X eT
    intro T X eT
    refine Go.stat C X eT (argsL := [(.ref b)]) (rest := []) (toCharsL l Z a0 hw n0 _ b x0 x1 x2 x3 r0 r1 r2 r3 l0 l1 l2 l3 O V_b) (wd hw 56 rfl) (wd hw 57 rfl) (wd hw 58 rfl) (wd hw 59 rfl) (by decide) (lenOf pd_15 rfl) rfl d9_11 (n := 14) rfl rfl (by decide) (W := 0) rfl (by decide) (by decide) (by decide) ?_
    clear X eT
    intro T h v L X eT hQ
    obtain ⟨cd, rfl, Nq, KK, s_cd, V_cd⟩ := hQ
    replace N := N.app Nq
    have ne_q_cd : q ≠ cd := Nat.ne_of_lt (Nat.lt_of_lt_of_le E_q.lt s_cd)
    have ne_b_cd : b ≠ cd := Nat.ne_of_lt (Nat.lt_of_lt_of_le V_b.lt s_cd)
    have g_cd : n0 ≤ cd := Nat.le_trans O.le s_cd
    have sz_cd : h0.size ≤ cd := Nat.le_trans KP.1 s_cd
    replace E_q := E_q.keep KK
    replace F_q_value := F_q_value.keep KK nin0
    replace F_q_coder := F_q_coder.keep KK nin0
    replace V_b := V_b.keep KK nin0
    replace KP := KP.trans KK all0
    replace O := O.keep KK all0
    show Go p e below _ (T.setTop (mkF m 14 #[.val (.ref q)] [(.ref cd)]))
    refine Go.goto C X d9_14 (n := 24) (by decide) (by decide) ?_
    refine Go.retA C X eT rfl rfl rfl d9_24 (by decide) (by decide) ?_
    exact ⟨cd, rfl, N, KP, sz_cd, V_cd⟩
set_option maxRecDepth 65536 in
set_option maxHeartbeats 40000000 in
theorem tca_1 (l : Launch) (Z : State) (a0 : Array Value) (hw : ∀ d ∈ (tables_1 ++ jdkStatics_1), d.before a0 Z = true) (n0 : Nat) (h0 : Heap) (cs : Int32) (SZ : Sta Z Z.heap "java/lang/String" "COMPACT_STRINGS" "Z" (.int cs)) (hcs : cs ≠ 0) (S1 : Sta Z Z.heap "java/lang/StringUTF16" "$assertionsDisabled" "Z" (.int 1)) (S2 : Sta Z Z.heap "java/lang/StringUTF16" "HI_BYTE_SHIFT" "I" (.int 0)) (S3 : Sta Z Z.heap "java/lang/StringUTF16" "LO_BYTE_SHIFT" "I" (.int 8)) (sf : Value) (hsf : sf.isRef = true) (S4 : Sta Z Z.heap "jdk/internal/util/Preconditions" "SIOOBE_FORMATTER" "Ljava/util/function/BiFunction;" sf) (q b : Addr) (x0 x1 x2 x3 : Int32) (r0 : 0 ≤ x0.toInt ∧ x0.toInt < 65536) (r1 : 0 ≤ x1.toInt ∧ x1.toInt < 65536) (r2 : 0 ≤ x2.toInt ∧ x2.toInt < 65536) (r3 : 0 ≤ x3.toInt ∧ x3.toInt < 65536) (O : Old Z n0 h0) (E_q : Exa Z h0 q "java/lang/String") (F_q_value : Fld Z h0 q "java/lang/String" "value" "[B" (.ref b)) (F_q_coder : Fld Z h0 q "java/lang/String" "coder" "B" (.int 1)) (V_b : Arl Z h0 b .byte [(.int ((x0 >>> ((0 : Int32) &&& 31)).toInt8.toInt32)), (.int ((x0 >>> ((8 : Int32) &&& 31)).toInt8.toInt32)), (.int ((x1 >>> ((0 : Int32) &&& 31)).toInt8.toInt32)), (.int ((x1 >>> ((8 : Int32) &&& 31)).toInt8.toInt32)), (.int ((x2 >>> ((0 : Int32) &&& 31)).toInt8.toInt32)), (.int ((x2 >>> ((8 : Int32) &&& 31)).toInt8.toInt32)), (.int ((x3 >>> ((0 : Int32) &&& 31)).toInt8.toInt32)), (.int ((x3 >>> ((8 : Int32) &&& 31)).toInt8.toInt32))]) :
    Ctr l Z (⟨"java/lang/String", "toCharArray", "()[C"⟩ : MethodName) jdk_42_method_129_code 1 (some (.array .char)) ({ frames := 5, cells := 1, slots := 4, locals := 73 } : Room) #[(.ref q)] h0 (fun v h L => ∃ cd, v = some (.ref cd) ∧ Fr n0 L ∧ Keep h0 h [] ∧ h0.size ≤ cd ∧ Arl Z h cd .char [(.int x0), (.int x1), (.int x2), (.int x3)]) := by
  refine Ctr.mk (plainFor_of_name pn_1) (ls := #[.val (.ref q)]) (fun m => by first | (simp [entryFrame, mkF, argsToLocals, Value.category]; done) | rfl) ?_
  intro p e s m below meth c T C X eT hs0
  have N := Fr.nil n0
  have KP := Keep.refl h0 []
  show Go p e below _ (T.setTop (mkF m 0 #[.val (.ref q)] []))
  refine Go.aloadN C X d9_0 (n := 1) rfl rfl rfl ?_
  refine Go.virt C X eT (argsL := []) (rest := []) (a := q) (isl_1 l Z a0 hw n0 _ cs SZ hcs q O F_q_coder) (wd hw 51 rfl) (wd hw 52 rfl) (notFace_of_selects (args := #[]) (mvT C.hZ (wd hw 54 rfl))) (wd hw 54 rfl) (wd hw 53 rfl) (wd hw 4 rfl) (wd hw 55 rfl) (by decide) E_q (lenOf pd_14 rfl) rfl d9_1 (n := 4) rfl rfl (by decide) (W := 0) rfl (by decide) (by decide) (by decide) ?_
  clear X eT
  intro T h' v L X eT hQ
  obtain ⟨rfl, rfl, hE⟩ := hQ
  replace hE := hE.symm
  subst hE
  replace N := N.app (Fr.nil n0)
  show Go p e below _ (T.setTop (mkF m 4 #[.val (.ref q)] [(.int (0 : Int32))]))
  refine Go.if0_eq C X d9_4 (n1 := 17) (n2 := 7) (by decide) (by decide) rfl (fun hc4 => ?_) (fun hc4 => ?_)
  · refine Go.aloadN C X d9_17 (n := 18) rfl rfl rfl ?_
    refine Go.getF C X eT (wd hw 29 rfl) Via.refl F_q_value d9_18 (n := 21) rfl ?_
    clear X eT
    intro T X eT
    refine Go.stat C X eT (argsL := [(.ref b)]) (rest := []) (toCharsU l Z a0 hw n0 _ S1 S2 S3 sf hsf S4 b x0 x1 x2 x3 r0 r1 r2 r3 O V_b) (wd hw 106 rfl) (wd hw 107 rfl) (wd hw 18 rfl) (wd hw 108 rfl) (by decide) (lenOf pd_15 rfl) rfl d9_21 (n := 24) rfl rfl (by decide) (W := 0) rfl (by decide) (by decide) (by decide) ?_
    clear X eT
    intro T h v L X eT hQ
    obtain ⟨cd, rfl, Nq, KK, s_cd, V_cd⟩ := hQ
    replace N := N.app Nq
    have ne_q_cd : q ≠ cd := Nat.ne_of_lt (Nat.lt_of_lt_of_le E_q.lt s_cd)
    have ne_b_cd : b ≠ cd := Nat.ne_of_lt (Nat.lt_of_lt_of_le V_b.lt s_cd)
    have g_cd : n0 ≤ cd := Nat.le_trans O.le s_cd
    have sz_cd : h0.size ≤ cd := Nat.le_trans KP.1 s_cd
    replace E_q := E_q.keep KK
    replace F_q_value := F_q_value.keep KK nin0
    replace F_q_coder := F_q_coder.keep KK nin0
    replace V_b := V_b.keep KK nin0
    replace KP := KP.trans KK all0
    replace O := O.keep KK all0
    show Go p e below _ (T.setTop (mkF m 24 #[.val (.ref q)] [(.ref cd)]))
    refine Go.retA C X eT rfl rfl rfl d9_24 (by decide) (by decide) ?_
    exact ⟨cd, rfl, N, KP, sz_cd, V_cd⟩
  · exact absurd hc4 (by decide)
set_option maxRecDepth 65536 in
set_option maxHeartbeats 40000000 in
theorem tca (l : Launch) (Z : State) (a0 : Array Value) (hw : ∀ d ∈ (tables_1 ++ jdkStatics_1), d.before a0 Z = true) (n0 : Nat) (h0 : Heap) (cs : Int32) (SZ : Sta Z Z.heap "java/lang/String" "COMPACT_STRINGS" "Z" (.int cs)) (hcs : cs ≠ 0) (S1 : Sta Z Z.heap "java/lang/StringUTF16" "$assertionsDisabled" "Z" (.int 1)) (S2 : Sta Z Z.heap "java/lang/StringUTF16" "HI_BYTE_SHIFT" "I" (.int 0)) (S3 : Sta Z Z.heap "java/lang/StringUTF16" "LO_BYTE_SHIFT" "I" (.int 8)) (sf : Value) (hsf : sf.isRef = true) (S4 : Sta Z Z.heap "jdk/internal/util/Preconditions" "SIOOBE_FORMATTER" "Ljava/util/function/BiFunction;" sf) (q b : Addr) (x0 x1 x2 x3 : Int32) (r0 : 0 ≤ x0.toInt ∧ x0.toInt < 65536) (r1 : 0 ≤ x1.toInt ∧ x1.toInt < 65536) (r2 : 0 ≤ x2.toInt ∧ x2.toInt < 65536) (r3 : 0 ≤ x3.toInt ∧ x3.toInt < 65536) (O : Old Z n0 h0) (S_q : StrB Z h0 q b x0 x1 x2 x3) : Ctr l Z (⟨"java/lang/String", "toCharArray", "()[C"⟩ : MethodName) jdk_42_method_129_code 1 (some (.array .char)) ({ frames := 5, cells := 1, slots := 4, locals := 73 } : Room) #[.ref q] h0 (fun v h L => ∃ cd, v = some (.ref cd) ∧ Fr n0 L ∧ Keep h0 h [] ∧ h0.size ≤ cd ∧ Arl Z h cd .char [(.int x0), (.int x1), (.int x2), (.int x3)]) := by
  obtain ⟨E_q, F_q, ⟨F2, A, l0, l1, l2, l3⟩ | ⟨F2, A⟩⟩ := S_q
  · exact tca_0 l Z a0 hw n0 h0 cs SZ hcs S1 S2 S3 sf hsf S4 q b x0 x1 x2 x3 r0 r1 r2 r3 l0 l1 l2 l3 O E_q F_q F2 A
  · exact tca_1 l Z a0 hw n0 h0 cs SZ hcs S1 S2 S3 sf hsf S4 q b x0 x1 x2 x3 r0 r1 r2 r3 O E_q F_q F2 A
theorem pd_16 : parseMethodDescriptor "()[C" = some ⟨[], some (.array .char)⟩ := by decide +kernel
theorem pn_4 : plainName "com/example/libsymtree/libsymtree/theory/TextCursor" = true := by first | (simp [plainName, overriddenIn]; done) | decide +kernel
theorem d8_0 : decode prog_86_method_4_code 0 = .ok (.aload_n 0, 1) := by decide +kernel
theorem d8_1 : decode prog_86_method_4_code 1 = .ok (.invokespecial 18, 3) := by decide +kernel
theorem d8_4 : decode prog_86_method_4_code 4 = .ok (.aload_n 0, 1) := by decide +kernel
theorem d8_5 : decode prog_86_method_4_code 5 = .ok (.aload_n 1, 1) := by decide +kernel
theorem d8_6 : decode prog_86_method_4_code 6 = .ok (.putfield 23, 3) := by decide +kernel
theorem d8_9 : decode prog_86_method_4_code 9 = .ok (.aload_n 0, 1) := by decide +kernel
theorem d8_10 : decode prog_86_method_4_code 10 = .ok (.aload_n 1, 1) := by decide +kernel
theorem d8_11 : decode prog_86_method_4_code 11 = .ok (.invokevirtual 27, 3) := by decide +kernel
theorem d8_14 : decode prog_86_method_4_code 14 = .ok (.putfield 31, 3) := by decide +kernel
theorem d8_17 : decode prog_86_method_4_code 17 = .ok (.aload_n 0, 1) := by decide +kernel
theorem d8_18 : decode prog_86_method_4_code 18 = .ok (.iload_n 2, 1) := by decide +kernel
theorem d8_19 : decode prog_86_method_4_code 19 = .ok (.putfield 35, 3) := by decide +kernel
theorem d8_22 : decode prog_86_method_4_code 22 = .ok (.aload_n 0, 1) := by decide +kernel
theorem d8_23 : decode prog_86_method_4_code 23 = .ok (.iload_n 3, 1) := by decide +kernel
theorem d8_24 : decode prog_86_method_4_code 24 = .ok (.putfield 39, 3) := by decide +kernel
theorem d8_27 : decode prog_86_method_4_code 27 = .ok (.aload_n 0, 1) := by decide +kernel
theorem d8_28 : decode prog_86_method_4_code 28 = .ok (.aload 4, 2) := by decide +kernel
theorem d8_30 : decode prog_86_method_4_code 30 = .ok (.putfield 42, 3) := by decide +kernel
theorem d8_33 : decode prog_86_method_4_code 33 = .ok (.aload_n 0, 1) := by decide +kernel
theorem d8_34 : decode prog_86_method_4_code 34 = .ok (.aload 5, 2) := by decide +kernel
theorem d8_36 : decode prog_86_method_4_code 36 = .ok (.putfield 45, 3) := by decide +kernel
theorem d8_39 : decode prog_86_method_4_code 39 = .ok (.return_, 1) := by decide +kernel
set_option maxRecDepth 65536 in
set_option maxHeartbeats 40000000 in
theorem rm8 (l : Launch) (Z : State) (a0 : Array Value) (hw : ∀ d ∈ (tables_1 ++ jdkStatics_1), d.before a0 Z = true) (n0 : Nat) (h0 : Heap) (cs : Int32) (SZ : Sta Z Z.heap "java/lang/String" "COMPACT_STRINGS" "Z" (.int cs)) (hcs : cs ≠ 0) (S1 : Sta Z Z.heap "java/lang/StringUTF16" "$assertionsDisabled" "Z" (.int 1)) (S2 : Sta Z Z.heap "java/lang/StringUTF16" "HI_BYTE_SHIFT" "I" (.int 0)) (S3 : Sta Z Z.heap "java/lang/StringUTF16" "LO_BYTE_SHIFT" "I" (.int 8)) (sf : Value) (hsf : sf.isRef = true) (S4 : Sta Z Z.heap "jdk/internal/util/Preconditions" "SIOOBE_FORMATTER" "Ljava/util/function/BiFunction;" sf) (t q b en : Addr) (x0 x1 x2 x3 : Int32) (r0 : 0 ≤ x0.toInt ∧ x0.toInt < 65536) (r1 : 0 ≤ x1.toInt ∧ x1.toInt < 65536) (r2 : 0 ≤ x2.toInt ∧ x2.toInt < 65536) (r3 : 0 ≤ x3.toInt ∧ x3.toInt < 65536) (pp ee : Int32) (g_t : n0 ≤ t) (ne_q_t : q ≠ t) (ne_b_t : b ≠ t) (O : Old Z n0 h0) (S_q : StrB Z h0 q b x0 x1 x2 x3) (E_t : Exa Z h0 t "com/example/libsymtree/libsymtree/theory/TextCursor") (F_t_text : Fld Z h0 t "com/example/libsymtree/libsymtree/theory/TextCursor" "text" "Ljava/lang/String;" .null) (F_t_chars : Fld Z h0 t "com/example/libsymtree/libsymtree/theory/TextCursor" "chars" "[C" .null) (F_t_position : Fld Z h0 t "com/example/libsymtree/libsymtree/theory/TextCursor" "position" "I" (.int 0)) (F_t_end : Fld Z h0 t "com/example/libsymtree/libsymtree/theory/TextCursor" "end" "I" (.int 0)) (F_t_endName : Fld Z h0 t "com/example/libsymtree/libsymtree/theory/TextCursor" "endName" "Ljava/lang/String;" .null) (F_t_lines : Fld Z h0 t "com/example/libsymtree/libsymtree/theory/TextCursor" "lines" "Lcom/example/libsymtree/libsymtree/theory/TextCursor$Lines;" .null) :
    Ctr l Z (⟨"com/example/libsymtree/libsymtree/theory/TextCursor", "<init>", "(Ljava/lang/String;IILjava/lang/String;Lcom/example/libsymtree/libsymtree/theory/TextCursor$Lines;)V"⟩ : MethodName) prog_86_method_4_code 6 none ({ frames := 6, cells := 1, slots := 4, locals := 86 } : Room) #[(.ref t), (.ref q), (.int pp), (.int ee), (.ref en), .null] h0 (fun v h L => v = none ∧ Fr n0 L ∧ Keep h0 h [t] ∧ ∃ ca, h0.size ≤ ca ∧ Fld Z h t "com/example/libsymtree/libsymtree/theory/TextCursor" "chars" "[C" (.ref ca) ∧ Fld Z h t "com/example/libsymtree/libsymtree/theory/TextCursor" "position" "I" (.int pp) ∧ Fld Z h t "com/example/libsymtree/libsymtree/theory/TextCursor" "end" "I" (.int ee) ∧ Arl Z h ca .char [(.int x0), (.int x1), (.int x2), (.int x3)]) := by
  refine Ctr.mk (plainFor_of_name pn_4) (ls := #[.val (.ref t), .val (.ref q), .val (.int pp), .val (.int ee), .val (.ref en), .val .null]) (fun m => by first | (simp [entryFrame, mkF, argsToLocals, Value.category]; done) | rfl) ?_
  intro p e s m below meth c T C X eT hs0
  have N := Fr.nil n0
  have KP := Keep.refl h0 [t]
  show Go p e below _ (T.setTop (mkF m 0 #[.val (.ref t), .val (.ref q), .val (.int pp), .val (.int ee), .val (.ref en), .val .null] []))
  refine Go.aloadN C X d8_0 (n := 1) rfl rfl rfl ?_
  refine Go.initO C X eT (W := 0) (wd hw 43 rfl) (wd hw 13 rfl) (wd hw 14 rfl) d8_1 (n := 4) rfl rfl (by decide) rfl (by decide) ?_
  clear X eT
  intro T X eT
  refine Go.aloadN C X d8_4 (n := 5) rfl rfl rfl ?_
  refine Go.aloadN C X d8_5 (n := 6) rfl rfl rfl ?_
  refine Go.putF C X eT (wd hw 44 rfl) Via.refl F_t_text E_t (Or.inl (wd hw 45 rfl)) (wd hw 32 rfl) (ty := (.object "java/lang/String")) (by decide) rfl rfl d8_6 (n := 9) rfl ?_
  clear X eT
  intro T h X eT W
  replace E_t := E_t.wr W
  replace S_q := S_q.other W ne_q_t ne_b_t
  replace KP := KP.wr W (Or.inl (List.mem_of_getElem? (i := 0) rfl))
  replace O := O.wr W g_t
  replace F_t_text := F_t_text.same W
  replace F_t_chars := F_t_chars.other W (Or.inr (slot_ne (Or.inl (wd hw 64 rfl)) (Or.inl (wd hw 45 rfl)) (by decide) (t := (.array .char)) (t' := (.object "java/lang/String")) (by decide) (by decide)))
  replace F_t_position := F_t_position.other W (Or.inr (slot_ne (Or.inl (wd hw 66 rfl)) (Or.inl (wd hw 45 rfl)) (by decide) (t := .int) (t' := (.object "java/lang/String")) (by decide) (by decide)))
  replace F_t_end := F_t_end.other W (Or.inr (slot_ne (Or.inl (wd hw 68 rfl)) (Or.inl (wd hw 45 rfl)) (by decide) (t := .int) (t' := (.object "java/lang/String")) (by decide) (by decide)))
  replace F_t_endName := F_t_endName.other W (Or.inr (slot_ne (Or.inr (wd hw 70 rfl)) (Or.inl (wd hw 45 rfl)) (by decide) (t := (.object "java/lang/String")) (t' := (.object "java/lang/String")) (by decide) (by decide)))
  replace F_t_lines := F_t_lines.other W (Or.inr (slot_ne (Or.inr (wd hw 72 rfl)) (Or.inl (wd hw 45 rfl)) (by decide) (t := (.object "com/example/libsymtree/libsymtree/theory/TextCursor$Lines")) (t' := (.object "java/lang/String")) (by decide) (by decide)))
  replace N := Fr.snoc X N g_t
  refine Go.aloadN C X d8_9 (n := 10) rfl rfl rfl ?_
  refine Go.aloadN C X d8_10 (n := 11) rfl rfl rfl ?_
  have E_q := S_q.1
  refine Go.virt C X eT (argsL := []) (rest := [(.ref t)]) (a := q) (tca l Z a0 hw n0 _ cs SZ hcs S1 S2 S3 sf hsf S4 q b x0 x1 x2 x3 r0 r1 r2 r3 O S_q) (wd hw 46 rfl) (wd hw 47 rfl) (notFace_of_selects (args := #[]) (mvT C.hZ (wd hw 49 rfl))) (wd hw 49 rfl) (wd hw 48 rfl) (wd hw 4 rfl) (wd hw 50 rfl) (by decide) E_q (lenOf pd_16 rfl) rfl d8_11 (n := 14) rfl rfl (by decide) (W := 1) rfl (by decide) (by decide) (by decide) ?_
  clear X eT
  intro T h v L X eT hQ
  obtain ⟨ca, rfl, Nq, KK, s_ca, V_ca⟩ := hQ
  replace N := N.app Nq
  have ne_t_ca : t ≠ ca := Nat.ne_of_lt (Nat.lt_of_lt_of_le E_t.lt s_ca)
  have ne_q_ca : q ≠ ca := Nat.ne_of_lt (Nat.lt_of_lt_of_le S_q.lt1 s_ca)
  have ne_b_ca : b ≠ ca := Nat.ne_of_lt (Nat.lt_of_lt_of_le S_q.lt2 s_ca)
  have g_ca : n0 ≤ ca := Nat.le_trans O.le s_ca
  have sz_ca : h0.size ≤ ca := Nat.le_trans KP.1 s_ca
  replace E_t := E_t.keep KK
  replace S_q := S_q.keep KK nin0 nin0
  replace KP := KP.trans KK all0
  replace O := O.keep KK all0
  replace F_t_text := F_t_text.keep KK nin0
  replace F_t_chars := F_t_chars.keep KK nin0
  replace F_t_position := F_t_position.keep KK nin0
  replace F_t_end := F_t_end.keep KK nin0
  replace F_t_endName := F_t_endName.keep KK nin0
  replace F_t_lines := F_t_lines.keep KK nin0
  replace E_q := E_q.keep KK
  show Go p e below _ (T.setTop (mkF m 14 #[.val (.ref t), .val (.ref q), .val (.int pp), .val (.int ee), .val (.ref en), .val .null] [(.ref ca), (.ref t)]))
  refine Go.putF C X eT (wd hw 63 rfl) Via.refl F_t_chars E_t (Or.inl (wd hw 64 rfl)) (wd hw 32 rfl) (ty := (.array .char)) (by decide) rfl rfl d8_14 (n := 17) rfl ?_
  clear X eT
  intro T h X eT W
  replace E_t := E_t.wr W
  replace S_q := S_q.other W ne_q_t ne_b_t
  replace KP := KP.wr W (Or.inl (List.mem_of_getElem? (i := 0) rfl))
  replace O := O.wr W g_t
  replace F_t_text := F_t_text.other W (Or.inr (slot_ne (Or.inl (wd hw 45 rfl)) (Or.inl (wd hw 64 rfl)) (by decide) (t := (.object "java/lang/String")) (t' := (.array .char)) (by decide) (by decide)))
  replace F_t_chars := F_t_chars.same W
  replace F_t_position := F_t_position.other W (Or.inr (slot_ne (Or.inl (wd hw 66 rfl)) (Or.inl (wd hw 64 rfl)) (by decide) (t := .int) (t' := (.array .char)) (by decide) (by decide)))
  replace F_t_end := F_t_end.other W (Or.inr (slot_ne (Or.inl (wd hw 68 rfl)) (Or.inl (wd hw 64 rfl)) (by decide) (t := .int) (t' := (.array .char)) (by decide) (by decide)))
  replace F_t_endName := F_t_endName.other W (Or.inr (slot_ne (Or.inr (wd hw 70 rfl)) (Or.inl (wd hw 64 rfl)) (by decide) (t := (.object "java/lang/String")) (t' := (.array .char)) (by decide) (by decide)))
  replace F_t_lines := F_t_lines.other W (Or.inr (slot_ne (Or.inr (wd hw 72 rfl)) (Or.inl (wd hw 64 rfl)) (by decide) (t := (.object "com/example/libsymtree/libsymtree/theory/TextCursor$Lines")) (t' := (.array .char)) (by decide) (by decide)))
  replace V_ca := V_ca.other W (Ne.symm ne_t_ca)
  replace N := Fr.snoc X N g_t
  refine Go.aloadN C X d8_17 (n := 18) rfl rfl rfl ?_
  refine Go.iloadN C X d8_18 (n := 19) rfl rfl ?_
  refine Go.putF C X eT (wd hw 65 rfl) Via.refl F_t_position E_t (Or.inl (wd hw 66 rfl)) (wd hw 32 rfl) (ty := .int) (by decide) rfl rfl d8_19 (n := 22) rfl ?_
  clear X eT
  intro T h X eT W
  replace E_t := E_t.wr W
  replace S_q := S_q.other W ne_q_t ne_b_t
  replace KP := KP.wr W (Or.inl (List.mem_of_getElem? (i := 0) rfl))
  replace O := O.wr W g_t
  replace F_t_text := F_t_text.other W (Or.inr (slot_ne (Or.inl (wd hw 45 rfl)) (Or.inl (wd hw 66 rfl)) (by decide) (t := (.object "java/lang/String")) (t' := .int) (by decide) (by decide)))
  replace F_t_chars := F_t_chars.other W (Or.inr (slot_ne (Or.inl (wd hw 64 rfl)) (Or.inl (wd hw 66 rfl)) (by decide) (t := (.array .char)) (t' := .int) (by decide) (by decide)))
  replace F_t_position := F_t_position.same W
  replace F_t_end := F_t_end.other W (Or.inr (slot_ne (Or.inl (wd hw 68 rfl)) (Or.inl (wd hw 66 rfl)) (by decide) (t := .int) (t' := .int) (by decide) (by decide)))
  replace F_t_endName := F_t_endName.other W (Or.inr (slot_ne (Or.inr (wd hw 70 rfl)) (Or.inl (wd hw 66 rfl)) (by decide) (t := (.object "java/lang/String")) (t' := .int) (by decide) (by decide)))
  replace F_t_lines := F_t_lines.other W (Or.inr (slot_ne (Or.inr (wd hw 72 rfl)) (Or.inl (wd hw 66 rfl)) (by decide) (t := (.object "com/example/libsymtree/libsymtree/theory/TextCursor$Lines")) (t' := .int) (by decide) (by decide)))
  replace V_ca := V_ca.other W (Ne.symm ne_t_ca)
  replace N := Fr.snoc X N g_t
  refine Go.aloadN C X d8_22 (n := 23) rfl rfl rfl ?_
  refine Go.iloadN C X d8_23 (n := 24) rfl rfl ?_
  refine Go.putF C X eT (wd hw 67 rfl) Via.refl F_t_end E_t (Or.inl (wd hw 68 rfl)) (wd hw 32 rfl) (ty := .int) (by decide) rfl rfl d8_24 (n := 27) rfl ?_
  clear X eT
  intro T h X eT W
  replace E_t := E_t.wr W
  replace S_q := S_q.other W ne_q_t ne_b_t
  replace KP := KP.wr W (Or.inl (List.mem_of_getElem? (i := 0) rfl))
  replace O := O.wr W g_t
  replace F_t_text := F_t_text.other W (Or.inr (slot_ne (Or.inl (wd hw 45 rfl)) (Or.inl (wd hw 68 rfl)) (by decide) (t := (.object "java/lang/String")) (t' := .int) (by decide) (by decide)))
  replace F_t_chars := F_t_chars.other W (Or.inr (slot_ne (Or.inl (wd hw 64 rfl)) (Or.inl (wd hw 68 rfl)) (by decide) (t := (.array .char)) (t' := .int) (by decide) (by decide)))
  replace F_t_position := F_t_position.other W (Or.inr (slot_ne (Or.inl (wd hw 66 rfl)) (Or.inl (wd hw 68 rfl)) (by decide) (t := .int) (t' := .int) (by decide) (by decide)))
  replace F_t_end := F_t_end.same W
  replace F_t_endName := F_t_endName.other W (Or.inr (slot_ne (Or.inr (wd hw 70 rfl)) (Or.inl (wd hw 68 rfl)) (by decide) (t := (.object "java/lang/String")) (t' := .int) (by decide) (by decide)))
  replace F_t_lines := F_t_lines.other W (Or.inr (slot_ne (Or.inr (wd hw 72 rfl)) (Or.inl (wd hw 68 rfl)) (by decide) (t := (.object "com/example/libsymtree/libsymtree/theory/TextCursor$Lines")) (t' := .int) (by decide) (by decide)))
  replace V_ca := V_ca.other W (Ne.symm ne_t_ca)
  replace N := Fr.snoc X N g_t
  refine Go.aloadN C X d8_27 (n := 28) rfl rfl rfl ?_
  refine Go.aload C X d8_28 (n := 30) rfl rfl rfl ?_
  refine Go.putF C X eT (wd hw 69 rfl) Via.refl F_t_endName E_t (Or.inr ⟨(wd hw 70 rfl), rfl, rfl⟩) (wd hw 32 rfl) (ty := (.object "java/lang/String")) (by decide) rfl rfl d8_30 (n := 33) rfl ?_
  clear X eT
  intro T h X eT W
  replace E_t := E_t.wr W
  replace S_q := S_q.other W ne_q_t ne_b_t
  replace KP := KP.wr W (Or.inl (List.mem_of_getElem? (i := 0) rfl))
  replace O := O.wr W g_t
  replace F_t_text := F_t_text.other W (Or.inr (slot_ne (Or.inl (wd hw 45 rfl)) (Or.inr (wd hw 70 rfl)) (by decide) (t := (.object "java/lang/String")) (t' := (.object "java/lang/String")) (by decide) (by decide)))
  replace F_t_chars := F_t_chars.other W (Or.inr (slot_ne (Or.inl (wd hw 64 rfl)) (Or.inr (wd hw 70 rfl)) (by decide) (t := (.array .char)) (t' := (.object "java/lang/String")) (by decide) (by decide)))
  replace F_t_position := F_t_position.other W (Or.inr (slot_ne (Or.inl (wd hw 66 rfl)) (Or.inr (wd hw 70 rfl)) (by decide) (t := .int) (t' := (.object "java/lang/String")) (by decide) (by decide)))
  replace F_t_end := F_t_end.other W (Or.inr (slot_ne (Or.inl (wd hw 68 rfl)) (Or.inr (wd hw 70 rfl)) (by decide) (t := .int) (t' := (.object "java/lang/String")) (by decide) (by decide)))
  replace F_t_endName := F_t_endName.same W
  replace F_t_lines := F_t_lines.other W (Or.inr (slot_ne (Or.inr (wd hw 72 rfl)) (Or.inr (wd hw 70 rfl)) (by decide) (t := (.object "com/example/libsymtree/libsymtree/theory/TextCursor$Lines")) (t' := (.object "java/lang/String")) (by decide) (by decide)))
  replace V_ca := V_ca.other W (Ne.symm ne_t_ca)
  replace N := Fr.snoc X N g_t
  refine Go.aloadN C X d8_33 (n := 34) rfl rfl rfl ?_
  refine Go.aload C X d8_34 (n := 36) rfl rfl rfl ?_
  refine Go.putF C X eT (wd hw 71 rfl) Via.refl F_t_lines E_t (Or.inr ⟨(wd hw 72 rfl), rfl, rfl⟩) (wd hw 32 rfl) (ty := (.object "com/example/libsymtree/libsymtree/theory/TextCursor$Lines")) (by decide) rfl rfl d8_36 (n := 39) rfl ?_
  clear X eT
  intro T h X eT W
  replace E_t := E_t.wr W
  replace S_q := S_q.other W ne_q_t ne_b_t
  replace KP := KP.wr W (Or.inl (List.mem_of_getElem? (i := 0) rfl))
  replace O := O.wr W g_t
  replace F_t_text := F_t_text.other W (Or.inr (slot_ne (Or.inl (wd hw 45 rfl)) (Or.inr (wd hw 72 rfl)) (by decide) (t := (.object "java/lang/String")) (t' := (.object "com/example/libsymtree/libsymtree/theory/TextCursor$Lines")) (by decide) (by decide)))
  replace F_t_chars := F_t_chars.other W (Or.inr (slot_ne (Or.inl (wd hw 64 rfl)) (Or.inr (wd hw 72 rfl)) (by decide) (t := (.array .char)) (t' := (.object "com/example/libsymtree/libsymtree/theory/TextCursor$Lines")) (by decide) (by decide)))
  replace F_t_position := F_t_position.other W (Or.inr (slot_ne (Or.inl (wd hw 66 rfl)) (Or.inr (wd hw 72 rfl)) (by decide) (t := .int) (t' := (.object "com/example/libsymtree/libsymtree/theory/TextCursor$Lines")) (by decide) (by decide)))
  replace F_t_end := F_t_end.other W (Or.inr (slot_ne (Or.inl (wd hw 68 rfl)) (Or.inr (wd hw 72 rfl)) (by decide) (t := .int) (t' := (.object "com/example/libsymtree/libsymtree/theory/TextCursor$Lines")) (by decide) (by decide)))
  replace F_t_endName := F_t_endName.other W (Or.inr (slot_ne (Or.inr (wd hw 70 rfl)) (Or.inr (wd hw 72 rfl)) (by decide) (t := (.object "java/lang/String")) (t' := (.object "com/example/libsymtree/libsymtree/theory/TextCursor$Lines")) (by decide) (by decide)))
  replace F_t_lines := F_t_lines.same W
  replace V_ca := V_ca.other W (Ne.symm ne_t_ca)
  replace N := Fr.snoc X N g_t
  refine Go.ret0 C X eT d8_39 (by decide) (by decide) ?_
  exact ⟨rfl, N, KP, ca, sz_ca, F_t_chars, F_t_position, F_t_end, V_ca⟩
theorem pd_17 : parseMethodDescriptor "(Ljava/lang/String;IILjava/lang/String;Lcom/example/libsymtree/libsymtree/theory/TextCursor$Lines;)V" = some ⟨[(.object "java/lang/String"), .int, .int, (.object "java/lang/String"), (.object "com/example/libsymtree/libsymtree/theory/TextCursor$Lines")], none⟩ := by decide +kernel
theorem d7_0 : decode prog_86_method_1_code 0 = .ok (.aload_n 0, 1) := by decide +kernel
theorem d7_1 : decode prog_86_method_1_code 1 = .ok (.aload_n 1, 1) := by decide +kernel
theorem d7_2 : decode prog_86_method_1_code 2 = .ok (.iload_n 2, 1) := by decide +kernel
theorem d7_3 : decode prog_86_method_1_code 3 = .ok (.iload_n 3, 1) := by decide +kernel
theorem d7_4 : decode prog_86_method_1_code 4 = .ok (.aload 4, 2) := by decide +kernel
theorem d7_6 : decode prog_86_method_1_code 6 = .ok (.aconst_null, 1) := by decide +kernel
theorem d7_7 : decode prog_86_method_1_code 7 = .ok (.invokespecial 1, 3) := by decide +kernel
theorem d7_10 : decode prog_86_method_1_code 10 = .ok (.return_, 1) := by decide +kernel
set_option maxRecDepth 65536 in
set_option maxHeartbeats 40000000 in
theorem rm7 (l : Launch) (Z : State) (a0 : Array Value) (hw : ∀ d ∈ (tables_1 ++ jdkStatics_1), d.before a0 Z = true) (n0 : Nat) (h0 : Heap) (cs : Int32) (SZ : Sta Z Z.heap "java/lang/String" "COMPACT_STRINGS" "Z" (.int cs)) (hcs : cs ≠ 0) (S1 : Sta Z Z.heap "java/lang/StringUTF16" "$assertionsDisabled" "Z" (.int 1)) (S2 : Sta Z Z.heap "java/lang/StringUTF16" "HI_BYTE_SHIFT" "I" (.int 0)) (S3 : Sta Z Z.heap "java/lang/StringUTF16" "LO_BYTE_SHIFT" "I" (.int 8)) (sf : Value) (hsf : sf.isRef = true) (S4 : Sta Z Z.heap "jdk/internal/util/Preconditions" "SIOOBE_FORMATTER" "Ljava/util/function/BiFunction;" sf) (t q b en : Addr) (x0 x1 x2 x3 : Int32) (r0 : 0 ≤ x0.toInt ∧ x0.toInt < 65536) (r1 : 0 ≤ x1.toInt ∧ x1.toInt < 65536) (r2 : 0 ≤ x2.toInt ∧ x2.toInt < 65536) (r3 : 0 ≤ x3.toInt ∧ x3.toInt < 65536) (pp ee : Int32) (g_t : n0 ≤ t) (ne_q_t : q ≠ t) (ne_b_t : b ≠ t) (O : Old Z n0 h0) (S_q : StrB Z h0 q b x0 x1 x2 x3) (E_t : Exa Z h0 t "com/example/libsymtree/libsymtree/theory/TextCursor") (F_t_text : Fld Z h0 t "com/example/libsymtree/libsymtree/theory/TextCursor" "text" "Ljava/lang/String;" .null) (F_t_chars : Fld Z h0 t "com/example/libsymtree/libsymtree/theory/TextCursor" "chars" "[C" .null) (F_t_position : Fld Z h0 t "com/example/libsymtree/libsymtree/theory/TextCursor" "position" "I" (.int 0)) (F_t_end : Fld Z h0 t "com/example/libsymtree/libsymtree/theory/TextCursor" "end" "I" (.int 0)) (F_t_endName : Fld Z h0 t "com/example/libsymtree/libsymtree/theory/TextCursor" "endName" "Ljava/lang/String;" .null) (F_t_lines : Fld Z h0 t "com/example/libsymtree/libsymtree/theory/TextCursor" "lines" "Lcom/example/libsymtree/libsymtree/theory/TextCursor$Lines;" .null) :
    Ctr l Z (⟨"com/example/libsymtree/libsymtree/theory/TextCursor", "<init>", "(Ljava/lang/String;IILjava/lang/String;)V"⟩ : MethodName) prog_86_method_1_code 5 none ({ frames := 7, cells := 1, slots := 4, locals := 103 } : Room) #[(.ref t), (.ref q), (.int pp), (.int ee), (.ref en)] h0 (fun v h L => v = none ∧ Fr n0 L ∧ Keep h0 h [t] ∧ ∃ ca, h0.size ≤ ca ∧ Fld Z h t "com/example/libsymtree/libsymtree/theory/TextCursor" "chars" "[C" (.ref ca) ∧ Fld Z h t "com/example/libsymtree/libsymtree/theory/TextCursor" "position" "I" (.int pp) ∧ Fld Z h t "com/example/libsymtree/libsymtree/theory/TextCursor" "end" "I" (.int ee) ∧ Arl Z h ca .char [(.int x0), (.int x1), (.int x2), (.int x3)]) := by
  refine Ctr.mk (plainFor_of_name pn_4) (ls := #[.val (.ref t), .val (.ref q), .val (.int pp), .val (.int ee), .val (.ref en)]) (fun m => by first | (simp [entryFrame, mkF, argsToLocals, Value.category]; done) | rfl) ?_
  intro p e s m below meth c T C X eT hs0
  have N := Fr.nil n0
  have KP := Keep.refl h0 [t]
  show Go p e below _ (T.setTop (mkF m 0 #[.val (.ref t), .val (.ref q), .val (.int pp), .val (.int ee), .val (.ref en)] []))
  refine Go.aloadN C X d7_0 (n := 1) rfl rfl rfl ?_
  refine Go.aloadN C X d7_1 (n := 2) rfl rfl rfl ?_
  refine Go.iloadN C X d7_2 (n := 3) rfl rfl ?_
  refine Go.iloadN C X d7_3 (n := 4) rfl rfl ?_
  refine Go.aload C X d7_4 (n := 6) rfl rfl rfl ?_
  refine Go.aconstNull C X d7_6 (n := 7) rfl ?_
  refine Go.spec C X eT (argsL := [(.ref q), (.int pp), (.int ee), (.ref en), .null]) (rest := []) (a := t) (rm8 l Z a0 hw n0 _ cs SZ hcs S1 S2 S3 sf hsf S4 t q b en x0 x1 x2 x3 r0 r1 r2 r3 pp ee g_t ne_q_t ne_b_t O S_q E_t F_t_text F_t_chars F_t_position F_t_end F_t_endName F_t_lines) rfl (wd hw 40 rfl) (wd hw 41 rfl) (wd hw 33 rfl) (wd hw 42 rfl) (by decide) (lenOf pd_17 rfl) rfl d7_7 (n := 10) rfl rfl (by decide) (W := 0) rfl (by decide) (by decide) (by decide) ?_
  clear X eT
  intro T h v L X eT hQ
  obtain ⟨rfl, Nq, KK, ca, s_ca, F_t_chars, F_t_position, F_t_end, V_ca⟩ := hQ
  replace N := N.app Nq
  replace E_t := E_t.keep KK
  replace S_q := S_q.keep KK (ninS ne_q_t nin0) (ninS ne_b_t nin0)
  replace KP := KP.trans KK (allS (Or.inl (List.mem_of_getElem? (i := 0) rfl)) all0)
  replace O := O.keep KK (allS g_t all0)
  show Go p e below _ (T.setTop (mkF m 10 #[.val (.ref t), .val (.ref q), .val (.int pp), .val (.int ee), .val (.ref en)] []))
  refine Go.ret0 C X eT d7_10 (by decide) (by decide) ?_
  exact ⟨rfl, N, KP, ca, s_ca, F_t_chars, F_t_position, F_t_end, V_ca⟩
theorem d13_0 : decode prog_86_method_11_code 0 = .ok (.aload_n 0, 1) := by decide +kernel
theorem d13_1 : decode prog_86_method_11_code 1 = .ok (.getfield 35, 3) := by decide +kernel
theorem d13_4 : decode prog_86_method_11_code 4 = .ok (.aload_n 0, 1) := by decide +kernel
theorem d13_5 : decode prog_86_method_11_code 5 = .ok (.getfield 39, 3) := by decide +kernel
theorem d13_8 : decode prog_86_method_11_code 8 = .ok (.if_icmp .ge 20, 3) := by decide +kernel
theorem d13_11 : decode prog_86_method_11_code 11 = .ok (.aload_n 0, 1) := by decide +kernel
theorem d13_12 : decode prog_86_method_11_code 12 = .ok (.getfield 31, 3) := by decide +kernel
theorem d13_15 : decode prog_86_method_11_code 15 = .ok (.aload_n 0, 1) := by decide +kernel
theorem d13_16 : decode prog_86_method_11_code 16 = .ok (.getfield 35, 3) := by decide +kernel
theorem d13_19 : decode prog_86_method_11_code 19 = .ok (.caload, 1) := by decide +kernel
theorem d13_20 : decode prog_86_method_11_code 20 = .ok (.iload_n 1, 1) := by decide +kernel
theorem d13_21 : decode prog_86_method_11_code 21 = .ok (.if_icmp .ne 7, 3) := by decide +kernel
theorem d13_24 : decode prog_86_method_11_code 24 = .ok (.iconst 1, 1) := by decide +kernel
theorem d13_25 : decode prog_86_method_11_code 25 = .ok (.goto 4, 3) := by decide +kernel
theorem d13_28 : decode prog_86_method_11_code 28 = .ok (.iconst 0, 1) := by decide +kernel
theorem d13_29 : decode prog_86_method_11_code 29 = .ok (.istore_n 2, 1) := by decide +kernel
theorem d13_30 : decode prog_86_method_11_code 30 = .ok (.iload_n 2, 1) := by decide +kernel
theorem d13_31 : decode prog_86_method_11_code 31 = .ok (.ifCond .eq 13, 3) := by decide +kernel
theorem d13_34 : decode prog_86_method_11_code 34 = .ok (.aload_n 0, 1) := by decide +kernel
theorem d13_35 : decode prog_86_method_11_code 35 = .ok (.dup, 1) := by decide +kernel
theorem d13_36 : decode prog_86_method_11_code 36 = .ok (.getfield 35, 3) := by decide +kernel
theorem d13_39 : decode prog_86_method_11_code 39 = .ok (.iconst 1, 1) := by decide +kernel
theorem d13_40 : decode prog_86_method_11_code 40 = .ok (.iadd, 1) := by decide +kernel
theorem d13_41 : decode prog_86_method_11_code 41 = .ok (.putfield 35, 3) := by decide +kernel
theorem d13_44 : decode prog_86_method_11_code 44 = .ok (.iload_n 2, 1) := by decide +kernel
theorem d13_45 : decode prog_86_method_11_code 45 = .ok (.ireturn, 1) := by decide +kernel
set_option maxRecDepth 65536 in
set_option maxHeartbeats 40000000 in
theorem cons_y (l : Launch) (Z : State) (a0 : Array Value) (hw : ∀ d ∈ (tables_1 ++ jdkStatics_1), d.before a0 Z = true) (n0 : Nat) (h0 : Heap) (t ca : Addr) (x0 x1 x2 x3 : Int32) (pp ee cc : Int32) (hp : 0 ≤ pp.toInt) (he : ee.toInt ≤ 4) (g_t : n0 ≤ t) (ne_ca_t : ca ≠ t) (E_t : Exa Z h0 t "com/example/libsymtree/libsymtree/theory/TextCursor") (F_t_chars : Fld Z h0 t "com/example/libsymtree/libsymtree/theory/TextCursor" "chars" "[C" (.ref ca)) (F_t_position : Fld Z h0 t "com/example/libsymtree/libsymtree/theory/TextCursor" "position" "I" (.int pp)) (F_t_end : Fld Z h0 t "com/example/libsymtree/libsymtree/theory/TextCursor" "end" "I" (.int ee)) (V_ca : Arl Z h0 ca .char [(.int x0), (.int x1), (.int x2), (.int x3)]) (hk : (pp < ee ∧ chA x0 x1 x2 x3 pp = cc)) :
    Ctr l Z (⟨"com/example/libsymtree/libsymtree/theory/TextCursor", "consume", "(C)Z"⟩ : MethodName) prog_86_method_11_code 3 (some .boolean) ({ frames := 0, cells := 0, slots := 0, locals := 0 } : Room) #[(.ref t), (.int cc)] h0 (fun v h L => v = some (.int 1) ∧ Fr n0 L ∧ Keep h0 h [t] ∧ Fld Z h t "com/example/libsymtree/libsymtree/theory/TextCursor" "position" "I" (.int (pp + (1 : Int32))) ∧ Fld Z h t "com/example/libsymtree/libsymtree/theory/TextCursor" "chars" "[C" (.ref ca) ∧ Fld Z h t "com/example/libsymtree/libsymtree/theory/TextCursor" "end" "I" (.int ee)) := by
  refine Ctr.mk (plainFor_of_name pn_4) (ls := #[.val (.ref t), .val (.int cc), .unset]) (fun m => by first | (simp [entryFrame, mkF, argsToLocals, Value.category]; done) | rfl) ?_
  intro p e s m below meth c T C X eT hs0
  have N := Fr.nil n0
  have KP := Keep.refl h0 [t]
  show Go p e below _ (T.setTop (mkF m 0 #[.val (.ref t), .val (.int cc), .unset] []))
  refine Go.aloadN C X d13_0 (n := 1) rfl rfl rfl ?_
  refine Go.getF C X eT (wd hw 65 rfl) Via.refl F_t_position d13_1 (n := 4) rfl ?_
  clear X eT
  intro T X eT
  refine Go.aloadN C X d13_4 (n := 5) rfl rfl rfl ?_
  refine Go.getF C X eT (wd hw 67 rfl) Via.refl F_t_end d13_5 (n := 8) rfl ?_
  clear X eT
  intro T X eT
  refine Go.icmp_ge C X d13_8 (n1 := 28) (n2 := 11) (by decide) (by decide) rfl (fun hc8 => ?_) (fun hc8 => ?_)
  · exact absurd hk.1 hc8
  · refine Go.aloadN C X d13_11 (n := 12) rfl rfl rfl ?_
    refine Go.getF C X eT (wd hw 63 rfl) Via.refl F_t_chars d13_12 (n := 15) rfl ?_
    clear X eT
    intro T X eT
    refine Go.aloadN C X d13_15 (n := 16) rfl rfl rfl ?_
    refine Go.getF C X eT (wd hw 65 rfl) Via.refl F_t_position d13_16 (n := 19) rfl ?_
    clear X eT
    intro T X eT
    refine Go.caloadL C X eT V_ca (i := pp.toInt.toNat) (own_ix hp) (v := .int (chA x0 x1 x2 x3 pp)) (own_at4 x0 x1 x2 x3 hp (own_lt4 hc8 he)) d13_19 (n := 20) rfl ?_
    refine Go.iloadN C X d13_20 (n := 21) rfl rfl ?_
    refine Go.icmp_ne C X d13_21 (n1 := 28) (n2 := 24) (by decide) (by decide) rfl (fun hc21 => ?_) (fun hc21 => ?_)
    · exact absurd hk.2 hc21
    · refine Go.iconst C X d13_24 (n := 25) rfl (v := (1 : Int32)) rfl ?_
      refine Go.goto C X d13_25 (n := 29) (by decide) (by decide) ?_
      refine Go.istoreN C X d13_29 (n := 30) rfl (l' := #[.val (.ref t), .val (.int cc), .val (.int (1 : Int32))]) rfl ?_
      refine Go.iloadN C X d13_30 (n := 31) rfl rfl ?_
      refine Go.if0_eq C X d13_31 (n1 := 44) (n2 := 34) (by decide) (by decide) rfl (fun hc31 => ?_) (fun hc31 => ?_)
      · exact absurd hc31 (by decide)
      · refine Go.aloadN C X d13_34 (n := 35) rfl rfl rfl ?_
        refine Go.dup C X d13_35 (n := 36) rfl rfl ?_
        refine Go.getF C X eT (wd hw 65 rfl) Via.refl F_t_position d13_36 (n := 39) rfl ?_
        clear X eT
        intro T X eT
        refine Go.iconst C X d13_39 (n := 40) rfl (v := (1 : Int32)) rfl ?_
        refine Go.iadd C X d13_40 (n := 41) rfl ?_
        refine Go.putF C X eT (wd hw 65 rfl) Via.refl F_t_position E_t (Or.inl (wd hw 66 rfl)) (wd hw 32 rfl) (ty := .int) (by decide) rfl rfl d13_41 (n := 44) rfl ?_
        clear X eT
        intro T h X eT W
        replace E_t := E_t.wr W
        replace V_ca := V_ca.other W ne_ca_t
        replace KP := KP.wr W (Or.inl (List.mem_of_getElem? (i := 0) rfl))
        replace F_t_chars := F_t_chars.other W (Or.inr (slot_ne (Or.inl (wd hw 64 rfl)) (Or.inl (wd hw 66 rfl)) (by decide) (t := (.array .char)) (t' := .int) (by decide) (by decide)))
        replace F_t_position := F_t_position.same W
        replace F_t_end := F_t_end.other W (Or.inr (slot_ne (Or.inl (wd hw 68 rfl)) (Or.inl (wd hw 66 rfl)) (by decide) (t := .int) (t' := .int) (by decide) (by decide)))
        replace N := Fr.snoc X N g_t
        refine Go.iloadN C X d13_44 (n := 45) rfl rfl ?_
        refine Go.retN C X eT (Or.inl rfl) (w := (1 : Int32)) (by decide) d13_45 (by decide) (by decide) ?_
        exact ⟨rfl, N, KP, F_t_position, F_t_chars, F_t_end⟩
set_option maxRecDepth 65536 in
set_option maxHeartbeats 40000000 in
theorem cons_n (l : Launch) (Z : State) (a0 : Array Value) (hw : ∀ d ∈ (tables_1 ++ jdkStatics_1), d.before a0 Z = true) (n0 : Nat) (h0 : Heap) (t ca : Addr) (x0 x1 x2 x3 : Int32) (pp ee cc : Int32) (hp : 0 ≤ pp.toInt) (he : ee.toInt ≤ 4) (g_t : n0 ≤ t) (ne_ca_t : ca ≠ t) (E_t : Exa Z h0 t "com/example/libsymtree/libsymtree/theory/TextCursor") (F_t_chars : Fld Z h0 t "com/example/libsymtree/libsymtree/theory/TextCursor" "chars" "[C" (.ref ca)) (F_t_position : Fld Z h0 t "com/example/libsymtree/libsymtree/theory/TextCursor" "position" "I" (.int pp)) (F_t_end : Fld Z h0 t "com/example/libsymtree/libsymtree/theory/TextCursor" "end" "I" (.int ee)) (V_ca : Arl Z h0 ca .char [(.int x0), (.int x1), (.int x2), (.int x3)]) (hk : ¬ (pp < ee ∧ chA x0 x1 x2 x3 pp = cc)) :
    Ctr l Z (⟨"com/example/libsymtree/libsymtree/theory/TextCursor", "consume", "(C)Z"⟩ : MethodName) prog_86_method_11_code 3 (some .boolean) ({ frames := 0, cells := 0, slots := 0, locals := 0 } : Room) #[(.ref t), (.int cc)] h0 (fun v h L => v = some (.int 0) ∧ L = [] ∧ h = h0) := by
  refine Ctr.mk (plainFor_of_name pn_4) (ls := #[.val (.ref t), .val (.int cc), .unset]) (fun m => by first | (simp [entryFrame, mkF, argsToLocals, Value.category]; done) | rfl) ?_
  intro p e s m below meth c T C X eT hs0
  have N := Fr.nil n0
  have KP := Keep.refl h0 [t]
  show Go p e below _ (T.setTop (mkF m 0 #[.val (.ref t), .val (.int cc), .unset] []))
  refine Go.aloadN C X d13_0 (n := 1) rfl rfl rfl ?_
  refine Go.getF C X eT (wd hw 65 rfl) Via.refl F_t_position d13_1 (n := 4) rfl ?_
  clear X eT
  intro T X eT
  refine Go.aloadN C X d13_4 (n := 5) rfl rfl rfl ?_
  refine Go.getF C X eT (wd hw 67 rfl) Via.refl F_t_end d13_5 (n := 8) rfl ?_
  clear X eT
  intro T X eT
  refine Go.icmp_ge C X d13_8 (n1 := 28) (n2 := 11) (by decide) (by decide) rfl (fun hc8 => ?_) (fun hc8 => ?_)
  · refine Go.iconst C X d13_28 (n := 29) rfl (v := (0 : Int32)) rfl ?_
    refine Go.istoreN C X d13_29 (n := 30) rfl (l' := #[.val (.ref t), .val (.int cc), .val (.int (0 : Int32))]) rfl ?_
    refine Go.iloadN C X d13_30 (n := 31) rfl rfl ?_
    refine Go.if0_eq C X d13_31 (n1 := 44) (n2 := 34) (by decide) (by decide) rfl (fun hc31 => ?_) (fun hc31 => ?_)
    · refine Go.iloadN C X d13_44 (n := 45) rfl rfl ?_
      refine Go.retN C X eT (Or.inl rfl) (w := (0 : Int32)) (by decide) d13_45 (by decide) (by decide) ?_
      exact ⟨rfl, rfl, rfl⟩
    · exact absurd hc31 (by decide)
  · refine Go.aloadN C X d13_11 (n := 12) rfl rfl rfl ?_
    refine Go.getF C X eT (wd hw 63 rfl) Via.refl F_t_chars d13_12 (n := 15) rfl ?_
    clear X eT
    intro T X eT
    refine Go.aloadN C X d13_15 (n := 16) rfl rfl rfl ?_
    refine Go.getF C X eT (wd hw 65 rfl) Via.refl F_t_position d13_16 (n := 19) rfl ?_
    clear X eT
    intro T X eT
    refine Go.caloadL C X eT V_ca (i := pp.toInt.toNat) (own_ix hp) (v := .int (chA x0 x1 x2 x3 pp)) (own_at4 x0 x1 x2 x3 hp (own_lt4 hc8 he)) d13_19 (n := 20) rfl ?_
    refine Go.iloadN C X d13_20 (n := 21) rfl rfl ?_
    refine Go.icmp_ne C X d13_21 (n1 := 28) (n2 := 24) (by decide) (by decide) rfl (fun hc21 => ?_) (fun hc21 => ?_)
    · refine Go.iconst C X d13_28 (n := 29) rfl (v := (0 : Int32)) rfl ?_
      refine Go.istoreN C X d13_29 (n := 30) rfl (l' := #[.val (.ref t), .val (.int cc), .val (.int (0 : Int32))]) rfl ?_
      refine Go.iloadN C X d13_30 (n := 31) rfl rfl ?_
      refine Go.if0_eq C X d13_31 (n1 := 44) (n2 := 34) (by decide) (by decide) rfl (fun hc31 => ?_) (fun hc31 => ?_)
      · refine Go.iloadN C X d13_44 (n := 45) rfl rfl ?_
        refine Go.retN C X eT (Or.inl rfl) (w := (0 : Int32)) (by decide) d13_45 (by decide) (by decide) ?_
        exact ⟨rfl, rfl, rfl⟩
      · exact absurd hc31 (by decide)
    · exact absurd ⟨hc8, hc21⟩ hk
theorem d14_0 : decode prog_86_method_6_code 0 = .ok (.aload_n 0, 1) := by decide +kernel
theorem d14_1 : decode prog_86_method_6_code 1 = .ok (.getfield 35, 3) := by decide +kernel
theorem d14_4 : decode prog_86_method_6_code 4 = .ok (.ireturn, 1) := by decide +kernel
set_option maxRecDepth 65536 in
set_option maxHeartbeats 40000000 in
theorem pos (l : Launch) (Z : State) (a0 : Array Value) (hw : ∀ d ∈ (tables_1 ++ jdkStatics_1), d.before a0 Z = true) (n0 : Nat) (h0 : Heap) (t : Addr) (pp : Int32) (F : Fld Z h0 t "com/example/libsymtree/libsymtree/theory/TextCursor" "position" "I" (.int pp)) :
    Ctr l Z (⟨"com/example/libsymtree/libsymtree/theory/TextCursor", "position", "()I"⟩ : MethodName) prog_86_method_6_code 1 (some .int) ({ frames := 0, cells := 0, slots := 0, locals := 0 } : Room) #[(.ref t)] h0 (fun v h L => v = some (.int pp) ∧ L = [] ∧ h = h0) := by
  refine Ctr.mk (plainFor_of_name pn_4) (ls := #[.val (.ref t)]) (fun m => by first | (simp [entryFrame, mkF, argsToLocals, Value.category]; done) | rfl) ?_
  intro p e s m below meth c T C X eT hs0
  have N := Fr.nil n0
  show Go p e below _ (T.setTop (mkF m 0 #[.val (.ref t)] []))
  refine Go.aloadN C X d14_0 (n := 1) rfl rfl rfl ?_
  refine Go.getF C X eT (wd hw 65 rfl) Via.refl F d14_1 (n := 4) rfl ?_
  clear X eT
  intro T X eT
  refine Go.retI C X eT d14_4 (by decide) (by decide) ?_
  exact ⟨rfl, rfl, rfl⟩
theorem pf_15 : plainFor (⟨"java/lang/Math", "min", "(II)I"⟩ : MethodName) = true := by decide +kernel
theorem d15_0 : decode jdk_29_method_69_code 0 = .ok (.iload_n 0, 1) := by decide +kernel
theorem d15_1 : decode jdk_29_method_69_code 1 = .ok (.iload_n 1, 1) := by decide +kernel
theorem d15_2 : decode jdk_29_method_69_code 2 = .ok (.if_icmp .gt 7, 3) := by decide +kernel
theorem d15_5 : decode jdk_29_method_69_code 5 = .ok (.iload_n 0, 1) := by decide +kernel
theorem d15_6 : decode jdk_29_method_69_code 6 = .ok (.goto 4, 3) := by decide +kernel
theorem d15_9 : decode jdk_29_method_69_code 9 = .ok (.iload_n 1, 1) := by decide +kernel
theorem d15_10 : decode jdk_29_method_69_code 10 = .ok (.ireturn, 1) := by decide +kernel
set_option maxRecDepth 65536 in
set_option maxHeartbeats 40000000 in
theorem mn3 (l : Launch) (Z : State) (a0 : Array Value) (hw : ∀ d ∈ (tables_1 ++ jdkStatics_1), d.before a0 Z = true) (n0 : Nat) (h0 : Heap) (pp : Int32) (hp : 0 ≤ pp.toInt) :
    Ctr l Z (⟨"java/lang/Math", "min", "(II)I"⟩ : MethodName) jdk_29_method_69_code 2 (some .int) ({ frames := 0, cells := 0, slots := 0, locals := 0 } : Room) #[(.int pp), (.int (3 : Int32))] h0 (fun v h L => ∃ r : Int32, v = some (.int r) ∧ L = [] ∧ h = h0 ∧ 0 ≤ r.toInt ∧ r.toInt < 4) := by
  refine Ctr.mk pf_15 (ls := #[.val (.int pp), .val (.int (3 : Int32))]) (fun m => by first | (simp [entryFrame, mkF, argsToLocals, Value.category]; done) | rfl) ?_
  intro p e s m below meth c T C X eT hs0
  have N := Fr.nil n0
  show Go p e below _ (T.setTop (mkF m 0 #[.val (.int pp), .val (.int (3 : Int32))] []))
  refine Go.iloadN C X d15_0 (n := 1) rfl rfl ?_
  refine Go.iloadN C X d15_1 (n := 2) rfl rfl ?_
  refine Go.icmp_gt C X d15_2 (n1 := 9) (n2 := 5) (by decide) (by decide) rfl (fun hc2 => ?_) (fun hc2 => ?_)
  · refine Go.iloadN C X d15_9 (n := 10) rfl rfl ?_
    refine Go.retI C X eT d15_10 (by decide) (by decide) ?_
    exact ⟨_, rfl, rfl, rfl, by decide⟩
  · refine Go.iloadN C X d15_5 (n := 6) rfl rfl ?_
    refine Go.goto C X d15_6 (n := 10) (by decide) (by decide) ?_
    refine Go.retI C X eT d15_10 (by decide) (by decide) ?_
    exact ⟨_, rfl, rfl, rfl, hp, own_le3 hc2⟩
theorem pd_18 : parseMethodDescriptor "([C)V" = some ⟨[(.array .char)], none⟩ := by decide +kernel
theorem pd_19 : parseMethodDescriptor "(Ljava/lang/String;IILjava/lang/String;)V" = some ⟨[(.object "java/lang/String"), .int, .int, (.object "java/lang/String")], none⟩ := by decide +kernel
theorem pd_20 : parseMethodDescriptor "(C)Z" = some ⟨[.char], some .boolean⟩ := by decide +kernel
theorem pd_21 : parseMethodDescriptor "()I" = some ⟨[], some .int⟩ := by decide +kernel
theorem pd_22 : parseMethodDescriptor "(II)I" = some ⟨[.int, .int], some .int⟩ := by decide +kernel
theorem pn_5 : plainName "com/example/libsymtree/libsymtree/theory/TextCursorConsumePinLaw" = true := by first | (simp [plainName, overriddenIn]; done) | decide +kernel
set_option maxRecDepth 65536 in
set_option maxHeartbeats 40000000 in
theorem rm0 (l : Launch) (Z : State) (a0 : Array Value) (hw : ∀ d ∈ (tables_1 ++ jdkStatics_1), d.before a0 Z = true) (n0 : Nat) (h0 : Heap) (p0 p1 p2 p3 : Int32) (cs : Int32) (SZ : Sta Z Z.heap "java/lang/String" "COMPACT_STRINGS" "Z" (.int cs)) (hcs : cs ≠ 0) (S1 : Sta Z Z.heap "java/lang/StringUTF16" "$assertionsDisabled" "Z" (.int 1)) (S2 : Sta Z Z.heap "java/lang/StringUTF16" "HI_BYTE_SHIFT" "I" (.int 0)) (S3 : Sta Z Z.heap "java/lang/StringUTF16" "LO_BYTE_SHIFT" "I" (.int 8)) (sf : Value) (hsf : sf.isRef = true) (S4 : Sta Z Z.heap "jdk/internal/util/Preconditions" "SIOOBE_FORMATTER" "Ljava/util/function/BiFunction;" sf) (wS : ∀ a ∈ Bundle.stringAtoms, a.before a0 Z = true) (O : Old Z n0 h0) :
    CtrW l Z x code maxLocals ret room_1 #[(.int p0), (.int p1), (.int p2), (.int p3)] h0 (fun _ => True) (fun _ => True) (fun v h L => v = some (.int 1) ∧ Fr n0 L) := by
  refine CtrW.mk (plainFor_of_name pn_5) (ls := #[.val (.int p0), .val (.int p1), .val (.int p2), .val (.int p3), .unset, .unset, .unset, .unset, .unset, .unset, .unset, .unset, .unset, .unset, .unset, .unset, .unset, .unset, .unset]) (fun m => by first | (simp [entryFrame, mkF, argsToLocals, Value.category, maxLocals]; done) | rfl) ?_
  intro p e s0 s m below meth c T C X eT hs0 B I
  have N := Fr.nil n0
  show Go p e below _ (T.setTop (mkF m 0 #[.val (.int p0), .val (.int p1), .val (.int p2), .val (.int p3), .unset, .unset, .unset, .unset, .unset, .unset, .unset, .unset, .unset, .unset, .unset, .unset, .unset, .unset, .unset] []))
  refine Go.iconst C X at_0 (n := 1) rfl (v := (4 : Int32)) rfl ?_
  refine Go.newL C X eT (wd hw 0 rfl) (i := 4) rfl (cap := 4) (by decide) at_1 (n := 3) rfl (by decide) (by decide) (by decide) ?_
  clear X eT
  intro T h a z_a X eT E V_a
  have g_a : n0 ≤ a := by rw [z_a]; exact O.le
  replace O := O.ext E
  replace B := B.ext E
  replace V_a : Arl Z h a .char [(.int (0 : Int32)), (.int (0 : Int32)), (.int (0 : Int32)), (.int (0 : Int32))] := V_a
  refine Go.astore C X at_3 (n := 5) rfl rfl (l' := #[.val (.int p0), .val (.int p1), .val (.int p2), .val (.int p3), .val (.ref a), .unset, .unset, .unset, .unset, .unset, .unset, .unset, .unset, .unset, .unset, .unset, .unset, .unset, .unset]) rfl ?_
  refine Go.aload C X at_5 (n := 7) rfl rfl rfl ?_
  refine Go.iconst C X at_7 (n := 8) rfl (v := (0 : Int32)) rfl ?_
  refine Go.iloadN C X at_8 (n := 9) rfl rfl ?_
  refine Go.ldcI C X (wd hw 1 rfl) at_9 (n := 11) rfl ?_
  refine Go.iand C X at_11 (n := 12) rfl ?_
  refine Go.i2c C X at_12 (n := 13) rfl ?_
  refine Go.castoreL C X eT V_a (i := 0) rfl (by simp) at_13 (n := 14) rfl ?_
  clear X eT
  intro T h X eT W V_new
  replace O := O.wr W g_a
  replace B := B.wr W
  clear V_a
  obtain ⟨x0, qx⟩ : ∃ z, z = nar .char ((p0 &&& (65535 : Int32)).toUInt32.toUInt16.toUInt32.toInt32) := ⟨_, rfl⟩
  rw [← qx] at V_new
  have r0 : 0 ≤ x0.toInt ∧ x0.toInt < 65536 := by rw [qx]; exact own_ch _
  clear qx
  have V_a : Arl Z h a .char [(.int x0), (.int (0 : Int32)), (.int (0 : Int32)), (.int (0 : Int32))] := V_new
  clear V_new
  replace N := Fr.snoc X N g_a
  refine Go.aload C X at_14 (n := 16) rfl rfl rfl ?_
  refine Go.iconst C X at_16 (n := 17) rfl (v := (1 : Int32)) rfl ?_
  refine Go.iloadN C X at_17 (n := 18) rfl rfl ?_
  refine Go.bipush C X at_18 (n := 20) rfl (v := (16 : Int32)) rfl ?_
  refine Go.iushr C X at_20 (n := 21) rfl ?_
  refine Go.ldcI C X (wd hw 1 rfl) at_21 (n := 23) rfl ?_
  refine Go.iand C X at_23 (n := 24) rfl ?_
  refine Go.i2c C X at_24 (n := 25) rfl ?_
  refine Go.castoreL C X eT V_a (i := 1) rfl (by simp) at_25 (n := 26) rfl ?_
  clear X eT
  intro T h X eT W V_new
  replace O := O.wr W g_a
  replace B := B.wr W
  clear V_a
  obtain ⟨x1, qx⟩ : ∃ z, z = nar .char (((XT.ushr p0 (16 : Int32)) &&& (65535 : Int32)).toUInt32.toUInt16.toUInt32.toInt32) := ⟨_, rfl⟩
  rw [← qx] at V_new
  have r1 : 0 ≤ x1.toInt ∧ x1.toInt < 65536 := by rw [qx]; exact own_ch _
  clear qx
  have V_a : Arl Z h a .char [(.int x0), (.int x1), (.int (0 : Int32)), (.int (0 : Int32))] := V_new
  clear V_new
  replace N := Fr.snoc X N g_a
  refine Go.aload C X at_26 (n := 28) rfl rfl rfl ?_
  refine Go.iconst C X at_28 (n := 29) rfl (v := (2 : Int32)) rfl ?_
  refine Go.iloadN C X at_29 (n := 30) rfl rfl ?_
  refine Go.ldcI C X (wd hw 1 rfl) at_30 (n := 32) rfl ?_
  refine Go.iand C X at_32 (n := 33) rfl ?_
  refine Go.i2c C X at_33 (n := 34) rfl ?_
  refine Go.castoreL C X eT V_a (i := 2) rfl (by simp) at_34 (n := 35) rfl ?_
  clear X eT
  intro T h X eT W V_new
  replace O := O.wr W g_a
  replace B := B.wr W
  clear V_a
  obtain ⟨x2, qx⟩ : ∃ z, z = nar .char ((p1 &&& (65535 : Int32)).toUInt32.toUInt16.toUInt32.toInt32) := ⟨_, rfl⟩
  rw [← qx] at V_new
  have r2 : 0 ≤ x2.toInt ∧ x2.toInt < 65536 := by rw [qx]; exact own_ch _
  clear qx
  have V_a : Arl Z h a .char [(.int x0), (.int x1), (.int x2), (.int (0 : Int32))] := V_new
  clear V_new
  replace N := Fr.snoc X N g_a
  refine Go.aload C X at_35 (n := 37) rfl rfl rfl ?_
  refine Go.iconst C X at_37 (n := 38) rfl (v := (3 : Int32)) rfl ?_
  refine Go.iloadN C X at_38 (n := 39) rfl rfl ?_
  refine Go.bipush C X at_39 (n := 41) rfl (v := (16 : Int32)) rfl ?_
  refine Go.iushr C X at_41 (n := 42) rfl ?_
  refine Go.ldcI C X (wd hw 1 rfl) at_42 (n := 44) rfl ?_
  refine Go.iand C X at_44 (n := 45) rfl ?_
  refine Go.i2c C X at_45 (n := 46) rfl ?_
  refine Go.castoreL C X eT V_a (i := 3) rfl (by simp) at_46 (n := 47) rfl ?_
  clear X eT
  intro T h X eT W V_new
  replace O := O.wr W g_a
  replace B := B.wr W
  clear V_a
  obtain ⟨x3, qx⟩ : ∃ z, z = nar .char (((XT.ushr p1 (16 : Int32)) &&& (65535 : Int32)).toUInt32.toUInt16.toUInt32.toInt32) := ⟨_, rfl⟩
  rw [← qx] at V_new
  have r3 : 0 ≤ x3.toInt ∧ x3.toInt < 65536 := by rw [qx]; exact own_ch _
  clear qx
  have V_a : Arl Z h a .char [(.int x0), (.int x1), (.int x2), (.int x3)] := V_new
  clear V_new
  replace N := Fr.snoc X N g_a
  refine Go.newO C X eT (wd hw 2 rfl) (wd hw 3 rfl) (wd hw 4 rfl) at_47 (n := 50) rfl (by decide) (by decide) ?_
  clear X eT
  intro T h q z_q X eT E E_q D_
  have ne_a_q : a ≠ q := Nat.ne_of_lt (Nat.lt_of_lt_of_le V_a.lt (Nat.le_of_eq z_q.symm))
  have g_q : n0 ≤ q := by rw [z_q]; exact O.le
  replace O := O.ext E
  replace B := B.ext E
  replace V_a := V_a.ext E
  have F_q_coder : Fld Z h q "java/lang/String" "coder" "B" (.int (0 : Int32)) := D_ (Or.inr (wd hw 28 rfl)) (ty := .byte) (by decide)
  have F_q_value : Fld Z h q "java/lang/String" "value" "[B" .null := D_ (Or.inr (wd hw 30 rfl)) (ty := (.array .byte)) (by decide)
  refine Go.dup C X at_50 (n := 51) rfl rfl ?_
  refine Go.aload C X at_51 (n := 53) rfl rfl rfl ?_
  refine Go.spec C X eT (argsL := [(.ref a)]) (rest := [(.ref q)]) (a := q) (init1A l Z a0 hw n0 _ cs SZ hcs S1 S2 S3 q a g_q ne_a_q E_q F_q_value F_q_coder x0 x1 x2 x3 r0 r1 r2 r3 O V_a) rfl (wd hw 5 rfl) (wd hw 6 rfl) (wd hw 4 rfl) (wd hw 7 rfl) (by decide) (lenOf pd_18 rfl) rfl at_53 (n := 56) rfl rfl (by decide) (W := 1) rfl (by decide) (by decide) (by decide) ?_
  clear X eT
  intro T h v L X eT hQ
  obtain ⟨rfl, Nq, KK, b, s_b, S_q⟩ := hQ
  replace N := N.app Nq
  replace O := O.keep KK (allS g_q all0)
  replace B := B.keep KK
  replace V_a := V_a.keep KK (ninS ne_a_q nin0)
  show Go p e below _ (T.setTop (mkF m 56 #[.val (.int p0), .val (.int p1), .val (.int p2), .val (.int p3), .val (.ref a), .unset, .unset, .unset, .unset, .unset, .unset, .unset, .unset, .unset, .unset, .unset, .unset, .unset, .unset] [(.ref q)]))
  refine Go.astore C X at_56 (n := 58) rfl rfl (l' := #[.val (.int p0), .val (.int p1), .val (.int p2), .val (.int p3), .val (.ref a), .val (.ref q), .unset, .unset, .unset, .unset, .unset, .unset, .unset, .unset, .unset, .unset, .unset, .unset, .unset]) rfl ?_
  refine Go.iloadN C X at_58 (n := 59) rfl rfl ?_
  refine Go.bipush C X at_59 (n := 61) rfl (v := (7 : Int32)) rfl ?_
  refine Go.iand C X at_61 (n := 62) rfl ?_
  refine Go.iconst C X at_62 (n := 63) rfl (v := (5 : Int32)) rfl ?_
  refine Go.irem C X at_63 (n := 64) rfl (by decide) ?_
  obtain ⟨pp, qz⟩ : ∃ z, z = ((p2 &&& (7 : Int32)) % (5 : Int32)) := ⟨_, rfl⟩
  rw [← qz]
  have hpp : 0 ≤ pp.toInt ∧ pp.toInt ≤ 4 := by rw [qz]; exact own_r5 _
  clear qz
  show Go p e below _ (T.setTop (mkF m 64 #[.val (.int p0), .val (.int p1), .val (.int p2), .val (.int p3), .val (.ref a), .val (.ref q), .unset, .unset, .unset, .unset, .unset, .unset, .unset, .unset, .unset, .unset, .unset, .unset, .unset] [(.int pp)]))
  refine Go.istore C X at_64 (n := 66) rfl (l' := #[.val (.int p0), .val (.int p1), .val (.int p2), .val (.int p3), .val (.ref a), .val (.ref q), .val (.int pp), .unset, .unset, .unset, .unset, .unset, .unset, .unset, .unset, .unset, .unset, .unset, .unset]) rfl ?_
  refine Go.iloadN C X at_66 (n := 67) rfl rfl ?_
  refine Go.iconst C X at_67 (n := 68) rfl (v := (3 : Int32)) rfl ?_
  refine Go.iushr C X at_68 (n := 69) rfl ?_
  refine Go.bipush C X at_69 (n := 71) rfl (v := (7 : Int32)) rfl ?_
  refine Go.iand C X at_71 (n := 72) rfl ?_
  refine Go.iconst C X at_72 (n := 73) rfl (v := (5 : Int32)) rfl ?_
  refine Go.irem C X at_73 (n := 74) rfl (by decide) ?_
  obtain ⟨ee, qz⟩ : ∃ z, z = (((XT.ushr p2 (3 : Int32)) &&& (7 : Int32)) % (5 : Int32)) := ⟨_, rfl⟩
  rw [← qz]
  have hee : 0 ≤ ee.toInt ∧ ee.toInt ≤ 4 := by rw [qz]; exact own_r5 _
  clear qz
  show Go p e below _ (T.setTop (mkF m 74 #[.val (.int p0), .val (.int p1), .val (.int p2), .val (.int p3), .val (.ref a), .val (.ref q), .val (.int pp), .unset, .unset, .unset, .unset, .unset, .unset, .unset, .unset, .unset, .unset, .unset, .unset] [(.int ee)]))
  refine Go.istore C X at_74 (n := 76) rfl (l' := #[.val (.int p0), .val (.int p1), .val (.int p2), .val (.int p3), .val (.ref a), .val (.ref q), .val (.int pp), .val (.int ee), .unset, .unset, .unset, .unset, .unset, .unset, .unset, .unset, .unset, .unset, .unset]) rfl ?_
  refine Go.iloadN C X at_76 (n := 77) rfl rfl ?_
  refine Go.bipush C X at_77 (n := 79) rfl (v := (6 : Int32)) rfl ?_
  refine Go.iushr C X at_79 (n := 80) rfl ?_
  refine Go.iconst C X at_80 (n := 81) rfl (v := (1 : Int32)) rfl ?_
  refine Go.iand C X at_81 (n := 82) rfl ?_
  refine Go.if0_eq C X at_82 (n1 := 97) (n2 := 85) (by decide) (by decide) rfl (fun hc82 => ?_) (fun hc82 => ?_)
  · refine Go.iloadN C X at_97 (n := 98) rfl rfl ?_
    refine Go.ldcI C X (wd hw 1 rfl) at_98 (n := 100) rfl ?_
    refine Go.iand C X at_100 (n := 101) rfl ?_
    refine Go.i2c C X at_101 (n := 102) rfl ?_
    obtain ⟨c1, qz⟩ : ∃ z, z = ((p3 &&& (65535 : Int32)).toUInt32.toUInt16.toUInt32.toInt32) := ⟨_, rfl⟩
    rw [← qz]
    clear qz
    show Go p e below _ (T.setTop (mkF m 102 #[.val (.int p0), .val (.int p1), .val (.int p2), .val (.int p3), .val (.ref a), .val (.ref q), .val (.int pp), .val (.int ee), .unset, .unset, .unset, .unset, .unset, .unset, .unset, .unset, .unset, .unset, .unset] [(.int c1)]))
    refine Go.istore C X at_102 (n := 104) rfl (l' := #[.val (.int p0), .val (.int p1), .val (.int p2), .val (.int p3), .val (.ref a), .val (.ref q), .val (.int pp), .val (.int ee), .val (.int c1), .unset, .unset, .unset, .unset, .unset, .unset, .unset, .unset, .unset, .unset]) rfl ?_
    refine Go.newO C X eT (wd hw 31 rfl) (wd hw 32 rfl) (wd hw 33 rfl) at_104 (n := 107) rfl (by decide) (by decide) ?_
    clear X eT
    intro T h t z_t X eT E E_t D_
    have ne_a_t : a ≠ t := Nat.ne_of_lt (Nat.lt_of_lt_of_le V_a.lt (Nat.le_of_eq z_t.symm))
    have ne_q_t : q ≠ t := Nat.ne_of_lt (Nat.lt_of_lt_of_le S_q.lt1 (Nat.le_of_eq z_t.symm))
    have ne_b_t : b ≠ t := Nat.ne_of_lt (Nat.lt_of_lt_of_le S_q.lt2 (Nat.le_of_eq z_t.symm))
    have g_t : n0 ≤ t := by rw [z_t]; exact O.le
    replace O := O.ext E
    replace B := B.ext E
    replace V_a := V_a.ext E
    replace S_q := S_q.ext E
    have F_t_text : Fld Z h t "com/example/libsymtree/libsymtree/theory/TextCursor" "text" "Ljava/lang/String;" .null := D_ (Or.inl (wd hw 45 rfl)) (ty := (.object "java/lang/String")) (by decide)
    have F_t_chars : Fld Z h t "com/example/libsymtree/libsymtree/theory/TextCursor" "chars" "[C" .null := D_ (Or.inl (wd hw 64 rfl)) (ty := (.array .char)) (by decide)
    have F_t_position : Fld Z h t "com/example/libsymtree/libsymtree/theory/TextCursor" "position" "I" (.int (0 : Int32)) := D_ (Or.inl (wd hw 66 rfl)) (ty := .int) (by decide)
    have F_t_end : Fld Z h t "com/example/libsymtree/libsymtree/theory/TextCursor" "end" "I" (.int (0 : Int32)) := D_ (Or.inl (wd hw 68 rfl)) (ty := .int) (by decide)
    have F_t_endName : Fld Z h t "com/example/libsymtree/libsymtree/theory/TextCursor" "endName" "Ljava/lang/String;" .null := D_ (Or.inr (wd hw 70 rfl)) (ty := (.object "java/lang/String")) (by decide)
    have F_t_lines : Fld Z h t "com/example/libsymtree/libsymtree/theory/TextCursor" "lines" "Lcom/example/libsymtree/libsymtree/theory/TextCursor$Lines;" .null := D_ (Or.inr (wd hw 72 rfl)) (ty := (.object "com/example/libsymtree/libsymtree/theory/TextCursor$Lines")) (by decide)
    refine Go.dup C X at_107 (n := 108) rfl rfl ?_
    refine Go.aload C X at_108 (n := 110) rfl rfl rfl ?_
    refine Go.iload C X at_110 (n := 112) rfl rfl ?_
    refine Go.iload C X at_112 (n := 114) rfl rfl ?_
    refine ldcO C X eT B (wd hw 34 rfl) wS (cap := 12) (by decide) (by decide) at_114 (n := 116) rfl (by decide) (by decide) ?_
    clear X eT
    intro s' T h en C' X eT E B'
    clear C B
    have C := C'
    have B := B'
    clear C' B'
    replace O := O.ext E
    replace V_a := V_a.ext E
    replace S_q := S_q.ext E
    replace E_t := E_t.ext E
    replace F_t_text := F_t_text.ext E
    replace F_t_chars := F_t_chars.ext E
    replace F_t_position := F_t_position.ext E
    replace F_t_end := F_t_end.ext E
    replace F_t_endName := F_t_endName.ext E
    replace F_t_lines := F_t_lines.ext E
    refine Go.spec C X eT (argsL := [(.ref q), (.int pp), (.int ee), (.ref en)]) (rest := [(.ref t)]) (a := t) (rm7 l Z a0 hw n0 _ cs SZ hcs S1 S2 S3 sf hsf S4 t q b en x0 x1 x2 x3 r0 r1 r2 r3 pp ee g_t ne_q_t ne_b_t O S_q E_t F_t_text F_t_chars F_t_position F_t_end F_t_endName F_t_lines) rfl (wd hw 37 rfl) (wd hw 38 rfl) (wd hw 33 rfl) (wd hw 39 rfl) (by decide) (lenOf pd_19 rfl) rfl at_116 (n := 119) rfl rfl (by decide) (W := 1) rfl (by decide) (by decide) (by decide) ?_
    clear X eT
    intro T h v L X eT hQ
    obtain ⟨rfl, Nq, KK, ca, s_ca, F_t_chars, F_t_position, F_t_end, V_ca⟩ := hQ
    replace N := N.app Nq
    have ne_a_ca : a ≠ ca := Nat.ne_of_lt (Nat.lt_of_lt_of_le V_a.lt s_ca)
    have ne_q_ca : q ≠ ca := Nat.ne_of_lt (Nat.lt_of_lt_of_le S_q.lt1 s_ca)
    have ne_b_ca : b ≠ ca := Nat.ne_of_lt (Nat.lt_of_lt_of_le S_q.lt2 s_ca)
    have ne_t_ca : t ≠ ca := Nat.ne_of_lt (Nat.lt_of_lt_of_le E_t.lt s_ca)
    have g_ca : n0 ≤ ca := Nat.le_trans O.le s_ca
    replace O := O.keep KK (allS g_t all0)
    replace V_a := V_a.keep KK (ninS ne_a_t nin0)
    replace S_q := S_q.keep KK (ninS ne_q_t nin0) (ninS ne_b_t nin0)
    replace E_t := E_t.keep KK
    replace B := B.keep KK
    show Go p e below _ (T.setTop (mkF m 119 #[.val (.int p0), .val (.int p1), .val (.int p2), .val (.int p3), .val (.ref a), .val (.ref q), .val (.int pp), .val (.int ee), .val (.int c1), .unset, .unset, .unset, .unset, .unset, .unset, .unset, .unset, .unset, .unset] [(.ref t)]))
    clear S_q
    have ne_ca_t : ca ≠ t := Ne.symm ne_t_ca
    refine Go.astore C X at_119 (n := 121) rfl rfl (l' := #[.val (.int p0), .val (.int p1), .val (.int p2), .val (.int p3), .val (.ref a), .val (.ref q), .val (.int pp), .val (.int ee), .val (.int c1), .val (.ref t), .unset, .unset, .unset, .unset, .unset, .unset, .unset, .unset, .unset]) rfl ?_
    refine Go.aload C X at_121 (n := 123) rfl rfl rfl ?_
    refine Go.iload C X at_123 (n := 125) rfl rfl ?_
    by_cases hk1 : pp < ee ∧ chA x0 x1 x2 x3 pp = c1
    · show Go p e below _ (T.setTop (mkF m 125 #[.val (.int p0), .val (.int p1), .val (.int p2), .val (.int p3), .val (.ref a), .val (.ref q), .val (.int pp), .val (.int ee), .val (.int c1), .val (.ref t), .unset, .unset, .unset, .unset, .unset, .unset, .unset, .unset, .unset] [(.int c1), (.ref t)]))
      refine Go.virt C X eT (argsL := [(.int c1)]) (rest := []) (a := t) (cons_y l Z a0 hw n0 _ t ca x0 x1 x2 x3 pp ee c1 hpp.1 hee.2 g_t ne_ca_t E_t F_t_chars F_t_position F_t_end V_ca hk1) (wd hw 73 rfl) (wd hw 74 rfl) (notFace_of_selects (args := #[]) (mvT C.hZ (wd hw 76 rfl))) (wd hw 76 rfl) (wd hw 75 rfl) (wd hw 33 rfl) (wd hw 77 rfl) (by decide) E_t (lenOf pd_20 rfl) rfl at_125 (n := 128) rfl rfl (by decide) (W := 0) rfl (by decide) (by decide) (by decide) ?_
      clear X eT
      intro T h v L X eT hQ
      obtain ⟨rfl, Nq, KK, F_t_position, F_t_chars, F_t_end⟩ := hQ
      replace N := N.app Nq
      replace O := O.keep KK (allS g_t all0)
      replace V_a := V_a.keep KK (ninS ne_a_t nin0)
      replace E_t := E_t.keep KK
      replace B := B.keep KK
      replace V_ca := V_ca.keep KK (ninS ne_ca_t nin0)
      show Go p e below _ (T.setTop (mkF m 128 #[.val (.int p0), .val (.int p1), .val (.int p2), .val (.int p3), .val (.ref a), .val (.ref q), .val (.int pp), .val (.int ee), .val (.int c1), .val (.ref t), .unset, .unset, .unset, .unset, .unset, .unset, .unset, .unset, .unset] [(.int (1 : Int32))]))
      refine Go.istore C X at_128 (n := 130) rfl (l' := #[.val (.int p0), .val (.int p1), .val (.int p2), .val (.int p3), .val (.ref a), .val (.ref q), .val (.int pp), .val (.int ee), .val (.int c1), .val (.ref t), .val (.int (1 : Int32)), .unset, .unset, .unset, .unset, .unset, .unset, .unset, .unset]) rfl ?_
      refine Go.aload C X at_130 (n := 132) rfl rfl rfl ?_
      refine Go.virt C X eT (argsL := []) (rest := []) (a := t) (pos l Z a0 hw n0 _ t (pp + (1 : Int32)) F_t_position) (wd hw 78 rfl) (wd hw 79 rfl) (notFace_of_selects (args := #[]) (mvT C.hZ (wd hw 81 rfl))) (wd hw 81 rfl) (wd hw 80 rfl) (wd hw 33 rfl) (wd hw 82 rfl) (by decide) E_t (lenOf pd_21 rfl) rfl at_132 (n := 135) rfl rfl (by decide) (W := 0) rfl (by decide) (by decide) (by decide) ?_
      clear X eT
      intro T h' v L X eT hQ
      obtain ⟨rfl, rfl, hE⟩ := hQ
      replace hE := hE.symm
      subst hE
      replace N := N.app (Fr.nil n0)
      show Go p e below _ (T.setTop (mkF m 135 #[.val (.int p0), .val (.int p1), .val (.int p2), .val (.int p3), .val (.ref a), .val (.ref q), .val (.int pp), .val (.int ee), .val (.int c1), .val (.ref t), .val (.int (1 : Int32)), .unset, .unset, .unset, .unset, .unset, .unset, .unset, .unset] [(.int (pp + (1 : Int32)))]))
      refine Go.istore C X at_135 (n := 137) rfl (l' := #[.val (.int p0), .val (.int p1), .val (.int p2), .val (.int p3), .val (.ref a), .val (.ref q), .val (.int pp), .val (.int ee), .val (.int c1), .val (.ref t), .val (.int (1 : Int32)), .val (.int (pp + (1 : Int32))), .unset, .unset, .unset, .unset, .unset, .unset, .unset]) rfl ?_
      refine Go.iconst C X at_137 (n := 138) rfl (v := (0 : Int32)) rfl ?_
      refine Go.istore C X at_138 (n := 140) rfl (l' := #[.val (.int p0), .val (.int p1), .val (.int p2), .val (.int p3), .val (.ref a), .val (.ref q), .val (.int pp), .val (.int ee), .val (.int c1), .val (.ref t), .val (.int (1 : Int32)), .val (.int (pp + (1 : Int32))), .val (.int (0 : Int32)), .unset, .unset, .unset, .unset, .unset, .unset]) rfl ?_
      refine Go.iload C X at_140 (n := 142) rfl rfl ?_
      refine Go.iload C X at_142 (n := 144) rfl rfl ?_
      refine Go.icmp_ge C X at_144 (n1 := 164) (n2 := 147) (by decide) (by decide) rfl (fun hc144 => ?_) (fun hc144 => ?_)
      · exact absurd hk1.1 hc144
      · refine Go.aload C X at_147 (n := 149) rfl rfl rfl ?_
        refine Go.iload C X at_149 (n := 151) rfl rfl ?_
        refine Go.caloadL C X eT V_a (i := pp.toInt.toNat) (own_ix hpp.1) (v := .int (chA x0 x1 x2 x3 pp)) (own_at4 x0 x1 x2 x3 hpp.1 (own_lt4 hc144 hee.2)) at_151 (n := 152) rfl ?_
        refine Go.iload C X at_152 (n := 154) rfl rfl ?_
        refine Go.icmp_ne C X at_154 (n1 := 161) (n2 := 157) (by decide) (by decide) rfl (fun hc154 => ?_) (fun hc154 => ?_)
        · exact absurd hk1.2 hc154
        · refine Go.iconst C X at_157 (n := 158) rfl (v := (1 : Int32)) rfl ?_
          refine Go.goto C X at_158 (n := 162) (by decide) (by decide) ?_
          refine Go.istore C X at_162 (n := 164) rfl (l' := #[.val (.int p0), .val (.int p1), .val (.int p2), .val (.int p3), .val (.ref a), .val (.ref q), .val (.int pp), .val (.int ee), .val (.int c1), .val (.ref t), .val (.int (1 : Int32)), .val (.int (pp + (1 : Int32))), .val (.int (1 : Int32)), .unset, .unset, .unset, .unset, .unset, .unset]) rfl ?_
          refine Go.iload C X at_164 (n := 166) rfl rfl ?_
          refine Go.if0_eq C X at_166 (n1 := 176) (n2 := 169) (by decide) (by decide) rfl (fun hc166 => ?_) (fun hc166 => ?_)
          · exact absurd hc166 (by decide)
          · refine Go.iload C X at_169 (n := 171) rfl rfl ?_
            refine Go.iconst C X at_171 (n := 172) rfl (v := (1 : Int32)) rfl ?_
            refine Go.iadd C X at_172 (n := 173) rfl ?_
            refine Go.goto C X at_173 (n := 178) (by decide) (by decide) ?_
            refine Go.istore C X at_178 (n := 180) rfl (l' := #[.val (.int p0), .val (.int p1), .val (.int p2), .val (.int p3), .val (.ref a), .val (.ref q), .val (.int pp), .val (.int ee), .val (.int c1), .val (.ref t), .val (.int (1 : Int32)), .val (.int (pp + (1 : Int32))), .val (.int (1 : Int32)), .val (.int (pp + (1 : Int32))), .unset, .unset, .unset, .unset, .unset]) rfl ?_
            refine Go.iloadN C X at_180 (n := 181) rfl rfl ?_
            refine Go.bipush C X at_181 (n := 183) rfl (v := (7 : Int32)) rfl ?_
            refine Go.iushr C X at_183 (n := 184) rfl ?_
            refine Go.iconst C X at_184 (n := 185) rfl (v := (1 : Int32)) rfl ?_
            refine Go.iand C X at_185 (n := 186) rfl ?_
            refine Go.if0_eq C X at_186 (n1 := 201) (n2 := 189) (by decide) (by decide) rfl (fun hc186 => ?_) (fun hc186 => ?_)
            · refine Go.iloadN C X at_201 (n := 202) rfl rfl ?_
              refine Go.bipush C X at_202 (n := 204) rfl (v := (16 : Int32)) rfl ?_
              refine Go.iushr C X at_204 (n := 205) rfl ?_
              refine Go.ldcI C X (wd hw 1 rfl) at_205 (n := 207) rfl ?_
              refine Go.iand C X at_207 (n := 208) rfl ?_
              refine Go.i2c C X at_208 (n := 209) rfl ?_
              obtain ⟨c2, qz⟩ : ∃ z, z = (((XT.ushr p3 (16 : Int32)) &&& (65535 : Int32)).toUInt32.toUInt16.toUInt32.toInt32) := ⟨_, rfl⟩
              rw [← qz]
              clear qz
              show Go p e below _ (T.setTop (mkF m 209 #[.val (.int p0), .val (.int p1), .val (.int p2), .val (.int p3), .val (.ref a), .val (.ref q), .val (.int pp), .val (.int ee), .val (.int c1), .val (.ref t), .val (.int (1 : Int32)), .val (.int (pp + (1 : Int32))), .val (.int (1 : Int32)), .val (.int (pp + (1 : Int32))), .unset, .unset, .unset, .unset, .unset] [(.int c2)]))
              refine Go.istore C X at_209 (n := 211) rfl (l' := #[.val (.int p0), .val (.int p1), .val (.int p2), .val (.int p3), .val (.ref a), .val (.ref q), .val (.int pp), .val (.int ee), .val (.int c1), .val (.ref t), .val (.int (1 : Int32)), .val (.int (pp + (1 : Int32))), .val (.int (1 : Int32)), .val (.int (pp + (1 : Int32))), .val (.int c2), .unset, .unset, .unset, .unset]) rfl ?_
              refine Go.aload C X at_211 (n := 213) rfl rfl rfl ?_
              refine Go.iload C X at_213 (n := 215) rfl rfl ?_
              by_cases hk2 : (pp + (1 : Int32)) < ee ∧ chA x0 x1 x2 x3 (pp + (1 : Int32)) = c2
              · show Go p e below _ (T.setTop (mkF m 215 #[.val (.int p0), .val (.int p1), .val (.int p2), .val (.int p3), .val (.ref a), .val (.ref q), .val (.int pp), .val (.int ee), .val (.int c1), .val (.ref t), .val (.int (1 : Int32)), .val (.int (pp + (1 : Int32))), .val (.int (1 : Int32)), .val (.int (pp + (1 : Int32))), .val (.int c2), .unset, .unset, .unset, .unset] [(.int c2), (.ref t)]))
                refine Go.virt C X eT (argsL := [(.int c2)]) (rest := []) (a := t) (cons_y l Z a0 hw n0 _ t ca x0 x1 x2 x3 (pp + (1 : Int32)) ee c2 (own_p1 hpp.1 hk1.1 hee.2) hee.2 g_t ne_ca_t E_t F_t_chars F_t_position F_t_end V_ca hk2) (wd hw 73 rfl) (wd hw 74 rfl) (notFace_of_selects (args := #[]) (mvT C.hZ (wd hw 76 rfl))) (wd hw 76 rfl) (wd hw 75 rfl) (wd hw 33 rfl) (wd hw 77 rfl) (by decide) E_t (lenOf pd_20 rfl) rfl at_215 (n := 218) rfl rfl (by decide) (W := 0) rfl (by decide) (by decide) (by decide) ?_
                clear X eT
                intro T h v L X eT hQ
                obtain ⟨rfl, Nq, KK, F_t_position, F_t_chars, F_t_end⟩ := hQ
                replace N := N.app Nq
                replace O := O.keep KK (allS g_t all0)
                replace V_a := V_a.keep KK (ninS ne_a_t nin0)
                replace E_t := E_t.keep KK
                replace B := B.keep KK
                replace V_ca := V_ca.keep KK (ninS ne_ca_t nin0)
                show Go p e below _ (T.setTop (mkF m 218 #[.val (.int p0), .val (.int p1), .val (.int p2), .val (.int p3), .val (.ref a), .val (.ref q), .val (.int pp), .val (.int ee), .val (.int c1), .val (.ref t), .val (.int (1 : Int32)), .val (.int (pp + (1 : Int32))), .val (.int (1 : Int32)), .val (.int (pp + (1 : Int32))), .val (.int c2), .unset, .unset, .unset, .unset] [(.int (1 : Int32))]))
                refine Go.istore C X at_218 (n := 220) rfl (l' := #[.val (.int p0), .val (.int p1), .val (.int p2), .val (.int p3), .val (.ref a), .val (.ref q), .val (.int pp), .val (.int ee), .val (.int c1), .val (.ref t), .val (.int (1 : Int32)), .val (.int (pp + (1 : Int32))), .val (.int (1 : Int32)), .val (.int (pp + (1 : Int32))), .val (.int c2), .val (.int (1 : Int32)), .unset, .unset, .unset]) rfl ?_
                refine Go.aload C X at_220 (n := 222) rfl rfl rfl ?_
                refine Go.virt C X eT (argsL := []) (rest := []) (a := t) (pos l Z a0 hw n0 _ t ((pp + (1 : Int32)) + (1 : Int32)) F_t_position) (wd hw 78 rfl) (wd hw 79 rfl) (notFace_of_selects (args := #[]) (mvT C.hZ (wd hw 81 rfl))) (wd hw 81 rfl) (wd hw 80 rfl) (wd hw 33 rfl) (wd hw 82 rfl) (by decide) E_t (lenOf pd_21 rfl) rfl at_222 (n := 225) rfl rfl (by decide) (W := 0) rfl (by decide) (by decide) (by decide) ?_
                clear X eT
                intro T h' v L X eT hQ
                obtain ⟨rfl, rfl, hE⟩ := hQ
                replace hE := hE.symm
                subst hE
                replace N := N.app (Fr.nil n0)
                show Go p e below _ (T.setTop (mkF m 225 #[.val (.int p0), .val (.int p1), .val (.int p2), .val (.int p3), .val (.ref a), .val (.ref q), .val (.int pp), .val (.int ee), .val (.int c1), .val (.ref t), .val (.int (1 : Int32)), .val (.int (pp + (1 : Int32))), .val (.int (1 : Int32)), .val (.int (pp + (1 : Int32))), .val (.int c2), .val (.int (1 : Int32)), .unset, .unset, .unset] [(.int ((pp + (1 : Int32)) + (1 : Int32)))]))
                refine Go.istore C X at_225 (n := 227) rfl (l' := #[.val (.int p0), .val (.int p1), .val (.int p2), .val (.int p3), .val (.ref a), .val (.ref q), .val (.int pp), .val (.int ee), .val (.int c1), .val (.ref t), .val (.int (1 : Int32)), .val (.int (pp + (1 : Int32))), .val (.int (1 : Int32)), .val (.int (pp + (1 : Int32))), .val (.int c2), .val (.int (1 : Int32)), .val (.int ((pp + (1 : Int32)) + (1 : Int32))), .unset, .unset]) rfl ?_
                refine Go.iconst C X at_227 (n := 228) rfl (v := (0 : Int32)) rfl ?_
                refine Go.istore C X at_228 (n := 230) rfl (l' := #[.val (.int p0), .val (.int p1), .val (.int p2), .val (.int p3), .val (.ref a), .val (.ref q), .val (.int pp), .val (.int ee), .val (.int c1), .val (.ref t), .val (.int (1 : Int32)), .val (.int (pp + (1 : Int32))), .val (.int (1 : Int32)), .val (.int (pp + (1 : Int32))), .val (.int c2), .val (.int (1 : Int32)), .val (.int ((pp + (1 : Int32)) + (1 : Int32))), .val (.int (0 : Int32)), .unset]) rfl ?_
                refine Go.iload C X at_230 (n := 232) rfl rfl ?_
                refine Go.iload C X at_232 (n := 234) rfl rfl ?_
                refine Go.icmp_ge C X at_234 (n1 := 254) (n2 := 237) (by decide) (by decide) rfl (fun hc234 => ?_) (fun hc234 => ?_)
                · exact absurd hk2.1 hc234
                · refine Go.aload C X at_237 (n := 239) rfl rfl rfl ?_
                  refine Go.iload C X at_239 (n := 241) rfl rfl ?_
                  refine Go.caloadL C X eT V_a (i := (pp + (1 : Int32)).toInt.toNat) (own_ix (own_p1 hpp.1 hk1.1 hee.2)) (v := .int (chA x0 x1 x2 x3 (pp + (1 : Int32)))) (own_at4 x0 x1 x2 x3 (own_p1 hpp.1 hk1.1 hee.2) (own_lt4 hc234 hee.2)) at_241 (n := 242) rfl ?_
                  refine Go.iload C X at_242 (n := 244) rfl rfl ?_
                  refine Go.icmp_ne C X at_244 (n1 := 251) (n2 := 247) (by decide) (by decide) rfl (fun hc244 => ?_) (fun hc244 => ?_)
                  · exact absurd hk2.2 hc244
                  · refine Go.iconst C X at_247 (n := 248) rfl (v := (1 : Int32)) rfl ?_
                    refine Go.goto C X at_248 (n := 252) (by decide) (by decide) ?_
                    refine Go.istore C X at_252 (n := 254) rfl (l' := #[.val (.int p0), .val (.int p1), .val (.int p2), .val (.int p3), .val (.ref a), .val (.ref q), .val (.int pp), .val (.int ee), .val (.int c1), .val (.ref t), .val (.int (1 : Int32)), .val (.int (pp + (1 : Int32))), .val (.int (1 : Int32)), .val (.int (pp + (1 : Int32))), .val (.int c2), .val (.int (1 : Int32)), .val (.int ((pp + (1 : Int32)) + (1 : Int32))), .val (.int (1 : Int32)), .unset]) rfl ?_
                    refine Go.iload C X at_254 (n := 256) rfl rfl ?_
                    refine Go.if0_eq C X at_256 (n1 := 266) (n2 := 259) (by decide) (by decide) rfl (fun hc256 => ?_) (fun hc256 => ?_)
                    · exact absurd hc256 (by decide)
                    · refine Go.iload C X at_259 (n := 261) rfl rfl ?_
                      refine Go.iconst C X at_261 (n := 262) rfl (v := (1 : Int32)) rfl ?_
                      refine Go.iadd C X at_262 (n := 263) rfl ?_
                      refine Go.goto C X at_263 (n := 268) (by decide) (by decide) ?_
                      refine Go.istore C X at_268 (n := 270) rfl (l' := #[.val (.int p0), .val (.int p1), .val (.int p2), .val (.int p3), .val (.ref a), .val (.ref q), .val (.int pp), .val (.int ee), .val (.int c1), .val (.ref t), .val (.int (1 : Int32)), .val (.int (pp + (1 : Int32))), .val (.int (1 : Int32)), .val (.int (pp + (1 : Int32))), .val (.int c2), .val (.int (1 : Int32)), .val (.int ((pp + (1 : Int32)) + (1 : Int32))), .val (.int (1 : Int32)), .val (.int ((pp + (1 : Int32)) + (1 : Int32)))]) rfl ?_
                      refine Go.iload C X at_270 (n := 272) rfl rfl ?_
                      refine Go.iload C X at_272 (n := 274) rfl rfl ?_
                      refine Go.icmp_ne C X at_274 (n1 := 302) (n2 := 277) (by decide) (by decide) rfl (fun hc274 => ?_) (fun hc274 => ?_)
                      · exact absurd hc274 (by decide)
                      · refine Go.iload C X at_277 (n := 279) rfl rfl ?_
                        refine Go.iload C X at_279 (n := 281) rfl rfl ?_
                        refine Go.icmp_ne C X at_281 (n1 := 302) (n2 := 284) (by decide) (by decide) rfl (fun hc281 => ?_) (fun hc281 => ?_)
                        · exact absurd rfl hc281
                        · refine Go.iload C X at_284 (n := 286) rfl rfl ?_
                          refine Go.iload C X at_286 (n := 288) rfl rfl ?_
                          refine Go.icmp_ne C X at_288 (n1 := 302) (n2 := 291) (by decide) (by decide) rfl (fun hc288 => ?_) (fun hc288 => ?_)
                          · exact absurd hc288 (by decide)
                          · refine Go.iload C X at_291 (n := 293) rfl rfl ?_
                            refine Go.iload C X at_293 (n := 295) rfl rfl ?_
                            refine Go.icmp_ne C X at_295 (n1 := 302) (n2 := 298) (by decide) (by decide) rfl (fun hc295 => ?_) (fun hc295 => ?_)
                            · exact absurd rfl hc295
                            · refine Go.iconst C X at_298 (n := 299) rfl (v := (1 : Int32)) rfl ?_
                              refine Go.goto C X at_299 (n := 303) (by decide) (by decide) ?_
                              refine Go.retNW C X eT B JI.tt trivial (Or.inl rfl) (w := (1 : Int32)) (by decide) at_303 (by decide) (by decide) ?_
                              exact ⟨rfl, N⟩
              · show Go p e below _ (T.setTop (mkF m 215 #[.val (.int p0), .val (.int p1), .val (.int p2), .val (.int p3), .val (.ref a), .val (.ref q), .val (.int pp), .val (.int ee), .val (.int c1), .val (.ref t), .val (.int (1 : Int32)), .val (.int (pp + (1 : Int32))), .val (.int (1 : Int32)), .val (.int (pp + (1 : Int32))), .val (.int c2), .unset, .unset, .unset, .unset] [(.int c2), (.ref t)]))
                refine Go.virt C X eT (argsL := [(.int c2)]) (rest := []) (a := t) (cons_n l Z a0 hw n0 _ t ca x0 x1 x2 x3 (pp + (1 : Int32)) ee c2 (own_p1 hpp.1 hk1.1 hee.2) hee.2 g_t ne_ca_t E_t F_t_chars F_t_position F_t_end V_ca hk2) (wd hw 73 rfl) (wd hw 74 rfl) (notFace_of_selects (args := #[]) (mvT C.hZ (wd hw 76 rfl))) (wd hw 76 rfl) (wd hw 75 rfl) (wd hw 33 rfl) (wd hw 77 rfl) (by decide) E_t (lenOf pd_20 rfl) rfl at_215 (n := 218) rfl rfl (by decide) (W := 0) rfl (by decide) (by decide) (by decide) ?_
                clear X eT
                intro T h' v L X eT hQ
                obtain ⟨rfl, rfl, hE⟩ := hQ
                replace hE := hE.symm
                subst hE
                replace N := N.app (Fr.nil n0)
                show Go p e below _ (T.setTop (mkF m 218 #[.val (.int p0), .val (.int p1), .val (.int p2), .val (.int p3), .val (.ref a), .val (.ref q), .val (.int pp), .val (.int ee), .val (.int c1), .val (.ref t), .val (.int (1 : Int32)), .val (.int (pp + (1 : Int32))), .val (.int (1 : Int32)), .val (.int (pp + (1 : Int32))), .val (.int c2), .unset, .unset, .unset, .unset] [(.int (0 : Int32))]))
                refine Go.istore C X at_218 (n := 220) rfl (l' := #[.val (.int p0), .val (.int p1), .val (.int p2), .val (.int p3), .val (.ref a), .val (.ref q), .val (.int pp), .val (.int ee), .val (.int c1), .val (.ref t), .val (.int (1 : Int32)), .val (.int (pp + (1 : Int32))), .val (.int (1 : Int32)), .val (.int (pp + (1 : Int32))), .val (.int c2), .val (.int (0 : Int32)), .unset, .unset, .unset]) rfl ?_
                refine Go.aload C X at_220 (n := 222) rfl rfl rfl ?_
                refine Go.virt C X eT (argsL := []) (rest := []) (a := t) (pos l Z a0 hw n0 _ t (pp + (1 : Int32)) F_t_position) (wd hw 78 rfl) (wd hw 79 rfl) (notFace_of_selects (args := #[]) (mvT C.hZ (wd hw 81 rfl))) (wd hw 81 rfl) (wd hw 80 rfl) (wd hw 33 rfl) (wd hw 82 rfl) (by decide) E_t (lenOf pd_21 rfl) rfl at_222 (n := 225) rfl rfl (by decide) (W := 0) rfl (by decide) (by decide) (by decide) ?_
                clear X eT
                intro T h' v L X eT hQ
                obtain ⟨rfl, rfl, hE⟩ := hQ
                replace hE := hE.symm
                subst hE
                replace N := N.app (Fr.nil n0)
                show Go p e below _ (T.setTop (mkF m 225 #[.val (.int p0), .val (.int p1), .val (.int p2), .val (.int p3), .val (.ref a), .val (.ref q), .val (.int pp), .val (.int ee), .val (.int c1), .val (.ref t), .val (.int (1 : Int32)), .val (.int (pp + (1 : Int32))), .val (.int (1 : Int32)), .val (.int (pp + (1 : Int32))), .val (.int c2), .val (.int (0 : Int32)), .unset, .unset, .unset] [(.int (pp + (1 : Int32)))]))
                refine Go.istore C X at_225 (n := 227) rfl (l' := #[.val (.int p0), .val (.int p1), .val (.int p2), .val (.int p3), .val (.ref a), .val (.ref q), .val (.int pp), .val (.int ee), .val (.int c1), .val (.ref t), .val (.int (1 : Int32)), .val (.int (pp + (1 : Int32))), .val (.int (1 : Int32)), .val (.int (pp + (1 : Int32))), .val (.int c2), .val (.int (0 : Int32)), .val (.int (pp + (1 : Int32))), .unset, .unset]) rfl ?_
                refine Go.iconst C X at_227 (n := 228) rfl (v := (0 : Int32)) rfl ?_
                refine Go.istore C X at_228 (n := 230) rfl (l' := #[.val (.int p0), .val (.int p1), .val (.int p2), .val (.int p3), .val (.ref a), .val (.ref q), .val (.int pp), .val (.int ee), .val (.int c1), .val (.ref t), .val (.int (1 : Int32)), .val (.int (pp + (1 : Int32))), .val (.int (1 : Int32)), .val (.int (pp + (1 : Int32))), .val (.int c2), .val (.int (0 : Int32)), .val (.int (pp + (1 : Int32))), .val (.int (0 : Int32)), .unset]) rfl ?_
                refine Go.iload C X at_230 (n := 232) rfl rfl ?_
                refine Go.iload C X at_232 (n := 234) rfl rfl ?_
                refine Go.icmp_ge C X at_234 (n1 := 254) (n2 := 237) (by decide) (by decide) rfl (fun hc234 => ?_) (fun hc234 => ?_)
                · refine Go.iload C X at_254 (n := 256) rfl rfl ?_
                  refine Go.if0_eq C X at_256 (n1 := 266) (n2 := 259) (by decide) (by decide) rfl (fun hc256 => ?_) (fun hc256 => ?_)
                  · refine Go.iload C X at_266 (n := 268) rfl rfl ?_
                    refine Go.istore C X at_268 (n := 270) rfl (l' := #[.val (.int p0), .val (.int p1), .val (.int p2), .val (.int p3), .val (.ref a), .val (.ref q), .val (.int pp), .val (.int ee), .val (.int c1), .val (.ref t), .val (.int (1 : Int32)), .val (.int (pp + (1 : Int32))), .val (.int (1 : Int32)), .val (.int (pp + (1 : Int32))), .val (.int c2), .val (.int (0 : Int32)), .val (.int (pp + (1 : Int32))), .val (.int (0 : Int32)), .val (.int (pp + (1 : Int32)))]) rfl ?_
                    refine Go.iload C X at_270 (n := 272) rfl rfl ?_
                    refine Go.iload C X at_272 (n := 274) rfl rfl ?_
                    refine Go.icmp_ne C X at_274 (n1 := 302) (n2 := 277) (by decide) (by decide) rfl (fun hc274 => ?_) (fun hc274 => ?_)
                    · exact absurd hc274 (by decide)
                    · refine Go.iload C X at_277 (n := 279) rfl rfl ?_
                      refine Go.iload C X at_279 (n := 281) rfl rfl ?_
                      refine Go.icmp_ne C X at_281 (n1 := 302) (n2 := 284) (by decide) (by decide) rfl (fun hc281 => ?_) (fun hc281 => ?_)
                      · exact absurd rfl hc281
                      · refine Go.iload C X at_284 (n := 286) rfl rfl ?_
                        refine Go.iload C X at_286 (n := 288) rfl rfl ?_
                        refine Go.icmp_ne C X at_288 (n1 := 302) (n2 := 291) (by decide) (by decide) rfl (fun hc288 => ?_) (fun hc288 => ?_)
                        · exact absurd hc288 (by decide)
                        · refine Go.iload C X at_291 (n := 293) rfl rfl ?_
                          refine Go.iload C X at_293 (n := 295) rfl rfl ?_
                          refine Go.icmp_ne C X at_295 (n1 := 302) (n2 := 298) (by decide) (by decide) rfl (fun hc295 => ?_) (fun hc295 => ?_)
                          · exact absurd rfl hc295
                          · refine Go.iconst C X at_298 (n := 299) rfl (v := (1 : Int32)) rfl ?_
                            refine Go.goto C X at_299 (n := 303) (by decide) (by decide) ?_
                            refine Go.retNW C X eT B JI.tt trivial (Or.inl rfl) (w := (1 : Int32)) (by decide) at_303 (by decide) (by decide) ?_
                            exact ⟨rfl, N⟩
                  · exact absurd hc256 (by decide)
                · refine Go.aload C X at_237 (n := 239) rfl rfl rfl ?_
                  refine Go.iload C X at_239 (n := 241) rfl rfl ?_
                  refine Go.caloadL C X eT V_a (i := (pp + (1 : Int32)).toInt.toNat) (own_ix (own_p1 hpp.1 hk1.1 hee.2)) (v := .int (chA x0 x1 x2 x3 (pp + (1 : Int32)))) (own_at4 x0 x1 x2 x3 (own_p1 hpp.1 hk1.1 hee.2) (own_lt4 hc234 hee.2)) at_241 (n := 242) rfl ?_
                  refine Go.iload C X at_242 (n := 244) rfl rfl ?_
                  refine Go.icmp_ne C X at_244 (n1 := 251) (n2 := 247) (by decide) (by decide) rfl (fun hc244 => ?_) (fun hc244 => ?_)
                  · refine Go.iconst C X at_251 (n := 252) rfl (v := (0 : Int32)) rfl ?_
                    refine Go.istore C X at_252 (n := 254) rfl (l' := #[.val (.int p0), .val (.int p1), .val (.int p2), .val (.int p3), .val (.ref a), .val (.ref q), .val (.int pp), .val (.int ee), .val (.int c1), .val (.ref t), .val (.int (1 : Int32)), .val (.int (pp + (1 : Int32))), .val (.int (1 : Int32)), .val (.int (pp + (1 : Int32))), .val (.int c2), .val (.int (0 : Int32)), .val (.int (pp + (1 : Int32))), .val (.int (0 : Int32)), .unset]) rfl ?_
                    refine Go.iload C X at_254 (n := 256) rfl rfl ?_
                    refine Go.if0_eq C X at_256 (n1 := 266) (n2 := 259) (by decide) (by decide) rfl (fun hc256 => ?_) (fun hc256 => ?_)
                    · refine Go.iload C X at_266 (n := 268) rfl rfl ?_
                      refine Go.istore C X at_268 (n := 270) rfl (l' := #[.val (.int p0), .val (.int p1), .val (.int p2), .val (.int p3), .val (.ref a), .val (.ref q), .val (.int pp), .val (.int ee), .val (.int c1), .val (.ref t), .val (.int (1 : Int32)), .val (.int (pp + (1 : Int32))), .val (.int (1 : Int32)), .val (.int (pp + (1 : Int32))), .val (.int c2), .val (.int (0 : Int32)), .val (.int (pp + (1 : Int32))), .val (.int (0 : Int32)), .val (.int (pp + (1 : Int32)))]) rfl ?_
                      refine Go.iload C X at_270 (n := 272) rfl rfl ?_
                      refine Go.iload C X at_272 (n := 274) rfl rfl ?_
                      refine Go.icmp_ne C X at_274 (n1 := 302) (n2 := 277) (by decide) (by decide) rfl (fun hc274 => ?_) (fun hc274 => ?_)
                      · exact absurd hc274 (by decide)
                      · refine Go.iload C X at_277 (n := 279) rfl rfl ?_
                        refine Go.iload C X at_279 (n := 281) rfl rfl ?_
                        refine Go.icmp_ne C X at_281 (n1 := 302) (n2 := 284) (by decide) (by decide) rfl (fun hc281 => ?_) (fun hc281 => ?_)
                        · exact absurd rfl hc281
                        · refine Go.iload C X at_284 (n := 286) rfl rfl ?_
                          refine Go.iload C X at_286 (n := 288) rfl rfl ?_
                          refine Go.icmp_ne C X at_288 (n1 := 302) (n2 := 291) (by decide) (by decide) rfl (fun hc288 => ?_) (fun hc288 => ?_)
                          · exact absurd hc288 (by decide)
                          · refine Go.iload C X at_291 (n := 293) rfl rfl ?_
                            refine Go.iload C X at_293 (n := 295) rfl rfl ?_
                            refine Go.icmp_ne C X at_295 (n1 := 302) (n2 := 298) (by decide) (by decide) rfl (fun hc295 => ?_) (fun hc295 => ?_)
                            · exact absurd rfl hc295
                            · refine Go.iconst C X at_298 (n := 299) rfl (v := (1 : Int32)) rfl ?_
                              refine Go.goto C X at_299 (n := 303) (by decide) (by decide) ?_
                              refine Go.retNW C X eT B JI.tt trivial (Or.inl rfl) (w := (1 : Int32)) (by decide) at_303 (by decide) (by decide) ?_
                              exact ⟨rfl, N⟩
                    · exact absurd hc256 (by decide)
                  · exact absurd ⟨hc234, hc244⟩ hk2
            · refine Go.aload C X at_189 (n := 191) rfl rfl rfl ?_
              refine Go.iload C X at_191 (n := 193) rfl rfl ?_
              refine Go.iconst C X at_193 (n := 194) rfl (v := (3 : Int32)) rfl ?_
              refine Go.stat C X eT (argsL := [(.int (pp + (1 : Int32))), (.int (3 : Int32))]) (rest := [(.ref a)]) (mn3 l Z a0 hw n0 _ (pp + (1 : Int32)) (own_p1 hpp.1 hk1.1 hee.2)) (wd hw 83 rfl) (wd hw 84 rfl) (wd hw 85 rfl) (wd hw 86 rfl) (by decide) (lenOf pd_22 rfl) rfl at_194 (n := 197) rfl rfl (by decide) (W := 1) rfl (by decide) (by decide) (by decide) ?_
              clear X eT
              intro T h' v L X eT hQ
              obtain ⟨r194, rfl, rfl, hE, hr194⟩ := hQ
              replace hE := hE.symm
              subst hE
              replace N := N.app (Fr.nil n0)
              show Go p e below _ (T.setTop (mkF m 197 #[.val (.int p0), .val (.int p1), .val (.int p2), .val (.int p3), .val (.ref a), .val (.ref q), .val (.int pp), .val (.int ee), .val (.int c1), .val (.ref t), .val (.int (1 : Int32)), .val (.int (pp + (1 : Int32))), .val (.int (1 : Int32)), .val (.int (pp + (1 : Int32))), .unset, .unset, .unset, .unset, .unset] [(.int r194), (.ref a)]))
              refine Go.caloadL C X eT V_a (i := r194.toInt.toNat) (own_ix hr194.1) (v := .int (chA x0 x1 x2 x3 r194)) (own_at4 x0 x1 x2 x3 hr194.1 hr194.2) at_197 (n := 198) rfl ?_
              refine Go.goto C X at_198 (n := 209) (by decide) (by decide) ?_
              obtain ⟨c2, qz⟩ : ∃ z, z = (chA x0 x1 x2 x3 r194) := ⟨_, rfl⟩
              rw [← qz]
              clear qz
              show Go p e below _ (T.setTop (mkF m 209 #[.val (.int p0), .val (.int p1), .val (.int p2), .val (.int p3), .val (.ref a), .val (.ref q), .val (.int pp), .val (.int ee), .val (.int c1), .val (.ref t), .val (.int (1 : Int32)), .val (.int (pp + (1 : Int32))), .val (.int (1 : Int32)), .val (.int (pp + (1 : Int32))), .unset, .unset, .unset, .unset, .unset] [(.int c2)]))
              refine Go.istore C X at_209 (n := 211) rfl (l' := #[.val (.int p0), .val (.int p1), .val (.int p2), .val (.int p3), .val (.ref a), .val (.ref q), .val (.int pp), .val (.int ee), .val (.int c1), .val (.ref t), .val (.int (1 : Int32)), .val (.int (pp + (1 : Int32))), .val (.int (1 : Int32)), .val (.int (pp + (1 : Int32))), .val (.int c2), .unset, .unset, .unset, .unset]) rfl ?_
              refine Go.aload C X at_211 (n := 213) rfl rfl rfl ?_
              refine Go.iload C X at_213 (n := 215) rfl rfl ?_
              by_cases hk2 : (pp + (1 : Int32)) < ee ∧ chA x0 x1 x2 x3 (pp + (1 : Int32)) = c2
              · show Go p e below _ (T.setTop (mkF m 215 #[.val (.int p0), .val (.int p1), .val (.int p2), .val (.int p3), .val (.ref a), .val (.ref q), .val (.int pp), .val (.int ee), .val (.int c1), .val (.ref t), .val (.int (1 : Int32)), .val (.int (pp + (1 : Int32))), .val (.int (1 : Int32)), .val (.int (pp + (1 : Int32))), .val (.int c2), .unset, .unset, .unset, .unset] [(.int c2), (.ref t)]))
                refine Go.virt C X eT (argsL := [(.int c2)]) (rest := []) (a := t) (cons_y l Z a0 hw n0 _ t ca x0 x1 x2 x3 (pp + (1 : Int32)) ee c2 (own_p1 hpp.1 hk1.1 hee.2) hee.2 g_t ne_ca_t E_t F_t_chars F_t_position F_t_end V_ca hk2) (wd hw 73 rfl) (wd hw 74 rfl) (notFace_of_selects (args := #[]) (mvT C.hZ (wd hw 76 rfl))) (wd hw 76 rfl) (wd hw 75 rfl) (wd hw 33 rfl) (wd hw 77 rfl) (by decide) E_t (lenOf pd_20 rfl) rfl at_215 (n := 218) rfl rfl (by decide) (W := 0) rfl (by decide) (by decide) (by decide) ?_
                clear X eT
                intro T h v L X eT hQ
                obtain ⟨rfl, Nq, KK, F_t_position, F_t_chars, F_t_end⟩ := hQ
                replace N := N.app Nq
                replace O := O.keep KK (allS g_t all0)
                replace V_a := V_a.keep KK (ninS ne_a_t nin0)
                replace E_t := E_t.keep KK
                replace B := B.keep KK
                replace V_ca := V_ca.keep KK (ninS ne_ca_t nin0)
                show Go p e below _ (T.setTop (mkF m 218 #[.val (.int p0), .val (.int p1), .val (.int p2), .val (.int p3), .val (.ref a), .val (.ref q), .val (.int pp), .val (.int ee), .val (.int c1), .val (.ref t), .val (.int (1 : Int32)), .val (.int (pp + (1 : Int32))), .val (.int (1 : Int32)), .val (.int (pp + (1 : Int32))), .val (.int c2), .unset, .unset, .unset, .unset] [(.int (1 : Int32))]))
                refine Go.istore C X at_218 (n := 220) rfl (l' := #[.val (.int p0), .val (.int p1), .val (.int p2), .val (.int p3), .val (.ref a), .val (.ref q), .val (.int pp), .val (.int ee), .val (.int c1), .val (.ref t), .val (.int (1 : Int32)), .val (.int (pp + (1 : Int32))), .val (.int (1 : Int32)), .val (.int (pp + (1 : Int32))), .val (.int c2), .val (.int (1 : Int32)), .unset, .unset, .unset]) rfl ?_
                refine Go.aload C X at_220 (n := 222) rfl rfl rfl ?_
                refine Go.virt C X eT (argsL := []) (rest := []) (a := t) (pos l Z a0 hw n0 _ t ((pp + (1 : Int32)) + (1 : Int32)) F_t_position) (wd hw 78 rfl) (wd hw 79 rfl) (notFace_of_selects (args := #[]) (mvT C.hZ (wd hw 81 rfl))) (wd hw 81 rfl) (wd hw 80 rfl) (wd hw 33 rfl) (wd hw 82 rfl) (by decide) E_t (lenOf pd_21 rfl) rfl at_222 (n := 225) rfl rfl (by decide) (W := 0) rfl (by decide) (by decide) (by decide) ?_
                clear X eT
                intro T h' v L X eT hQ
                obtain ⟨rfl, rfl, hE⟩ := hQ
                replace hE := hE.symm
                subst hE
                replace N := N.app (Fr.nil n0)
                show Go p e below _ (T.setTop (mkF m 225 #[.val (.int p0), .val (.int p1), .val (.int p2), .val (.int p3), .val (.ref a), .val (.ref q), .val (.int pp), .val (.int ee), .val (.int c1), .val (.ref t), .val (.int (1 : Int32)), .val (.int (pp + (1 : Int32))), .val (.int (1 : Int32)), .val (.int (pp + (1 : Int32))), .val (.int c2), .val (.int (1 : Int32)), .unset, .unset, .unset] [(.int ((pp + (1 : Int32)) + (1 : Int32)))]))
                refine Go.istore C X at_225 (n := 227) rfl (l' := #[.val (.int p0), .val (.int p1), .val (.int p2), .val (.int p3), .val (.ref a), .val (.ref q), .val (.int pp), .val (.int ee), .val (.int c1), .val (.ref t), .val (.int (1 : Int32)), .val (.int (pp + (1 : Int32))), .val (.int (1 : Int32)), .val (.int (pp + (1 : Int32))), .val (.int c2), .val (.int (1 : Int32)), .val (.int ((pp + (1 : Int32)) + (1 : Int32))), .unset, .unset]) rfl ?_
                refine Go.iconst C X at_227 (n := 228) rfl (v := (0 : Int32)) rfl ?_
                refine Go.istore C X at_228 (n := 230) rfl (l' := #[.val (.int p0), .val (.int p1), .val (.int p2), .val (.int p3), .val (.ref a), .val (.ref q), .val (.int pp), .val (.int ee), .val (.int c1), .val (.ref t), .val (.int (1 : Int32)), .val (.int (pp + (1 : Int32))), .val (.int (1 : Int32)), .val (.int (pp + (1 : Int32))), .val (.int c2), .val (.int (1 : Int32)), .val (.int ((pp + (1 : Int32)) + (1 : Int32))), .val (.int (0 : Int32)), .unset]) rfl ?_
                refine Go.iload C X at_230 (n := 232) rfl rfl ?_
                refine Go.iload C X at_232 (n := 234) rfl rfl ?_
                refine Go.icmp_ge C X at_234 (n1 := 254) (n2 := 237) (by decide) (by decide) rfl (fun hc234 => ?_) (fun hc234 => ?_)
                · exact absurd hk2.1 hc234
                · refine Go.aload C X at_237 (n := 239) rfl rfl rfl ?_
                  refine Go.iload C X at_239 (n := 241) rfl rfl ?_
                  refine Go.caloadL C X eT V_a (i := (pp + (1 : Int32)).toInt.toNat) (own_ix (own_p1 hpp.1 hk1.1 hee.2)) (v := .int (chA x0 x1 x2 x3 (pp + (1 : Int32)))) (own_at4 x0 x1 x2 x3 (own_p1 hpp.1 hk1.1 hee.2) (own_lt4 hc234 hee.2)) at_241 (n := 242) rfl ?_
                  refine Go.iload C X at_242 (n := 244) rfl rfl ?_
                  refine Go.icmp_ne C X at_244 (n1 := 251) (n2 := 247) (by decide) (by decide) rfl (fun hc244 => ?_) (fun hc244 => ?_)
                  · exact absurd hk2.2 hc244
                  · refine Go.iconst C X at_247 (n := 248) rfl (v := (1 : Int32)) rfl ?_
                    refine Go.goto C X at_248 (n := 252) (by decide) (by decide) ?_
                    refine Go.istore C X at_252 (n := 254) rfl (l' := #[.val (.int p0), .val (.int p1), .val (.int p2), .val (.int p3), .val (.ref a), .val (.ref q), .val (.int pp), .val (.int ee), .val (.int c1), .val (.ref t), .val (.int (1 : Int32)), .val (.int (pp + (1 : Int32))), .val (.int (1 : Int32)), .val (.int (pp + (1 : Int32))), .val (.int c2), .val (.int (1 : Int32)), .val (.int ((pp + (1 : Int32)) + (1 : Int32))), .val (.int (1 : Int32)), .unset]) rfl ?_
                    refine Go.iload C X at_254 (n := 256) rfl rfl ?_
                    refine Go.if0_eq C X at_256 (n1 := 266) (n2 := 259) (by decide) (by decide) rfl (fun hc256 => ?_) (fun hc256 => ?_)
                    · exact absurd hc256 (by decide)
                    · refine Go.iload C X at_259 (n := 261) rfl rfl ?_
                      refine Go.iconst C X at_261 (n := 262) rfl (v := (1 : Int32)) rfl ?_
                      refine Go.iadd C X at_262 (n := 263) rfl ?_
                      refine Go.goto C X at_263 (n := 268) (by decide) (by decide) ?_
                      refine Go.istore C X at_268 (n := 270) rfl (l' := #[.val (.int p0), .val (.int p1), .val (.int p2), .val (.int p3), .val (.ref a), .val (.ref q), .val (.int pp), .val (.int ee), .val (.int c1), .val (.ref t), .val (.int (1 : Int32)), .val (.int (pp + (1 : Int32))), .val (.int (1 : Int32)), .val (.int (pp + (1 : Int32))), .val (.int c2), .val (.int (1 : Int32)), .val (.int ((pp + (1 : Int32)) + (1 : Int32))), .val (.int (1 : Int32)), .val (.int ((pp + (1 : Int32)) + (1 : Int32)))]) rfl ?_
                      refine Go.iload C X at_270 (n := 272) rfl rfl ?_
                      refine Go.iload C X at_272 (n := 274) rfl rfl ?_
                      refine Go.icmp_ne C X at_274 (n1 := 302) (n2 := 277) (by decide) (by decide) rfl (fun hc274 => ?_) (fun hc274 => ?_)
                      · exact absurd hc274 (by decide)
                      · refine Go.iload C X at_277 (n := 279) rfl rfl ?_
                        refine Go.iload C X at_279 (n := 281) rfl rfl ?_
                        refine Go.icmp_ne C X at_281 (n1 := 302) (n2 := 284) (by decide) (by decide) rfl (fun hc281 => ?_) (fun hc281 => ?_)
                        · exact absurd rfl hc281
                        · refine Go.iload C X at_284 (n := 286) rfl rfl ?_
                          refine Go.iload C X at_286 (n := 288) rfl rfl ?_
                          refine Go.icmp_ne C X at_288 (n1 := 302) (n2 := 291) (by decide) (by decide) rfl (fun hc288 => ?_) (fun hc288 => ?_)
                          · exact absurd hc288 (by decide)
                          · refine Go.iload C X at_291 (n := 293) rfl rfl ?_
                            refine Go.iload C X at_293 (n := 295) rfl rfl ?_
                            refine Go.icmp_ne C X at_295 (n1 := 302) (n2 := 298) (by decide) (by decide) rfl (fun hc295 => ?_) (fun hc295 => ?_)
                            · exact absurd rfl hc295
                            · refine Go.iconst C X at_298 (n := 299) rfl (v := (1 : Int32)) rfl ?_
                              refine Go.goto C X at_299 (n := 303) (by decide) (by decide) ?_
                              refine Go.retNW C X eT B JI.tt trivial (Or.inl rfl) (w := (1 : Int32)) (by decide) at_303 (by decide) (by decide) ?_
                              exact ⟨rfl, N⟩
              · show Go p e below _ (T.setTop (mkF m 215 #[.val (.int p0), .val (.int p1), .val (.int p2), .val (.int p3), .val (.ref a), .val (.ref q), .val (.int pp), .val (.int ee), .val (.int c1), .val (.ref t), .val (.int (1 : Int32)), .val (.int (pp + (1 : Int32))), .val (.int (1 : Int32)), .val (.int (pp + (1 : Int32))), .val (.int c2), .unset, .unset, .unset, .unset] [(.int c2), (.ref t)]))
                refine Go.virt C X eT (argsL := [(.int c2)]) (rest := []) (a := t) (cons_n l Z a0 hw n0 _ t ca x0 x1 x2 x3 (pp + (1 : Int32)) ee c2 (own_p1 hpp.1 hk1.1 hee.2) hee.2 g_t ne_ca_t E_t F_t_chars F_t_position F_t_end V_ca hk2) (wd hw 73 rfl) (wd hw 74 rfl) (notFace_of_selects (args := #[]) (mvT C.hZ (wd hw 76 rfl))) (wd hw 76 rfl) (wd hw 75 rfl) (wd hw 33 rfl) (wd hw 77 rfl) (by decide) E_t (lenOf pd_20 rfl) rfl at_215 (n := 218) rfl rfl (by decide) (W := 0) rfl (by decide) (by decide) (by decide) ?_
                clear X eT
                intro T h' v L X eT hQ
                obtain ⟨rfl, rfl, hE⟩ := hQ
                replace hE := hE.symm
                subst hE
                replace N := N.app (Fr.nil n0)
                show Go p e below _ (T.setTop (mkF m 218 #[.val (.int p0), .val (.int p1), .val (.int p2), .val (.int p3), .val (.ref a), .val (.ref q), .val (.int pp), .val (.int ee), .val (.int c1), .val (.ref t), .val (.int (1 : Int32)), .val (.int (pp + (1 : Int32))), .val (.int (1 : Int32)), .val (.int (pp + (1 : Int32))), .val (.int c2), .unset, .unset, .unset, .unset] [(.int (0 : Int32))]))
                refine Go.istore C X at_218 (n := 220) rfl (l' := #[.val (.int p0), .val (.int p1), .val (.int p2), .val (.int p3), .val (.ref a), .val (.ref q), .val (.int pp), .val (.int ee), .val (.int c1), .val (.ref t), .val (.int (1 : Int32)), .val (.int (pp + (1 : Int32))), .val (.int (1 : Int32)), .val (.int (pp + (1 : Int32))), .val (.int c2), .val (.int (0 : Int32)), .unset, .unset, .unset]) rfl ?_
                refine Go.aload C X at_220 (n := 222) rfl rfl rfl ?_
                refine Go.virt C X eT (argsL := []) (rest := []) (a := t) (pos l Z a0 hw n0 _ t (pp + (1 : Int32)) F_t_position) (wd hw 78 rfl) (wd hw 79 rfl) (notFace_of_selects (args := #[]) (mvT C.hZ (wd hw 81 rfl))) (wd hw 81 rfl) (wd hw 80 rfl) (wd hw 33 rfl) (wd hw 82 rfl) (by decide) E_t (lenOf pd_21 rfl) rfl at_222 (n := 225) rfl rfl (by decide) (W := 0) rfl (by decide) (by decide) (by decide) ?_
                clear X eT
                intro T h' v L X eT hQ
                obtain ⟨rfl, rfl, hE⟩ := hQ
                replace hE := hE.symm
                subst hE
                replace N := N.app (Fr.nil n0)
                show Go p e below _ (T.setTop (mkF m 225 #[.val (.int p0), .val (.int p1), .val (.int p2), .val (.int p3), .val (.ref a), .val (.ref q), .val (.int pp), .val (.int ee), .val (.int c1), .val (.ref t), .val (.int (1 : Int32)), .val (.int (pp + (1 : Int32))), .val (.int (1 : Int32)), .val (.int (pp + (1 : Int32))), .val (.int c2), .val (.int (0 : Int32)), .unset, .unset, .unset] [(.int (pp + (1 : Int32)))]))
                refine Go.istore C X at_225 (n := 227) rfl (l' := #[.val (.int p0), .val (.int p1), .val (.int p2), .val (.int p3), .val (.ref a), .val (.ref q), .val (.int pp), .val (.int ee), .val (.int c1), .val (.ref t), .val (.int (1 : Int32)), .val (.int (pp + (1 : Int32))), .val (.int (1 : Int32)), .val (.int (pp + (1 : Int32))), .val (.int c2), .val (.int (0 : Int32)), .val (.int (pp + (1 : Int32))), .unset, .unset]) rfl ?_
                refine Go.iconst C X at_227 (n := 228) rfl (v := (0 : Int32)) rfl ?_
                refine Go.istore C X at_228 (n := 230) rfl (l' := #[.val (.int p0), .val (.int p1), .val (.int p2), .val (.int p3), .val (.ref a), .val (.ref q), .val (.int pp), .val (.int ee), .val (.int c1), .val (.ref t), .val (.int (1 : Int32)), .val (.int (pp + (1 : Int32))), .val (.int (1 : Int32)), .val (.int (pp + (1 : Int32))), .val (.int c2), .val (.int (0 : Int32)), .val (.int (pp + (1 : Int32))), .val (.int (0 : Int32)), .unset]) rfl ?_
                refine Go.iload C X at_230 (n := 232) rfl rfl ?_
                refine Go.iload C X at_232 (n := 234) rfl rfl ?_
                refine Go.icmp_ge C X at_234 (n1 := 254) (n2 := 237) (by decide) (by decide) rfl (fun hc234 => ?_) (fun hc234 => ?_)
                · refine Go.iload C X at_254 (n := 256) rfl rfl ?_
                  refine Go.if0_eq C X at_256 (n1 := 266) (n2 := 259) (by decide) (by decide) rfl (fun hc256 => ?_) (fun hc256 => ?_)
                  · refine Go.iload C X at_266 (n := 268) rfl rfl ?_
                    refine Go.istore C X at_268 (n := 270) rfl (l' := #[.val (.int p0), .val (.int p1), .val (.int p2), .val (.int p3), .val (.ref a), .val (.ref q), .val (.int pp), .val (.int ee), .val (.int c1), .val (.ref t), .val (.int (1 : Int32)), .val (.int (pp + (1 : Int32))), .val (.int (1 : Int32)), .val (.int (pp + (1 : Int32))), .val (.int c2), .val (.int (0 : Int32)), .val (.int (pp + (1 : Int32))), .val (.int (0 : Int32)), .val (.int (pp + (1 : Int32)))]) rfl ?_
                    refine Go.iload C X at_270 (n := 272) rfl rfl ?_
                    refine Go.iload C X at_272 (n := 274) rfl rfl ?_
                    refine Go.icmp_ne C X at_274 (n1 := 302) (n2 := 277) (by decide) (by decide) rfl (fun hc274 => ?_) (fun hc274 => ?_)
                    · exact absurd hc274 (by decide)
                    · refine Go.iload C X at_277 (n := 279) rfl rfl ?_
                      refine Go.iload C X at_279 (n := 281) rfl rfl ?_
                      refine Go.icmp_ne C X at_281 (n1 := 302) (n2 := 284) (by decide) (by decide) rfl (fun hc281 => ?_) (fun hc281 => ?_)
                      · exact absurd rfl hc281
                      · refine Go.iload C X at_284 (n := 286) rfl rfl ?_
                        refine Go.iload C X at_286 (n := 288) rfl rfl ?_
                        refine Go.icmp_ne C X at_288 (n1 := 302) (n2 := 291) (by decide) (by decide) rfl (fun hc288 => ?_) (fun hc288 => ?_)
                        · exact absurd hc288 (by decide)
                        · refine Go.iload C X at_291 (n := 293) rfl rfl ?_
                          refine Go.iload C X at_293 (n := 295) rfl rfl ?_
                          refine Go.icmp_ne C X at_295 (n1 := 302) (n2 := 298) (by decide) (by decide) rfl (fun hc295 => ?_) (fun hc295 => ?_)
                          · exact absurd rfl hc295
                          · refine Go.iconst C X at_298 (n := 299) rfl (v := (1 : Int32)) rfl ?_
                            refine Go.goto C X at_299 (n := 303) (by decide) (by decide) ?_
                            refine Go.retNW C X eT B JI.tt trivial (Or.inl rfl) (w := (1 : Int32)) (by decide) at_303 (by decide) (by decide) ?_
                            exact ⟨rfl, N⟩
                  · exact absurd hc256 (by decide)
                · refine Go.aload C X at_237 (n := 239) rfl rfl rfl ?_
                  refine Go.iload C X at_239 (n := 241) rfl rfl ?_
                  refine Go.caloadL C X eT V_a (i := (pp + (1 : Int32)).toInt.toNat) (own_ix (own_p1 hpp.1 hk1.1 hee.2)) (v := .int (chA x0 x1 x2 x3 (pp + (1 : Int32)))) (own_at4 x0 x1 x2 x3 (own_p1 hpp.1 hk1.1 hee.2) (own_lt4 hc234 hee.2)) at_241 (n := 242) rfl ?_
                  refine Go.iload C X at_242 (n := 244) rfl rfl ?_
                  refine Go.icmp_ne C X at_244 (n1 := 251) (n2 := 247) (by decide) (by decide) rfl (fun hc244 => ?_) (fun hc244 => ?_)
                  · refine Go.iconst C X at_251 (n := 252) rfl (v := (0 : Int32)) rfl ?_
                    refine Go.istore C X at_252 (n := 254) rfl (l' := #[.val (.int p0), .val (.int p1), .val (.int p2), .val (.int p3), .val (.ref a), .val (.ref q), .val (.int pp), .val (.int ee), .val (.int c1), .val (.ref t), .val (.int (1 : Int32)), .val (.int (pp + (1 : Int32))), .val (.int (1 : Int32)), .val (.int (pp + (1 : Int32))), .val (.int c2), .val (.int (0 : Int32)), .val (.int (pp + (1 : Int32))), .val (.int (0 : Int32)), .unset]) rfl ?_
                    refine Go.iload C X at_254 (n := 256) rfl rfl ?_
                    refine Go.if0_eq C X at_256 (n1 := 266) (n2 := 259) (by decide) (by decide) rfl (fun hc256 => ?_) (fun hc256 => ?_)
                    · refine Go.iload C X at_266 (n := 268) rfl rfl ?_
                      refine Go.istore C X at_268 (n := 270) rfl (l' := #[.val (.int p0), .val (.int p1), .val (.int p2), .val (.int p3), .val (.ref a), .val (.ref q), .val (.int pp), .val (.int ee), .val (.int c1), .val (.ref t), .val (.int (1 : Int32)), .val (.int (pp + (1 : Int32))), .val (.int (1 : Int32)), .val (.int (pp + (1 : Int32))), .val (.int c2), .val (.int (0 : Int32)), .val (.int (pp + (1 : Int32))), .val (.int (0 : Int32)), .val (.int (pp + (1 : Int32)))]) rfl ?_
                      refine Go.iload C X at_270 (n := 272) rfl rfl ?_
                      refine Go.iload C X at_272 (n := 274) rfl rfl ?_
                      refine Go.icmp_ne C X at_274 (n1 := 302) (n2 := 277) (by decide) (by decide) rfl (fun hc274 => ?_) (fun hc274 => ?_)
                      · exact absurd hc274 (by decide)
                      · refine Go.iload C X at_277 (n := 279) rfl rfl ?_
                        refine Go.iload C X at_279 (n := 281) rfl rfl ?_
                        refine Go.icmp_ne C X at_281 (n1 := 302) (n2 := 284) (by decide) (by decide) rfl (fun hc281 => ?_) (fun hc281 => ?_)
                        · exact absurd rfl hc281
                        · refine Go.iload C X at_284 (n := 286) rfl rfl ?_
                          refine Go.iload C X at_286 (n := 288) rfl rfl ?_
                          refine Go.icmp_ne C X at_288 (n1 := 302) (n2 := 291) (by decide) (by decide) rfl (fun hc288 => ?_) (fun hc288 => ?_)
                          · exact absurd hc288 (by decide)
                          · refine Go.iload C X at_291 (n := 293) rfl rfl ?_
                            refine Go.iload C X at_293 (n := 295) rfl rfl ?_
                            refine Go.icmp_ne C X at_295 (n1 := 302) (n2 := 298) (by decide) (by decide) rfl (fun hc295 => ?_) (fun hc295 => ?_)
                            · exact absurd rfl hc295
                            · refine Go.iconst C X at_298 (n := 299) rfl (v := (1 : Int32)) rfl ?_
                              refine Go.goto C X at_299 (n := 303) (by decide) (by decide) ?_
                              refine Go.retNW C X eT B JI.tt trivial (Or.inl rfl) (w := (1 : Int32)) (by decide) at_303 (by decide) (by decide) ?_
                              exact ⟨rfl, N⟩
                    · exact absurd hc256 (by decide)
                  · exact absurd ⟨hc234, hc244⟩ hk2
    · show Go p e below _ (T.setTop (mkF m 125 #[.val (.int p0), .val (.int p1), .val (.int p2), .val (.int p3), .val (.ref a), .val (.ref q), .val (.int pp), .val (.int ee), .val (.int c1), .val (.ref t), .unset, .unset, .unset, .unset, .unset, .unset, .unset, .unset, .unset] [(.int c1), (.ref t)]))
      refine Go.virt C X eT (argsL := [(.int c1)]) (rest := []) (a := t) (cons_n l Z a0 hw n0 _ t ca x0 x1 x2 x3 pp ee c1 hpp.1 hee.2 g_t ne_ca_t E_t F_t_chars F_t_position F_t_end V_ca hk1) (wd hw 73 rfl) (wd hw 74 rfl) (notFace_of_selects (args := #[]) (mvT C.hZ (wd hw 76 rfl))) (wd hw 76 rfl) (wd hw 75 rfl) (wd hw 33 rfl) (wd hw 77 rfl) (by decide) E_t (lenOf pd_20 rfl) rfl at_125 (n := 128) rfl rfl (by decide) (W := 0) rfl (by decide) (by decide) (by decide) ?_
      clear X eT
      intro T h' v L X eT hQ
      obtain ⟨rfl, rfl, hE⟩ := hQ
      replace hE := hE.symm
      subst hE
      replace N := N.app (Fr.nil n0)
      show Go p e below _ (T.setTop (mkF m 128 #[.val (.int p0), .val (.int p1), .val (.int p2), .val (.int p3), .val (.ref a), .val (.ref q), .val (.int pp), .val (.int ee), .val (.int c1), .val (.ref t), .unset, .unset, .unset, .unset, .unset, .unset, .unset, .unset, .unset] [(.int (0 : Int32))]))
      refine Go.istore C X at_128 (n := 130) rfl (l' := #[.val (.int p0), .val (.int p1), .val (.int p2), .val (.int p3), .val (.ref a), .val (.ref q), .val (.int pp), .val (.int ee), .val (.int c1), .val (.ref t), .val (.int (0 : Int32)), .unset, .unset, .unset, .unset, .unset, .unset, .unset, .unset]) rfl ?_
      refine Go.aload C X at_130 (n := 132) rfl rfl rfl ?_
      refine Go.virt C X eT (argsL := []) (rest := []) (a := t) (pos l Z a0 hw n0 _ t pp F_t_position) (wd hw 78 rfl) (wd hw 79 rfl) (notFace_of_selects (args := #[]) (mvT C.hZ (wd hw 81 rfl))) (wd hw 81 rfl) (wd hw 80 rfl) (wd hw 33 rfl) (wd hw 82 rfl) (by decide) E_t (lenOf pd_21 rfl) rfl at_132 (n := 135) rfl rfl (by decide) (W := 0) rfl (by decide) (by decide) (by decide) ?_
      clear X eT
      intro T h' v L X eT hQ
      obtain ⟨rfl, rfl, hE⟩ := hQ
      replace hE := hE.symm
      subst hE
      replace N := N.app (Fr.nil n0)
      show Go p e below _ (T.setTop (mkF m 135 #[.val (.int p0), .val (.int p1), .val (.int p2), .val (.int p3), .val (.ref a), .val (.ref q), .val (.int pp), .val (.int ee), .val (.int c1), .val (.ref t), .val (.int (0 : Int32)), .unset, .unset, .unset, .unset, .unset, .unset, .unset, .unset] [(.int pp)]))
      refine Go.istore C X at_135 (n := 137) rfl (l' := #[.val (.int p0), .val (.int p1), .val (.int p2), .val (.int p3), .val (.ref a), .val (.ref q), .val (.int pp), .val (.int ee), .val (.int c1), .val (.ref t), .val (.int (0 : Int32)), .val (.int pp), .unset, .unset, .unset, .unset, .unset, .unset, .unset]) rfl ?_
      refine Go.iconst C X at_137 (n := 138) rfl (v := (0 : Int32)) rfl ?_
      refine Go.istore C X at_138 (n := 140) rfl (l' := #[.val (.int p0), .val (.int p1), .val (.int p2), .val (.int p3), .val (.ref a), .val (.ref q), .val (.int pp), .val (.int ee), .val (.int c1), .val (.ref t), .val (.int (0 : Int32)), .val (.int pp), .val (.int (0 : Int32)), .unset, .unset, .unset, .unset, .unset, .unset]) rfl ?_
      refine Go.iload C X at_140 (n := 142) rfl rfl ?_
      refine Go.iload C X at_142 (n := 144) rfl rfl ?_
      refine Go.icmp_ge C X at_144 (n1 := 164) (n2 := 147) (by decide) (by decide) rfl (fun hc144 => ?_) (fun hc144 => ?_)
      · refine Go.iload C X at_164 (n := 166) rfl rfl ?_
        refine Go.if0_eq C X at_166 (n1 := 176) (n2 := 169) (by decide) (by decide) rfl (fun hc166 => ?_) (fun hc166 => ?_)
        · refine Go.iload C X at_176 (n := 178) rfl rfl ?_
          refine Go.istore C X at_178 (n := 180) rfl (l' := #[.val (.int p0), .val (.int p1), .val (.int p2), .val (.int p3), .val (.ref a), .val (.ref q), .val (.int pp), .val (.int ee), .val (.int c1), .val (.ref t), .val (.int (0 : Int32)), .val (.int pp), .val (.int (0 : Int32)), .val (.int pp), .unset, .unset, .unset, .unset, .unset]) rfl ?_
          refine Go.iloadN C X at_180 (n := 181) rfl rfl ?_
          refine Go.bipush C X at_181 (n := 183) rfl (v := (7 : Int32)) rfl ?_
          refine Go.iushr C X at_183 (n := 184) rfl ?_
          refine Go.iconst C X at_184 (n := 185) rfl (v := (1 : Int32)) rfl ?_
          refine Go.iand C X at_185 (n := 186) rfl ?_
          refine Go.if0_eq C X at_186 (n1 := 201) (n2 := 189) (by decide) (by decide) rfl (fun hc186 => ?_) (fun hc186 => ?_)
          · refine Go.iloadN C X at_201 (n := 202) rfl rfl ?_
            refine Go.bipush C X at_202 (n := 204) rfl (v := (16 : Int32)) rfl ?_
            refine Go.iushr C X at_204 (n := 205) rfl ?_
            refine Go.ldcI C X (wd hw 1 rfl) at_205 (n := 207) rfl ?_
            refine Go.iand C X at_207 (n := 208) rfl ?_
            refine Go.i2c C X at_208 (n := 209) rfl ?_
            obtain ⟨c2, qz⟩ : ∃ z, z = (((XT.ushr p3 (16 : Int32)) &&& (65535 : Int32)).toUInt32.toUInt16.toUInt32.toInt32) := ⟨_, rfl⟩
            rw [← qz]
            clear qz
            show Go p e below _ (T.setTop (mkF m 209 #[.val (.int p0), .val (.int p1), .val (.int p2), .val (.int p3), .val (.ref a), .val (.ref q), .val (.int pp), .val (.int ee), .val (.int c1), .val (.ref t), .val (.int (0 : Int32)), .val (.int pp), .val (.int (0 : Int32)), .val (.int pp), .unset, .unset, .unset, .unset, .unset] [(.int c2)]))
            refine Go.istore C X at_209 (n := 211) rfl (l' := #[.val (.int p0), .val (.int p1), .val (.int p2), .val (.int p3), .val (.ref a), .val (.ref q), .val (.int pp), .val (.int ee), .val (.int c1), .val (.ref t), .val (.int (0 : Int32)), .val (.int pp), .val (.int (0 : Int32)), .val (.int pp), .val (.int c2), .unset, .unset, .unset, .unset]) rfl ?_
            refine Go.aload C X at_211 (n := 213) rfl rfl rfl ?_
            refine Go.iload C X at_213 (n := 215) rfl rfl ?_
            by_cases hk2 : pp < ee ∧ chA x0 x1 x2 x3 pp = c2
            · show Go p e below _ (T.setTop (mkF m 215 #[.val (.int p0), .val (.int p1), .val (.int p2), .val (.int p3), .val (.ref a), .val (.ref q), .val (.int pp), .val (.int ee), .val (.int c1), .val (.ref t), .val (.int (0 : Int32)), .val (.int pp), .val (.int (0 : Int32)), .val (.int pp), .val (.int c2), .unset, .unset, .unset, .unset] [(.int c2), (.ref t)]))
              refine Go.virt C X eT (argsL := [(.int c2)]) (rest := []) (a := t) (cons_y l Z a0 hw n0 _ t ca x0 x1 x2 x3 pp ee c2 hpp.1 hee.2 g_t ne_ca_t E_t F_t_chars F_t_position F_t_end V_ca hk2) (wd hw 73 rfl) (wd hw 74 rfl) (notFace_of_selects (args := #[]) (mvT C.hZ (wd hw 76 rfl))) (wd hw 76 rfl) (wd hw 75 rfl) (wd hw 33 rfl) (wd hw 77 rfl) (by decide) E_t (lenOf pd_20 rfl) rfl at_215 (n := 218) rfl rfl (by decide) (W := 0) rfl (by decide) (by decide) (by decide) ?_
              clear X eT
              intro T h v L X eT hQ
              obtain ⟨rfl, Nq, KK, F_t_position, F_t_chars, F_t_end⟩ := hQ
              replace N := N.app Nq
              replace O := O.keep KK (allS g_t all0)
              replace V_a := V_a.keep KK (ninS ne_a_t nin0)
              replace E_t := E_t.keep KK
              replace B := B.keep KK
              replace V_ca := V_ca.keep KK (ninS ne_ca_t nin0)
              show Go p e below _ (T.setTop (mkF m 218 #[.val (.int p0), .val (.int p1), .val (.int p2), .val (.int p3), .val (.ref a), .val (.ref q), .val (.int pp), .val (.int ee), .val (.int c1), .val (.ref t), .val (.int (0 : Int32)), .val (.int pp), .val (.int (0 : Int32)), .val (.int pp), .val (.int c2), .unset, .unset, .unset, .unset] [(.int (1 : Int32))]))
              refine Go.istore C X at_218 (n := 220) rfl (l' := #[.val (.int p0), .val (.int p1), .val (.int p2), .val (.int p3), .val (.ref a), .val (.ref q), .val (.int pp), .val (.int ee), .val (.int c1), .val (.ref t), .val (.int (0 : Int32)), .val (.int pp), .val (.int (0 : Int32)), .val (.int pp), .val (.int c2), .val (.int (1 : Int32)), .unset, .unset, .unset]) rfl ?_
              refine Go.aload C X at_220 (n := 222) rfl rfl rfl ?_
              refine Go.virt C X eT (argsL := []) (rest := []) (a := t) (pos l Z a0 hw n0 _ t (pp + (1 : Int32)) F_t_position) (wd hw 78 rfl) (wd hw 79 rfl) (notFace_of_selects (args := #[]) (mvT C.hZ (wd hw 81 rfl))) (wd hw 81 rfl) (wd hw 80 rfl) (wd hw 33 rfl) (wd hw 82 rfl) (by decide) E_t (lenOf pd_21 rfl) rfl at_222 (n := 225) rfl rfl (by decide) (W := 0) rfl (by decide) (by decide) (by decide) ?_
              clear X eT
              intro T h' v L X eT hQ
              obtain ⟨rfl, rfl, hE⟩ := hQ
              replace hE := hE.symm
              subst hE
              replace N := N.app (Fr.nil n0)
              show Go p e below _ (T.setTop (mkF m 225 #[.val (.int p0), .val (.int p1), .val (.int p2), .val (.int p3), .val (.ref a), .val (.ref q), .val (.int pp), .val (.int ee), .val (.int c1), .val (.ref t), .val (.int (0 : Int32)), .val (.int pp), .val (.int (0 : Int32)), .val (.int pp), .val (.int c2), .val (.int (1 : Int32)), .unset, .unset, .unset] [(.int (pp + (1 : Int32)))]))
              refine Go.istore C X at_225 (n := 227) rfl (l' := #[.val (.int p0), .val (.int p1), .val (.int p2), .val (.int p3), .val (.ref a), .val (.ref q), .val (.int pp), .val (.int ee), .val (.int c1), .val (.ref t), .val (.int (0 : Int32)), .val (.int pp), .val (.int (0 : Int32)), .val (.int pp), .val (.int c2), .val (.int (1 : Int32)), .val (.int (pp + (1 : Int32))), .unset, .unset]) rfl ?_
              refine Go.iconst C X at_227 (n := 228) rfl (v := (0 : Int32)) rfl ?_
              refine Go.istore C X at_228 (n := 230) rfl (l' := #[.val (.int p0), .val (.int p1), .val (.int p2), .val (.int p3), .val (.ref a), .val (.ref q), .val (.int pp), .val (.int ee), .val (.int c1), .val (.ref t), .val (.int (0 : Int32)), .val (.int pp), .val (.int (0 : Int32)), .val (.int pp), .val (.int c2), .val (.int (1 : Int32)), .val (.int (pp + (1 : Int32))), .val (.int (0 : Int32)), .unset]) rfl ?_
              refine Go.iload C X at_230 (n := 232) rfl rfl ?_
              refine Go.iload C X at_232 (n := 234) rfl rfl ?_
              refine Go.icmp_ge C X at_234 (n1 := 254) (n2 := 237) (by decide) (by decide) rfl (fun hc234 => ?_) (fun hc234 => ?_)
              · exact absurd hk2.1 hc234
              · refine Go.aload C X at_237 (n := 239) rfl rfl rfl ?_
                refine Go.iload C X at_239 (n := 241) rfl rfl ?_
                refine Go.caloadL C X eT V_a (i := pp.toInt.toNat) (own_ix hpp.1) (v := .int (chA x0 x1 x2 x3 pp)) (own_at4 x0 x1 x2 x3 hpp.1 (own_lt4 hc234 hee.2)) at_241 (n := 242) rfl ?_
                refine Go.iload C X at_242 (n := 244) rfl rfl ?_
                refine Go.icmp_ne C X at_244 (n1 := 251) (n2 := 247) (by decide) (by decide) rfl (fun hc244 => ?_) (fun hc244 => ?_)
                · exact absurd hk2.2 hc244
                · refine Go.iconst C X at_247 (n := 248) rfl (v := (1 : Int32)) rfl ?_
                  refine Go.goto C X at_248 (n := 252) (by decide) (by decide) ?_
                  refine Go.istore C X at_252 (n := 254) rfl (l' := #[.val (.int p0), .val (.int p1), .val (.int p2), .val (.int p3), .val (.ref a), .val (.ref q), .val (.int pp), .val (.int ee), .val (.int c1), .val (.ref t), .val (.int (0 : Int32)), .val (.int pp), .val (.int (0 : Int32)), .val (.int pp), .val (.int c2), .val (.int (1 : Int32)), .val (.int (pp + (1 : Int32))), .val (.int (1 : Int32)), .unset]) rfl ?_
                  refine Go.iload C X at_254 (n := 256) rfl rfl ?_
                  refine Go.if0_eq C X at_256 (n1 := 266) (n2 := 259) (by decide) (by decide) rfl (fun hc256 => ?_) (fun hc256 => ?_)
                  · exact absurd hc256 (by decide)
                  · refine Go.iload C X at_259 (n := 261) rfl rfl ?_
                    refine Go.iconst C X at_261 (n := 262) rfl (v := (1 : Int32)) rfl ?_
                    refine Go.iadd C X at_262 (n := 263) rfl ?_
                    refine Go.goto C X at_263 (n := 268) (by decide) (by decide) ?_
                    refine Go.istore C X at_268 (n := 270) rfl (l' := #[.val (.int p0), .val (.int p1), .val (.int p2), .val (.int p3), .val (.ref a), .val (.ref q), .val (.int pp), .val (.int ee), .val (.int c1), .val (.ref t), .val (.int (0 : Int32)), .val (.int pp), .val (.int (0 : Int32)), .val (.int pp), .val (.int c2), .val (.int (1 : Int32)), .val (.int (pp + (1 : Int32))), .val (.int (1 : Int32)), .val (.int (pp + (1 : Int32)))]) rfl ?_
                    refine Go.iload C X at_270 (n := 272) rfl rfl ?_
                    refine Go.iload C X at_272 (n := 274) rfl rfl ?_
                    refine Go.icmp_ne C X at_274 (n1 := 302) (n2 := 277) (by decide) (by decide) rfl (fun hc274 => ?_) (fun hc274 => ?_)
                    · exact absurd hc274 (by decide)
                    · refine Go.iload C X at_277 (n := 279) rfl rfl ?_
                      refine Go.iload C X at_279 (n := 281) rfl rfl ?_
                      refine Go.icmp_ne C X at_281 (n1 := 302) (n2 := 284) (by decide) (by decide) rfl (fun hc281 => ?_) (fun hc281 => ?_)
                      · exact absurd rfl hc281
                      · refine Go.iload C X at_284 (n := 286) rfl rfl ?_
                        refine Go.iload C X at_286 (n := 288) rfl rfl ?_
                        refine Go.icmp_ne C X at_288 (n1 := 302) (n2 := 291) (by decide) (by decide) rfl (fun hc288 => ?_) (fun hc288 => ?_)
                        · exact absurd hc288 (by decide)
                        · refine Go.iload C X at_291 (n := 293) rfl rfl ?_
                          refine Go.iload C X at_293 (n := 295) rfl rfl ?_
                          refine Go.icmp_ne C X at_295 (n1 := 302) (n2 := 298) (by decide) (by decide) rfl (fun hc295 => ?_) (fun hc295 => ?_)
                          · exact absurd rfl hc295
                          · refine Go.iconst C X at_298 (n := 299) rfl (v := (1 : Int32)) rfl ?_
                            refine Go.goto C X at_299 (n := 303) (by decide) (by decide) ?_
                            refine Go.retNW C X eT B JI.tt trivial (Or.inl rfl) (w := (1 : Int32)) (by decide) at_303 (by decide) (by decide) ?_
                            exact ⟨rfl, N⟩
            · show Go p e below _ (T.setTop (mkF m 215 #[.val (.int p0), .val (.int p1), .val (.int p2), .val (.int p3), .val (.ref a), .val (.ref q), .val (.int pp), .val (.int ee), .val (.int c1), .val (.ref t), .val (.int (0 : Int32)), .val (.int pp), .val (.int (0 : Int32)), .val (.int pp), .val (.int c2), .unset, .unset, .unset, .unset] [(.int c2), (.ref t)]))
              refine Go.virt C X eT (argsL := [(.int c2)]) (rest := []) (a := t) (cons_n l Z a0 hw n0 _ t ca x0 x1 x2 x3 pp ee c2 hpp.1 hee.2 g_t ne_ca_t E_t F_t_chars F_t_position F_t_end V_ca hk2) (wd hw 73 rfl) (wd hw 74 rfl) (notFace_of_selects (args := #[]) (mvT C.hZ (wd hw 76 rfl))) (wd hw 76 rfl) (wd hw 75 rfl) (wd hw 33 rfl) (wd hw 77 rfl) (by decide) E_t (lenOf pd_20 rfl) rfl at_215 (n := 218) rfl rfl (by decide) (W := 0) rfl (by decide) (by decide) (by decide) ?_
              clear X eT
              intro T h' v L X eT hQ
              obtain ⟨rfl, rfl, hE⟩ := hQ
              replace hE := hE.symm
              subst hE
              replace N := N.app (Fr.nil n0)
              show Go p e below _ (T.setTop (mkF m 218 #[.val (.int p0), .val (.int p1), .val (.int p2), .val (.int p3), .val (.ref a), .val (.ref q), .val (.int pp), .val (.int ee), .val (.int c1), .val (.ref t), .val (.int (0 : Int32)), .val (.int pp), .val (.int (0 : Int32)), .val (.int pp), .val (.int c2), .unset, .unset, .unset, .unset] [(.int (0 : Int32))]))
              refine Go.istore C X at_218 (n := 220) rfl (l' := #[.val (.int p0), .val (.int p1), .val (.int p2), .val (.int p3), .val (.ref a), .val (.ref q), .val (.int pp), .val (.int ee), .val (.int c1), .val (.ref t), .val (.int (0 : Int32)), .val (.int pp), .val (.int (0 : Int32)), .val (.int pp), .val (.int c2), .val (.int (0 : Int32)), .unset, .unset, .unset]) rfl ?_
              refine Go.aload C X at_220 (n := 222) rfl rfl rfl ?_
              refine Go.virt C X eT (argsL := []) (rest := []) (a := t) (pos l Z a0 hw n0 _ t pp F_t_position) (wd hw 78 rfl) (wd hw 79 rfl) (notFace_of_selects (args := #[]) (mvT C.hZ (wd hw 81 rfl))) (wd hw 81 rfl) (wd hw 80 rfl) (wd hw 33 rfl) (wd hw 82 rfl) (by decide) E_t (lenOf pd_21 rfl) rfl at_222 (n := 225) rfl rfl (by decide) (W := 0) rfl (by decide) (by decide) (by decide) ?_
              clear X eT
              intro T h' v L X eT hQ
              obtain ⟨rfl, rfl, hE⟩ := hQ
              replace hE := hE.symm
              subst hE
              replace N := N.app (Fr.nil n0)
              show Go p e below _ (T.setTop (mkF m 225 #[.val (.int p0), .val (.int p1), .val (.int p2), .val (.int p3), .val (.ref a), .val (.ref q), .val (.int pp), .val (.int ee), .val (.int c1), .val (.ref t), .val (.int (0 : Int32)), .val (.int pp), .val (.int (0 : Int32)), .val (.int pp), .val (.int c2), .val (.int (0 : Int32)), .unset, .unset, .unset] [(.int pp)]))
              refine Go.istore C X at_225 (n := 227) rfl (l' := #[.val (.int p0), .val (.int p1), .val (.int p2), .val (.int p3), .val (.ref a), .val (.ref q), .val (.int pp), .val (.int ee), .val (.int c1), .val (.ref t), .val (.int (0 : Int32)), .val (.int pp), .val (.int (0 : Int32)), .val (.int pp), .val (.int c2), .val (.int (0 : Int32)), .val (.int pp), .unset, .unset]) rfl ?_
              refine Go.iconst C X at_227 (n := 228) rfl (v := (0 : Int32)) rfl ?_
              refine Go.istore C X at_228 (n := 230) rfl (l' := #[.val (.int p0), .val (.int p1), .val (.int p2), .val (.int p3), .val (.ref a), .val (.ref q), .val (.int pp), .val (.int ee), .val (.int c1), .val (.ref t), .val (.int (0 : Int32)), .val (.int pp), .val (.int (0 : Int32)), .val (.int pp), .val (.int c2), .val (.int (0 : Int32)), .val (.int pp), .val (.int (0 : Int32)), .unset]) rfl ?_
              refine Go.iload C X at_230 (n := 232) rfl rfl ?_
              refine Go.iload C X at_232 (n := 234) rfl rfl ?_
              refine Go.icmp_ge C X at_234 (n1 := 254) (n2 := 237) (by decide) (by decide) rfl (fun hc234 => ?_) (fun hc234 => ?_)
              · refine Go.iload C X at_254 (n := 256) rfl rfl ?_
                refine Go.if0_eq C X at_256 (n1 := 266) (n2 := 259) (by decide) (by decide) rfl (fun hc256 => ?_) (fun hc256 => ?_)
                · refine Go.iload C X at_266 (n := 268) rfl rfl ?_
                  refine Go.istore C X at_268 (n := 270) rfl (l' := #[.val (.int p0), .val (.int p1), .val (.int p2), .val (.int p3), .val (.ref a), .val (.ref q), .val (.int pp), .val (.int ee), .val (.int c1), .val (.ref t), .val (.int (0 : Int32)), .val (.int pp), .val (.int (0 : Int32)), .val (.int pp), .val (.int c2), .val (.int (0 : Int32)), .val (.int pp), .val (.int (0 : Int32)), .val (.int pp)]) rfl ?_
                  refine Go.iload C X at_270 (n := 272) rfl rfl ?_
                  refine Go.iload C X at_272 (n := 274) rfl rfl ?_
                  refine Go.icmp_ne C X at_274 (n1 := 302) (n2 := 277) (by decide) (by decide) rfl (fun hc274 => ?_) (fun hc274 => ?_)
                  · exact absurd hc274 (by decide)
                  · refine Go.iload C X at_277 (n := 279) rfl rfl ?_
                    refine Go.iload C X at_279 (n := 281) rfl rfl ?_
                    refine Go.icmp_ne C X at_281 (n1 := 302) (n2 := 284) (by decide) (by decide) rfl (fun hc281 => ?_) (fun hc281 => ?_)
                    · exact absurd rfl hc281
                    · refine Go.iload C X at_284 (n := 286) rfl rfl ?_
                      refine Go.iload C X at_286 (n := 288) rfl rfl ?_
                      refine Go.icmp_ne C X at_288 (n1 := 302) (n2 := 291) (by decide) (by decide) rfl (fun hc288 => ?_) (fun hc288 => ?_)
                      · exact absurd hc288 (by decide)
                      · refine Go.iload C X at_291 (n := 293) rfl rfl ?_
                        refine Go.iload C X at_293 (n := 295) rfl rfl ?_
                        refine Go.icmp_ne C X at_295 (n1 := 302) (n2 := 298) (by decide) (by decide) rfl (fun hc295 => ?_) (fun hc295 => ?_)
                        · exact absurd rfl hc295
                        · refine Go.iconst C X at_298 (n := 299) rfl (v := (1 : Int32)) rfl ?_
                          refine Go.goto C X at_299 (n := 303) (by decide) (by decide) ?_
                          refine Go.retNW C X eT B JI.tt trivial (Or.inl rfl) (w := (1 : Int32)) (by decide) at_303 (by decide) (by decide) ?_
                          exact ⟨rfl, N⟩
                · exact absurd hc256 (by decide)
              · refine Go.aload C X at_237 (n := 239) rfl rfl rfl ?_
                refine Go.iload C X at_239 (n := 241) rfl rfl ?_
                refine Go.caloadL C X eT V_a (i := pp.toInt.toNat) (own_ix hpp.1) (v := .int (chA x0 x1 x2 x3 pp)) (own_at4 x0 x1 x2 x3 hpp.1 (own_lt4 hc234 hee.2)) at_241 (n := 242) rfl ?_
                refine Go.iload C X at_242 (n := 244) rfl rfl ?_
                refine Go.icmp_ne C X at_244 (n1 := 251) (n2 := 247) (by decide) (by decide) rfl (fun hc244 => ?_) (fun hc244 => ?_)
                · refine Go.iconst C X at_251 (n := 252) rfl (v := (0 : Int32)) rfl ?_
                  refine Go.istore C X at_252 (n := 254) rfl (l' := #[.val (.int p0), .val (.int p1), .val (.int p2), .val (.int p3), .val (.ref a), .val (.ref q), .val (.int pp), .val (.int ee), .val (.int c1), .val (.ref t), .val (.int (0 : Int32)), .val (.int pp), .val (.int (0 : Int32)), .val (.int pp), .val (.int c2), .val (.int (0 : Int32)), .val (.int pp), .val (.int (0 : Int32)), .unset]) rfl ?_
                  refine Go.iload C X at_254 (n := 256) rfl rfl ?_
                  refine Go.if0_eq C X at_256 (n1 := 266) (n2 := 259) (by decide) (by decide) rfl (fun hc256 => ?_) (fun hc256 => ?_)
                  · refine Go.iload C X at_266 (n := 268) rfl rfl ?_
                    refine Go.istore C X at_268 (n := 270) rfl (l' := #[.val (.int p0), .val (.int p1), .val (.int p2), .val (.int p3), .val (.ref a), .val (.ref q), .val (.int pp), .val (.int ee), .val (.int c1), .val (.ref t), .val (.int (0 : Int32)), .val (.int pp), .val (.int (0 : Int32)), .val (.int pp), .val (.int c2), .val (.int (0 : Int32)), .val (.int pp), .val (.int (0 : Int32)), .val (.int pp)]) rfl ?_
                    refine Go.iload C X at_270 (n := 272) rfl rfl ?_
                    refine Go.iload C X at_272 (n := 274) rfl rfl ?_
                    refine Go.icmp_ne C X at_274 (n1 := 302) (n2 := 277) (by decide) (by decide) rfl (fun hc274 => ?_) (fun hc274 => ?_)
                    · exact absurd hc274 (by decide)
                    · refine Go.iload C X at_277 (n := 279) rfl rfl ?_
                      refine Go.iload C X at_279 (n := 281) rfl rfl ?_
                      refine Go.icmp_ne C X at_281 (n1 := 302) (n2 := 284) (by decide) (by decide) rfl (fun hc281 => ?_) (fun hc281 => ?_)
                      · exact absurd rfl hc281
                      · refine Go.iload C X at_284 (n := 286) rfl rfl ?_
                        refine Go.iload C X at_286 (n := 288) rfl rfl ?_
                        refine Go.icmp_ne C X at_288 (n1 := 302) (n2 := 291) (by decide) (by decide) rfl (fun hc288 => ?_) (fun hc288 => ?_)
                        · exact absurd hc288 (by decide)
                        · refine Go.iload C X at_291 (n := 293) rfl rfl ?_
                          refine Go.iload C X at_293 (n := 295) rfl rfl ?_
                          refine Go.icmp_ne C X at_295 (n1 := 302) (n2 := 298) (by decide) (by decide) rfl (fun hc295 => ?_) (fun hc295 => ?_)
                          · exact absurd rfl hc295
                          · refine Go.iconst C X at_298 (n := 299) rfl (v := (1 : Int32)) rfl ?_
                            refine Go.goto C X at_299 (n := 303) (by decide) (by decide) ?_
                            refine Go.retNW C X eT B JI.tt trivial (Or.inl rfl) (w := (1 : Int32)) (by decide) at_303 (by decide) (by decide) ?_
                            exact ⟨rfl, N⟩
                  · exact absurd hc256 (by decide)
                · exact absurd ⟨hc234, hc244⟩ hk2
          · refine Go.aload C X at_189 (n := 191) rfl rfl rfl ?_
            refine Go.iload C X at_191 (n := 193) rfl rfl ?_
            refine Go.iconst C X at_193 (n := 194) rfl (v := (3 : Int32)) rfl ?_
            refine Go.stat C X eT (argsL := [(.int pp), (.int (3 : Int32))]) (rest := [(.ref a)]) (mn3 l Z a0 hw n0 _ pp hpp.1) (wd hw 83 rfl) (wd hw 84 rfl) (wd hw 85 rfl) (wd hw 86 rfl) (by decide) (lenOf pd_22 rfl) rfl at_194 (n := 197) rfl rfl (by decide) (W := 1) rfl (by decide) (by decide) (by decide) ?_
            clear X eT
            intro T h' v L X eT hQ
            obtain ⟨r194, rfl, rfl, hE, hr194⟩ := hQ
            replace hE := hE.symm
            subst hE
            replace N := N.app (Fr.nil n0)
            show Go p e below _ (T.setTop (mkF m 197 #[.val (.int p0), .val (.int p1), .val (.int p2), .val (.int p3), .val (.ref a), .val (.ref q), .val (.int pp), .val (.int ee), .val (.int c1), .val (.ref t), .val (.int (0 : Int32)), .val (.int pp), .val (.int (0 : Int32)), .val (.int pp), .unset, .unset, .unset, .unset, .unset] [(.int r194), (.ref a)]))
            refine Go.caloadL C X eT V_a (i := r194.toInt.toNat) (own_ix hr194.1) (v := .int (chA x0 x1 x2 x3 r194)) (own_at4 x0 x1 x2 x3 hr194.1 hr194.2) at_197 (n := 198) rfl ?_
            refine Go.goto C X at_198 (n := 209) (by decide) (by decide) ?_
            obtain ⟨c2, qz⟩ : ∃ z, z = (chA x0 x1 x2 x3 r194) := ⟨_, rfl⟩
            rw [← qz]
            clear qz
            show Go p e below _ (T.setTop (mkF m 209 #[.val (.int p0), .val (.int p1), .val (.int p2), .val (.int p3), .val (.ref a), .val (.ref q), .val (.int pp), .val (.int ee), .val (.int c1), .val (.ref t), .val (.int (0 : Int32)), .val (.int pp), .val (.int (0 : Int32)), .val (.int pp), .unset, .unset, .unset, .unset, .unset] [(.int c2)]))
            refine Go.istore C X at_209 (n := 211) rfl (l' := #[.val (.int p0), .val (.int p1), .val (.int p2), .val (.int p3), .val (.ref a), .val (.ref q), .val (.int pp), .val (.int ee), .val (.int c1), .val (.ref t), .val (.int (0 : Int32)), .val (.int pp), .val (.int (0 : Int32)), .val (.int pp), .val (.int c2), .unset, .unset, .unset, .unset]) rfl ?_
            refine Go.aload C X at_211 (n := 213) rfl rfl rfl ?_
            refine Go.iload C X at_213 (n := 215) rfl rfl ?_
            by_cases hk2 : pp < ee ∧ chA x0 x1 x2 x3 pp = c2
            · show Go p e below _ (T.setTop (mkF m 215 #[.val (.int p0), .val (.int p1), .val (.int p2), .val (.int p3), .val (.ref a), .val (.ref q), .val (.int pp), .val (.int ee), .val (.int c1), .val (.ref t), .val (.int (0 : Int32)), .val (.int pp), .val (.int (0 : Int32)), .val (.int pp), .val (.int c2), .unset, .unset, .unset, .unset] [(.int c2), (.ref t)]))
              refine Go.virt C X eT (argsL := [(.int c2)]) (rest := []) (a := t) (cons_y l Z a0 hw n0 _ t ca x0 x1 x2 x3 pp ee c2 hpp.1 hee.2 g_t ne_ca_t E_t F_t_chars F_t_position F_t_end V_ca hk2) (wd hw 73 rfl) (wd hw 74 rfl) (notFace_of_selects (args := #[]) (mvT C.hZ (wd hw 76 rfl))) (wd hw 76 rfl) (wd hw 75 rfl) (wd hw 33 rfl) (wd hw 77 rfl) (by decide) E_t (lenOf pd_20 rfl) rfl at_215 (n := 218) rfl rfl (by decide) (W := 0) rfl (by decide) (by decide) (by decide) ?_
              clear X eT
              intro T h v L X eT hQ
              obtain ⟨rfl, Nq, KK, F_t_position, F_t_chars, F_t_end⟩ := hQ
              replace N := N.app Nq
              replace O := O.keep KK (allS g_t all0)
              replace V_a := V_a.keep KK (ninS ne_a_t nin0)
              replace E_t := E_t.keep KK
              replace B := B.keep KK
              replace V_ca := V_ca.keep KK (ninS ne_ca_t nin0)
              show Go p e below _ (T.setTop (mkF m 218 #[.val (.int p0), .val (.int p1), .val (.int p2), .val (.int p3), .val (.ref a), .val (.ref q), .val (.int pp), .val (.int ee), .val (.int c1), .val (.ref t), .val (.int (0 : Int32)), .val (.int pp), .val (.int (0 : Int32)), .val (.int pp), .val (.int c2), .unset, .unset, .unset, .unset] [(.int (1 : Int32))]))
              refine Go.istore C X at_218 (n := 220) rfl (l' := #[.val (.int p0), .val (.int p1), .val (.int p2), .val (.int p3), .val (.ref a), .val (.ref q), .val (.int pp), .val (.int ee), .val (.int c1), .val (.ref t), .val (.int (0 : Int32)), .val (.int pp), .val (.int (0 : Int32)), .val (.int pp), .val (.int c2), .val (.int (1 : Int32)), .unset, .unset, .unset]) rfl ?_
              refine Go.aload C X at_220 (n := 222) rfl rfl rfl ?_
              refine Go.virt C X eT (argsL := []) (rest := []) (a := t) (pos l Z a0 hw n0 _ t (pp + (1 : Int32)) F_t_position) (wd hw 78 rfl) (wd hw 79 rfl) (notFace_of_selects (args := #[]) (mvT C.hZ (wd hw 81 rfl))) (wd hw 81 rfl) (wd hw 80 rfl) (wd hw 33 rfl) (wd hw 82 rfl) (by decide) E_t (lenOf pd_21 rfl) rfl at_222 (n := 225) rfl rfl (by decide) (W := 0) rfl (by decide) (by decide) (by decide) ?_
              clear X eT
              intro T h' v L X eT hQ
              obtain ⟨rfl, rfl, hE⟩ := hQ
              replace hE := hE.symm
              subst hE
              replace N := N.app (Fr.nil n0)
              show Go p e below _ (T.setTop (mkF m 225 #[.val (.int p0), .val (.int p1), .val (.int p2), .val (.int p3), .val (.ref a), .val (.ref q), .val (.int pp), .val (.int ee), .val (.int c1), .val (.ref t), .val (.int (0 : Int32)), .val (.int pp), .val (.int (0 : Int32)), .val (.int pp), .val (.int c2), .val (.int (1 : Int32)), .unset, .unset, .unset] [(.int (pp + (1 : Int32)))]))
              refine Go.istore C X at_225 (n := 227) rfl (l' := #[.val (.int p0), .val (.int p1), .val (.int p2), .val (.int p3), .val (.ref a), .val (.ref q), .val (.int pp), .val (.int ee), .val (.int c1), .val (.ref t), .val (.int (0 : Int32)), .val (.int pp), .val (.int (0 : Int32)), .val (.int pp), .val (.int c2), .val (.int (1 : Int32)), .val (.int (pp + (1 : Int32))), .unset, .unset]) rfl ?_
              refine Go.iconst C X at_227 (n := 228) rfl (v := (0 : Int32)) rfl ?_
              refine Go.istore C X at_228 (n := 230) rfl (l' := #[.val (.int p0), .val (.int p1), .val (.int p2), .val (.int p3), .val (.ref a), .val (.ref q), .val (.int pp), .val (.int ee), .val (.int c1), .val (.ref t), .val (.int (0 : Int32)), .val (.int pp), .val (.int (0 : Int32)), .val (.int pp), .val (.int c2), .val (.int (1 : Int32)), .val (.int (pp + (1 : Int32))), .val (.int (0 : Int32)), .unset]) rfl ?_
              refine Go.iload C X at_230 (n := 232) rfl rfl ?_
              refine Go.iload C X at_232 (n := 234) rfl rfl ?_
              refine Go.icmp_ge C X at_234 (n1 := 254) (n2 := 237) (by decide) (by decide) rfl (fun hc234 => ?_) (fun hc234 => ?_)
              · exact absurd hk2.1 hc234
              · refine Go.aload C X at_237 (n := 239) rfl rfl rfl ?_
                refine Go.iload C X at_239 (n := 241) rfl rfl ?_
                refine Go.caloadL C X eT V_a (i := pp.toInt.toNat) (own_ix hpp.1) (v := .int (chA x0 x1 x2 x3 pp)) (own_at4 x0 x1 x2 x3 hpp.1 (own_lt4 hc234 hee.2)) at_241 (n := 242) rfl ?_
                refine Go.iload C X at_242 (n := 244) rfl rfl ?_
                refine Go.icmp_ne C X at_244 (n1 := 251) (n2 := 247) (by decide) (by decide) rfl (fun hc244 => ?_) (fun hc244 => ?_)
                · exact absurd hk2.2 hc244
                · refine Go.iconst C X at_247 (n := 248) rfl (v := (1 : Int32)) rfl ?_
                  refine Go.goto C X at_248 (n := 252) (by decide) (by decide) ?_
                  refine Go.istore C X at_252 (n := 254) rfl (l' := #[.val (.int p0), .val (.int p1), .val (.int p2), .val (.int p3), .val (.ref a), .val (.ref q), .val (.int pp), .val (.int ee), .val (.int c1), .val (.ref t), .val (.int (0 : Int32)), .val (.int pp), .val (.int (0 : Int32)), .val (.int pp), .val (.int c2), .val (.int (1 : Int32)), .val (.int (pp + (1 : Int32))), .val (.int (1 : Int32)), .unset]) rfl ?_
                  refine Go.iload C X at_254 (n := 256) rfl rfl ?_
                  refine Go.if0_eq C X at_256 (n1 := 266) (n2 := 259) (by decide) (by decide) rfl (fun hc256 => ?_) (fun hc256 => ?_)
                  · exact absurd hc256 (by decide)
                  · refine Go.iload C X at_259 (n := 261) rfl rfl ?_
                    refine Go.iconst C X at_261 (n := 262) rfl (v := (1 : Int32)) rfl ?_
                    refine Go.iadd C X at_262 (n := 263) rfl ?_
                    refine Go.goto C X at_263 (n := 268) (by decide) (by decide) ?_
                    refine Go.istore C X at_268 (n := 270) rfl (l' := #[.val (.int p0), .val (.int p1), .val (.int p2), .val (.int p3), .val (.ref a), .val (.ref q), .val (.int pp), .val (.int ee), .val (.int c1), .val (.ref t), .val (.int (0 : Int32)), .val (.int pp), .val (.int (0 : Int32)), .val (.int pp), .val (.int c2), .val (.int (1 : Int32)), .val (.int (pp + (1 : Int32))), .val (.int (1 : Int32)), .val (.int (pp + (1 : Int32)))]) rfl ?_
                    refine Go.iload C X at_270 (n := 272) rfl rfl ?_
                    refine Go.iload C X at_272 (n := 274) rfl rfl ?_
                    refine Go.icmp_ne C X at_274 (n1 := 302) (n2 := 277) (by decide) (by decide) rfl (fun hc274 => ?_) (fun hc274 => ?_)
                    · exact absurd hc274 (by decide)
                    · refine Go.iload C X at_277 (n := 279) rfl rfl ?_
                      refine Go.iload C X at_279 (n := 281) rfl rfl ?_
                      refine Go.icmp_ne C X at_281 (n1 := 302) (n2 := 284) (by decide) (by decide) rfl (fun hc281 => ?_) (fun hc281 => ?_)
                      · exact absurd rfl hc281
                      · refine Go.iload C X at_284 (n := 286) rfl rfl ?_
                        refine Go.iload C X at_286 (n := 288) rfl rfl ?_
                        refine Go.icmp_ne C X at_288 (n1 := 302) (n2 := 291) (by decide) (by decide) rfl (fun hc288 => ?_) (fun hc288 => ?_)
                        · exact absurd hc288 (by decide)
                        · refine Go.iload C X at_291 (n := 293) rfl rfl ?_
                          refine Go.iload C X at_293 (n := 295) rfl rfl ?_
                          refine Go.icmp_ne C X at_295 (n1 := 302) (n2 := 298) (by decide) (by decide) rfl (fun hc295 => ?_) (fun hc295 => ?_)
                          · exact absurd rfl hc295
                          · refine Go.iconst C X at_298 (n := 299) rfl (v := (1 : Int32)) rfl ?_
                            refine Go.goto C X at_299 (n := 303) (by decide) (by decide) ?_
                            refine Go.retNW C X eT B JI.tt trivial (Or.inl rfl) (w := (1 : Int32)) (by decide) at_303 (by decide) (by decide) ?_
                            exact ⟨rfl, N⟩
            · show Go p e below _ (T.setTop (mkF m 215 #[.val (.int p0), .val (.int p1), .val (.int p2), .val (.int p3), .val (.ref a), .val (.ref q), .val (.int pp), .val (.int ee), .val (.int c1), .val (.ref t), .val (.int (0 : Int32)), .val (.int pp), .val (.int (0 : Int32)), .val (.int pp), .val (.int c2), .unset, .unset, .unset, .unset] [(.int c2), (.ref t)]))
              refine Go.virt C X eT (argsL := [(.int c2)]) (rest := []) (a := t) (cons_n l Z a0 hw n0 _ t ca x0 x1 x2 x3 pp ee c2 hpp.1 hee.2 g_t ne_ca_t E_t F_t_chars F_t_position F_t_end V_ca hk2) (wd hw 73 rfl) (wd hw 74 rfl) (notFace_of_selects (args := #[]) (mvT C.hZ (wd hw 76 rfl))) (wd hw 76 rfl) (wd hw 75 rfl) (wd hw 33 rfl) (wd hw 77 rfl) (by decide) E_t (lenOf pd_20 rfl) rfl at_215 (n := 218) rfl rfl (by decide) (W := 0) rfl (by decide) (by decide) (by decide) ?_
              clear X eT
              intro T h' v L X eT hQ
              obtain ⟨rfl, rfl, hE⟩ := hQ
              replace hE := hE.symm
              subst hE
              replace N := N.app (Fr.nil n0)
              show Go p e below _ (T.setTop (mkF m 218 #[.val (.int p0), .val (.int p1), .val (.int p2), .val (.int p3), .val (.ref a), .val (.ref q), .val (.int pp), .val (.int ee), .val (.int c1), .val (.ref t), .val (.int (0 : Int32)), .val (.int pp), .val (.int (0 : Int32)), .val (.int pp), .val (.int c2), .unset, .unset, .unset, .unset] [(.int (0 : Int32))]))
              refine Go.istore C X at_218 (n := 220) rfl (l' := #[.val (.int p0), .val (.int p1), .val (.int p2), .val (.int p3), .val (.ref a), .val (.ref q), .val (.int pp), .val (.int ee), .val (.int c1), .val (.ref t), .val (.int (0 : Int32)), .val (.int pp), .val (.int (0 : Int32)), .val (.int pp), .val (.int c2), .val (.int (0 : Int32)), .unset, .unset, .unset]) rfl ?_
              refine Go.aload C X at_220 (n := 222) rfl rfl rfl ?_
              refine Go.virt C X eT (argsL := []) (rest := []) (a := t) (pos l Z a0 hw n0 _ t pp F_t_position) (wd hw 78 rfl) (wd hw 79 rfl) (notFace_of_selects (args := #[]) (mvT C.hZ (wd hw 81 rfl))) (wd hw 81 rfl) (wd hw 80 rfl) (wd hw 33 rfl) (wd hw 82 rfl) (by decide) E_t (lenOf pd_21 rfl) rfl at_222 (n := 225) rfl rfl (by decide) (W := 0) rfl (by decide) (by decide) (by decide) ?_
              clear X eT
              intro T h' v L X eT hQ
              obtain ⟨rfl, rfl, hE⟩ := hQ
              replace hE := hE.symm
              subst hE
              replace N := N.app (Fr.nil n0)
              show Go p e below _ (T.setTop (mkF m 225 #[.val (.int p0), .val (.int p1), .val (.int p2), .val (.int p3), .val (.ref a), .val (.ref q), .val (.int pp), .val (.int ee), .val (.int c1), .val (.ref t), .val (.int (0 : Int32)), .val (.int pp), .val (.int (0 : Int32)), .val (.int pp), .val (.int c2), .val (.int (0 : Int32)), .unset, .unset, .unset] [(.int pp)]))
              refine Go.istore C X at_225 (n := 227) rfl (l' := #[.val (.int p0), .val (.int p1), .val (.int p2), .val (.int p3), .val (.ref a), .val (.ref q), .val (.int pp), .val (.int ee), .val (.int c1), .val (.ref t), .val (.int (0 : Int32)), .val (.int pp), .val (.int (0 : Int32)), .val (.int pp), .val (.int c2), .val (.int (0 : Int32)), .val (.int pp), .unset, .unset]) rfl ?_
              refine Go.iconst C X at_227 (n := 228) rfl (v := (0 : Int32)) rfl ?_
              refine Go.istore C X at_228 (n := 230) rfl (l' := #[.val (.int p0), .val (.int p1), .val (.int p2), .val (.int p3), .val (.ref a), .val (.ref q), .val (.int pp), .val (.int ee), .val (.int c1), .val (.ref t), .val (.int (0 : Int32)), .val (.int pp), .val (.int (0 : Int32)), .val (.int pp), .val (.int c2), .val (.int (0 : Int32)), .val (.int pp), .val (.int (0 : Int32)), .unset]) rfl ?_
              refine Go.iload C X at_230 (n := 232) rfl rfl ?_
              refine Go.iload C X at_232 (n := 234) rfl rfl ?_
              refine Go.icmp_ge C X at_234 (n1 := 254) (n2 := 237) (by decide) (by decide) rfl (fun hc234 => ?_) (fun hc234 => ?_)
              · refine Go.iload C X at_254 (n := 256) rfl rfl ?_
                refine Go.if0_eq C X at_256 (n1 := 266) (n2 := 259) (by decide) (by decide) rfl (fun hc256 => ?_) (fun hc256 => ?_)
                · refine Go.iload C X at_266 (n := 268) rfl rfl ?_
                  refine Go.istore C X at_268 (n := 270) rfl (l' := #[.val (.int p0), .val (.int p1), .val (.int p2), .val (.int p3), .val (.ref a), .val (.ref q), .val (.int pp), .val (.int ee), .val (.int c1), .val (.ref t), .val (.int (0 : Int32)), .val (.int pp), .val (.int (0 : Int32)), .val (.int pp), .val (.int c2), .val (.int (0 : Int32)), .val (.int pp), .val (.int (0 : Int32)), .val (.int pp)]) rfl ?_
                  refine Go.iload C X at_270 (n := 272) rfl rfl ?_
                  refine Go.iload C X at_272 (n := 274) rfl rfl ?_
                  refine Go.icmp_ne C X at_274 (n1 := 302) (n2 := 277) (by decide) (by decide) rfl (fun hc274 => ?_) (fun hc274 => ?_)
                  · exact absurd hc274 (by decide)
                  · refine Go.iload C X at_277 (n := 279) rfl rfl ?_
                    refine Go.iload C X at_279 (n := 281) rfl rfl ?_
                    refine Go.icmp_ne C X at_281 (n1 := 302) (n2 := 284) (by decide) (by decide) rfl (fun hc281 => ?_) (fun hc281 => ?_)
                    · exact absurd rfl hc281
                    · refine Go.iload C X at_284 (n := 286) rfl rfl ?_
                      refine Go.iload C X at_286 (n := 288) rfl rfl ?_
                      refine Go.icmp_ne C X at_288 (n1 := 302) (n2 := 291) (by decide) (by decide) rfl (fun hc288 => ?_) (fun hc288 => ?_)
                      · exact absurd hc288 (by decide)
                      · refine Go.iload C X at_291 (n := 293) rfl rfl ?_
                        refine Go.iload C X at_293 (n := 295) rfl rfl ?_
                        refine Go.icmp_ne C X at_295 (n1 := 302) (n2 := 298) (by decide) (by decide) rfl (fun hc295 => ?_) (fun hc295 => ?_)
                        · exact absurd rfl hc295
                        · refine Go.iconst C X at_298 (n := 299) rfl (v := (1 : Int32)) rfl ?_
                          refine Go.goto C X at_299 (n := 303) (by decide) (by decide) ?_
                          refine Go.retNW C X eT B JI.tt trivial (Or.inl rfl) (w := (1 : Int32)) (by decide) at_303 (by decide) (by decide) ?_
                          exact ⟨rfl, N⟩
                · exact absurd hc256 (by decide)
              · refine Go.aload C X at_237 (n := 239) rfl rfl rfl ?_
                refine Go.iload C X at_239 (n := 241) rfl rfl ?_
                refine Go.caloadL C X eT V_a (i := pp.toInt.toNat) (own_ix hpp.1) (v := .int (chA x0 x1 x2 x3 pp)) (own_at4 x0 x1 x2 x3 hpp.1 (own_lt4 hc234 hee.2)) at_241 (n := 242) rfl ?_
                refine Go.iload C X at_242 (n := 244) rfl rfl ?_
                refine Go.icmp_ne C X at_244 (n1 := 251) (n2 := 247) (by decide) (by decide) rfl (fun hc244 => ?_) (fun hc244 => ?_)
                · refine Go.iconst C X at_251 (n := 252) rfl (v := (0 : Int32)) rfl ?_
                  refine Go.istore C X at_252 (n := 254) rfl (l' := #[.val (.int p0), .val (.int p1), .val (.int p2), .val (.int p3), .val (.ref a), .val (.ref q), .val (.int pp), .val (.int ee), .val (.int c1), .val (.ref t), .val (.int (0 : Int32)), .val (.int pp), .val (.int (0 : Int32)), .val (.int pp), .val (.int c2), .val (.int (0 : Int32)), .val (.int pp), .val (.int (0 : Int32)), .unset]) rfl ?_
                  refine Go.iload C X at_254 (n := 256) rfl rfl ?_
                  refine Go.if0_eq C X at_256 (n1 := 266) (n2 := 259) (by decide) (by decide) rfl (fun hc256 => ?_) (fun hc256 => ?_)
                  · refine Go.iload C X at_266 (n := 268) rfl rfl ?_
                    refine Go.istore C X at_268 (n := 270) rfl (l' := #[.val (.int p0), .val (.int p1), .val (.int p2), .val (.int p3), .val (.ref a), .val (.ref q), .val (.int pp), .val (.int ee), .val (.int c1), .val (.ref t), .val (.int (0 : Int32)), .val (.int pp), .val (.int (0 : Int32)), .val (.int pp), .val (.int c2), .val (.int (0 : Int32)), .val (.int pp), .val (.int (0 : Int32)), .val (.int pp)]) rfl ?_
                    refine Go.iload C X at_270 (n := 272) rfl rfl ?_
                    refine Go.iload C X at_272 (n := 274) rfl rfl ?_
                    refine Go.icmp_ne C X at_274 (n1 := 302) (n2 := 277) (by decide) (by decide) rfl (fun hc274 => ?_) (fun hc274 => ?_)
                    · exact absurd hc274 (by decide)
                    · refine Go.iload C X at_277 (n := 279) rfl rfl ?_
                      refine Go.iload C X at_279 (n := 281) rfl rfl ?_
                      refine Go.icmp_ne C X at_281 (n1 := 302) (n2 := 284) (by decide) (by decide) rfl (fun hc281 => ?_) (fun hc281 => ?_)
                      · exact absurd rfl hc281
                      · refine Go.iload C X at_284 (n := 286) rfl rfl ?_
                        refine Go.iload C X at_286 (n := 288) rfl rfl ?_
                        refine Go.icmp_ne C X at_288 (n1 := 302) (n2 := 291) (by decide) (by decide) rfl (fun hc288 => ?_) (fun hc288 => ?_)
                        · exact absurd hc288 (by decide)
                        · refine Go.iload C X at_291 (n := 293) rfl rfl ?_
                          refine Go.iload C X at_293 (n := 295) rfl rfl ?_
                          refine Go.icmp_ne C X at_295 (n1 := 302) (n2 := 298) (by decide) (by decide) rfl (fun hc295 => ?_) (fun hc295 => ?_)
                          · exact absurd rfl hc295
                          · refine Go.iconst C X at_298 (n := 299) rfl (v := (1 : Int32)) rfl ?_
                            refine Go.goto C X at_299 (n := 303) (by decide) (by decide) ?_
                            refine Go.retNW C X eT B JI.tt trivial (Or.inl rfl) (w := (1 : Int32)) (by decide) at_303 (by decide) (by decide) ?_
                            exact ⟨rfl, N⟩
                  · exact absurd hc256 (by decide)
                · exact absurd ⟨hc234, hc244⟩ hk2
        · exact absurd hc166 (by decide)
      · refine Go.aload C X at_147 (n := 149) rfl rfl rfl ?_
        refine Go.iload C X at_149 (n := 151) rfl rfl ?_
        refine Go.caloadL C X eT V_a (i := pp.toInt.toNat) (own_ix hpp.1) (v := .int (chA x0 x1 x2 x3 pp)) (own_at4 x0 x1 x2 x3 hpp.1 (own_lt4 hc144 hee.2)) at_151 (n := 152) rfl ?_
        refine Go.iload C X at_152 (n := 154) rfl rfl ?_
        refine Go.icmp_ne C X at_154 (n1 := 161) (n2 := 157) (by decide) (by decide) rfl (fun hc154 => ?_) (fun hc154 => ?_)
        · refine Go.iconst C X at_161 (n := 162) rfl (v := (0 : Int32)) rfl ?_
          refine Go.istore C X at_162 (n := 164) rfl (l' := #[.val (.int p0), .val (.int p1), .val (.int p2), .val (.int p3), .val (.ref a), .val (.ref q), .val (.int pp), .val (.int ee), .val (.int c1), .val (.ref t), .val (.int (0 : Int32)), .val (.int pp), .val (.int (0 : Int32)), .unset, .unset, .unset, .unset, .unset, .unset]) rfl ?_
          refine Go.iload C X at_164 (n := 166) rfl rfl ?_
          refine Go.if0_eq C X at_166 (n1 := 176) (n2 := 169) (by decide) (by decide) rfl (fun hc166 => ?_) (fun hc166 => ?_)
          · refine Go.iload C X at_176 (n := 178) rfl rfl ?_
            refine Go.istore C X at_178 (n := 180) rfl (l' := #[.val (.int p0), .val (.int p1), .val (.int p2), .val (.int p3), .val (.ref a), .val (.ref q), .val (.int pp), .val (.int ee), .val (.int c1), .val (.ref t), .val (.int (0 : Int32)), .val (.int pp), .val (.int (0 : Int32)), .val (.int pp), .unset, .unset, .unset, .unset, .unset]) rfl ?_
            refine Go.iloadN C X at_180 (n := 181) rfl rfl ?_
            refine Go.bipush C X at_181 (n := 183) rfl (v := (7 : Int32)) rfl ?_
            refine Go.iushr C X at_183 (n := 184) rfl ?_
            refine Go.iconst C X at_184 (n := 185) rfl (v := (1 : Int32)) rfl ?_
            refine Go.iand C X at_185 (n := 186) rfl ?_
            refine Go.if0_eq C X at_186 (n1 := 201) (n2 := 189) (by decide) (by decide) rfl (fun hc186 => ?_) (fun hc186 => ?_)
            · refine Go.iloadN C X at_201 (n := 202) rfl rfl ?_
              refine Go.bipush C X at_202 (n := 204) rfl (v := (16 : Int32)) rfl ?_
              refine Go.iushr C X at_204 (n := 205) rfl ?_
              refine Go.ldcI C X (wd hw 1 rfl) at_205 (n := 207) rfl ?_
              refine Go.iand C X at_207 (n := 208) rfl ?_
              refine Go.i2c C X at_208 (n := 209) rfl ?_
              obtain ⟨c2, qz⟩ : ∃ z, z = (((XT.ushr p3 (16 : Int32)) &&& (65535 : Int32)).toUInt32.toUInt16.toUInt32.toInt32) := ⟨_, rfl⟩
              rw [← qz]
              clear qz
              show Go p e below _ (T.setTop (mkF m 209 #[.val (.int p0), .val (.int p1), .val (.int p2), .val (.int p3), .val (.ref a), .val (.ref q), .val (.int pp), .val (.int ee), .val (.int c1), .val (.ref t), .val (.int (0 : Int32)), .val (.int pp), .val (.int (0 : Int32)), .val (.int pp), .unset, .unset, .unset, .unset, .unset] [(.int c2)]))
              refine Go.istore C X at_209 (n := 211) rfl (l' := #[.val (.int p0), .val (.int p1), .val (.int p2), .val (.int p3), .val (.ref a), .val (.ref q), .val (.int pp), .val (.int ee), .val (.int c1), .val (.ref t), .val (.int (0 : Int32)), .val (.int pp), .val (.int (0 : Int32)), .val (.int pp), .val (.int c2), .unset, .unset, .unset, .unset]) rfl ?_
              refine Go.aload C X at_211 (n := 213) rfl rfl rfl ?_
              refine Go.iload C X at_213 (n := 215) rfl rfl ?_
              by_cases hk2 : pp < ee ∧ chA x0 x1 x2 x3 pp = c2
              · show Go p e below _ (T.setTop (mkF m 215 #[.val (.int p0), .val (.int p1), .val (.int p2), .val (.int p3), .val (.ref a), .val (.ref q), .val (.int pp), .val (.int ee), .val (.int c1), .val (.ref t), .val (.int (0 : Int32)), .val (.int pp), .val (.int (0 : Int32)), .val (.int pp), .val (.int c2), .unset, .unset, .unset, .unset] [(.int c2), (.ref t)]))
                refine Go.virt C X eT (argsL := [(.int c2)]) (rest := []) (a := t) (cons_y l Z a0 hw n0 _ t ca x0 x1 x2 x3 pp ee c2 hpp.1 hee.2 g_t ne_ca_t E_t F_t_chars F_t_position F_t_end V_ca hk2) (wd hw 73 rfl) (wd hw 74 rfl) (notFace_of_selects (args := #[]) (mvT C.hZ (wd hw 76 rfl))) (wd hw 76 rfl) (wd hw 75 rfl) (wd hw 33 rfl) (wd hw 77 rfl) (by decide) E_t (lenOf pd_20 rfl) rfl at_215 (n := 218) rfl rfl (by decide) (W := 0) rfl (by decide) (by decide) (by decide) ?_
                clear X eT
                intro T h v L X eT hQ
                obtain ⟨rfl, Nq, KK, F_t_position, F_t_chars, F_t_end⟩ := hQ
                replace N := N.app Nq
                replace O := O.keep KK (allS g_t all0)
                replace V_a := V_a.keep KK (ninS ne_a_t nin0)
                replace E_t := E_t.keep KK
                replace B := B.keep KK
                replace V_ca := V_ca.keep KK (ninS ne_ca_t nin0)
                show Go p e below _ (T.setTop (mkF m 218 #[.val (.int p0), .val (.int p1), .val (.int p2), .val (.int p3), .val (.ref a), .val (.ref q), .val (.int pp), .val (.int ee), .val (.int c1), .val (.ref t), .val (.int (0 : Int32)), .val (.int pp), .val (.int (0 : Int32)), .val (.int pp), .val (.int c2), .unset, .unset, .unset, .unset] [(.int (1 : Int32))]))
                refine Go.istore C X at_218 (n := 220) rfl (l' := #[.val (.int p0), .val (.int p1), .val (.int p2), .val (.int p3), .val (.ref a), .val (.ref q), .val (.int pp), .val (.int ee), .val (.int c1), .val (.ref t), .val (.int (0 : Int32)), .val (.int pp), .val (.int (0 : Int32)), .val (.int pp), .val (.int c2), .val (.int (1 : Int32)), .unset, .unset, .unset]) rfl ?_
                refine Go.aload C X at_220 (n := 222) rfl rfl rfl ?_
                refine Go.virt C X eT (argsL := []) (rest := []) (a := t) (pos l Z a0 hw n0 _ t (pp + (1 : Int32)) F_t_position) (wd hw 78 rfl) (wd hw 79 rfl) (notFace_of_selects (args := #[]) (mvT C.hZ (wd hw 81 rfl))) (wd hw 81 rfl) (wd hw 80 rfl) (wd hw 33 rfl) (wd hw 82 rfl) (by decide) E_t (lenOf pd_21 rfl) rfl at_222 (n := 225) rfl rfl (by decide) (W := 0) rfl (by decide) (by decide) (by decide) ?_
                clear X eT
                intro T h' v L X eT hQ
                obtain ⟨rfl, rfl, hE⟩ := hQ
                replace hE := hE.symm
                subst hE
                replace N := N.app (Fr.nil n0)
                show Go p e below _ (T.setTop (mkF m 225 #[.val (.int p0), .val (.int p1), .val (.int p2), .val (.int p3), .val (.ref a), .val (.ref q), .val (.int pp), .val (.int ee), .val (.int c1), .val (.ref t), .val (.int (0 : Int32)), .val (.int pp), .val (.int (0 : Int32)), .val (.int pp), .val (.int c2), .val (.int (1 : Int32)), .unset, .unset, .unset] [(.int (pp + (1 : Int32)))]))
                refine Go.istore C X at_225 (n := 227) rfl (l' := #[.val (.int p0), .val (.int p1), .val (.int p2), .val (.int p3), .val (.ref a), .val (.ref q), .val (.int pp), .val (.int ee), .val (.int c1), .val (.ref t), .val (.int (0 : Int32)), .val (.int pp), .val (.int (0 : Int32)), .val (.int pp), .val (.int c2), .val (.int (1 : Int32)), .val (.int (pp + (1 : Int32))), .unset, .unset]) rfl ?_
                refine Go.iconst C X at_227 (n := 228) rfl (v := (0 : Int32)) rfl ?_
                refine Go.istore C X at_228 (n := 230) rfl (l' := #[.val (.int p0), .val (.int p1), .val (.int p2), .val (.int p3), .val (.ref a), .val (.ref q), .val (.int pp), .val (.int ee), .val (.int c1), .val (.ref t), .val (.int (0 : Int32)), .val (.int pp), .val (.int (0 : Int32)), .val (.int pp), .val (.int c2), .val (.int (1 : Int32)), .val (.int (pp + (1 : Int32))), .val (.int (0 : Int32)), .unset]) rfl ?_
                refine Go.iload C X at_230 (n := 232) rfl rfl ?_
                refine Go.iload C X at_232 (n := 234) rfl rfl ?_
                refine Go.icmp_ge C X at_234 (n1 := 254) (n2 := 237) (by decide) (by decide) rfl (fun hc234 => ?_) (fun hc234 => ?_)
                · exact absurd hk2.1 hc234
                · refine Go.aload C X at_237 (n := 239) rfl rfl rfl ?_
                  refine Go.iload C X at_239 (n := 241) rfl rfl ?_
                  refine Go.caloadL C X eT V_a (i := pp.toInt.toNat) (own_ix hpp.1) (v := .int (chA x0 x1 x2 x3 pp)) (own_at4 x0 x1 x2 x3 hpp.1 (own_lt4 hc234 hee.2)) at_241 (n := 242) rfl ?_
                  refine Go.iload C X at_242 (n := 244) rfl rfl ?_
                  refine Go.icmp_ne C X at_244 (n1 := 251) (n2 := 247) (by decide) (by decide) rfl (fun hc244 => ?_) (fun hc244 => ?_)
                  · exact absurd hk2.2 hc244
                  · refine Go.iconst C X at_247 (n := 248) rfl (v := (1 : Int32)) rfl ?_
                    refine Go.goto C X at_248 (n := 252) (by decide) (by decide) ?_
                    refine Go.istore C X at_252 (n := 254) rfl (l' := #[.val (.int p0), .val (.int p1), .val (.int p2), .val (.int p3), .val (.ref a), .val (.ref q), .val (.int pp), .val (.int ee), .val (.int c1), .val (.ref t), .val (.int (0 : Int32)), .val (.int pp), .val (.int (0 : Int32)), .val (.int pp), .val (.int c2), .val (.int (1 : Int32)), .val (.int (pp + (1 : Int32))), .val (.int (1 : Int32)), .unset]) rfl ?_
                    refine Go.iload C X at_254 (n := 256) rfl rfl ?_
                    refine Go.if0_eq C X at_256 (n1 := 266) (n2 := 259) (by decide) (by decide) rfl (fun hc256 => ?_) (fun hc256 => ?_)
                    · exact absurd hc256 (by decide)
                    · refine Go.iload C X at_259 (n := 261) rfl rfl ?_
                      refine Go.iconst C X at_261 (n := 262) rfl (v := (1 : Int32)) rfl ?_
                      refine Go.iadd C X at_262 (n := 263) rfl ?_
                      refine Go.goto C X at_263 (n := 268) (by decide) (by decide) ?_
                      refine Go.istore C X at_268 (n := 270) rfl (l' := #[.val (.int p0), .val (.int p1), .val (.int p2), .val (.int p3), .val (.ref a), .val (.ref q), .val (.int pp), .val (.int ee), .val (.int c1), .val (.ref t), .val (.int (0 : Int32)), .val (.int pp), .val (.int (0 : Int32)), .val (.int pp), .val (.int c2), .val (.int (1 : Int32)), .val (.int (pp + (1 : Int32))), .val (.int (1 : Int32)), .val (.int (pp + (1 : Int32)))]) rfl ?_
                      refine Go.iload C X at_270 (n := 272) rfl rfl ?_
                      refine Go.iload C X at_272 (n := 274) rfl rfl ?_
                      refine Go.icmp_ne C X at_274 (n1 := 302) (n2 := 277) (by decide) (by decide) rfl (fun hc274 => ?_) (fun hc274 => ?_)
                      · exact absurd hc274 (by decide)
                      · refine Go.iload C X at_277 (n := 279) rfl rfl ?_
                        refine Go.iload C X at_279 (n := 281) rfl rfl ?_
                        refine Go.icmp_ne C X at_281 (n1 := 302) (n2 := 284) (by decide) (by decide) rfl (fun hc281 => ?_) (fun hc281 => ?_)
                        · exact absurd rfl hc281
                        · refine Go.iload C X at_284 (n := 286) rfl rfl ?_
                          refine Go.iload C X at_286 (n := 288) rfl rfl ?_
                          refine Go.icmp_ne C X at_288 (n1 := 302) (n2 := 291) (by decide) (by decide) rfl (fun hc288 => ?_) (fun hc288 => ?_)
                          · exact absurd hc288 (by decide)
                          · refine Go.iload C X at_291 (n := 293) rfl rfl ?_
                            refine Go.iload C X at_293 (n := 295) rfl rfl ?_
                            refine Go.icmp_ne C X at_295 (n1 := 302) (n2 := 298) (by decide) (by decide) rfl (fun hc295 => ?_) (fun hc295 => ?_)
                            · exact absurd rfl hc295
                            · refine Go.iconst C X at_298 (n := 299) rfl (v := (1 : Int32)) rfl ?_
                              refine Go.goto C X at_299 (n := 303) (by decide) (by decide) ?_
                              refine Go.retNW C X eT B JI.tt trivial (Or.inl rfl) (w := (1 : Int32)) (by decide) at_303 (by decide) (by decide) ?_
                              exact ⟨rfl, N⟩
              · show Go p e below _ (T.setTop (mkF m 215 #[.val (.int p0), .val (.int p1), .val (.int p2), .val (.int p3), .val (.ref a), .val (.ref q), .val (.int pp), .val (.int ee), .val (.int c1), .val (.ref t), .val (.int (0 : Int32)), .val (.int pp), .val (.int (0 : Int32)), .val (.int pp), .val (.int c2), .unset, .unset, .unset, .unset] [(.int c2), (.ref t)]))
                refine Go.virt C X eT (argsL := [(.int c2)]) (rest := []) (a := t) (cons_n l Z a0 hw n0 _ t ca x0 x1 x2 x3 pp ee c2 hpp.1 hee.2 g_t ne_ca_t E_t F_t_chars F_t_position F_t_end V_ca hk2) (wd hw 73 rfl) (wd hw 74 rfl) (notFace_of_selects (args := #[]) (mvT C.hZ (wd hw 76 rfl))) (wd hw 76 rfl) (wd hw 75 rfl) (wd hw 33 rfl) (wd hw 77 rfl) (by decide) E_t (lenOf pd_20 rfl) rfl at_215 (n := 218) rfl rfl (by decide) (W := 0) rfl (by decide) (by decide) (by decide) ?_
                clear X eT
                intro T h' v L X eT hQ
                obtain ⟨rfl, rfl, hE⟩ := hQ
                replace hE := hE.symm
                subst hE
                replace N := N.app (Fr.nil n0)
                show Go p e below _ (T.setTop (mkF m 218 #[.val (.int p0), .val (.int p1), .val (.int p2), .val (.int p3), .val (.ref a), .val (.ref q), .val (.int pp), .val (.int ee), .val (.int c1), .val (.ref t), .val (.int (0 : Int32)), .val (.int pp), .val (.int (0 : Int32)), .val (.int pp), .val (.int c2), .unset, .unset, .unset, .unset] [(.int (0 : Int32))]))
                refine Go.istore C X at_218 (n := 220) rfl (l' := #[.val (.int p0), .val (.int p1), .val (.int p2), .val (.int p3), .val (.ref a), .val (.ref q), .val (.int pp), .val (.int ee), .val (.int c1), .val (.ref t), .val (.int (0 : Int32)), .val (.int pp), .val (.int (0 : Int32)), .val (.int pp), .val (.int c2), .val (.int (0 : Int32)), .unset, .unset, .unset]) rfl ?_
                refine Go.aload C X at_220 (n := 222) rfl rfl rfl ?_
                refine Go.virt C X eT (argsL := []) (rest := []) (a := t) (pos l Z a0 hw n0 _ t pp F_t_position) (wd hw 78 rfl) (wd hw 79 rfl) (notFace_of_selects (args := #[]) (mvT C.hZ (wd hw 81 rfl))) (wd hw 81 rfl) (wd hw 80 rfl) (wd hw 33 rfl) (wd hw 82 rfl) (by decide) E_t (lenOf pd_21 rfl) rfl at_222 (n := 225) rfl rfl (by decide) (W := 0) rfl (by decide) (by decide) (by decide) ?_
                clear X eT
                intro T h' v L X eT hQ
                obtain ⟨rfl, rfl, hE⟩ := hQ
                replace hE := hE.symm
                subst hE
                replace N := N.app (Fr.nil n0)
                show Go p e below _ (T.setTop (mkF m 225 #[.val (.int p0), .val (.int p1), .val (.int p2), .val (.int p3), .val (.ref a), .val (.ref q), .val (.int pp), .val (.int ee), .val (.int c1), .val (.ref t), .val (.int (0 : Int32)), .val (.int pp), .val (.int (0 : Int32)), .val (.int pp), .val (.int c2), .val (.int (0 : Int32)), .unset, .unset, .unset] [(.int pp)]))
                refine Go.istore C X at_225 (n := 227) rfl (l' := #[.val (.int p0), .val (.int p1), .val (.int p2), .val (.int p3), .val (.ref a), .val (.ref q), .val (.int pp), .val (.int ee), .val (.int c1), .val (.ref t), .val (.int (0 : Int32)), .val (.int pp), .val (.int (0 : Int32)), .val (.int pp), .val (.int c2), .val (.int (0 : Int32)), .val (.int pp), .unset, .unset]) rfl ?_
                refine Go.iconst C X at_227 (n := 228) rfl (v := (0 : Int32)) rfl ?_
                refine Go.istore C X at_228 (n := 230) rfl (l' := #[.val (.int p0), .val (.int p1), .val (.int p2), .val (.int p3), .val (.ref a), .val (.ref q), .val (.int pp), .val (.int ee), .val (.int c1), .val (.ref t), .val (.int (0 : Int32)), .val (.int pp), .val (.int (0 : Int32)), .val (.int pp), .val (.int c2), .val (.int (0 : Int32)), .val (.int pp), .val (.int (0 : Int32)), .unset]) rfl ?_
                refine Go.iload C X at_230 (n := 232) rfl rfl ?_
                refine Go.iload C X at_232 (n := 234) rfl rfl ?_
                refine Go.icmp_ge C X at_234 (n1 := 254) (n2 := 237) (by decide) (by decide) rfl (fun hc234 => ?_) (fun hc234 => ?_)
                · refine Go.iload C X at_254 (n := 256) rfl rfl ?_
                  refine Go.if0_eq C X at_256 (n1 := 266) (n2 := 259) (by decide) (by decide) rfl (fun hc256 => ?_) (fun hc256 => ?_)
                  · refine Go.iload C X at_266 (n := 268) rfl rfl ?_
                    refine Go.istore C X at_268 (n := 270) rfl (l' := #[.val (.int p0), .val (.int p1), .val (.int p2), .val (.int p3), .val (.ref a), .val (.ref q), .val (.int pp), .val (.int ee), .val (.int c1), .val (.ref t), .val (.int (0 : Int32)), .val (.int pp), .val (.int (0 : Int32)), .val (.int pp), .val (.int c2), .val (.int (0 : Int32)), .val (.int pp), .val (.int (0 : Int32)), .val (.int pp)]) rfl ?_
                    refine Go.iload C X at_270 (n := 272) rfl rfl ?_
                    refine Go.iload C X at_272 (n := 274) rfl rfl ?_
                    refine Go.icmp_ne C X at_274 (n1 := 302) (n2 := 277) (by decide) (by decide) rfl (fun hc274 => ?_) (fun hc274 => ?_)
                    · exact absurd hc274 (by decide)
                    · refine Go.iload C X at_277 (n := 279) rfl rfl ?_
                      refine Go.iload C X at_279 (n := 281) rfl rfl ?_
                      refine Go.icmp_ne C X at_281 (n1 := 302) (n2 := 284) (by decide) (by decide) rfl (fun hc281 => ?_) (fun hc281 => ?_)
                      · exact absurd rfl hc281
                      · refine Go.iload C X at_284 (n := 286) rfl rfl ?_
                        refine Go.iload C X at_286 (n := 288) rfl rfl ?_
                        refine Go.icmp_ne C X at_288 (n1 := 302) (n2 := 291) (by decide) (by decide) rfl (fun hc288 => ?_) (fun hc288 => ?_)
                        · exact absurd hc288 (by decide)
                        · refine Go.iload C X at_291 (n := 293) rfl rfl ?_
                          refine Go.iload C X at_293 (n := 295) rfl rfl ?_
                          refine Go.icmp_ne C X at_295 (n1 := 302) (n2 := 298) (by decide) (by decide) rfl (fun hc295 => ?_) (fun hc295 => ?_)
                          · exact absurd rfl hc295
                          · refine Go.iconst C X at_298 (n := 299) rfl (v := (1 : Int32)) rfl ?_
                            refine Go.goto C X at_299 (n := 303) (by decide) (by decide) ?_
                            refine Go.retNW C X eT B JI.tt trivial (Or.inl rfl) (w := (1 : Int32)) (by decide) at_303 (by decide) (by decide) ?_
                            exact ⟨rfl, N⟩
                  · exact absurd hc256 (by decide)
                · refine Go.aload C X at_237 (n := 239) rfl rfl rfl ?_
                  refine Go.iload C X at_239 (n := 241) rfl rfl ?_
                  refine Go.caloadL C X eT V_a (i := pp.toInt.toNat) (own_ix hpp.1) (v := .int (chA x0 x1 x2 x3 pp)) (own_at4 x0 x1 x2 x3 hpp.1 (own_lt4 hc234 hee.2)) at_241 (n := 242) rfl ?_
                  refine Go.iload C X at_242 (n := 244) rfl rfl ?_
                  refine Go.icmp_ne C X at_244 (n1 := 251) (n2 := 247) (by decide) (by decide) rfl (fun hc244 => ?_) (fun hc244 => ?_)
                  · refine Go.iconst C X at_251 (n := 252) rfl (v := (0 : Int32)) rfl ?_
                    refine Go.istore C X at_252 (n := 254) rfl (l' := #[.val (.int p0), .val (.int p1), .val (.int p2), .val (.int p3), .val (.ref a), .val (.ref q), .val (.int pp), .val (.int ee), .val (.int c1), .val (.ref t), .val (.int (0 : Int32)), .val (.int pp), .val (.int (0 : Int32)), .val (.int pp), .val (.int c2), .val (.int (0 : Int32)), .val (.int pp), .val (.int (0 : Int32)), .unset]) rfl ?_
                    refine Go.iload C X at_254 (n := 256) rfl rfl ?_
                    refine Go.if0_eq C X at_256 (n1 := 266) (n2 := 259) (by decide) (by decide) rfl (fun hc256 => ?_) (fun hc256 => ?_)
                    · refine Go.iload C X at_266 (n := 268) rfl rfl ?_
                      refine Go.istore C X at_268 (n := 270) rfl (l' := #[.val (.int p0), .val (.int p1), .val (.int p2), .val (.int p3), .val (.ref a), .val (.ref q), .val (.int pp), .val (.int ee), .val (.int c1), .val (.ref t), .val (.int (0 : Int32)), .val (.int pp), .val (.int (0 : Int32)), .val (.int pp), .val (.int c2), .val (.int (0 : Int32)), .val (.int pp), .val (.int (0 : Int32)), .val (.int pp)]) rfl ?_
                      refine Go.iload C X at_270 (n := 272) rfl rfl ?_
                      refine Go.iload C X at_272 (n := 274) rfl rfl ?_
                      refine Go.icmp_ne C X at_274 (n1 := 302) (n2 := 277) (by decide) (by decide) rfl (fun hc274 => ?_) (fun hc274 => ?_)
                      · exact absurd hc274 (by decide)
                      · refine Go.iload C X at_277 (n := 279) rfl rfl ?_
                        refine Go.iload C X at_279 (n := 281) rfl rfl ?_
                        refine Go.icmp_ne C X at_281 (n1 := 302) (n2 := 284) (by decide) (by decide) rfl (fun hc281 => ?_) (fun hc281 => ?_)
                        · exact absurd rfl hc281
                        · refine Go.iload C X at_284 (n := 286) rfl rfl ?_
                          refine Go.iload C X at_286 (n := 288) rfl rfl ?_
                          refine Go.icmp_ne C X at_288 (n1 := 302) (n2 := 291) (by decide) (by decide) rfl (fun hc288 => ?_) (fun hc288 => ?_)
                          · exact absurd hc288 (by decide)
                          · refine Go.iload C X at_291 (n := 293) rfl rfl ?_
                            refine Go.iload C X at_293 (n := 295) rfl rfl ?_
                            refine Go.icmp_ne C X at_295 (n1 := 302) (n2 := 298) (by decide) (by decide) rfl (fun hc295 => ?_) (fun hc295 => ?_)
                            · exact absurd rfl hc295
                            · refine Go.iconst C X at_298 (n := 299) rfl (v := (1 : Int32)) rfl ?_
                              refine Go.goto C X at_299 (n := 303) (by decide) (by decide) ?_
                              refine Go.retNW C X eT B JI.tt trivial (Or.inl rfl) (w := (1 : Int32)) (by decide) at_303 (by decide) (by decide) ?_
                              exact ⟨rfl, N⟩
                    · exact absurd hc256 (by decide)
                  · exact absurd ⟨hc234, hc244⟩ hk2
            · refine Go.aload C X at_189 (n := 191) rfl rfl rfl ?_
              refine Go.iload C X at_191 (n := 193) rfl rfl ?_
              refine Go.iconst C X at_193 (n := 194) rfl (v := (3 : Int32)) rfl ?_
              refine Go.stat C X eT (argsL := [(.int pp), (.int (3 : Int32))]) (rest := [(.ref a)]) (mn3 l Z a0 hw n0 _ pp hpp.1) (wd hw 83 rfl) (wd hw 84 rfl) (wd hw 85 rfl) (wd hw 86 rfl) (by decide) (lenOf pd_22 rfl) rfl at_194 (n := 197) rfl rfl (by decide) (W := 1) rfl (by decide) (by decide) (by decide) ?_
              clear X eT
              intro T h' v L X eT hQ
              obtain ⟨r194, rfl, rfl, hE, hr194⟩ := hQ
              replace hE := hE.symm
              subst hE
              replace N := N.app (Fr.nil n0)
              show Go p e below _ (T.setTop (mkF m 197 #[.val (.int p0), .val (.int p1), .val (.int p2), .val (.int p3), .val (.ref a), .val (.ref q), .val (.int pp), .val (.int ee), .val (.int c1), .val (.ref t), .val (.int (0 : Int32)), .val (.int pp), .val (.int (0 : Int32)), .val (.int pp), .unset, .unset, .unset, .unset, .unset] [(.int r194), (.ref a)]))
              refine Go.caloadL C X eT V_a (i := r194.toInt.toNat) (own_ix hr194.1) (v := .int (chA x0 x1 x2 x3 r194)) (own_at4 x0 x1 x2 x3 hr194.1 hr194.2) at_197 (n := 198) rfl ?_
              refine Go.goto C X at_198 (n := 209) (by decide) (by decide) ?_
              obtain ⟨c2, qz⟩ : ∃ z, z = (chA x0 x1 x2 x3 r194) := ⟨_, rfl⟩
              rw [← qz]
              clear qz
              show Go p e below _ (T.setTop (mkF m 209 #[.val (.int p0), .val (.int p1), .val (.int p2), .val (.int p3), .val (.ref a), .val (.ref q), .val (.int pp), .val (.int ee), .val (.int c1), .val (.ref t), .val (.int (0 : Int32)), .val (.int pp), .val (.int (0 : Int32)), .val (.int pp), .unset, .unset, .unset, .unset, .unset] [(.int c2)]))
              refine Go.istore C X at_209 (n := 211) rfl (l' := #[.val (.int p0), .val (.int p1), .val (.int p2), .val (.int p3), .val (.ref a), .val (.ref q), .val (.int pp), .val (.int ee), .val (.int c1), .val (.ref t), .val (.int (0 : Int32)), .val (.int pp), .val (.int (0 : Int32)), .val (.int pp), .val (.int c2), .unset, .unset, .unset, .unset]) rfl ?_
              refine Go.aload C X at_211 (n := 213) rfl rfl rfl ?_
              refine Go.iload C X at_213 (n := 215) rfl rfl ?_
              by_cases hk2 : pp < ee ∧ chA x0 x1 x2 x3 pp = c2
              · show Go p e below _ (T.setTop (mkF m 215 #[.val (.int p0), .val (.int p1), .val (.int p2), .val (.int p3), .val (.ref a), .val (.ref q), .val (.int pp), .val (.int ee), .val (.int c1), .val (.ref t), .val (.int (0 : Int32)), .val (.int pp), .val (.int (0 : Int32)), .val (.int pp), .val (.int c2), .unset, .unset, .unset, .unset] [(.int c2), (.ref t)]))
                refine Go.virt C X eT (argsL := [(.int c2)]) (rest := []) (a := t) (cons_y l Z a0 hw n0 _ t ca x0 x1 x2 x3 pp ee c2 hpp.1 hee.2 g_t ne_ca_t E_t F_t_chars F_t_position F_t_end V_ca hk2) (wd hw 73 rfl) (wd hw 74 rfl) (notFace_of_selects (args := #[]) (mvT C.hZ (wd hw 76 rfl))) (wd hw 76 rfl) (wd hw 75 rfl) (wd hw 33 rfl) (wd hw 77 rfl) (by decide) E_t (lenOf pd_20 rfl) rfl at_215 (n := 218) rfl rfl (by decide) (W := 0) rfl (by decide) (by decide) (by decide) ?_
                clear X eT
                intro T h v L X eT hQ
                obtain ⟨rfl, Nq, KK, F_t_position, F_t_chars, F_t_end⟩ := hQ
                replace N := N.app Nq
                replace O := O.keep KK (allS g_t all0)
                replace V_a := V_a.keep KK (ninS ne_a_t nin0)
                replace E_t := E_t.keep KK
                replace B := B.keep KK
                replace V_ca := V_ca.keep KK (ninS ne_ca_t nin0)
                show Go p e below _ (T.setTop (mkF m 218 #[.val (.int p0), .val (.int p1), .val (.int p2), .val (.int p3), .val (.ref a), .val (.ref q), .val (.int pp), .val (.int ee), .val (.int c1), .val (.ref t), .val (.int (0 : Int32)), .val (.int pp), .val (.int (0 : Int32)), .val (.int pp), .val (.int c2), .unset, .unset, .unset, .unset] [(.int (1 : Int32))]))
                refine Go.istore C X at_218 (n := 220) rfl (l' := #[.val (.int p0), .val (.int p1), .val (.int p2), .val (.int p3), .val (.ref a), .val (.ref q), .val (.int pp), .val (.int ee), .val (.int c1), .val (.ref t), .val (.int (0 : Int32)), .val (.int pp), .val (.int (0 : Int32)), .val (.int pp), .val (.int c2), .val (.int (1 : Int32)), .unset, .unset, .unset]) rfl ?_
                refine Go.aload C X at_220 (n := 222) rfl rfl rfl ?_
                refine Go.virt C X eT (argsL := []) (rest := []) (a := t) (pos l Z a0 hw n0 _ t (pp + (1 : Int32)) F_t_position) (wd hw 78 rfl) (wd hw 79 rfl) (notFace_of_selects (args := #[]) (mvT C.hZ (wd hw 81 rfl))) (wd hw 81 rfl) (wd hw 80 rfl) (wd hw 33 rfl) (wd hw 82 rfl) (by decide) E_t (lenOf pd_21 rfl) rfl at_222 (n := 225) rfl rfl (by decide) (W := 0) rfl (by decide) (by decide) (by decide) ?_
                clear X eT
                intro T h' v L X eT hQ
                obtain ⟨rfl, rfl, hE⟩ := hQ
                replace hE := hE.symm
                subst hE
                replace N := N.app (Fr.nil n0)
                show Go p e below _ (T.setTop (mkF m 225 #[.val (.int p0), .val (.int p1), .val (.int p2), .val (.int p3), .val (.ref a), .val (.ref q), .val (.int pp), .val (.int ee), .val (.int c1), .val (.ref t), .val (.int (0 : Int32)), .val (.int pp), .val (.int (0 : Int32)), .val (.int pp), .val (.int c2), .val (.int (1 : Int32)), .unset, .unset, .unset] [(.int (pp + (1 : Int32)))]))
                refine Go.istore C X at_225 (n := 227) rfl (l' := #[.val (.int p0), .val (.int p1), .val (.int p2), .val (.int p3), .val (.ref a), .val (.ref q), .val (.int pp), .val (.int ee), .val (.int c1), .val (.ref t), .val (.int (0 : Int32)), .val (.int pp), .val (.int (0 : Int32)), .val (.int pp), .val (.int c2), .val (.int (1 : Int32)), .val (.int (pp + (1 : Int32))), .unset, .unset]) rfl ?_
                refine Go.iconst C X at_227 (n := 228) rfl (v := (0 : Int32)) rfl ?_
                refine Go.istore C X at_228 (n := 230) rfl (l' := #[.val (.int p0), .val (.int p1), .val (.int p2), .val (.int p3), .val (.ref a), .val (.ref q), .val (.int pp), .val (.int ee), .val (.int c1), .val (.ref t), .val (.int (0 : Int32)), .val (.int pp), .val (.int (0 : Int32)), .val (.int pp), .val (.int c2), .val (.int (1 : Int32)), .val (.int (pp + (1 : Int32))), .val (.int (0 : Int32)), .unset]) rfl ?_
                refine Go.iload C X at_230 (n := 232) rfl rfl ?_
                refine Go.iload C X at_232 (n := 234) rfl rfl ?_
                refine Go.icmp_ge C X at_234 (n1 := 254) (n2 := 237) (by decide) (by decide) rfl (fun hc234 => ?_) (fun hc234 => ?_)
                · exact absurd hk2.1 hc234
                · refine Go.aload C X at_237 (n := 239) rfl rfl rfl ?_
                  refine Go.iload C X at_239 (n := 241) rfl rfl ?_
                  refine Go.caloadL C X eT V_a (i := pp.toInt.toNat) (own_ix hpp.1) (v := .int (chA x0 x1 x2 x3 pp)) (own_at4 x0 x1 x2 x3 hpp.1 (own_lt4 hc234 hee.2)) at_241 (n := 242) rfl ?_
                  refine Go.iload C X at_242 (n := 244) rfl rfl ?_
                  refine Go.icmp_ne C X at_244 (n1 := 251) (n2 := 247) (by decide) (by decide) rfl (fun hc244 => ?_) (fun hc244 => ?_)
                  · exact absurd hk2.2 hc244
                  · refine Go.iconst C X at_247 (n := 248) rfl (v := (1 : Int32)) rfl ?_
                    refine Go.goto C X at_248 (n := 252) (by decide) (by decide) ?_
                    refine Go.istore C X at_252 (n := 254) rfl (l' := #[.val (.int p0), .val (.int p1), .val (.int p2), .val (.int p3), .val (.ref a), .val (.ref q), .val (.int pp), .val (.int ee), .val (.int c1), .val (.ref t), .val (.int (0 : Int32)), .val (.int pp), .val (.int (0 : Int32)), .val (.int pp), .val (.int c2), .val (.int (1 : Int32)), .val (.int (pp + (1 : Int32))), .val (.int (1 : Int32)), .unset]) rfl ?_
                    refine Go.iload C X at_254 (n := 256) rfl rfl ?_
                    refine Go.if0_eq C X at_256 (n1 := 266) (n2 := 259) (by decide) (by decide) rfl (fun hc256 => ?_) (fun hc256 => ?_)
                    · exact absurd hc256 (by decide)
                    · refine Go.iload C X at_259 (n := 261) rfl rfl ?_
                      refine Go.iconst C X at_261 (n := 262) rfl (v := (1 : Int32)) rfl ?_
                      refine Go.iadd C X at_262 (n := 263) rfl ?_
                      refine Go.goto C X at_263 (n := 268) (by decide) (by decide) ?_
                      refine Go.istore C X at_268 (n := 270) rfl (l' := #[.val (.int p0), .val (.int p1), .val (.int p2), .val (.int p3), .val (.ref a), .val (.ref q), .val (.int pp), .val (.int ee), .val (.int c1), .val (.ref t), .val (.int (0 : Int32)), .val (.int pp), .val (.int (0 : Int32)), .val (.int pp), .val (.int c2), .val (.int (1 : Int32)), .val (.int (pp + (1 : Int32))), .val (.int (1 : Int32)), .val (.int (pp + (1 : Int32)))]) rfl ?_
                      refine Go.iload C X at_270 (n := 272) rfl rfl ?_
                      refine Go.iload C X at_272 (n := 274) rfl rfl ?_
                      refine Go.icmp_ne C X at_274 (n1 := 302) (n2 := 277) (by decide) (by decide) rfl (fun hc274 => ?_) (fun hc274 => ?_)
                      · exact absurd hc274 (by decide)
                      · refine Go.iload C X at_277 (n := 279) rfl rfl ?_
                        refine Go.iload C X at_279 (n := 281) rfl rfl ?_
                        refine Go.icmp_ne C X at_281 (n1 := 302) (n2 := 284) (by decide) (by decide) rfl (fun hc281 => ?_) (fun hc281 => ?_)
                        · exact absurd rfl hc281
                        · refine Go.iload C X at_284 (n := 286) rfl rfl ?_
                          refine Go.iload C X at_286 (n := 288) rfl rfl ?_
                          refine Go.icmp_ne C X at_288 (n1 := 302) (n2 := 291) (by decide) (by decide) rfl (fun hc288 => ?_) (fun hc288 => ?_)
                          · exact absurd hc288 (by decide)
                          · refine Go.iload C X at_291 (n := 293) rfl rfl ?_
                            refine Go.iload C X at_293 (n := 295) rfl rfl ?_
                            refine Go.icmp_ne C X at_295 (n1 := 302) (n2 := 298) (by decide) (by decide) rfl (fun hc295 => ?_) (fun hc295 => ?_)
                            · exact absurd rfl hc295
                            · refine Go.iconst C X at_298 (n := 299) rfl (v := (1 : Int32)) rfl ?_
                              refine Go.goto C X at_299 (n := 303) (by decide) (by decide) ?_
                              refine Go.retNW C X eT B JI.tt trivial (Or.inl rfl) (w := (1 : Int32)) (by decide) at_303 (by decide) (by decide) ?_
                              exact ⟨rfl, N⟩
              · show Go p e below _ (T.setTop (mkF m 215 #[.val (.int p0), .val (.int p1), .val (.int p2), .val (.int p3), .val (.ref a), .val (.ref q), .val (.int pp), .val (.int ee), .val (.int c1), .val (.ref t), .val (.int (0 : Int32)), .val (.int pp), .val (.int (0 : Int32)), .val (.int pp), .val (.int c2), .unset, .unset, .unset, .unset] [(.int c2), (.ref t)]))
                refine Go.virt C X eT (argsL := [(.int c2)]) (rest := []) (a := t) (cons_n l Z a0 hw n0 _ t ca x0 x1 x2 x3 pp ee c2 hpp.1 hee.2 g_t ne_ca_t E_t F_t_chars F_t_position F_t_end V_ca hk2) (wd hw 73 rfl) (wd hw 74 rfl) (notFace_of_selects (args := #[]) (mvT C.hZ (wd hw 76 rfl))) (wd hw 76 rfl) (wd hw 75 rfl) (wd hw 33 rfl) (wd hw 77 rfl) (by decide) E_t (lenOf pd_20 rfl) rfl at_215 (n := 218) rfl rfl (by decide) (W := 0) rfl (by decide) (by decide) (by decide) ?_
                clear X eT
                intro T h' v L X eT hQ
                obtain ⟨rfl, rfl, hE⟩ := hQ
                replace hE := hE.symm
                subst hE
                replace N := N.app (Fr.nil n0)
                show Go p e below _ (T.setTop (mkF m 218 #[.val (.int p0), .val (.int p1), .val (.int p2), .val (.int p3), .val (.ref a), .val (.ref q), .val (.int pp), .val (.int ee), .val (.int c1), .val (.ref t), .val (.int (0 : Int32)), .val (.int pp), .val (.int (0 : Int32)), .val (.int pp), .val (.int c2), .unset, .unset, .unset, .unset] [(.int (0 : Int32))]))
                refine Go.istore C X at_218 (n := 220) rfl (l' := #[.val (.int p0), .val (.int p1), .val (.int p2), .val (.int p3), .val (.ref a), .val (.ref q), .val (.int pp), .val (.int ee), .val (.int c1), .val (.ref t), .val (.int (0 : Int32)), .val (.int pp), .val (.int (0 : Int32)), .val (.int pp), .val (.int c2), .val (.int (0 : Int32)), .unset, .unset, .unset]) rfl ?_
                refine Go.aload C X at_220 (n := 222) rfl rfl rfl ?_
                refine Go.virt C X eT (argsL := []) (rest := []) (a := t) (pos l Z a0 hw n0 _ t pp F_t_position) (wd hw 78 rfl) (wd hw 79 rfl) (notFace_of_selects (args := #[]) (mvT C.hZ (wd hw 81 rfl))) (wd hw 81 rfl) (wd hw 80 rfl) (wd hw 33 rfl) (wd hw 82 rfl) (by decide) E_t (lenOf pd_21 rfl) rfl at_222 (n := 225) rfl rfl (by decide) (W := 0) rfl (by decide) (by decide) (by decide) ?_
                clear X eT
                intro T h' v L X eT hQ
                obtain ⟨rfl, rfl, hE⟩ := hQ
                replace hE := hE.symm
                subst hE
                replace N := N.app (Fr.nil n0)
                show Go p e below _ (T.setTop (mkF m 225 #[.val (.int p0), .val (.int p1), .val (.int p2), .val (.int p3), .val (.ref a), .val (.ref q), .val (.int pp), .val (.int ee), .val (.int c1), .val (.ref t), .val (.int (0 : Int32)), .val (.int pp), .val (.int (0 : Int32)), .val (.int pp), .val (.int c2), .val (.int (0 : Int32)), .unset, .unset, .unset] [(.int pp)]))
                refine Go.istore C X at_225 (n := 227) rfl (l' := #[.val (.int p0), .val (.int p1), .val (.int p2), .val (.int p3), .val (.ref a), .val (.ref q), .val (.int pp), .val (.int ee), .val (.int c1), .val (.ref t), .val (.int (0 : Int32)), .val (.int pp), .val (.int (0 : Int32)), .val (.int pp), .val (.int c2), .val (.int (0 : Int32)), .val (.int pp), .unset, .unset]) rfl ?_
                refine Go.iconst C X at_227 (n := 228) rfl (v := (0 : Int32)) rfl ?_
                refine Go.istore C X at_228 (n := 230) rfl (l' := #[.val (.int p0), .val (.int p1), .val (.int p2), .val (.int p3), .val (.ref a), .val (.ref q), .val (.int pp), .val (.int ee), .val (.int c1), .val (.ref t), .val (.int (0 : Int32)), .val (.int pp), .val (.int (0 : Int32)), .val (.int pp), .val (.int c2), .val (.int (0 : Int32)), .val (.int pp), .val (.int (0 : Int32)), .unset]) rfl ?_
                refine Go.iload C X at_230 (n := 232) rfl rfl ?_
                refine Go.iload C X at_232 (n := 234) rfl rfl ?_
                refine Go.icmp_ge C X at_234 (n1 := 254) (n2 := 237) (by decide) (by decide) rfl (fun hc234 => ?_) (fun hc234 => ?_)
                · refine Go.iload C X at_254 (n := 256) rfl rfl ?_
                  refine Go.if0_eq C X at_256 (n1 := 266) (n2 := 259) (by decide) (by decide) rfl (fun hc256 => ?_) (fun hc256 => ?_)
                  · refine Go.iload C X at_266 (n := 268) rfl rfl ?_
                    refine Go.istore C X at_268 (n := 270) rfl (l' := #[.val (.int p0), .val (.int p1), .val (.int p2), .val (.int p3), .val (.ref a), .val (.ref q), .val (.int pp), .val (.int ee), .val (.int c1), .val (.ref t), .val (.int (0 : Int32)), .val (.int pp), .val (.int (0 : Int32)), .val (.int pp), .val (.int c2), .val (.int (0 : Int32)), .val (.int pp), .val (.int (0 : Int32)), .val (.int pp)]) rfl ?_
                    refine Go.iload C X at_270 (n := 272) rfl rfl ?_
                    refine Go.iload C X at_272 (n := 274) rfl rfl ?_
                    refine Go.icmp_ne C X at_274 (n1 := 302) (n2 := 277) (by decide) (by decide) rfl (fun hc274 => ?_) (fun hc274 => ?_)
                    · exact absurd hc274 (by decide)
                    · refine Go.iload C X at_277 (n := 279) rfl rfl ?_
                      refine Go.iload C X at_279 (n := 281) rfl rfl ?_
                      refine Go.icmp_ne C X at_281 (n1 := 302) (n2 := 284) (by decide) (by decide) rfl (fun hc281 => ?_) (fun hc281 => ?_)
                      · exact absurd rfl hc281
                      · refine Go.iload C X at_284 (n := 286) rfl rfl ?_
                        refine Go.iload C X at_286 (n := 288) rfl rfl ?_
                        refine Go.icmp_ne C X at_288 (n1 := 302) (n2 := 291) (by decide) (by decide) rfl (fun hc288 => ?_) (fun hc288 => ?_)
                        · exact absurd hc288 (by decide)
                        · refine Go.iload C X at_291 (n := 293) rfl rfl ?_
                          refine Go.iload C X at_293 (n := 295) rfl rfl ?_
                          refine Go.icmp_ne C X at_295 (n1 := 302) (n2 := 298) (by decide) (by decide) rfl (fun hc295 => ?_) (fun hc295 => ?_)
                          · exact absurd rfl hc295
                          · refine Go.iconst C X at_298 (n := 299) rfl (v := (1 : Int32)) rfl ?_
                            refine Go.goto C X at_299 (n := 303) (by decide) (by decide) ?_
                            refine Go.retNW C X eT B JI.tt trivial (Or.inl rfl) (w := (1 : Int32)) (by decide) at_303 (by decide) (by decide) ?_
                            exact ⟨rfl, N⟩
                  · exact absurd hc256 (by decide)
                · refine Go.aload C X at_237 (n := 239) rfl rfl rfl ?_
                  refine Go.iload C X at_239 (n := 241) rfl rfl ?_
                  refine Go.caloadL C X eT V_a (i := pp.toInt.toNat) (own_ix hpp.1) (v := .int (chA x0 x1 x2 x3 pp)) (own_at4 x0 x1 x2 x3 hpp.1 (own_lt4 hc234 hee.2)) at_241 (n := 242) rfl ?_
                  refine Go.iload C X at_242 (n := 244) rfl rfl ?_
                  refine Go.icmp_ne C X at_244 (n1 := 251) (n2 := 247) (by decide) (by decide) rfl (fun hc244 => ?_) (fun hc244 => ?_)
                  · refine Go.iconst C X at_251 (n := 252) rfl (v := (0 : Int32)) rfl ?_
                    refine Go.istore C X at_252 (n := 254) rfl (l' := #[.val (.int p0), .val (.int p1), .val (.int p2), .val (.int p3), .val (.ref a), .val (.ref q), .val (.int pp), .val (.int ee), .val (.int c1), .val (.ref t), .val (.int (0 : Int32)), .val (.int pp), .val (.int (0 : Int32)), .val (.int pp), .val (.int c2), .val (.int (0 : Int32)), .val (.int pp), .val (.int (0 : Int32)), .unset]) rfl ?_
                    refine Go.iload C X at_254 (n := 256) rfl rfl ?_
                    refine Go.if0_eq C X at_256 (n1 := 266) (n2 := 259) (by decide) (by decide) rfl (fun hc256 => ?_) (fun hc256 => ?_)
                    · refine Go.iload C X at_266 (n := 268) rfl rfl ?_
                      refine Go.istore C X at_268 (n := 270) rfl (l' := #[.val (.int p0), .val (.int p1), .val (.int p2), .val (.int p3), .val (.ref a), .val (.ref q), .val (.int pp), .val (.int ee), .val (.int c1), .val (.ref t), .val (.int (0 : Int32)), .val (.int pp), .val (.int (0 : Int32)), .val (.int pp), .val (.int c2), .val (.int (0 : Int32)), .val (.int pp), .val (.int (0 : Int32)), .val (.int pp)]) rfl ?_
                      refine Go.iload C X at_270 (n := 272) rfl rfl ?_
                      refine Go.iload C X at_272 (n := 274) rfl rfl ?_
                      refine Go.icmp_ne C X at_274 (n1 := 302) (n2 := 277) (by decide) (by decide) rfl (fun hc274 => ?_) (fun hc274 => ?_)
                      · exact absurd hc274 (by decide)
                      · refine Go.iload C X at_277 (n := 279) rfl rfl ?_
                        refine Go.iload C X at_279 (n := 281) rfl rfl ?_
                        refine Go.icmp_ne C X at_281 (n1 := 302) (n2 := 284) (by decide) (by decide) rfl (fun hc281 => ?_) (fun hc281 => ?_)
                        · exact absurd rfl hc281
                        · refine Go.iload C X at_284 (n := 286) rfl rfl ?_
                          refine Go.iload C X at_286 (n := 288) rfl rfl ?_
                          refine Go.icmp_ne C X at_288 (n1 := 302) (n2 := 291) (by decide) (by decide) rfl (fun hc288 => ?_) (fun hc288 => ?_)
                          · exact absurd hc288 (by decide)
                          · refine Go.iload C X at_291 (n := 293) rfl rfl ?_
                            refine Go.iload C X at_293 (n := 295) rfl rfl ?_
                            refine Go.icmp_ne C X at_295 (n1 := 302) (n2 := 298) (by decide) (by decide) rfl (fun hc295 => ?_) (fun hc295 => ?_)
                            · exact absurd rfl hc295
                            · refine Go.iconst C X at_298 (n := 299) rfl (v := (1 : Int32)) rfl ?_
                              refine Go.goto C X at_299 (n := 303) (by decide) (by decide) ?_
                              refine Go.retNW C X eT B JI.tt trivial (Or.inl rfl) (w := (1 : Int32)) (by decide) at_303 (by decide) (by decide) ?_
                              exact ⟨rfl, N⟩
                    · exact absurd hc256 (by decide)
                  · exact absurd ⟨hc234, hc244⟩ hk2
          · exact absurd hc166 (by decide)
        · exact absurd ⟨hc144, hc154⟩ hk1
  · refine Go.aload C X at_85 (n := 87) rfl rfl rfl ?_
    refine Go.iload C X at_87 (n := 89) rfl rfl ?_
    refine Go.iconst C X at_89 (n := 90) rfl (v := (3 : Int32)) rfl ?_
    refine Go.stat C X eT (argsL := [(.int pp), (.int (3 : Int32))]) (rest := [(.ref a)]) (mn3 l Z a0 hw n0 _ pp hpp.1) (wd hw 83 rfl) (wd hw 84 rfl) (wd hw 85 rfl) (wd hw 86 rfl) (by decide) (lenOf pd_22 rfl) rfl at_90 (n := 93) rfl rfl (by decide) (W := 1) rfl (by decide) (by decide) (by decide) ?_
    clear X eT
    intro T h' v L X eT hQ
    obtain ⟨r90, rfl, rfl, hE, hr90⟩ := hQ
    replace hE := hE.symm
    subst hE
    replace N := N.app (Fr.nil n0)
    show Go p e below _ (T.setTop (mkF m 93 #[.val (.int p0), .val (.int p1), .val (.int p2), .val (.int p3), .val (.ref a), .val (.ref q), .val (.int pp), .val (.int ee), .unset, .unset, .unset, .unset, .unset, .unset, .unset, .unset, .unset, .unset, .unset] [(.int r90), (.ref a)]))
    refine Go.caloadL C X eT V_a (i := r90.toInt.toNat) (own_ix hr90.1) (v := .int (chA x0 x1 x2 x3 r90)) (own_at4 x0 x1 x2 x3 hr90.1 hr90.2) at_93 (n := 94) rfl ?_
    refine Go.goto C X at_94 (n := 102) (by decide) (by decide) ?_
    obtain ⟨c1, qz⟩ : ∃ z, z = (chA x0 x1 x2 x3 r90) := ⟨_, rfl⟩
    rw [← qz]
    clear qz
    show Go p e below _ (T.setTop (mkF m 102 #[.val (.int p0), .val (.int p1), .val (.int p2), .val (.int p3), .val (.ref a), .val (.ref q), .val (.int pp), .val (.int ee), .unset, .unset, .unset, .unset, .unset, .unset, .unset, .unset, .unset, .unset, .unset] [(.int c1)]))
    refine Go.istore C X at_102 (n := 104) rfl (l' := #[.val (.int p0), .val (.int p1), .val (.int p2), .val (.int p3), .val (.ref a), .val (.ref q), .val (.int pp), .val (.int ee), .val (.int c1), .unset, .unset, .unset, .unset, .unset, .unset, .unset, .unset, .unset, .unset]) rfl ?_
    refine Go.newO C X eT (wd hw 31 rfl) (wd hw 32 rfl) (wd hw 33 rfl) at_104 (n := 107) rfl (by decide) (by decide) ?_
    clear X eT
    intro T h t z_t X eT E E_t D_
    have ne_a_t : a ≠ t := Nat.ne_of_lt (Nat.lt_of_lt_of_le V_a.lt (Nat.le_of_eq z_t.symm))
    have ne_q_t : q ≠ t := Nat.ne_of_lt (Nat.lt_of_lt_of_le S_q.lt1 (Nat.le_of_eq z_t.symm))
    have ne_b_t : b ≠ t := Nat.ne_of_lt (Nat.lt_of_lt_of_le S_q.lt2 (Nat.le_of_eq z_t.symm))
    have g_t : n0 ≤ t := by rw [z_t]; exact O.le
    replace O := O.ext E
    replace B := B.ext E
    replace V_a := V_a.ext E
    replace S_q := S_q.ext E
    have F_t_text : Fld Z h t "com/example/libsymtree/libsymtree/theory/TextCursor" "text" "Ljava/lang/String;" .null := D_ (Or.inl (wd hw 45 rfl)) (ty := (.object "java/lang/String")) (by decide)
    have F_t_chars : Fld Z h t "com/example/libsymtree/libsymtree/theory/TextCursor" "chars" "[C" .null := D_ (Or.inl (wd hw 64 rfl)) (ty := (.array .char)) (by decide)
    have F_t_position : Fld Z h t "com/example/libsymtree/libsymtree/theory/TextCursor" "position" "I" (.int (0 : Int32)) := D_ (Or.inl (wd hw 66 rfl)) (ty := .int) (by decide)
    have F_t_end : Fld Z h t "com/example/libsymtree/libsymtree/theory/TextCursor" "end" "I" (.int (0 : Int32)) := D_ (Or.inl (wd hw 68 rfl)) (ty := .int) (by decide)
    have F_t_endName : Fld Z h t "com/example/libsymtree/libsymtree/theory/TextCursor" "endName" "Ljava/lang/String;" .null := D_ (Or.inr (wd hw 70 rfl)) (ty := (.object "java/lang/String")) (by decide)
    have F_t_lines : Fld Z h t "com/example/libsymtree/libsymtree/theory/TextCursor" "lines" "Lcom/example/libsymtree/libsymtree/theory/TextCursor$Lines;" .null := D_ (Or.inr (wd hw 72 rfl)) (ty := (.object "com/example/libsymtree/libsymtree/theory/TextCursor$Lines")) (by decide)
    refine Go.dup C X at_107 (n := 108) rfl rfl ?_
    refine Go.aload C X at_108 (n := 110) rfl rfl rfl ?_
    refine Go.iload C X at_110 (n := 112) rfl rfl ?_
    refine Go.iload C X at_112 (n := 114) rfl rfl ?_
    refine ldcO C X eT B (wd hw 34 rfl) wS (cap := 12) (by decide) (by decide) at_114 (n := 116) rfl (by decide) (by decide) ?_
    clear X eT
    intro s' T h en C' X eT E B'
    clear C B
    have C := C'
    have B := B'
    clear C' B'
    replace O := O.ext E
    replace V_a := V_a.ext E
    replace S_q := S_q.ext E
    replace E_t := E_t.ext E
    replace F_t_text := F_t_text.ext E
    replace F_t_chars := F_t_chars.ext E
    replace F_t_position := F_t_position.ext E
    replace F_t_end := F_t_end.ext E
    replace F_t_endName := F_t_endName.ext E
    replace F_t_lines := F_t_lines.ext E
    refine Go.spec C X eT (argsL := [(.ref q), (.int pp), (.int ee), (.ref en)]) (rest := [(.ref t)]) (a := t) (rm7 l Z a0 hw n0 _ cs SZ hcs S1 S2 S3 sf hsf S4 t q b en x0 x1 x2 x3 r0 r1 r2 r3 pp ee g_t ne_q_t ne_b_t O S_q E_t F_t_text F_t_chars F_t_position F_t_end F_t_endName F_t_lines) rfl (wd hw 37 rfl) (wd hw 38 rfl) (wd hw 33 rfl) (wd hw 39 rfl) (by decide) (lenOf pd_19 rfl) rfl at_116 (n := 119) rfl rfl (by decide) (W := 1) rfl (by decide) (by decide) (by decide) ?_
    clear X eT
    intro T h v L X eT hQ
    obtain ⟨rfl, Nq, KK, ca, s_ca, F_t_chars, F_t_position, F_t_end, V_ca⟩ := hQ
    replace N := N.app Nq
    have ne_a_ca : a ≠ ca := Nat.ne_of_lt (Nat.lt_of_lt_of_le V_a.lt s_ca)
    have ne_q_ca : q ≠ ca := Nat.ne_of_lt (Nat.lt_of_lt_of_le S_q.lt1 s_ca)
    have ne_b_ca : b ≠ ca := Nat.ne_of_lt (Nat.lt_of_lt_of_le S_q.lt2 s_ca)
    have ne_t_ca : t ≠ ca := Nat.ne_of_lt (Nat.lt_of_lt_of_le E_t.lt s_ca)
    have g_ca : n0 ≤ ca := Nat.le_trans O.le s_ca
    replace O := O.keep KK (allS g_t all0)
    replace V_a := V_a.keep KK (ninS ne_a_t nin0)
    replace S_q := S_q.keep KK (ninS ne_q_t nin0) (ninS ne_b_t nin0)
    replace E_t := E_t.keep KK
    replace B := B.keep KK
    show Go p e below _ (T.setTop (mkF m 119 #[.val (.int p0), .val (.int p1), .val (.int p2), .val (.int p3), .val (.ref a), .val (.ref q), .val (.int pp), .val (.int ee), .val (.int c1), .unset, .unset, .unset, .unset, .unset, .unset, .unset, .unset, .unset, .unset] [(.ref t)]))
    clear S_q
    have ne_ca_t : ca ≠ t := Ne.symm ne_t_ca
    refine Go.astore C X at_119 (n := 121) rfl rfl (l' := #[.val (.int p0), .val (.int p1), .val (.int p2), .val (.int p3), .val (.ref a), .val (.ref q), .val (.int pp), .val (.int ee), .val (.int c1), .val (.ref t), .unset, .unset, .unset, .unset, .unset, .unset, .unset, .unset, .unset]) rfl ?_
    refine Go.aload C X at_121 (n := 123) rfl rfl rfl ?_
    refine Go.iload C X at_123 (n := 125) rfl rfl ?_
    by_cases hk1 : pp < ee ∧ chA x0 x1 x2 x3 pp = c1
    · show Go p e below _ (T.setTop (mkF m 125 #[.val (.int p0), .val (.int p1), .val (.int p2), .val (.int p3), .val (.ref a), .val (.ref q), .val (.int pp), .val (.int ee), .val (.int c1), .val (.ref t), .unset, .unset, .unset, .unset, .unset, .unset, .unset, .unset, .unset] [(.int c1), (.ref t)]))
      refine Go.virt C X eT (argsL := [(.int c1)]) (rest := []) (a := t) (cons_y l Z a0 hw n0 _ t ca x0 x1 x2 x3 pp ee c1 hpp.1 hee.2 g_t ne_ca_t E_t F_t_chars F_t_position F_t_end V_ca hk1) (wd hw 73 rfl) (wd hw 74 rfl) (notFace_of_selects (args := #[]) (mvT C.hZ (wd hw 76 rfl))) (wd hw 76 rfl) (wd hw 75 rfl) (wd hw 33 rfl) (wd hw 77 rfl) (by decide) E_t (lenOf pd_20 rfl) rfl at_125 (n := 128) rfl rfl (by decide) (W := 0) rfl (by decide) (by decide) (by decide) ?_
      clear X eT
      intro T h v L X eT hQ
      obtain ⟨rfl, Nq, KK, F_t_position, F_t_chars, F_t_end⟩ := hQ
      replace N := N.app Nq
      replace O := O.keep KK (allS g_t all0)
      replace V_a := V_a.keep KK (ninS ne_a_t nin0)
      replace E_t := E_t.keep KK
      replace B := B.keep KK
      replace V_ca := V_ca.keep KK (ninS ne_ca_t nin0)
      show Go p e below _ (T.setTop (mkF m 128 #[.val (.int p0), .val (.int p1), .val (.int p2), .val (.int p3), .val (.ref a), .val (.ref q), .val (.int pp), .val (.int ee), .val (.int c1), .val (.ref t), .unset, .unset, .unset, .unset, .unset, .unset, .unset, .unset, .unset] [(.int (1 : Int32))]))
      refine Go.istore C X at_128 (n := 130) rfl (l' := #[.val (.int p0), .val (.int p1), .val (.int p2), .val (.int p3), .val (.ref a), .val (.ref q), .val (.int pp), .val (.int ee), .val (.int c1), .val (.ref t), .val (.int (1 : Int32)), .unset, .unset, .unset, .unset, .unset, .unset, .unset, .unset]) rfl ?_
      refine Go.aload C X at_130 (n := 132) rfl rfl rfl ?_
      refine Go.virt C X eT (argsL := []) (rest := []) (a := t) (pos l Z a0 hw n0 _ t (pp + (1 : Int32)) F_t_position) (wd hw 78 rfl) (wd hw 79 rfl) (notFace_of_selects (args := #[]) (mvT C.hZ (wd hw 81 rfl))) (wd hw 81 rfl) (wd hw 80 rfl) (wd hw 33 rfl) (wd hw 82 rfl) (by decide) E_t (lenOf pd_21 rfl) rfl at_132 (n := 135) rfl rfl (by decide) (W := 0) rfl (by decide) (by decide) (by decide) ?_
      clear X eT
      intro T h' v L X eT hQ
      obtain ⟨rfl, rfl, hE⟩ := hQ
      replace hE := hE.symm
      subst hE
      replace N := N.app (Fr.nil n0)
      show Go p e below _ (T.setTop (mkF m 135 #[.val (.int p0), .val (.int p1), .val (.int p2), .val (.int p3), .val (.ref a), .val (.ref q), .val (.int pp), .val (.int ee), .val (.int c1), .val (.ref t), .val (.int (1 : Int32)), .unset, .unset, .unset, .unset, .unset, .unset, .unset, .unset] [(.int (pp + (1 : Int32)))]))
      refine Go.istore C X at_135 (n := 137) rfl (l' := #[.val (.int p0), .val (.int p1), .val (.int p2), .val (.int p3), .val (.ref a), .val (.ref q), .val (.int pp), .val (.int ee), .val (.int c1), .val (.ref t), .val (.int (1 : Int32)), .val (.int (pp + (1 : Int32))), .unset, .unset, .unset, .unset, .unset, .unset, .unset]) rfl ?_
      refine Go.iconst C X at_137 (n := 138) rfl (v := (0 : Int32)) rfl ?_
      refine Go.istore C X at_138 (n := 140) rfl (l' := #[.val (.int p0), .val (.int p1), .val (.int p2), .val (.int p3), .val (.ref a), .val (.ref q), .val (.int pp), .val (.int ee), .val (.int c1), .val (.ref t), .val (.int (1 : Int32)), .val (.int (pp + (1 : Int32))), .val (.int (0 : Int32)), .unset, .unset, .unset, .unset, .unset, .unset]) rfl ?_
      refine Go.iload C X at_140 (n := 142) rfl rfl ?_
      refine Go.iload C X at_142 (n := 144) rfl rfl ?_
      refine Go.icmp_ge C X at_144 (n1 := 164) (n2 := 147) (by decide) (by decide) rfl (fun hc144 => ?_) (fun hc144 => ?_)
      · exact absurd hk1.1 hc144
      · refine Go.aload C X at_147 (n := 149) rfl rfl rfl ?_
        refine Go.iload C X at_149 (n := 151) rfl rfl ?_
        refine Go.caloadL C X eT V_a (i := pp.toInt.toNat) (own_ix hpp.1) (v := .int (chA x0 x1 x2 x3 pp)) (own_at4 x0 x1 x2 x3 hpp.1 (own_lt4 hc144 hee.2)) at_151 (n := 152) rfl ?_
        refine Go.iload C X at_152 (n := 154) rfl rfl ?_
        refine Go.icmp_ne C X at_154 (n1 := 161) (n2 := 157) (by decide) (by decide) rfl (fun hc154 => ?_) (fun hc154 => ?_)
        · exact absurd hk1.2 hc154
        · refine Go.iconst C X at_157 (n := 158) rfl (v := (1 : Int32)) rfl ?_
          refine Go.goto C X at_158 (n := 162) (by decide) (by decide) ?_
          refine Go.istore C X at_162 (n := 164) rfl (l' := #[.val (.int p0), .val (.int p1), .val (.int p2), .val (.int p3), .val (.ref a), .val (.ref q), .val (.int pp), .val (.int ee), .val (.int c1), .val (.ref t), .val (.int (1 : Int32)), .val (.int (pp + (1 : Int32))), .val (.int (1 : Int32)), .unset, .unset, .unset, .unset, .unset, .unset]) rfl ?_
          refine Go.iload C X at_164 (n := 166) rfl rfl ?_
          refine Go.if0_eq C X at_166 (n1 := 176) (n2 := 169) (by decide) (by decide) rfl (fun hc166 => ?_) (fun hc166 => ?_)
          · exact absurd hc166 (by decide)
          · refine Go.iload C X at_169 (n := 171) rfl rfl ?_
            refine Go.iconst C X at_171 (n := 172) rfl (v := (1 : Int32)) rfl ?_
            refine Go.iadd C X at_172 (n := 173) rfl ?_
            refine Go.goto C X at_173 (n := 178) (by decide) (by decide) ?_
            refine Go.istore C X at_178 (n := 180) rfl (l' := #[.val (.int p0), .val (.int p1), .val (.int p2), .val (.int p3), .val (.ref a), .val (.ref q), .val (.int pp), .val (.int ee), .val (.int c1), .val (.ref t), .val (.int (1 : Int32)), .val (.int (pp + (1 : Int32))), .val (.int (1 : Int32)), .val (.int (pp + (1 : Int32))), .unset, .unset, .unset, .unset, .unset]) rfl ?_
            refine Go.iloadN C X at_180 (n := 181) rfl rfl ?_
            refine Go.bipush C X at_181 (n := 183) rfl (v := (7 : Int32)) rfl ?_
            refine Go.iushr C X at_183 (n := 184) rfl ?_
            refine Go.iconst C X at_184 (n := 185) rfl (v := (1 : Int32)) rfl ?_
            refine Go.iand C X at_185 (n := 186) rfl ?_
            refine Go.if0_eq C X at_186 (n1 := 201) (n2 := 189) (by decide) (by decide) rfl (fun hc186 => ?_) (fun hc186 => ?_)
            · refine Go.iloadN C X at_201 (n := 202) rfl rfl ?_
              refine Go.bipush C X at_202 (n := 204) rfl (v := (16 : Int32)) rfl ?_
              refine Go.iushr C X at_204 (n := 205) rfl ?_
              refine Go.ldcI C X (wd hw 1 rfl) at_205 (n := 207) rfl ?_
              refine Go.iand C X at_207 (n := 208) rfl ?_
              refine Go.i2c C X at_208 (n := 209) rfl ?_
              obtain ⟨c2, qz⟩ : ∃ z, z = (((XT.ushr p3 (16 : Int32)) &&& (65535 : Int32)).toUInt32.toUInt16.toUInt32.toInt32) := ⟨_, rfl⟩
              rw [← qz]
              clear qz
              show Go p e below _ (T.setTop (mkF m 209 #[.val (.int p0), .val (.int p1), .val (.int p2), .val (.int p3), .val (.ref a), .val (.ref q), .val (.int pp), .val (.int ee), .val (.int c1), .val (.ref t), .val (.int (1 : Int32)), .val (.int (pp + (1 : Int32))), .val (.int (1 : Int32)), .val (.int (pp + (1 : Int32))), .unset, .unset, .unset, .unset, .unset] [(.int c2)]))
              refine Go.istore C X at_209 (n := 211) rfl (l' := #[.val (.int p0), .val (.int p1), .val (.int p2), .val (.int p3), .val (.ref a), .val (.ref q), .val (.int pp), .val (.int ee), .val (.int c1), .val (.ref t), .val (.int (1 : Int32)), .val (.int (pp + (1 : Int32))), .val (.int (1 : Int32)), .val (.int (pp + (1 : Int32))), .val (.int c2), .unset, .unset, .unset, .unset]) rfl ?_
              refine Go.aload C X at_211 (n := 213) rfl rfl rfl ?_
              refine Go.iload C X at_213 (n := 215) rfl rfl ?_
              by_cases hk2 : (pp + (1 : Int32)) < ee ∧ chA x0 x1 x2 x3 (pp + (1 : Int32)) = c2
              · show Go p e below _ (T.setTop (mkF m 215 #[.val (.int p0), .val (.int p1), .val (.int p2), .val (.int p3), .val (.ref a), .val (.ref q), .val (.int pp), .val (.int ee), .val (.int c1), .val (.ref t), .val (.int (1 : Int32)), .val (.int (pp + (1 : Int32))), .val (.int (1 : Int32)), .val (.int (pp + (1 : Int32))), .val (.int c2), .unset, .unset, .unset, .unset] [(.int c2), (.ref t)]))
                refine Go.virt C X eT (argsL := [(.int c2)]) (rest := []) (a := t) (cons_y l Z a0 hw n0 _ t ca x0 x1 x2 x3 (pp + (1 : Int32)) ee c2 (own_p1 hpp.1 hk1.1 hee.2) hee.2 g_t ne_ca_t E_t F_t_chars F_t_position F_t_end V_ca hk2) (wd hw 73 rfl) (wd hw 74 rfl) (notFace_of_selects (args := #[]) (mvT C.hZ (wd hw 76 rfl))) (wd hw 76 rfl) (wd hw 75 rfl) (wd hw 33 rfl) (wd hw 77 rfl) (by decide) E_t (lenOf pd_20 rfl) rfl at_215 (n := 218) rfl rfl (by decide) (W := 0) rfl (by decide) (by decide) (by decide) ?_
                clear X eT
                intro T h v L X eT hQ
                obtain ⟨rfl, Nq, KK, F_t_position, F_t_chars, F_t_end⟩ := hQ
                replace N := N.app Nq
                replace O := O.keep KK (allS g_t all0)
                replace V_a := V_a.keep KK (ninS ne_a_t nin0)
                replace E_t := E_t.keep KK
                replace B := B.keep KK
                replace V_ca := V_ca.keep KK (ninS ne_ca_t nin0)
                show Go p e below _ (T.setTop (mkF m 218 #[.val (.int p0), .val (.int p1), .val (.int p2), .val (.int p3), .val (.ref a), .val (.ref q), .val (.int pp), .val (.int ee), .val (.int c1), .val (.ref t), .val (.int (1 : Int32)), .val (.int (pp + (1 : Int32))), .val (.int (1 : Int32)), .val (.int (pp + (1 : Int32))), .val (.int c2), .unset, .unset, .unset, .unset] [(.int (1 : Int32))]))
                refine Go.istore C X at_218 (n := 220) rfl (l' := #[.val (.int p0), .val (.int p1), .val (.int p2), .val (.int p3), .val (.ref a), .val (.ref q), .val (.int pp), .val (.int ee), .val (.int c1), .val (.ref t), .val (.int (1 : Int32)), .val (.int (pp + (1 : Int32))), .val (.int (1 : Int32)), .val (.int (pp + (1 : Int32))), .val (.int c2), .val (.int (1 : Int32)), .unset, .unset, .unset]) rfl ?_
                refine Go.aload C X at_220 (n := 222) rfl rfl rfl ?_
                refine Go.virt C X eT (argsL := []) (rest := []) (a := t) (pos l Z a0 hw n0 _ t ((pp + (1 : Int32)) + (1 : Int32)) F_t_position) (wd hw 78 rfl) (wd hw 79 rfl) (notFace_of_selects (args := #[]) (mvT C.hZ (wd hw 81 rfl))) (wd hw 81 rfl) (wd hw 80 rfl) (wd hw 33 rfl) (wd hw 82 rfl) (by decide) E_t (lenOf pd_21 rfl) rfl at_222 (n := 225) rfl rfl (by decide) (W := 0) rfl (by decide) (by decide) (by decide) ?_
                clear X eT
                intro T h' v L X eT hQ
                obtain ⟨rfl, rfl, hE⟩ := hQ
                replace hE := hE.symm
                subst hE
                replace N := N.app (Fr.nil n0)
                show Go p e below _ (T.setTop (mkF m 225 #[.val (.int p0), .val (.int p1), .val (.int p2), .val (.int p3), .val (.ref a), .val (.ref q), .val (.int pp), .val (.int ee), .val (.int c1), .val (.ref t), .val (.int (1 : Int32)), .val (.int (pp + (1 : Int32))), .val (.int (1 : Int32)), .val (.int (pp + (1 : Int32))), .val (.int c2), .val (.int (1 : Int32)), .unset, .unset, .unset] [(.int ((pp + (1 : Int32)) + (1 : Int32)))]))
                refine Go.istore C X at_225 (n := 227) rfl (l' := #[.val (.int p0), .val (.int p1), .val (.int p2), .val (.int p3), .val (.ref a), .val (.ref q), .val (.int pp), .val (.int ee), .val (.int c1), .val (.ref t), .val (.int (1 : Int32)), .val (.int (pp + (1 : Int32))), .val (.int (1 : Int32)), .val (.int (pp + (1 : Int32))), .val (.int c2), .val (.int (1 : Int32)), .val (.int ((pp + (1 : Int32)) + (1 : Int32))), .unset, .unset]) rfl ?_
                refine Go.iconst C X at_227 (n := 228) rfl (v := (0 : Int32)) rfl ?_
                refine Go.istore C X at_228 (n := 230) rfl (l' := #[.val (.int p0), .val (.int p1), .val (.int p2), .val (.int p3), .val (.ref a), .val (.ref q), .val (.int pp), .val (.int ee), .val (.int c1), .val (.ref t), .val (.int (1 : Int32)), .val (.int (pp + (1 : Int32))), .val (.int (1 : Int32)), .val (.int (pp + (1 : Int32))), .val (.int c2), .val (.int (1 : Int32)), .val (.int ((pp + (1 : Int32)) + (1 : Int32))), .val (.int (0 : Int32)), .unset]) rfl ?_
                refine Go.iload C X at_230 (n := 232) rfl rfl ?_
                refine Go.iload C X at_232 (n := 234) rfl rfl ?_
                refine Go.icmp_ge C X at_234 (n1 := 254) (n2 := 237) (by decide) (by decide) rfl (fun hc234 => ?_) (fun hc234 => ?_)
                · exact absurd hk2.1 hc234
                · refine Go.aload C X at_237 (n := 239) rfl rfl rfl ?_
                  refine Go.iload C X at_239 (n := 241) rfl rfl ?_
                  refine Go.caloadL C X eT V_a (i := (pp + (1 : Int32)).toInt.toNat) (own_ix (own_p1 hpp.1 hk1.1 hee.2)) (v := .int (chA x0 x1 x2 x3 (pp + (1 : Int32)))) (own_at4 x0 x1 x2 x3 (own_p1 hpp.1 hk1.1 hee.2) (own_lt4 hc234 hee.2)) at_241 (n := 242) rfl ?_
                  refine Go.iload C X at_242 (n := 244) rfl rfl ?_
                  refine Go.icmp_ne C X at_244 (n1 := 251) (n2 := 247) (by decide) (by decide) rfl (fun hc244 => ?_) (fun hc244 => ?_)
                  · exact absurd hk2.2 hc244
                  · refine Go.iconst C X at_247 (n := 248) rfl (v := (1 : Int32)) rfl ?_
                    refine Go.goto C X at_248 (n := 252) (by decide) (by decide) ?_
                    refine Go.istore C X at_252 (n := 254) rfl (l' := #[.val (.int p0), .val (.int p1), .val (.int p2), .val (.int p3), .val (.ref a), .val (.ref q), .val (.int pp), .val (.int ee), .val (.int c1), .val (.ref t), .val (.int (1 : Int32)), .val (.int (pp + (1 : Int32))), .val (.int (1 : Int32)), .val (.int (pp + (1 : Int32))), .val (.int c2), .val (.int (1 : Int32)), .val (.int ((pp + (1 : Int32)) + (1 : Int32))), .val (.int (1 : Int32)), .unset]) rfl ?_
                    refine Go.iload C X at_254 (n := 256) rfl rfl ?_
                    refine Go.if0_eq C X at_256 (n1 := 266) (n2 := 259) (by decide) (by decide) rfl (fun hc256 => ?_) (fun hc256 => ?_)
                    · exact absurd hc256 (by decide)
                    · refine Go.iload C X at_259 (n := 261) rfl rfl ?_
                      refine Go.iconst C X at_261 (n := 262) rfl (v := (1 : Int32)) rfl ?_
                      refine Go.iadd C X at_262 (n := 263) rfl ?_
                      refine Go.goto C X at_263 (n := 268) (by decide) (by decide) ?_
                      refine Go.istore C X at_268 (n := 270) rfl (l' := #[.val (.int p0), .val (.int p1), .val (.int p2), .val (.int p3), .val (.ref a), .val (.ref q), .val (.int pp), .val (.int ee), .val (.int c1), .val (.ref t), .val (.int (1 : Int32)), .val (.int (pp + (1 : Int32))), .val (.int (1 : Int32)), .val (.int (pp + (1 : Int32))), .val (.int c2), .val (.int (1 : Int32)), .val (.int ((pp + (1 : Int32)) + (1 : Int32))), .val (.int (1 : Int32)), .val (.int ((pp + (1 : Int32)) + (1 : Int32)))]) rfl ?_
                      refine Go.iload C X at_270 (n := 272) rfl rfl ?_
                      refine Go.iload C X at_272 (n := 274) rfl rfl ?_
                      refine Go.icmp_ne C X at_274 (n1 := 302) (n2 := 277) (by decide) (by decide) rfl (fun hc274 => ?_) (fun hc274 => ?_)
                      · exact absurd hc274 (by decide)
                      · refine Go.iload C X at_277 (n := 279) rfl rfl ?_
                        refine Go.iload C X at_279 (n := 281) rfl rfl ?_
                        refine Go.icmp_ne C X at_281 (n1 := 302) (n2 := 284) (by decide) (by decide) rfl (fun hc281 => ?_) (fun hc281 => ?_)
                        · exact absurd rfl hc281
                        · refine Go.iload C X at_284 (n := 286) rfl rfl ?_
                          refine Go.iload C X at_286 (n := 288) rfl rfl ?_
                          refine Go.icmp_ne C X at_288 (n1 := 302) (n2 := 291) (by decide) (by decide) rfl (fun hc288 => ?_) (fun hc288 => ?_)
                          · exact absurd hc288 (by decide)
                          · refine Go.iload C X at_291 (n := 293) rfl rfl ?_
                            refine Go.iload C X at_293 (n := 295) rfl rfl ?_
                            refine Go.icmp_ne C X at_295 (n1 := 302) (n2 := 298) (by decide) (by decide) rfl (fun hc295 => ?_) (fun hc295 => ?_)
                            · exact absurd rfl hc295
                            · refine Go.iconst C X at_298 (n := 299) rfl (v := (1 : Int32)) rfl ?_
                              refine Go.goto C X at_299 (n := 303) (by decide) (by decide) ?_
                              refine Go.retNW C X eT B JI.tt trivial (Or.inl rfl) (w := (1 : Int32)) (by decide) at_303 (by decide) (by decide) ?_
                              exact ⟨rfl, N⟩
              · show Go p e below _ (T.setTop (mkF m 215 #[.val (.int p0), .val (.int p1), .val (.int p2), .val (.int p3), .val (.ref a), .val (.ref q), .val (.int pp), .val (.int ee), .val (.int c1), .val (.ref t), .val (.int (1 : Int32)), .val (.int (pp + (1 : Int32))), .val (.int (1 : Int32)), .val (.int (pp + (1 : Int32))), .val (.int c2), .unset, .unset, .unset, .unset] [(.int c2), (.ref t)]))
                refine Go.virt C X eT (argsL := [(.int c2)]) (rest := []) (a := t) (cons_n l Z a0 hw n0 _ t ca x0 x1 x2 x3 (pp + (1 : Int32)) ee c2 (own_p1 hpp.1 hk1.1 hee.2) hee.2 g_t ne_ca_t E_t F_t_chars F_t_position F_t_end V_ca hk2) (wd hw 73 rfl) (wd hw 74 rfl) (notFace_of_selects (args := #[]) (mvT C.hZ (wd hw 76 rfl))) (wd hw 76 rfl) (wd hw 75 rfl) (wd hw 33 rfl) (wd hw 77 rfl) (by decide) E_t (lenOf pd_20 rfl) rfl at_215 (n := 218) rfl rfl (by decide) (W := 0) rfl (by decide) (by decide) (by decide) ?_
                clear X eT
                intro T h' v L X eT hQ
                obtain ⟨rfl, rfl, hE⟩ := hQ
                replace hE := hE.symm
                subst hE
                replace N := N.app (Fr.nil n0)
                show Go p e below _ (T.setTop (mkF m 218 #[.val (.int p0), .val (.int p1), .val (.int p2), .val (.int p3), .val (.ref a), .val (.ref q), .val (.int pp), .val (.int ee), .val (.int c1), .val (.ref t), .val (.int (1 : Int32)), .val (.int (pp + (1 : Int32))), .val (.int (1 : Int32)), .val (.int (pp + (1 : Int32))), .val (.int c2), .unset, .unset, .unset, .unset] [(.int (0 : Int32))]))
                refine Go.istore C X at_218 (n := 220) rfl (l' := #[.val (.int p0), .val (.int p1), .val (.int p2), .val (.int p3), .val (.ref a), .val (.ref q), .val (.int pp), .val (.int ee), .val (.int c1), .val (.ref t), .val (.int (1 : Int32)), .val (.int (pp + (1 : Int32))), .val (.int (1 : Int32)), .val (.int (pp + (1 : Int32))), .val (.int c2), .val (.int (0 : Int32)), .unset, .unset, .unset]) rfl ?_
                refine Go.aload C X at_220 (n := 222) rfl rfl rfl ?_
                refine Go.virt C X eT (argsL := []) (rest := []) (a := t) (pos l Z a0 hw n0 _ t (pp + (1 : Int32)) F_t_position) (wd hw 78 rfl) (wd hw 79 rfl) (notFace_of_selects (args := #[]) (mvT C.hZ (wd hw 81 rfl))) (wd hw 81 rfl) (wd hw 80 rfl) (wd hw 33 rfl) (wd hw 82 rfl) (by decide) E_t (lenOf pd_21 rfl) rfl at_222 (n := 225) rfl rfl (by decide) (W := 0) rfl (by decide) (by decide) (by decide) ?_
                clear X eT
                intro T h' v L X eT hQ
                obtain ⟨rfl, rfl, hE⟩ := hQ
                replace hE := hE.symm
                subst hE
                replace N := N.app (Fr.nil n0)
                show Go p e below _ (T.setTop (mkF m 225 #[.val (.int p0), .val (.int p1), .val (.int p2), .val (.int p3), .val (.ref a), .val (.ref q), .val (.int pp), .val (.int ee), .val (.int c1), .val (.ref t), .val (.int (1 : Int32)), .val (.int (pp + (1 : Int32))), .val (.int (1 : Int32)), .val (.int (pp + (1 : Int32))), .val (.int c2), .val (.int (0 : Int32)), .unset, .unset, .unset] [(.int (pp + (1 : Int32)))]))
                refine Go.istore C X at_225 (n := 227) rfl (l' := #[.val (.int p0), .val (.int p1), .val (.int p2), .val (.int p3), .val (.ref a), .val (.ref q), .val (.int pp), .val (.int ee), .val (.int c1), .val (.ref t), .val (.int (1 : Int32)), .val (.int (pp + (1 : Int32))), .val (.int (1 : Int32)), .val (.int (pp + (1 : Int32))), .val (.int c2), .val (.int (0 : Int32)), .val (.int (pp + (1 : Int32))), .unset, .unset]) rfl ?_
                refine Go.iconst C X at_227 (n := 228) rfl (v := (0 : Int32)) rfl ?_
                refine Go.istore C X at_228 (n := 230) rfl (l' := #[.val (.int p0), .val (.int p1), .val (.int p2), .val (.int p3), .val (.ref a), .val (.ref q), .val (.int pp), .val (.int ee), .val (.int c1), .val (.ref t), .val (.int (1 : Int32)), .val (.int (pp + (1 : Int32))), .val (.int (1 : Int32)), .val (.int (pp + (1 : Int32))), .val (.int c2), .val (.int (0 : Int32)), .val (.int (pp + (1 : Int32))), .val (.int (0 : Int32)), .unset]) rfl ?_
                refine Go.iload C X at_230 (n := 232) rfl rfl ?_
                refine Go.iload C X at_232 (n := 234) rfl rfl ?_
                refine Go.icmp_ge C X at_234 (n1 := 254) (n2 := 237) (by decide) (by decide) rfl (fun hc234 => ?_) (fun hc234 => ?_)
                · refine Go.iload C X at_254 (n := 256) rfl rfl ?_
                  refine Go.if0_eq C X at_256 (n1 := 266) (n2 := 259) (by decide) (by decide) rfl (fun hc256 => ?_) (fun hc256 => ?_)
                  · refine Go.iload C X at_266 (n := 268) rfl rfl ?_
                    refine Go.istore C X at_268 (n := 270) rfl (l' := #[.val (.int p0), .val (.int p1), .val (.int p2), .val (.int p3), .val (.ref a), .val (.ref q), .val (.int pp), .val (.int ee), .val (.int c1), .val (.ref t), .val (.int (1 : Int32)), .val (.int (pp + (1 : Int32))), .val (.int (1 : Int32)), .val (.int (pp + (1 : Int32))), .val (.int c2), .val (.int (0 : Int32)), .val (.int (pp + (1 : Int32))), .val (.int (0 : Int32)), .val (.int (pp + (1 : Int32)))]) rfl ?_
                    refine Go.iload C X at_270 (n := 272) rfl rfl ?_
                    refine Go.iload C X at_272 (n := 274) rfl rfl ?_
                    refine Go.icmp_ne C X at_274 (n1 := 302) (n2 := 277) (by decide) (by decide) rfl (fun hc274 => ?_) (fun hc274 => ?_)
                    · exact absurd hc274 (by decide)
                    · refine Go.iload C X at_277 (n := 279) rfl rfl ?_
                      refine Go.iload C X at_279 (n := 281) rfl rfl ?_
                      refine Go.icmp_ne C X at_281 (n1 := 302) (n2 := 284) (by decide) (by decide) rfl (fun hc281 => ?_) (fun hc281 => ?_)
                      · exact absurd rfl hc281
                      · refine Go.iload C X at_284 (n := 286) rfl rfl ?_
                        refine Go.iload C X at_286 (n := 288) rfl rfl ?_
                        refine Go.icmp_ne C X at_288 (n1 := 302) (n2 := 291) (by decide) (by decide) rfl (fun hc288 => ?_) (fun hc288 => ?_)
                        · exact absurd hc288 (by decide)
                        · refine Go.iload C X at_291 (n := 293) rfl rfl ?_
                          refine Go.iload C X at_293 (n := 295) rfl rfl ?_
                          refine Go.icmp_ne C X at_295 (n1 := 302) (n2 := 298) (by decide) (by decide) rfl (fun hc295 => ?_) (fun hc295 => ?_)
                          · exact absurd rfl hc295
                          · refine Go.iconst C X at_298 (n := 299) rfl (v := (1 : Int32)) rfl ?_
                            refine Go.goto C X at_299 (n := 303) (by decide) (by decide) ?_
                            refine Go.retNW C X eT B JI.tt trivial (Or.inl rfl) (w := (1 : Int32)) (by decide) at_303 (by decide) (by decide) ?_
                            exact ⟨rfl, N⟩
                  · exact absurd hc256 (by decide)
                · refine Go.aload C X at_237 (n := 239) rfl rfl rfl ?_
                  refine Go.iload C X at_239 (n := 241) rfl rfl ?_
                  refine Go.caloadL C X eT V_a (i := (pp + (1 : Int32)).toInt.toNat) (own_ix (own_p1 hpp.1 hk1.1 hee.2)) (v := .int (chA x0 x1 x2 x3 (pp + (1 : Int32)))) (own_at4 x0 x1 x2 x3 (own_p1 hpp.1 hk1.1 hee.2) (own_lt4 hc234 hee.2)) at_241 (n := 242) rfl ?_
                  refine Go.iload C X at_242 (n := 244) rfl rfl ?_
                  refine Go.icmp_ne C X at_244 (n1 := 251) (n2 := 247) (by decide) (by decide) rfl (fun hc244 => ?_) (fun hc244 => ?_)
                  · refine Go.iconst C X at_251 (n := 252) rfl (v := (0 : Int32)) rfl ?_
                    refine Go.istore C X at_252 (n := 254) rfl (l' := #[.val (.int p0), .val (.int p1), .val (.int p2), .val (.int p3), .val (.ref a), .val (.ref q), .val (.int pp), .val (.int ee), .val (.int c1), .val (.ref t), .val (.int (1 : Int32)), .val (.int (pp + (1 : Int32))), .val (.int (1 : Int32)), .val (.int (pp + (1 : Int32))), .val (.int c2), .val (.int (0 : Int32)), .val (.int (pp + (1 : Int32))), .val (.int (0 : Int32)), .unset]) rfl ?_
                    refine Go.iload C X at_254 (n := 256) rfl rfl ?_
                    refine Go.if0_eq C X at_256 (n1 := 266) (n2 := 259) (by decide) (by decide) rfl (fun hc256 => ?_) (fun hc256 => ?_)
                    · refine Go.iload C X at_266 (n := 268) rfl rfl ?_
                      refine Go.istore C X at_268 (n := 270) rfl (l' := #[.val (.int p0), .val (.int p1), .val (.int p2), .val (.int p3), .val (.ref a), .val (.ref q), .val (.int pp), .val (.int ee), .val (.int c1), .val (.ref t), .val (.int (1 : Int32)), .val (.int (pp + (1 : Int32))), .val (.int (1 : Int32)), .val (.int (pp + (1 : Int32))), .val (.int c2), .val (.int (0 : Int32)), .val (.int (pp + (1 : Int32))), .val (.int (0 : Int32)), .val (.int (pp + (1 : Int32)))]) rfl ?_
                      refine Go.iload C X at_270 (n := 272) rfl rfl ?_
                      refine Go.iload C X at_272 (n := 274) rfl rfl ?_
                      refine Go.icmp_ne C X at_274 (n1 := 302) (n2 := 277) (by decide) (by decide) rfl (fun hc274 => ?_) (fun hc274 => ?_)
                      · exact absurd hc274 (by decide)
                      · refine Go.iload C X at_277 (n := 279) rfl rfl ?_
                        refine Go.iload C X at_279 (n := 281) rfl rfl ?_
                        refine Go.icmp_ne C X at_281 (n1 := 302) (n2 := 284) (by decide) (by decide) rfl (fun hc281 => ?_) (fun hc281 => ?_)
                        · exact absurd rfl hc281
                        · refine Go.iload C X at_284 (n := 286) rfl rfl ?_
                          refine Go.iload C X at_286 (n := 288) rfl rfl ?_
                          refine Go.icmp_ne C X at_288 (n1 := 302) (n2 := 291) (by decide) (by decide) rfl (fun hc288 => ?_) (fun hc288 => ?_)
                          · exact absurd hc288 (by decide)
                          · refine Go.iload C X at_291 (n := 293) rfl rfl ?_
                            refine Go.iload C X at_293 (n := 295) rfl rfl ?_
                            refine Go.icmp_ne C X at_295 (n1 := 302) (n2 := 298) (by decide) (by decide) rfl (fun hc295 => ?_) (fun hc295 => ?_)
                            · exact absurd rfl hc295
                            · refine Go.iconst C X at_298 (n := 299) rfl (v := (1 : Int32)) rfl ?_
                              refine Go.goto C X at_299 (n := 303) (by decide) (by decide) ?_
                              refine Go.retNW C X eT B JI.tt trivial (Or.inl rfl) (w := (1 : Int32)) (by decide) at_303 (by decide) (by decide) ?_
                              exact ⟨rfl, N⟩
                    · exact absurd hc256 (by decide)
                  · exact absurd ⟨hc234, hc244⟩ hk2
            · refine Go.aload C X at_189 (n := 191) rfl rfl rfl ?_
              refine Go.iload C X at_191 (n := 193) rfl rfl ?_
              refine Go.iconst C X at_193 (n := 194) rfl (v := (3 : Int32)) rfl ?_
              refine Go.stat C X eT (argsL := [(.int (pp + (1 : Int32))), (.int (3 : Int32))]) (rest := [(.ref a)]) (mn3 l Z a0 hw n0 _ (pp + (1 : Int32)) (own_p1 hpp.1 hk1.1 hee.2)) (wd hw 83 rfl) (wd hw 84 rfl) (wd hw 85 rfl) (wd hw 86 rfl) (by decide) (lenOf pd_22 rfl) rfl at_194 (n := 197) rfl rfl (by decide) (W := 1) rfl (by decide) (by decide) (by decide) ?_
              clear X eT
              intro T h' v L X eT hQ
              obtain ⟨r194, rfl, rfl, hE, hr194⟩ := hQ
              replace hE := hE.symm
              subst hE
              replace N := N.app (Fr.nil n0)
              show Go p e below _ (T.setTop (mkF m 197 #[.val (.int p0), .val (.int p1), .val (.int p2), .val (.int p3), .val (.ref a), .val (.ref q), .val (.int pp), .val (.int ee), .val (.int c1), .val (.ref t), .val (.int (1 : Int32)), .val (.int (pp + (1 : Int32))), .val (.int (1 : Int32)), .val (.int (pp + (1 : Int32))), .unset, .unset, .unset, .unset, .unset] [(.int r194), (.ref a)]))
              refine Go.caloadL C X eT V_a (i := r194.toInt.toNat) (own_ix hr194.1) (v := .int (chA x0 x1 x2 x3 r194)) (own_at4 x0 x1 x2 x3 hr194.1 hr194.2) at_197 (n := 198) rfl ?_
              refine Go.goto C X at_198 (n := 209) (by decide) (by decide) ?_
              obtain ⟨c2, qz⟩ : ∃ z, z = (chA x0 x1 x2 x3 r194) := ⟨_, rfl⟩
              rw [← qz]
              clear qz
              show Go p e below _ (T.setTop (mkF m 209 #[.val (.int p0), .val (.int p1), .val (.int p2), .val (.int p3), .val (.ref a), .val (.ref q), .val (.int pp), .val (.int ee), .val (.int c1), .val (.ref t), .val (.int (1 : Int32)), .val (.int (pp + (1 : Int32))), .val (.int (1 : Int32)), .val (.int (pp + (1 : Int32))), .unset, .unset, .unset, .unset, .unset] [(.int c2)]))
              refine Go.istore C X at_209 (n := 211) rfl (l' := #[.val (.int p0), .val (.int p1), .val (.int p2), .val (.int p3), .val (.ref a), .val (.ref q), .val (.int pp), .val (.int ee), .val (.int c1), .val (.ref t), .val (.int (1 : Int32)), .val (.int (pp + (1 : Int32))), .val (.int (1 : Int32)), .val (.int (pp + (1 : Int32))), .val (.int c2), .unset, .unset, .unset, .unset]) rfl ?_
              refine Go.aload C X at_211 (n := 213) rfl rfl rfl ?_
              refine Go.iload C X at_213 (n := 215) rfl rfl ?_
              by_cases hk2 : (pp + (1 : Int32)) < ee ∧ chA x0 x1 x2 x3 (pp + (1 : Int32)) = c2
              · show Go p e below _ (T.setTop (mkF m 215 #[.val (.int p0), .val (.int p1), .val (.int p2), .val (.int p3), .val (.ref a), .val (.ref q), .val (.int pp), .val (.int ee), .val (.int c1), .val (.ref t), .val (.int (1 : Int32)), .val (.int (pp + (1 : Int32))), .val (.int (1 : Int32)), .val (.int (pp + (1 : Int32))), .val (.int c2), .unset, .unset, .unset, .unset] [(.int c2), (.ref t)]))
                refine Go.virt C X eT (argsL := [(.int c2)]) (rest := []) (a := t) (cons_y l Z a0 hw n0 _ t ca x0 x1 x2 x3 (pp + (1 : Int32)) ee c2 (own_p1 hpp.1 hk1.1 hee.2) hee.2 g_t ne_ca_t E_t F_t_chars F_t_position F_t_end V_ca hk2) (wd hw 73 rfl) (wd hw 74 rfl) (notFace_of_selects (args := #[]) (mvT C.hZ (wd hw 76 rfl))) (wd hw 76 rfl) (wd hw 75 rfl) (wd hw 33 rfl) (wd hw 77 rfl) (by decide) E_t (lenOf pd_20 rfl) rfl at_215 (n := 218) rfl rfl (by decide) (W := 0) rfl (by decide) (by decide) (by decide) ?_
                clear X eT
                intro T h v L X eT hQ
                obtain ⟨rfl, Nq, KK, F_t_position, F_t_chars, F_t_end⟩ := hQ
                replace N := N.app Nq
                replace O := O.keep KK (allS g_t all0)
                replace V_a := V_a.keep KK (ninS ne_a_t nin0)
                replace E_t := E_t.keep KK
                replace B := B.keep KK
                replace V_ca := V_ca.keep KK (ninS ne_ca_t nin0)
                show Go p e below _ (T.setTop (mkF m 218 #[.val (.int p0), .val (.int p1), .val (.int p2), .val (.int p3), .val (.ref a), .val (.ref q), .val (.int pp), .val (.int ee), .val (.int c1), .val (.ref t), .val (.int (1 : Int32)), .val (.int (pp + (1 : Int32))), .val (.int (1 : Int32)), .val (.int (pp + (1 : Int32))), .val (.int c2), .unset, .unset, .unset, .unset] [(.int (1 : Int32))]))
                refine Go.istore C X at_218 (n := 220) rfl (l' := #[.val (.int p0), .val (.int p1), .val (.int p2), .val (.int p3), .val (.ref a), .val (.ref q), .val (.int pp), .val (.int ee), .val (.int c1), .val (.ref t), .val (.int (1 : Int32)), .val (.int (pp + (1 : Int32))), .val (.int (1 : Int32)), .val (.int (pp + (1 : Int32))), .val (.int c2), .val (.int (1 : Int32)), .unset, .unset, .unset]) rfl ?_
                refine Go.aload C X at_220 (n := 222) rfl rfl rfl ?_
                refine Go.virt C X eT (argsL := []) (rest := []) (a := t) (pos l Z a0 hw n0 _ t ((pp + (1 : Int32)) + (1 : Int32)) F_t_position) (wd hw 78 rfl) (wd hw 79 rfl) (notFace_of_selects (args := #[]) (mvT C.hZ (wd hw 81 rfl))) (wd hw 81 rfl) (wd hw 80 rfl) (wd hw 33 rfl) (wd hw 82 rfl) (by decide) E_t (lenOf pd_21 rfl) rfl at_222 (n := 225) rfl rfl (by decide) (W := 0) rfl (by decide) (by decide) (by decide) ?_
                clear X eT
                intro T h' v L X eT hQ
                obtain ⟨rfl, rfl, hE⟩ := hQ
                replace hE := hE.symm
                subst hE
                replace N := N.app (Fr.nil n0)
                show Go p e below _ (T.setTop (mkF m 225 #[.val (.int p0), .val (.int p1), .val (.int p2), .val (.int p3), .val (.ref a), .val (.ref q), .val (.int pp), .val (.int ee), .val (.int c1), .val (.ref t), .val (.int (1 : Int32)), .val (.int (pp + (1 : Int32))), .val (.int (1 : Int32)), .val (.int (pp + (1 : Int32))), .val (.int c2), .val (.int (1 : Int32)), .unset, .unset, .unset] [(.int ((pp + (1 : Int32)) + (1 : Int32)))]))
                refine Go.istore C X at_225 (n := 227) rfl (l' := #[.val (.int p0), .val (.int p1), .val (.int p2), .val (.int p3), .val (.ref a), .val (.ref q), .val (.int pp), .val (.int ee), .val (.int c1), .val (.ref t), .val (.int (1 : Int32)), .val (.int (pp + (1 : Int32))), .val (.int (1 : Int32)), .val (.int (pp + (1 : Int32))), .val (.int c2), .val (.int (1 : Int32)), .val (.int ((pp + (1 : Int32)) + (1 : Int32))), .unset, .unset]) rfl ?_
                refine Go.iconst C X at_227 (n := 228) rfl (v := (0 : Int32)) rfl ?_
                refine Go.istore C X at_228 (n := 230) rfl (l' := #[.val (.int p0), .val (.int p1), .val (.int p2), .val (.int p3), .val (.ref a), .val (.ref q), .val (.int pp), .val (.int ee), .val (.int c1), .val (.ref t), .val (.int (1 : Int32)), .val (.int (pp + (1 : Int32))), .val (.int (1 : Int32)), .val (.int (pp + (1 : Int32))), .val (.int c2), .val (.int (1 : Int32)), .val (.int ((pp + (1 : Int32)) + (1 : Int32))), .val (.int (0 : Int32)), .unset]) rfl ?_
                refine Go.iload C X at_230 (n := 232) rfl rfl ?_
                refine Go.iload C X at_232 (n := 234) rfl rfl ?_
                refine Go.icmp_ge C X at_234 (n1 := 254) (n2 := 237) (by decide) (by decide) rfl (fun hc234 => ?_) (fun hc234 => ?_)
                · exact absurd hk2.1 hc234
                · refine Go.aload C X at_237 (n := 239) rfl rfl rfl ?_
                  refine Go.iload C X at_239 (n := 241) rfl rfl ?_
                  refine Go.caloadL C X eT V_a (i := (pp + (1 : Int32)).toInt.toNat) (own_ix (own_p1 hpp.1 hk1.1 hee.2)) (v := .int (chA x0 x1 x2 x3 (pp + (1 : Int32)))) (own_at4 x0 x1 x2 x3 (own_p1 hpp.1 hk1.1 hee.2) (own_lt4 hc234 hee.2)) at_241 (n := 242) rfl ?_
                  refine Go.iload C X at_242 (n := 244) rfl rfl ?_
                  refine Go.icmp_ne C X at_244 (n1 := 251) (n2 := 247) (by decide) (by decide) rfl (fun hc244 => ?_) (fun hc244 => ?_)
                  · exact absurd hk2.2 hc244
                  · refine Go.iconst C X at_247 (n := 248) rfl (v := (1 : Int32)) rfl ?_
                    refine Go.goto C X at_248 (n := 252) (by decide) (by decide) ?_
                    refine Go.istore C X at_252 (n := 254) rfl (l' := #[.val (.int p0), .val (.int p1), .val (.int p2), .val (.int p3), .val (.ref a), .val (.ref q), .val (.int pp), .val (.int ee), .val (.int c1), .val (.ref t), .val (.int (1 : Int32)), .val (.int (pp + (1 : Int32))), .val (.int (1 : Int32)), .val (.int (pp + (1 : Int32))), .val (.int c2), .val (.int (1 : Int32)), .val (.int ((pp + (1 : Int32)) + (1 : Int32))), .val (.int (1 : Int32)), .unset]) rfl ?_
                    refine Go.iload C X at_254 (n := 256) rfl rfl ?_
                    refine Go.if0_eq C X at_256 (n1 := 266) (n2 := 259) (by decide) (by decide) rfl (fun hc256 => ?_) (fun hc256 => ?_)
                    · exact absurd hc256 (by decide)
                    · refine Go.iload C X at_259 (n := 261) rfl rfl ?_
                      refine Go.iconst C X at_261 (n := 262) rfl (v := (1 : Int32)) rfl ?_
                      refine Go.iadd C X at_262 (n := 263) rfl ?_
                      refine Go.goto C X at_263 (n := 268) (by decide) (by decide) ?_
                      refine Go.istore C X at_268 (n := 270) rfl (l' := #[.val (.int p0), .val (.int p1), .val (.int p2), .val (.int p3), .val (.ref a), .val (.ref q), .val (.int pp), .val (.int ee), .val (.int c1), .val (.ref t), .val (.int (1 : Int32)), .val (.int (pp + (1 : Int32))), .val (.int (1 : Int32)), .val (.int (pp + (1 : Int32))), .val (.int c2), .val (.int (1 : Int32)), .val (.int ((pp + (1 : Int32)) + (1 : Int32))), .val (.int (1 : Int32)), .val (.int ((pp + (1 : Int32)) + (1 : Int32)))]) rfl ?_
                      refine Go.iload C X at_270 (n := 272) rfl rfl ?_
                      refine Go.iload C X at_272 (n := 274) rfl rfl ?_
                      refine Go.icmp_ne C X at_274 (n1 := 302) (n2 := 277) (by decide) (by decide) rfl (fun hc274 => ?_) (fun hc274 => ?_)
                      · exact absurd hc274 (by decide)
                      · refine Go.iload C X at_277 (n := 279) rfl rfl ?_
                        refine Go.iload C X at_279 (n := 281) rfl rfl ?_
                        refine Go.icmp_ne C X at_281 (n1 := 302) (n2 := 284) (by decide) (by decide) rfl (fun hc281 => ?_) (fun hc281 => ?_)
                        · exact absurd rfl hc281
                        · refine Go.iload C X at_284 (n := 286) rfl rfl ?_
                          refine Go.iload C X at_286 (n := 288) rfl rfl ?_
                          refine Go.icmp_ne C X at_288 (n1 := 302) (n2 := 291) (by decide) (by decide) rfl (fun hc288 => ?_) (fun hc288 => ?_)
                          · exact absurd hc288 (by decide)
                          · refine Go.iload C X at_291 (n := 293) rfl rfl ?_
                            refine Go.iload C X at_293 (n := 295) rfl rfl ?_
                            refine Go.icmp_ne C X at_295 (n1 := 302) (n2 := 298) (by decide) (by decide) rfl (fun hc295 => ?_) (fun hc295 => ?_)
                            · exact absurd rfl hc295
                            · refine Go.iconst C X at_298 (n := 299) rfl (v := (1 : Int32)) rfl ?_
                              refine Go.goto C X at_299 (n := 303) (by decide) (by decide) ?_
                              refine Go.retNW C X eT B JI.tt trivial (Or.inl rfl) (w := (1 : Int32)) (by decide) at_303 (by decide) (by decide) ?_
                              exact ⟨rfl, N⟩
              · show Go p e below _ (T.setTop (mkF m 215 #[.val (.int p0), .val (.int p1), .val (.int p2), .val (.int p3), .val (.ref a), .val (.ref q), .val (.int pp), .val (.int ee), .val (.int c1), .val (.ref t), .val (.int (1 : Int32)), .val (.int (pp + (1 : Int32))), .val (.int (1 : Int32)), .val (.int (pp + (1 : Int32))), .val (.int c2), .unset, .unset, .unset, .unset] [(.int c2), (.ref t)]))
                refine Go.virt C X eT (argsL := [(.int c2)]) (rest := []) (a := t) (cons_n l Z a0 hw n0 _ t ca x0 x1 x2 x3 (pp + (1 : Int32)) ee c2 (own_p1 hpp.1 hk1.1 hee.2) hee.2 g_t ne_ca_t E_t F_t_chars F_t_position F_t_end V_ca hk2) (wd hw 73 rfl) (wd hw 74 rfl) (notFace_of_selects (args := #[]) (mvT C.hZ (wd hw 76 rfl))) (wd hw 76 rfl) (wd hw 75 rfl) (wd hw 33 rfl) (wd hw 77 rfl) (by decide) E_t (lenOf pd_20 rfl) rfl at_215 (n := 218) rfl rfl (by decide) (W := 0) rfl (by decide) (by decide) (by decide) ?_
                clear X eT
                intro T h' v L X eT hQ
                obtain ⟨rfl, rfl, hE⟩ := hQ
                replace hE := hE.symm
                subst hE
                replace N := N.app (Fr.nil n0)
                show Go p e below _ (T.setTop (mkF m 218 #[.val (.int p0), .val (.int p1), .val (.int p2), .val (.int p3), .val (.ref a), .val (.ref q), .val (.int pp), .val (.int ee), .val (.int c1), .val (.ref t), .val (.int (1 : Int32)), .val (.int (pp + (1 : Int32))), .val (.int (1 : Int32)), .val (.int (pp + (1 : Int32))), .val (.int c2), .unset, .unset, .unset, .unset] [(.int (0 : Int32))]))
                refine Go.istore C X at_218 (n := 220) rfl (l' := #[.val (.int p0), .val (.int p1), .val (.int p2), .val (.int p3), .val (.ref a), .val (.ref q), .val (.int pp), .val (.int ee), .val (.int c1), .val (.ref t), .val (.int (1 : Int32)), .val (.int (pp + (1 : Int32))), .val (.int (1 : Int32)), .val (.int (pp + (1 : Int32))), .val (.int c2), .val (.int (0 : Int32)), .unset, .unset, .unset]) rfl ?_
                refine Go.aload C X at_220 (n := 222) rfl rfl rfl ?_
                refine Go.virt C X eT (argsL := []) (rest := []) (a := t) (pos l Z a0 hw n0 _ t (pp + (1 : Int32)) F_t_position) (wd hw 78 rfl) (wd hw 79 rfl) (notFace_of_selects (args := #[]) (mvT C.hZ (wd hw 81 rfl))) (wd hw 81 rfl) (wd hw 80 rfl) (wd hw 33 rfl) (wd hw 82 rfl) (by decide) E_t (lenOf pd_21 rfl) rfl at_222 (n := 225) rfl rfl (by decide) (W := 0) rfl (by decide) (by decide) (by decide) ?_
                clear X eT
                intro T h' v L X eT hQ
                obtain ⟨rfl, rfl, hE⟩ := hQ
                replace hE := hE.symm
                subst hE
                replace N := N.app (Fr.nil n0)
                show Go p e below _ (T.setTop (mkF m 225 #[.val (.int p0), .val (.int p1), .val (.int p2), .val (.int p3), .val (.ref a), .val (.ref q), .val (.int pp), .val (.int ee), .val (.int c1), .val (.ref t), .val (.int (1 : Int32)), .val (.int (pp + (1 : Int32))), .val (.int (1 : Int32)), .val (.int (pp + (1 : Int32))), .val (.int c2), .val (.int (0 : Int32)), .unset, .unset, .unset] [(.int (pp + (1 : Int32)))]))
                refine Go.istore C X at_225 (n := 227) rfl (l' := #[.val (.int p0), .val (.int p1), .val (.int p2), .val (.int p3), .val (.ref a), .val (.ref q), .val (.int pp), .val (.int ee), .val (.int c1), .val (.ref t), .val (.int (1 : Int32)), .val (.int (pp + (1 : Int32))), .val (.int (1 : Int32)), .val (.int (pp + (1 : Int32))), .val (.int c2), .val (.int (0 : Int32)), .val (.int (pp + (1 : Int32))), .unset, .unset]) rfl ?_
                refine Go.iconst C X at_227 (n := 228) rfl (v := (0 : Int32)) rfl ?_
                refine Go.istore C X at_228 (n := 230) rfl (l' := #[.val (.int p0), .val (.int p1), .val (.int p2), .val (.int p3), .val (.ref a), .val (.ref q), .val (.int pp), .val (.int ee), .val (.int c1), .val (.ref t), .val (.int (1 : Int32)), .val (.int (pp + (1 : Int32))), .val (.int (1 : Int32)), .val (.int (pp + (1 : Int32))), .val (.int c2), .val (.int (0 : Int32)), .val (.int (pp + (1 : Int32))), .val (.int (0 : Int32)), .unset]) rfl ?_
                refine Go.iload C X at_230 (n := 232) rfl rfl ?_
                refine Go.iload C X at_232 (n := 234) rfl rfl ?_
                refine Go.icmp_ge C X at_234 (n1 := 254) (n2 := 237) (by decide) (by decide) rfl (fun hc234 => ?_) (fun hc234 => ?_)
                · refine Go.iload C X at_254 (n := 256) rfl rfl ?_
                  refine Go.if0_eq C X at_256 (n1 := 266) (n2 := 259) (by decide) (by decide) rfl (fun hc256 => ?_) (fun hc256 => ?_)
                  · refine Go.iload C X at_266 (n := 268) rfl rfl ?_
                    refine Go.istore C X at_268 (n := 270) rfl (l' := #[.val (.int p0), .val (.int p1), .val (.int p2), .val (.int p3), .val (.ref a), .val (.ref q), .val (.int pp), .val (.int ee), .val (.int c1), .val (.ref t), .val (.int (1 : Int32)), .val (.int (pp + (1 : Int32))), .val (.int (1 : Int32)), .val (.int (pp + (1 : Int32))), .val (.int c2), .val (.int (0 : Int32)), .val (.int (pp + (1 : Int32))), .val (.int (0 : Int32)), .val (.int (pp + (1 : Int32)))]) rfl ?_
                    refine Go.iload C X at_270 (n := 272) rfl rfl ?_
                    refine Go.iload C X at_272 (n := 274) rfl rfl ?_
                    refine Go.icmp_ne C X at_274 (n1 := 302) (n2 := 277) (by decide) (by decide) rfl (fun hc274 => ?_) (fun hc274 => ?_)
                    · exact absurd hc274 (by decide)
                    · refine Go.iload C X at_277 (n := 279) rfl rfl ?_
                      refine Go.iload C X at_279 (n := 281) rfl rfl ?_
                      refine Go.icmp_ne C X at_281 (n1 := 302) (n2 := 284) (by decide) (by decide) rfl (fun hc281 => ?_) (fun hc281 => ?_)
                      · exact absurd rfl hc281
                      · refine Go.iload C X at_284 (n := 286) rfl rfl ?_
                        refine Go.iload C X at_286 (n := 288) rfl rfl ?_
                        refine Go.icmp_ne C X at_288 (n1 := 302) (n2 := 291) (by decide) (by decide) rfl (fun hc288 => ?_) (fun hc288 => ?_)
                        · exact absurd hc288 (by decide)
                        · refine Go.iload C X at_291 (n := 293) rfl rfl ?_
                          refine Go.iload C X at_293 (n := 295) rfl rfl ?_
                          refine Go.icmp_ne C X at_295 (n1 := 302) (n2 := 298) (by decide) (by decide) rfl (fun hc295 => ?_) (fun hc295 => ?_)
                          · exact absurd rfl hc295
                          · refine Go.iconst C X at_298 (n := 299) rfl (v := (1 : Int32)) rfl ?_
                            refine Go.goto C X at_299 (n := 303) (by decide) (by decide) ?_
                            refine Go.retNW C X eT B JI.tt trivial (Or.inl rfl) (w := (1 : Int32)) (by decide) at_303 (by decide) (by decide) ?_
                            exact ⟨rfl, N⟩
                  · exact absurd hc256 (by decide)
                · refine Go.aload C X at_237 (n := 239) rfl rfl rfl ?_
                  refine Go.iload C X at_239 (n := 241) rfl rfl ?_
                  refine Go.caloadL C X eT V_a (i := (pp + (1 : Int32)).toInt.toNat) (own_ix (own_p1 hpp.1 hk1.1 hee.2)) (v := .int (chA x0 x1 x2 x3 (pp + (1 : Int32)))) (own_at4 x0 x1 x2 x3 (own_p1 hpp.1 hk1.1 hee.2) (own_lt4 hc234 hee.2)) at_241 (n := 242) rfl ?_
                  refine Go.iload C X at_242 (n := 244) rfl rfl ?_
                  refine Go.icmp_ne C X at_244 (n1 := 251) (n2 := 247) (by decide) (by decide) rfl (fun hc244 => ?_) (fun hc244 => ?_)
                  · refine Go.iconst C X at_251 (n := 252) rfl (v := (0 : Int32)) rfl ?_
                    refine Go.istore C X at_252 (n := 254) rfl (l' := #[.val (.int p0), .val (.int p1), .val (.int p2), .val (.int p3), .val (.ref a), .val (.ref q), .val (.int pp), .val (.int ee), .val (.int c1), .val (.ref t), .val (.int (1 : Int32)), .val (.int (pp + (1 : Int32))), .val (.int (1 : Int32)), .val (.int (pp + (1 : Int32))), .val (.int c2), .val (.int (0 : Int32)), .val (.int (pp + (1 : Int32))), .val (.int (0 : Int32)), .unset]) rfl ?_
                    refine Go.iload C X at_254 (n := 256) rfl rfl ?_
                    refine Go.if0_eq C X at_256 (n1 := 266) (n2 := 259) (by decide) (by decide) rfl (fun hc256 => ?_) (fun hc256 => ?_)
                    · refine Go.iload C X at_266 (n := 268) rfl rfl ?_
                      refine Go.istore C X at_268 (n := 270) rfl (l' := #[.val (.int p0), .val (.int p1), .val (.int p2), .val (.int p3), .val (.ref a), .val (.ref q), .val (.int pp), .val (.int ee), .val (.int c1), .val (.ref t), .val (.int (1 : Int32)), .val (.int (pp + (1 : Int32))), .val (.int (1 : Int32)), .val (.int (pp + (1 : Int32))), .val (.int c2), .val (.int (0 : Int32)), .val (.int (pp + (1 : Int32))), .val (.int (0 : Int32)), .val (.int (pp + (1 : Int32)))]) rfl ?_
                      refine Go.iload C X at_270 (n := 272) rfl rfl ?_
                      refine Go.iload C X at_272 (n := 274) rfl rfl ?_
                      refine Go.icmp_ne C X at_274 (n1 := 302) (n2 := 277) (by decide) (by decide) rfl (fun hc274 => ?_) (fun hc274 => ?_)
                      · exact absurd hc274 (by decide)
                      · refine Go.iload C X at_277 (n := 279) rfl rfl ?_
                        refine Go.iload C X at_279 (n := 281) rfl rfl ?_
                        refine Go.icmp_ne C X at_281 (n1 := 302) (n2 := 284) (by decide) (by decide) rfl (fun hc281 => ?_) (fun hc281 => ?_)
                        · exact absurd rfl hc281
                        · refine Go.iload C X at_284 (n := 286) rfl rfl ?_
                          refine Go.iload C X at_286 (n := 288) rfl rfl ?_
                          refine Go.icmp_ne C X at_288 (n1 := 302) (n2 := 291) (by decide) (by decide) rfl (fun hc288 => ?_) (fun hc288 => ?_)
                          · exact absurd hc288 (by decide)
                          · refine Go.iload C X at_291 (n := 293) rfl rfl ?_
                            refine Go.iload C X at_293 (n := 295) rfl rfl ?_
                            refine Go.icmp_ne C X at_295 (n1 := 302) (n2 := 298) (by decide) (by decide) rfl (fun hc295 => ?_) (fun hc295 => ?_)
                            · exact absurd rfl hc295
                            · refine Go.iconst C X at_298 (n := 299) rfl (v := (1 : Int32)) rfl ?_
                              refine Go.goto C X at_299 (n := 303) (by decide) (by decide) ?_
                              refine Go.retNW C X eT B JI.tt trivial (Or.inl rfl) (w := (1 : Int32)) (by decide) at_303 (by decide) (by decide) ?_
                              exact ⟨rfl, N⟩
                    · exact absurd hc256 (by decide)
                  · exact absurd ⟨hc234, hc244⟩ hk2
    · show Go p e below _ (T.setTop (mkF m 125 #[.val (.int p0), .val (.int p1), .val (.int p2), .val (.int p3), .val (.ref a), .val (.ref q), .val (.int pp), .val (.int ee), .val (.int c1), .val (.ref t), .unset, .unset, .unset, .unset, .unset, .unset, .unset, .unset, .unset] [(.int c1), (.ref t)]))
      refine Go.virt C X eT (argsL := [(.int c1)]) (rest := []) (a := t) (cons_n l Z a0 hw n0 _ t ca x0 x1 x2 x3 pp ee c1 hpp.1 hee.2 g_t ne_ca_t E_t F_t_chars F_t_position F_t_end V_ca hk1) (wd hw 73 rfl) (wd hw 74 rfl) (notFace_of_selects (args := #[]) (mvT C.hZ (wd hw 76 rfl))) (wd hw 76 rfl) (wd hw 75 rfl) (wd hw 33 rfl) (wd hw 77 rfl) (by decide) E_t (lenOf pd_20 rfl) rfl at_125 (n := 128) rfl rfl (by decide) (W := 0) rfl (by decide) (by decide) (by decide) ?_
      clear X eT
      intro T h' v L X eT hQ
      obtain ⟨rfl, rfl, hE⟩ := hQ
      replace hE := hE.symm
      subst hE
      replace N := N.app (Fr.nil n0)
      show Go p e below _ (T.setTop (mkF m 128 #[.val (.int p0), .val (.int p1), .val (.int p2), .val (.int p3), .val (.ref a), .val (.ref q), .val (.int pp), .val (.int ee), .val (.int c1), .val (.ref t), .unset, .unset, .unset, .unset, .unset, .unset, .unset, .unset, .unset] [(.int (0 : Int32))]))
      refine Go.istore C X at_128 (n := 130) rfl (l' := #[.val (.int p0), .val (.int p1), .val (.int p2), .val (.int p3), .val (.ref a), .val (.ref q), .val (.int pp), .val (.int ee), .val (.int c1), .val (.ref t), .val (.int (0 : Int32)), .unset, .unset, .unset, .unset, .unset, .unset, .unset, .unset]) rfl ?_
      refine Go.aload C X at_130 (n := 132) rfl rfl rfl ?_
      refine Go.virt C X eT (argsL := []) (rest := []) (a := t) (pos l Z a0 hw n0 _ t pp F_t_position) (wd hw 78 rfl) (wd hw 79 rfl) (notFace_of_selects (args := #[]) (mvT C.hZ (wd hw 81 rfl))) (wd hw 81 rfl) (wd hw 80 rfl) (wd hw 33 rfl) (wd hw 82 rfl) (by decide) E_t (lenOf pd_21 rfl) rfl at_132 (n := 135) rfl rfl (by decide) (W := 0) rfl (by decide) (by decide) (by decide) ?_
      clear X eT
      intro T h' v L X eT hQ
      obtain ⟨rfl, rfl, hE⟩ := hQ
      replace hE := hE.symm
      subst hE
      replace N := N.app (Fr.nil n0)
      show Go p e below _ (T.setTop (mkF m 135 #[.val (.int p0), .val (.int p1), .val (.int p2), .val (.int p3), .val (.ref a), .val (.ref q), .val (.int pp), .val (.int ee), .val (.int c1), .val (.ref t), .val (.int (0 : Int32)), .unset, .unset, .unset, .unset, .unset, .unset, .unset, .unset] [(.int pp)]))
      refine Go.istore C X at_135 (n := 137) rfl (l' := #[.val (.int p0), .val (.int p1), .val (.int p2), .val (.int p3), .val (.ref a), .val (.ref q), .val (.int pp), .val (.int ee), .val (.int c1), .val (.ref t), .val (.int (0 : Int32)), .val (.int pp), .unset, .unset, .unset, .unset, .unset, .unset, .unset]) rfl ?_
      refine Go.iconst C X at_137 (n := 138) rfl (v := (0 : Int32)) rfl ?_
      refine Go.istore C X at_138 (n := 140) rfl (l' := #[.val (.int p0), .val (.int p1), .val (.int p2), .val (.int p3), .val (.ref a), .val (.ref q), .val (.int pp), .val (.int ee), .val (.int c1), .val (.ref t), .val (.int (0 : Int32)), .val (.int pp), .val (.int (0 : Int32)), .unset, .unset, .unset, .unset, .unset, .unset]) rfl ?_
      refine Go.iload C X at_140 (n := 142) rfl rfl ?_
      refine Go.iload C X at_142 (n := 144) rfl rfl ?_
      refine Go.icmp_ge C X at_144 (n1 := 164) (n2 := 147) (by decide) (by decide) rfl (fun hc144 => ?_) (fun hc144 => ?_)
      · refine Go.iload C X at_164 (n := 166) rfl rfl ?_
        refine Go.if0_eq C X at_166 (n1 := 176) (n2 := 169) (by decide) (by decide) rfl (fun hc166 => ?_) (fun hc166 => ?_)
        · refine Go.iload C X at_176 (n := 178) rfl rfl ?_
          refine Go.istore C X at_178 (n := 180) rfl (l' := #[.val (.int p0), .val (.int p1), .val (.int p2), .val (.int p3), .val (.ref a), .val (.ref q), .val (.int pp), .val (.int ee), .val (.int c1), .val (.ref t), .val (.int (0 : Int32)), .val (.int pp), .val (.int (0 : Int32)), .val (.int pp), .unset, .unset, .unset, .unset, .unset]) rfl ?_
          refine Go.iloadN C X at_180 (n := 181) rfl rfl ?_
          refine Go.bipush C X at_181 (n := 183) rfl (v := (7 : Int32)) rfl ?_
          refine Go.iushr C X at_183 (n := 184) rfl ?_
          refine Go.iconst C X at_184 (n := 185) rfl (v := (1 : Int32)) rfl ?_
          refine Go.iand C X at_185 (n := 186) rfl ?_
          refine Go.if0_eq C X at_186 (n1 := 201) (n2 := 189) (by decide) (by decide) rfl (fun hc186 => ?_) (fun hc186 => ?_)
          · refine Go.iloadN C X at_201 (n := 202) rfl rfl ?_
            refine Go.bipush C X at_202 (n := 204) rfl (v := (16 : Int32)) rfl ?_
            refine Go.iushr C X at_204 (n := 205) rfl ?_
            refine Go.ldcI C X (wd hw 1 rfl) at_205 (n := 207) rfl ?_
            refine Go.iand C X at_207 (n := 208) rfl ?_
            refine Go.i2c C X at_208 (n := 209) rfl ?_
            obtain ⟨c2, qz⟩ : ∃ z, z = (((XT.ushr p3 (16 : Int32)) &&& (65535 : Int32)).toUInt32.toUInt16.toUInt32.toInt32) := ⟨_, rfl⟩
            rw [← qz]
            clear qz
            show Go p e below _ (T.setTop (mkF m 209 #[.val (.int p0), .val (.int p1), .val (.int p2), .val (.int p3), .val (.ref a), .val (.ref q), .val (.int pp), .val (.int ee), .val (.int c1), .val (.ref t), .val (.int (0 : Int32)), .val (.int pp), .val (.int (0 : Int32)), .val (.int pp), .unset, .unset, .unset, .unset, .unset] [(.int c2)]))
            refine Go.istore C X at_209 (n := 211) rfl (l' := #[.val (.int p0), .val (.int p1), .val (.int p2), .val (.int p3), .val (.ref a), .val (.ref q), .val (.int pp), .val (.int ee), .val (.int c1), .val (.ref t), .val (.int (0 : Int32)), .val (.int pp), .val (.int (0 : Int32)), .val (.int pp), .val (.int c2), .unset, .unset, .unset, .unset]) rfl ?_
            refine Go.aload C X at_211 (n := 213) rfl rfl rfl ?_
            refine Go.iload C X at_213 (n := 215) rfl rfl ?_
            by_cases hk2 : pp < ee ∧ chA x0 x1 x2 x3 pp = c2
            · show Go p e below _ (T.setTop (mkF m 215 #[.val (.int p0), .val (.int p1), .val (.int p2), .val (.int p3), .val (.ref a), .val (.ref q), .val (.int pp), .val (.int ee), .val (.int c1), .val (.ref t), .val (.int (0 : Int32)), .val (.int pp), .val (.int (0 : Int32)), .val (.int pp), .val (.int c2), .unset, .unset, .unset, .unset] [(.int c2), (.ref t)]))
              refine Go.virt C X eT (argsL := [(.int c2)]) (rest := []) (a := t) (cons_y l Z a0 hw n0 _ t ca x0 x1 x2 x3 pp ee c2 hpp.1 hee.2 g_t ne_ca_t E_t F_t_chars F_t_position F_t_end V_ca hk2) (wd hw 73 rfl) (wd hw 74 rfl) (notFace_of_selects (args := #[]) (mvT C.hZ (wd hw 76 rfl))) (wd hw 76 rfl) (wd hw 75 rfl) (wd hw 33 rfl) (wd hw 77 rfl) (by decide) E_t (lenOf pd_20 rfl) rfl at_215 (n := 218) rfl rfl (by decide) (W := 0) rfl (by decide) (by decide) (by decide) ?_
              clear X eT
              intro T h v L X eT hQ
              obtain ⟨rfl, Nq, KK, F_t_position, F_t_chars, F_t_end⟩ := hQ
              replace N := N.app Nq
              replace O := O.keep KK (allS g_t all0)
              replace V_a := V_a.keep KK (ninS ne_a_t nin0)
              replace E_t := E_t.keep KK
              replace B := B.keep KK
              replace V_ca := V_ca.keep KK (ninS ne_ca_t nin0)
              show Go p e below _ (T.setTop (mkF m 218 #[.val (.int p0), .val (.int p1), .val (.int p2), .val (.int p3), .val (.ref a), .val (.ref q), .val (.int pp), .val (.int ee), .val (.int c1), .val (.ref t), .val (.int (0 : Int32)), .val (.int pp), .val (.int (0 : Int32)), .val (.int pp), .val (.int c2), .unset, .unset, .unset, .unset] [(.int (1 : Int32))]))
              refine Go.istore C X at_218 (n := 220) rfl (l' := #[.val (.int p0), .val (.int p1), .val (.int p2), .val (.int p3), .val (.ref a), .val (.ref q), .val (.int pp), .val (.int ee), .val (.int c1), .val (.ref t), .val (.int (0 : Int32)), .val (.int pp), .val (.int (0 : Int32)), .val (.int pp), .val (.int c2), .val (.int (1 : Int32)), .unset, .unset, .unset]) rfl ?_
              refine Go.aload C X at_220 (n := 222) rfl rfl rfl ?_
              refine Go.virt C X eT (argsL := []) (rest := []) (a := t) (pos l Z a0 hw n0 _ t (pp + (1 : Int32)) F_t_position) (wd hw 78 rfl) (wd hw 79 rfl) (notFace_of_selects (args := #[]) (mvT C.hZ (wd hw 81 rfl))) (wd hw 81 rfl) (wd hw 80 rfl) (wd hw 33 rfl) (wd hw 82 rfl) (by decide) E_t (lenOf pd_21 rfl) rfl at_222 (n := 225) rfl rfl (by decide) (W := 0) rfl (by decide) (by decide) (by decide) ?_
              clear X eT
              intro T h' v L X eT hQ
              obtain ⟨rfl, rfl, hE⟩ := hQ
              replace hE := hE.symm
              subst hE
              replace N := N.app (Fr.nil n0)
              show Go p e below _ (T.setTop (mkF m 225 #[.val (.int p0), .val (.int p1), .val (.int p2), .val (.int p3), .val (.ref a), .val (.ref q), .val (.int pp), .val (.int ee), .val (.int c1), .val (.ref t), .val (.int (0 : Int32)), .val (.int pp), .val (.int (0 : Int32)), .val (.int pp), .val (.int c2), .val (.int (1 : Int32)), .unset, .unset, .unset] [(.int (pp + (1 : Int32)))]))
              refine Go.istore C X at_225 (n := 227) rfl (l' := #[.val (.int p0), .val (.int p1), .val (.int p2), .val (.int p3), .val (.ref a), .val (.ref q), .val (.int pp), .val (.int ee), .val (.int c1), .val (.ref t), .val (.int (0 : Int32)), .val (.int pp), .val (.int (0 : Int32)), .val (.int pp), .val (.int c2), .val (.int (1 : Int32)), .val (.int (pp + (1 : Int32))), .unset, .unset]) rfl ?_
              refine Go.iconst C X at_227 (n := 228) rfl (v := (0 : Int32)) rfl ?_
              refine Go.istore C X at_228 (n := 230) rfl (l' := #[.val (.int p0), .val (.int p1), .val (.int p2), .val (.int p3), .val (.ref a), .val (.ref q), .val (.int pp), .val (.int ee), .val (.int c1), .val (.ref t), .val (.int (0 : Int32)), .val (.int pp), .val (.int (0 : Int32)), .val (.int pp), .val (.int c2), .val (.int (1 : Int32)), .val (.int (pp + (1 : Int32))), .val (.int (0 : Int32)), .unset]) rfl ?_
              refine Go.iload C X at_230 (n := 232) rfl rfl ?_
              refine Go.iload C X at_232 (n := 234) rfl rfl ?_
              refine Go.icmp_ge C X at_234 (n1 := 254) (n2 := 237) (by decide) (by decide) rfl (fun hc234 => ?_) (fun hc234 => ?_)
              · exact absurd hk2.1 hc234
              · refine Go.aload C X at_237 (n := 239) rfl rfl rfl ?_
                refine Go.iload C X at_239 (n := 241) rfl rfl ?_
                refine Go.caloadL C X eT V_a (i := pp.toInt.toNat) (own_ix hpp.1) (v := .int (chA x0 x1 x2 x3 pp)) (own_at4 x0 x1 x2 x3 hpp.1 (own_lt4 hc234 hee.2)) at_241 (n := 242) rfl ?_
                refine Go.iload C X at_242 (n := 244) rfl rfl ?_
                refine Go.icmp_ne C X at_244 (n1 := 251) (n2 := 247) (by decide) (by decide) rfl (fun hc244 => ?_) (fun hc244 => ?_)
                · exact absurd hk2.2 hc244
                · refine Go.iconst C X at_247 (n := 248) rfl (v := (1 : Int32)) rfl ?_
                  refine Go.goto C X at_248 (n := 252) (by decide) (by decide) ?_
                  refine Go.istore C X at_252 (n := 254) rfl (l' := #[.val (.int p0), .val (.int p1), .val (.int p2), .val (.int p3), .val (.ref a), .val (.ref q), .val (.int pp), .val (.int ee), .val (.int c1), .val (.ref t), .val (.int (0 : Int32)), .val (.int pp), .val (.int (0 : Int32)), .val (.int pp), .val (.int c2), .val (.int (1 : Int32)), .val (.int (pp + (1 : Int32))), .val (.int (1 : Int32)), .unset]) rfl ?_
                  refine Go.iload C X at_254 (n := 256) rfl rfl ?_
                  refine Go.if0_eq C X at_256 (n1 := 266) (n2 := 259) (by decide) (by decide) rfl (fun hc256 => ?_) (fun hc256 => ?_)
                  · exact absurd hc256 (by decide)
                  · refine Go.iload C X at_259 (n := 261) rfl rfl ?_
                    refine Go.iconst C X at_261 (n := 262) rfl (v := (1 : Int32)) rfl ?_
                    refine Go.iadd C X at_262 (n := 263) rfl ?_
                    refine Go.goto C X at_263 (n := 268) (by decide) (by decide) ?_
                    refine Go.istore C X at_268 (n := 270) rfl (l' := #[.val (.int p0), .val (.int p1), .val (.int p2), .val (.int p3), .val (.ref a), .val (.ref q), .val (.int pp), .val (.int ee), .val (.int c1), .val (.ref t), .val (.int (0 : Int32)), .val (.int pp), .val (.int (0 : Int32)), .val (.int pp), .val (.int c2), .val (.int (1 : Int32)), .val (.int (pp + (1 : Int32))), .val (.int (1 : Int32)), .val (.int (pp + (1 : Int32)))]) rfl ?_
                    refine Go.iload C X at_270 (n := 272) rfl rfl ?_
                    refine Go.iload C X at_272 (n := 274) rfl rfl ?_
                    refine Go.icmp_ne C X at_274 (n1 := 302) (n2 := 277) (by decide) (by decide) rfl (fun hc274 => ?_) (fun hc274 => ?_)
                    · exact absurd hc274 (by decide)
                    · refine Go.iload C X at_277 (n := 279) rfl rfl ?_
                      refine Go.iload C X at_279 (n := 281) rfl rfl ?_
                      refine Go.icmp_ne C X at_281 (n1 := 302) (n2 := 284) (by decide) (by decide) rfl (fun hc281 => ?_) (fun hc281 => ?_)
                      · exact absurd rfl hc281
                      · refine Go.iload C X at_284 (n := 286) rfl rfl ?_
                        refine Go.iload C X at_286 (n := 288) rfl rfl ?_
                        refine Go.icmp_ne C X at_288 (n1 := 302) (n2 := 291) (by decide) (by decide) rfl (fun hc288 => ?_) (fun hc288 => ?_)
                        · exact absurd hc288 (by decide)
                        · refine Go.iload C X at_291 (n := 293) rfl rfl ?_
                          refine Go.iload C X at_293 (n := 295) rfl rfl ?_
                          refine Go.icmp_ne C X at_295 (n1 := 302) (n2 := 298) (by decide) (by decide) rfl (fun hc295 => ?_) (fun hc295 => ?_)
                          · exact absurd rfl hc295
                          · refine Go.iconst C X at_298 (n := 299) rfl (v := (1 : Int32)) rfl ?_
                            refine Go.goto C X at_299 (n := 303) (by decide) (by decide) ?_
                            refine Go.retNW C X eT B JI.tt trivial (Or.inl rfl) (w := (1 : Int32)) (by decide) at_303 (by decide) (by decide) ?_
                            exact ⟨rfl, N⟩
            · show Go p e below _ (T.setTop (mkF m 215 #[.val (.int p0), .val (.int p1), .val (.int p2), .val (.int p3), .val (.ref a), .val (.ref q), .val (.int pp), .val (.int ee), .val (.int c1), .val (.ref t), .val (.int (0 : Int32)), .val (.int pp), .val (.int (0 : Int32)), .val (.int pp), .val (.int c2), .unset, .unset, .unset, .unset] [(.int c2), (.ref t)]))
              refine Go.virt C X eT (argsL := [(.int c2)]) (rest := []) (a := t) (cons_n l Z a0 hw n0 _ t ca x0 x1 x2 x3 pp ee c2 hpp.1 hee.2 g_t ne_ca_t E_t F_t_chars F_t_position F_t_end V_ca hk2) (wd hw 73 rfl) (wd hw 74 rfl) (notFace_of_selects (args := #[]) (mvT C.hZ (wd hw 76 rfl))) (wd hw 76 rfl) (wd hw 75 rfl) (wd hw 33 rfl) (wd hw 77 rfl) (by decide) E_t (lenOf pd_20 rfl) rfl at_215 (n := 218) rfl rfl (by decide) (W := 0) rfl (by decide) (by decide) (by decide) ?_
              clear X eT
              intro T h' v L X eT hQ
              obtain ⟨rfl, rfl, hE⟩ := hQ
              replace hE := hE.symm
              subst hE
              replace N := N.app (Fr.nil n0)
              show Go p e below _ (T.setTop (mkF m 218 #[.val (.int p0), .val (.int p1), .val (.int p2), .val (.int p3), .val (.ref a), .val (.ref q), .val (.int pp), .val (.int ee), .val (.int c1), .val (.ref t), .val (.int (0 : Int32)), .val (.int pp), .val (.int (0 : Int32)), .val (.int pp), .val (.int c2), .unset, .unset, .unset, .unset] [(.int (0 : Int32))]))
              refine Go.istore C X at_218 (n := 220) rfl (l' := #[.val (.int p0), .val (.int p1), .val (.int p2), .val (.int p3), .val (.ref a), .val (.ref q), .val (.int pp), .val (.int ee), .val (.int c1), .val (.ref t), .val (.int (0 : Int32)), .val (.int pp), .val (.int (0 : Int32)), .val (.int pp), .val (.int c2), .val (.int (0 : Int32)), .unset, .unset, .unset]) rfl ?_
              refine Go.aload C X at_220 (n := 222) rfl rfl rfl ?_
              refine Go.virt C X eT (argsL := []) (rest := []) (a := t) (pos l Z a0 hw n0 _ t pp F_t_position) (wd hw 78 rfl) (wd hw 79 rfl) (notFace_of_selects (args := #[]) (mvT C.hZ (wd hw 81 rfl))) (wd hw 81 rfl) (wd hw 80 rfl) (wd hw 33 rfl) (wd hw 82 rfl) (by decide) E_t (lenOf pd_21 rfl) rfl at_222 (n := 225) rfl rfl (by decide) (W := 0) rfl (by decide) (by decide) (by decide) ?_
              clear X eT
              intro T h' v L X eT hQ
              obtain ⟨rfl, rfl, hE⟩ := hQ
              replace hE := hE.symm
              subst hE
              replace N := N.app (Fr.nil n0)
              show Go p e below _ (T.setTop (mkF m 225 #[.val (.int p0), .val (.int p1), .val (.int p2), .val (.int p3), .val (.ref a), .val (.ref q), .val (.int pp), .val (.int ee), .val (.int c1), .val (.ref t), .val (.int (0 : Int32)), .val (.int pp), .val (.int (0 : Int32)), .val (.int pp), .val (.int c2), .val (.int (0 : Int32)), .unset, .unset, .unset] [(.int pp)]))
              refine Go.istore C X at_225 (n := 227) rfl (l' := #[.val (.int p0), .val (.int p1), .val (.int p2), .val (.int p3), .val (.ref a), .val (.ref q), .val (.int pp), .val (.int ee), .val (.int c1), .val (.ref t), .val (.int (0 : Int32)), .val (.int pp), .val (.int (0 : Int32)), .val (.int pp), .val (.int c2), .val (.int (0 : Int32)), .val (.int pp), .unset, .unset]) rfl ?_
              refine Go.iconst C X at_227 (n := 228) rfl (v := (0 : Int32)) rfl ?_
              refine Go.istore C X at_228 (n := 230) rfl (l' := #[.val (.int p0), .val (.int p1), .val (.int p2), .val (.int p3), .val (.ref a), .val (.ref q), .val (.int pp), .val (.int ee), .val (.int c1), .val (.ref t), .val (.int (0 : Int32)), .val (.int pp), .val (.int (0 : Int32)), .val (.int pp), .val (.int c2), .val (.int (0 : Int32)), .val (.int pp), .val (.int (0 : Int32)), .unset]) rfl ?_
              refine Go.iload C X at_230 (n := 232) rfl rfl ?_
              refine Go.iload C X at_232 (n := 234) rfl rfl ?_
              refine Go.icmp_ge C X at_234 (n1 := 254) (n2 := 237) (by decide) (by decide) rfl (fun hc234 => ?_) (fun hc234 => ?_)
              · refine Go.iload C X at_254 (n := 256) rfl rfl ?_
                refine Go.if0_eq C X at_256 (n1 := 266) (n2 := 259) (by decide) (by decide) rfl (fun hc256 => ?_) (fun hc256 => ?_)
                · refine Go.iload C X at_266 (n := 268) rfl rfl ?_
                  refine Go.istore C X at_268 (n := 270) rfl (l' := #[.val (.int p0), .val (.int p1), .val (.int p2), .val (.int p3), .val (.ref a), .val (.ref q), .val (.int pp), .val (.int ee), .val (.int c1), .val (.ref t), .val (.int (0 : Int32)), .val (.int pp), .val (.int (0 : Int32)), .val (.int pp), .val (.int c2), .val (.int (0 : Int32)), .val (.int pp), .val (.int (0 : Int32)), .val (.int pp)]) rfl ?_
                  refine Go.iload C X at_270 (n := 272) rfl rfl ?_
                  refine Go.iload C X at_272 (n := 274) rfl rfl ?_
                  refine Go.icmp_ne C X at_274 (n1 := 302) (n2 := 277) (by decide) (by decide) rfl (fun hc274 => ?_) (fun hc274 => ?_)
                  · exact absurd hc274 (by decide)
                  · refine Go.iload C X at_277 (n := 279) rfl rfl ?_
                    refine Go.iload C X at_279 (n := 281) rfl rfl ?_
                    refine Go.icmp_ne C X at_281 (n1 := 302) (n2 := 284) (by decide) (by decide) rfl (fun hc281 => ?_) (fun hc281 => ?_)
                    · exact absurd rfl hc281
                    · refine Go.iload C X at_284 (n := 286) rfl rfl ?_
                      refine Go.iload C X at_286 (n := 288) rfl rfl ?_
                      refine Go.icmp_ne C X at_288 (n1 := 302) (n2 := 291) (by decide) (by decide) rfl (fun hc288 => ?_) (fun hc288 => ?_)
                      · exact absurd hc288 (by decide)
                      · refine Go.iload C X at_291 (n := 293) rfl rfl ?_
                        refine Go.iload C X at_293 (n := 295) rfl rfl ?_
                        refine Go.icmp_ne C X at_295 (n1 := 302) (n2 := 298) (by decide) (by decide) rfl (fun hc295 => ?_) (fun hc295 => ?_)
                        · exact absurd rfl hc295
                        · refine Go.iconst C X at_298 (n := 299) rfl (v := (1 : Int32)) rfl ?_
                          refine Go.goto C X at_299 (n := 303) (by decide) (by decide) ?_
                          refine Go.retNW C X eT B JI.tt trivial (Or.inl rfl) (w := (1 : Int32)) (by decide) at_303 (by decide) (by decide) ?_
                          exact ⟨rfl, N⟩
                · exact absurd hc256 (by decide)
              · refine Go.aload C X at_237 (n := 239) rfl rfl rfl ?_
                refine Go.iload C X at_239 (n := 241) rfl rfl ?_
                refine Go.caloadL C X eT V_a (i := pp.toInt.toNat) (own_ix hpp.1) (v := .int (chA x0 x1 x2 x3 pp)) (own_at4 x0 x1 x2 x3 hpp.1 (own_lt4 hc234 hee.2)) at_241 (n := 242) rfl ?_
                refine Go.iload C X at_242 (n := 244) rfl rfl ?_
                refine Go.icmp_ne C X at_244 (n1 := 251) (n2 := 247) (by decide) (by decide) rfl (fun hc244 => ?_) (fun hc244 => ?_)
                · refine Go.iconst C X at_251 (n := 252) rfl (v := (0 : Int32)) rfl ?_
                  refine Go.istore C X at_252 (n := 254) rfl (l' := #[.val (.int p0), .val (.int p1), .val (.int p2), .val (.int p3), .val (.ref a), .val (.ref q), .val (.int pp), .val (.int ee), .val (.int c1), .val (.ref t), .val (.int (0 : Int32)), .val (.int pp), .val (.int (0 : Int32)), .val (.int pp), .val (.int c2), .val (.int (0 : Int32)), .val (.int pp), .val (.int (0 : Int32)), .unset]) rfl ?_
                  refine Go.iload C X at_254 (n := 256) rfl rfl ?_
                  refine Go.if0_eq C X at_256 (n1 := 266) (n2 := 259) (by decide) (by decide) rfl (fun hc256 => ?_) (fun hc256 => ?_)
                  · refine Go.iload C X at_266 (n := 268) rfl rfl ?_
                    refine Go.istore C X at_268 (n := 270) rfl (l' := #[.val (.int p0), .val (.int p1), .val (.int p2), .val (.int p3), .val (.ref a), .val (.ref q), .val (.int pp), .val (.int ee), .val (.int c1), .val (.ref t), .val (.int (0 : Int32)), .val (.int pp), .val (.int (0 : Int32)), .val (.int pp), .val (.int c2), .val (.int (0 : Int32)), .val (.int pp), .val (.int (0 : Int32)), .val (.int pp)]) rfl ?_
                    refine Go.iload C X at_270 (n := 272) rfl rfl ?_
                    refine Go.iload C X at_272 (n := 274) rfl rfl ?_
                    refine Go.icmp_ne C X at_274 (n1 := 302) (n2 := 277) (by decide) (by decide) rfl (fun hc274 => ?_) (fun hc274 => ?_)
                    · exact absurd hc274 (by decide)
                    · refine Go.iload C X at_277 (n := 279) rfl rfl ?_
                      refine Go.iload C X at_279 (n := 281) rfl rfl ?_
                      refine Go.icmp_ne C X at_281 (n1 := 302) (n2 := 284) (by decide) (by decide) rfl (fun hc281 => ?_) (fun hc281 => ?_)
                      · exact absurd rfl hc281
                      · refine Go.iload C X at_284 (n := 286) rfl rfl ?_
                        refine Go.iload C X at_286 (n := 288) rfl rfl ?_
                        refine Go.icmp_ne C X at_288 (n1 := 302) (n2 := 291) (by decide) (by decide) rfl (fun hc288 => ?_) (fun hc288 => ?_)
                        · exact absurd hc288 (by decide)
                        · refine Go.iload C X at_291 (n := 293) rfl rfl ?_
                          refine Go.iload C X at_293 (n := 295) rfl rfl ?_
                          refine Go.icmp_ne C X at_295 (n1 := 302) (n2 := 298) (by decide) (by decide) rfl (fun hc295 => ?_) (fun hc295 => ?_)
                          · exact absurd rfl hc295
                          · refine Go.iconst C X at_298 (n := 299) rfl (v := (1 : Int32)) rfl ?_
                            refine Go.goto C X at_299 (n := 303) (by decide) (by decide) ?_
                            refine Go.retNW C X eT B JI.tt trivial (Or.inl rfl) (w := (1 : Int32)) (by decide) at_303 (by decide) (by decide) ?_
                            exact ⟨rfl, N⟩
                  · exact absurd hc256 (by decide)
                · exact absurd ⟨hc234, hc244⟩ hk2
          · refine Go.aload C X at_189 (n := 191) rfl rfl rfl ?_
            refine Go.iload C X at_191 (n := 193) rfl rfl ?_
            refine Go.iconst C X at_193 (n := 194) rfl (v := (3 : Int32)) rfl ?_
            refine Go.stat C X eT (argsL := [(.int pp), (.int (3 : Int32))]) (rest := [(.ref a)]) (mn3 l Z a0 hw n0 _ pp hpp.1) (wd hw 83 rfl) (wd hw 84 rfl) (wd hw 85 rfl) (wd hw 86 rfl) (by decide) (lenOf pd_22 rfl) rfl at_194 (n := 197) rfl rfl (by decide) (W := 1) rfl (by decide) (by decide) (by decide) ?_
            clear X eT
            intro T h' v L X eT hQ
            obtain ⟨r194, rfl, rfl, hE, hr194⟩ := hQ
            replace hE := hE.symm
            subst hE
            replace N := N.app (Fr.nil n0)
            show Go p e below _ (T.setTop (mkF m 197 #[.val (.int p0), .val (.int p1), .val (.int p2), .val (.int p3), .val (.ref a), .val (.ref q), .val (.int pp), .val (.int ee), .val (.int c1), .val (.ref t), .val (.int (0 : Int32)), .val (.int pp), .val (.int (0 : Int32)), .val (.int pp), .unset, .unset, .unset, .unset, .unset] [(.int r194), (.ref a)]))
            refine Go.caloadL C X eT V_a (i := r194.toInt.toNat) (own_ix hr194.1) (v := .int (chA x0 x1 x2 x3 r194)) (own_at4 x0 x1 x2 x3 hr194.1 hr194.2) at_197 (n := 198) rfl ?_
            refine Go.goto C X at_198 (n := 209) (by decide) (by decide) ?_
            obtain ⟨c2, qz⟩ : ∃ z, z = (chA x0 x1 x2 x3 r194) := ⟨_, rfl⟩
            rw [← qz]
            clear qz
            show Go p e below _ (T.setTop (mkF m 209 #[.val (.int p0), .val (.int p1), .val (.int p2), .val (.int p3), .val (.ref a), .val (.ref q), .val (.int pp), .val (.int ee), .val (.int c1), .val (.ref t), .val (.int (0 : Int32)), .val (.int pp), .val (.int (0 : Int32)), .val (.int pp), .unset, .unset, .unset, .unset, .unset] [(.int c2)]))
            refine Go.istore C X at_209 (n := 211) rfl (l' := #[.val (.int p0), .val (.int p1), .val (.int p2), .val (.int p3), .val (.ref a), .val (.ref q), .val (.int pp), .val (.int ee), .val (.int c1), .val (.ref t), .val (.int (0 : Int32)), .val (.int pp), .val (.int (0 : Int32)), .val (.int pp), .val (.int c2), .unset, .unset, .unset, .unset]) rfl ?_
            refine Go.aload C X at_211 (n := 213) rfl rfl rfl ?_
            refine Go.iload C X at_213 (n := 215) rfl rfl ?_
            by_cases hk2 : pp < ee ∧ chA x0 x1 x2 x3 pp = c2
            · show Go p e below _ (T.setTop (mkF m 215 #[.val (.int p0), .val (.int p1), .val (.int p2), .val (.int p3), .val (.ref a), .val (.ref q), .val (.int pp), .val (.int ee), .val (.int c1), .val (.ref t), .val (.int (0 : Int32)), .val (.int pp), .val (.int (0 : Int32)), .val (.int pp), .val (.int c2), .unset, .unset, .unset, .unset] [(.int c2), (.ref t)]))
              refine Go.virt C X eT (argsL := [(.int c2)]) (rest := []) (a := t) (cons_y l Z a0 hw n0 _ t ca x0 x1 x2 x3 pp ee c2 hpp.1 hee.2 g_t ne_ca_t E_t F_t_chars F_t_position F_t_end V_ca hk2) (wd hw 73 rfl) (wd hw 74 rfl) (notFace_of_selects (args := #[]) (mvT C.hZ (wd hw 76 rfl))) (wd hw 76 rfl) (wd hw 75 rfl) (wd hw 33 rfl) (wd hw 77 rfl) (by decide) E_t (lenOf pd_20 rfl) rfl at_215 (n := 218) rfl rfl (by decide) (W := 0) rfl (by decide) (by decide) (by decide) ?_
              clear X eT
              intro T h v L X eT hQ
              obtain ⟨rfl, Nq, KK, F_t_position, F_t_chars, F_t_end⟩ := hQ
              replace N := N.app Nq
              replace O := O.keep KK (allS g_t all0)
              replace V_a := V_a.keep KK (ninS ne_a_t nin0)
              replace E_t := E_t.keep KK
              replace B := B.keep KK
              replace V_ca := V_ca.keep KK (ninS ne_ca_t nin0)
              show Go p e below _ (T.setTop (mkF m 218 #[.val (.int p0), .val (.int p1), .val (.int p2), .val (.int p3), .val (.ref a), .val (.ref q), .val (.int pp), .val (.int ee), .val (.int c1), .val (.ref t), .val (.int (0 : Int32)), .val (.int pp), .val (.int (0 : Int32)), .val (.int pp), .val (.int c2), .unset, .unset, .unset, .unset] [(.int (1 : Int32))]))
              refine Go.istore C X at_218 (n := 220) rfl (l' := #[.val (.int p0), .val (.int p1), .val (.int p2), .val (.int p3), .val (.ref a), .val (.ref q), .val (.int pp), .val (.int ee), .val (.int c1), .val (.ref t), .val (.int (0 : Int32)), .val (.int pp), .val (.int (0 : Int32)), .val (.int pp), .val (.int c2), .val (.int (1 : Int32)), .unset, .unset, .unset]) rfl ?_
              refine Go.aload C X at_220 (n := 222) rfl rfl rfl ?_
              refine Go.virt C X eT (argsL := []) (rest := []) (a := t) (pos l Z a0 hw n0 _ t (pp + (1 : Int32)) F_t_position) (wd hw 78 rfl) (wd hw 79 rfl) (notFace_of_selects (args := #[]) (mvT C.hZ (wd hw 81 rfl))) (wd hw 81 rfl) (wd hw 80 rfl) (wd hw 33 rfl) (wd hw 82 rfl) (by decide) E_t (lenOf pd_21 rfl) rfl at_222 (n := 225) rfl rfl (by decide) (W := 0) rfl (by decide) (by decide) (by decide) ?_
              clear X eT
              intro T h' v L X eT hQ
              obtain ⟨rfl, rfl, hE⟩ := hQ
              replace hE := hE.symm
              subst hE
              replace N := N.app (Fr.nil n0)
              show Go p e below _ (T.setTop (mkF m 225 #[.val (.int p0), .val (.int p1), .val (.int p2), .val (.int p3), .val (.ref a), .val (.ref q), .val (.int pp), .val (.int ee), .val (.int c1), .val (.ref t), .val (.int (0 : Int32)), .val (.int pp), .val (.int (0 : Int32)), .val (.int pp), .val (.int c2), .val (.int (1 : Int32)), .unset, .unset, .unset] [(.int (pp + (1 : Int32)))]))
              refine Go.istore C X at_225 (n := 227) rfl (l' := #[.val (.int p0), .val (.int p1), .val (.int p2), .val (.int p3), .val (.ref a), .val (.ref q), .val (.int pp), .val (.int ee), .val (.int c1), .val (.ref t), .val (.int (0 : Int32)), .val (.int pp), .val (.int (0 : Int32)), .val (.int pp), .val (.int c2), .val (.int (1 : Int32)), .val (.int (pp + (1 : Int32))), .unset, .unset]) rfl ?_
              refine Go.iconst C X at_227 (n := 228) rfl (v := (0 : Int32)) rfl ?_
              refine Go.istore C X at_228 (n := 230) rfl (l' := #[.val (.int p0), .val (.int p1), .val (.int p2), .val (.int p3), .val (.ref a), .val (.ref q), .val (.int pp), .val (.int ee), .val (.int c1), .val (.ref t), .val (.int (0 : Int32)), .val (.int pp), .val (.int (0 : Int32)), .val (.int pp), .val (.int c2), .val (.int (1 : Int32)), .val (.int (pp + (1 : Int32))), .val (.int (0 : Int32)), .unset]) rfl ?_
              refine Go.iload C X at_230 (n := 232) rfl rfl ?_
              refine Go.iload C X at_232 (n := 234) rfl rfl ?_
              refine Go.icmp_ge C X at_234 (n1 := 254) (n2 := 237) (by decide) (by decide) rfl (fun hc234 => ?_) (fun hc234 => ?_)
              · exact absurd hk2.1 hc234
              · refine Go.aload C X at_237 (n := 239) rfl rfl rfl ?_
                refine Go.iload C X at_239 (n := 241) rfl rfl ?_
                refine Go.caloadL C X eT V_a (i := pp.toInt.toNat) (own_ix hpp.1) (v := .int (chA x0 x1 x2 x3 pp)) (own_at4 x0 x1 x2 x3 hpp.1 (own_lt4 hc234 hee.2)) at_241 (n := 242) rfl ?_
                refine Go.iload C X at_242 (n := 244) rfl rfl ?_
                refine Go.icmp_ne C X at_244 (n1 := 251) (n2 := 247) (by decide) (by decide) rfl (fun hc244 => ?_) (fun hc244 => ?_)
                · exact absurd hk2.2 hc244
                · refine Go.iconst C X at_247 (n := 248) rfl (v := (1 : Int32)) rfl ?_
                  refine Go.goto C X at_248 (n := 252) (by decide) (by decide) ?_
                  refine Go.istore C X at_252 (n := 254) rfl (l' := #[.val (.int p0), .val (.int p1), .val (.int p2), .val (.int p3), .val (.ref a), .val (.ref q), .val (.int pp), .val (.int ee), .val (.int c1), .val (.ref t), .val (.int (0 : Int32)), .val (.int pp), .val (.int (0 : Int32)), .val (.int pp), .val (.int c2), .val (.int (1 : Int32)), .val (.int (pp + (1 : Int32))), .val (.int (1 : Int32)), .unset]) rfl ?_
                  refine Go.iload C X at_254 (n := 256) rfl rfl ?_
                  refine Go.if0_eq C X at_256 (n1 := 266) (n2 := 259) (by decide) (by decide) rfl (fun hc256 => ?_) (fun hc256 => ?_)
                  · exact absurd hc256 (by decide)
                  · refine Go.iload C X at_259 (n := 261) rfl rfl ?_
                    refine Go.iconst C X at_261 (n := 262) rfl (v := (1 : Int32)) rfl ?_
                    refine Go.iadd C X at_262 (n := 263) rfl ?_
                    refine Go.goto C X at_263 (n := 268) (by decide) (by decide) ?_
                    refine Go.istore C X at_268 (n := 270) rfl (l' := #[.val (.int p0), .val (.int p1), .val (.int p2), .val (.int p3), .val (.ref a), .val (.ref q), .val (.int pp), .val (.int ee), .val (.int c1), .val (.ref t), .val (.int (0 : Int32)), .val (.int pp), .val (.int (0 : Int32)), .val (.int pp), .val (.int c2), .val (.int (1 : Int32)), .val (.int (pp + (1 : Int32))), .val (.int (1 : Int32)), .val (.int (pp + (1 : Int32)))]) rfl ?_
                    refine Go.iload C X at_270 (n := 272) rfl rfl ?_
                    refine Go.iload C X at_272 (n := 274) rfl rfl ?_
                    refine Go.icmp_ne C X at_274 (n1 := 302) (n2 := 277) (by decide) (by decide) rfl (fun hc274 => ?_) (fun hc274 => ?_)
                    · exact absurd hc274 (by decide)
                    · refine Go.iload C X at_277 (n := 279) rfl rfl ?_
                      refine Go.iload C X at_279 (n := 281) rfl rfl ?_
                      refine Go.icmp_ne C X at_281 (n1 := 302) (n2 := 284) (by decide) (by decide) rfl (fun hc281 => ?_) (fun hc281 => ?_)
                      · exact absurd rfl hc281
                      · refine Go.iload C X at_284 (n := 286) rfl rfl ?_
                        refine Go.iload C X at_286 (n := 288) rfl rfl ?_
                        refine Go.icmp_ne C X at_288 (n1 := 302) (n2 := 291) (by decide) (by decide) rfl (fun hc288 => ?_) (fun hc288 => ?_)
                        · exact absurd hc288 (by decide)
                        · refine Go.iload C X at_291 (n := 293) rfl rfl ?_
                          refine Go.iload C X at_293 (n := 295) rfl rfl ?_
                          refine Go.icmp_ne C X at_295 (n1 := 302) (n2 := 298) (by decide) (by decide) rfl (fun hc295 => ?_) (fun hc295 => ?_)
                          · exact absurd rfl hc295
                          · refine Go.iconst C X at_298 (n := 299) rfl (v := (1 : Int32)) rfl ?_
                            refine Go.goto C X at_299 (n := 303) (by decide) (by decide) ?_
                            refine Go.retNW C X eT B JI.tt trivial (Or.inl rfl) (w := (1 : Int32)) (by decide) at_303 (by decide) (by decide) ?_
                            exact ⟨rfl, N⟩
            · show Go p e below _ (T.setTop (mkF m 215 #[.val (.int p0), .val (.int p1), .val (.int p2), .val (.int p3), .val (.ref a), .val (.ref q), .val (.int pp), .val (.int ee), .val (.int c1), .val (.ref t), .val (.int (0 : Int32)), .val (.int pp), .val (.int (0 : Int32)), .val (.int pp), .val (.int c2), .unset, .unset, .unset, .unset] [(.int c2), (.ref t)]))
              refine Go.virt C X eT (argsL := [(.int c2)]) (rest := []) (a := t) (cons_n l Z a0 hw n0 _ t ca x0 x1 x2 x3 pp ee c2 hpp.1 hee.2 g_t ne_ca_t E_t F_t_chars F_t_position F_t_end V_ca hk2) (wd hw 73 rfl) (wd hw 74 rfl) (notFace_of_selects (args := #[]) (mvT C.hZ (wd hw 76 rfl))) (wd hw 76 rfl) (wd hw 75 rfl) (wd hw 33 rfl) (wd hw 77 rfl) (by decide) E_t (lenOf pd_20 rfl) rfl at_215 (n := 218) rfl rfl (by decide) (W := 0) rfl (by decide) (by decide) (by decide) ?_
              clear X eT
              intro T h' v L X eT hQ
              obtain ⟨rfl, rfl, hE⟩ := hQ
              replace hE := hE.symm
              subst hE
              replace N := N.app (Fr.nil n0)
              show Go p e below _ (T.setTop (mkF m 218 #[.val (.int p0), .val (.int p1), .val (.int p2), .val (.int p3), .val (.ref a), .val (.ref q), .val (.int pp), .val (.int ee), .val (.int c1), .val (.ref t), .val (.int (0 : Int32)), .val (.int pp), .val (.int (0 : Int32)), .val (.int pp), .val (.int c2), .unset, .unset, .unset, .unset] [(.int (0 : Int32))]))
              refine Go.istore C X at_218 (n := 220) rfl (l' := #[.val (.int p0), .val (.int p1), .val (.int p2), .val (.int p3), .val (.ref a), .val (.ref q), .val (.int pp), .val (.int ee), .val (.int c1), .val (.ref t), .val (.int (0 : Int32)), .val (.int pp), .val (.int (0 : Int32)), .val (.int pp), .val (.int c2), .val (.int (0 : Int32)), .unset, .unset, .unset]) rfl ?_
              refine Go.aload C X at_220 (n := 222) rfl rfl rfl ?_
              refine Go.virt C X eT (argsL := []) (rest := []) (a := t) (pos l Z a0 hw n0 _ t pp F_t_position) (wd hw 78 rfl) (wd hw 79 rfl) (notFace_of_selects (args := #[]) (mvT C.hZ (wd hw 81 rfl))) (wd hw 81 rfl) (wd hw 80 rfl) (wd hw 33 rfl) (wd hw 82 rfl) (by decide) E_t (lenOf pd_21 rfl) rfl at_222 (n := 225) rfl rfl (by decide) (W := 0) rfl (by decide) (by decide) (by decide) ?_
              clear X eT
              intro T h' v L X eT hQ
              obtain ⟨rfl, rfl, hE⟩ := hQ
              replace hE := hE.symm
              subst hE
              replace N := N.app (Fr.nil n0)
              show Go p e below _ (T.setTop (mkF m 225 #[.val (.int p0), .val (.int p1), .val (.int p2), .val (.int p3), .val (.ref a), .val (.ref q), .val (.int pp), .val (.int ee), .val (.int c1), .val (.ref t), .val (.int (0 : Int32)), .val (.int pp), .val (.int (0 : Int32)), .val (.int pp), .val (.int c2), .val (.int (0 : Int32)), .unset, .unset, .unset] [(.int pp)]))
              refine Go.istore C X at_225 (n := 227) rfl (l' := #[.val (.int p0), .val (.int p1), .val (.int p2), .val (.int p3), .val (.ref a), .val (.ref q), .val (.int pp), .val (.int ee), .val (.int c1), .val (.ref t), .val (.int (0 : Int32)), .val (.int pp), .val (.int (0 : Int32)), .val (.int pp), .val (.int c2), .val (.int (0 : Int32)), .val (.int pp), .unset, .unset]) rfl ?_
              refine Go.iconst C X at_227 (n := 228) rfl (v := (0 : Int32)) rfl ?_
              refine Go.istore C X at_228 (n := 230) rfl (l' := #[.val (.int p0), .val (.int p1), .val (.int p2), .val (.int p3), .val (.ref a), .val (.ref q), .val (.int pp), .val (.int ee), .val (.int c1), .val (.ref t), .val (.int (0 : Int32)), .val (.int pp), .val (.int (0 : Int32)), .val (.int pp), .val (.int c2), .val (.int (0 : Int32)), .val (.int pp), .val (.int (0 : Int32)), .unset]) rfl ?_
              refine Go.iload C X at_230 (n := 232) rfl rfl ?_
              refine Go.iload C X at_232 (n := 234) rfl rfl ?_
              refine Go.icmp_ge C X at_234 (n1 := 254) (n2 := 237) (by decide) (by decide) rfl (fun hc234 => ?_) (fun hc234 => ?_)
              · refine Go.iload C X at_254 (n := 256) rfl rfl ?_
                refine Go.if0_eq C X at_256 (n1 := 266) (n2 := 259) (by decide) (by decide) rfl (fun hc256 => ?_) (fun hc256 => ?_)
                · refine Go.iload C X at_266 (n := 268) rfl rfl ?_
                  refine Go.istore C X at_268 (n := 270) rfl (l' := #[.val (.int p0), .val (.int p1), .val (.int p2), .val (.int p3), .val (.ref a), .val (.ref q), .val (.int pp), .val (.int ee), .val (.int c1), .val (.ref t), .val (.int (0 : Int32)), .val (.int pp), .val (.int (0 : Int32)), .val (.int pp), .val (.int c2), .val (.int (0 : Int32)), .val (.int pp), .val (.int (0 : Int32)), .val (.int pp)]) rfl ?_
                  refine Go.iload C X at_270 (n := 272) rfl rfl ?_
                  refine Go.iload C X at_272 (n := 274) rfl rfl ?_
                  refine Go.icmp_ne C X at_274 (n1 := 302) (n2 := 277) (by decide) (by decide) rfl (fun hc274 => ?_) (fun hc274 => ?_)
                  · exact absurd hc274 (by decide)
                  · refine Go.iload C X at_277 (n := 279) rfl rfl ?_
                    refine Go.iload C X at_279 (n := 281) rfl rfl ?_
                    refine Go.icmp_ne C X at_281 (n1 := 302) (n2 := 284) (by decide) (by decide) rfl (fun hc281 => ?_) (fun hc281 => ?_)
                    · exact absurd rfl hc281
                    · refine Go.iload C X at_284 (n := 286) rfl rfl ?_
                      refine Go.iload C X at_286 (n := 288) rfl rfl ?_
                      refine Go.icmp_ne C X at_288 (n1 := 302) (n2 := 291) (by decide) (by decide) rfl (fun hc288 => ?_) (fun hc288 => ?_)
                      · exact absurd hc288 (by decide)
                      · refine Go.iload C X at_291 (n := 293) rfl rfl ?_
                        refine Go.iload C X at_293 (n := 295) rfl rfl ?_
                        refine Go.icmp_ne C X at_295 (n1 := 302) (n2 := 298) (by decide) (by decide) rfl (fun hc295 => ?_) (fun hc295 => ?_)
                        · exact absurd rfl hc295
                        · refine Go.iconst C X at_298 (n := 299) rfl (v := (1 : Int32)) rfl ?_
                          refine Go.goto C X at_299 (n := 303) (by decide) (by decide) ?_
                          refine Go.retNW C X eT B JI.tt trivial (Or.inl rfl) (w := (1 : Int32)) (by decide) at_303 (by decide) (by decide) ?_
                          exact ⟨rfl, N⟩
                · exact absurd hc256 (by decide)
              · refine Go.aload C X at_237 (n := 239) rfl rfl rfl ?_
                refine Go.iload C X at_239 (n := 241) rfl rfl ?_
                refine Go.caloadL C X eT V_a (i := pp.toInt.toNat) (own_ix hpp.1) (v := .int (chA x0 x1 x2 x3 pp)) (own_at4 x0 x1 x2 x3 hpp.1 (own_lt4 hc234 hee.2)) at_241 (n := 242) rfl ?_
                refine Go.iload C X at_242 (n := 244) rfl rfl ?_
                refine Go.icmp_ne C X at_244 (n1 := 251) (n2 := 247) (by decide) (by decide) rfl (fun hc244 => ?_) (fun hc244 => ?_)
                · refine Go.iconst C X at_251 (n := 252) rfl (v := (0 : Int32)) rfl ?_
                  refine Go.istore C X at_252 (n := 254) rfl (l' := #[.val (.int p0), .val (.int p1), .val (.int p2), .val (.int p3), .val (.ref a), .val (.ref q), .val (.int pp), .val (.int ee), .val (.int c1), .val (.ref t), .val (.int (0 : Int32)), .val (.int pp), .val (.int (0 : Int32)), .val (.int pp), .val (.int c2), .val (.int (0 : Int32)), .val (.int pp), .val (.int (0 : Int32)), .unset]) rfl ?_
                  refine Go.iload C X at_254 (n := 256) rfl rfl ?_
                  refine Go.if0_eq C X at_256 (n1 := 266) (n2 := 259) (by decide) (by decide) rfl (fun hc256 => ?_) (fun hc256 => ?_)
                  · refine Go.iload C X at_266 (n := 268) rfl rfl ?_
                    refine Go.istore C X at_268 (n := 270) rfl (l' := #[.val (.int p0), .val (.int p1), .val (.int p2), .val (.int p3), .val (.ref a), .val (.ref q), .val (.int pp), .val (.int ee), .val (.int c1), .val (.ref t), .val (.int (0 : Int32)), .val (.int pp), .val (.int (0 : Int32)), .val (.int pp), .val (.int c2), .val (.int (0 : Int32)), .val (.int pp), .val (.int (0 : Int32)), .val (.int pp)]) rfl ?_
                    refine Go.iload C X at_270 (n := 272) rfl rfl ?_
                    refine Go.iload C X at_272 (n := 274) rfl rfl ?_
                    refine Go.icmp_ne C X at_274 (n1 := 302) (n2 := 277) (by decide) (by decide) rfl (fun hc274 => ?_) (fun hc274 => ?_)
                    · exact absurd hc274 (by decide)
                    · refine Go.iload C X at_277 (n := 279) rfl rfl ?_
                      refine Go.iload C X at_279 (n := 281) rfl rfl ?_
                      refine Go.icmp_ne C X at_281 (n1 := 302) (n2 := 284) (by decide) (by decide) rfl (fun hc281 => ?_) (fun hc281 => ?_)
                      · exact absurd rfl hc281
                      · refine Go.iload C X at_284 (n := 286) rfl rfl ?_
                        refine Go.iload C X at_286 (n := 288) rfl rfl ?_
                        refine Go.icmp_ne C X at_288 (n1 := 302) (n2 := 291) (by decide) (by decide) rfl (fun hc288 => ?_) (fun hc288 => ?_)
                        · exact absurd hc288 (by decide)
                        · refine Go.iload C X at_291 (n := 293) rfl rfl ?_
                          refine Go.iload C X at_293 (n := 295) rfl rfl ?_
                          refine Go.icmp_ne C X at_295 (n1 := 302) (n2 := 298) (by decide) (by decide) rfl (fun hc295 => ?_) (fun hc295 => ?_)
                          · exact absurd rfl hc295
                          · refine Go.iconst C X at_298 (n := 299) rfl (v := (1 : Int32)) rfl ?_
                            refine Go.goto C X at_299 (n := 303) (by decide) (by decide) ?_
                            refine Go.retNW C X eT B JI.tt trivial (Or.inl rfl) (w := (1 : Int32)) (by decide) at_303 (by decide) (by decide) ?_
                            exact ⟨rfl, N⟩
                  · exact absurd hc256 (by decide)
                · exact absurd ⟨hc234, hc244⟩ hk2
        · exact absurd hc166 (by decide)
      · refine Go.aload C X at_147 (n := 149) rfl rfl rfl ?_
        refine Go.iload C X at_149 (n := 151) rfl rfl ?_
        refine Go.caloadL C X eT V_a (i := pp.toInt.toNat) (own_ix hpp.1) (v := .int (chA x0 x1 x2 x3 pp)) (own_at4 x0 x1 x2 x3 hpp.1 (own_lt4 hc144 hee.2)) at_151 (n := 152) rfl ?_
        refine Go.iload C X at_152 (n := 154) rfl rfl ?_
        refine Go.icmp_ne C X at_154 (n1 := 161) (n2 := 157) (by decide) (by decide) rfl (fun hc154 => ?_) (fun hc154 => ?_)
        · refine Go.iconst C X at_161 (n := 162) rfl (v := (0 : Int32)) rfl ?_
          refine Go.istore C X at_162 (n := 164) rfl (l' := #[.val (.int p0), .val (.int p1), .val (.int p2), .val (.int p3), .val (.ref a), .val (.ref q), .val (.int pp), .val (.int ee), .val (.int c1), .val (.ref t), .val (.int (0 : Int32)), .val (.int pp), .val (.int (0 : Int32)), .unset, .unset, .unset, .unset, .unset, .unset]) rfl ?_
          refine Go.iload C X at_164 (n := 166) rfl rfl ?_
          refine Go.if0_eq C X at_166 (n1 := 176) (n2 := 169) (by decide) (by decide) rfl (fun hc166 => ?_) (fun hc166 => ?_)
          · refine Go.iload C X at_176 (n := 178) rfl rfl ?_
            refine Go.istore C X at_178 (n := 180) rfl (l' := #[.val (.int p0), .val (.int p1), .val (.int p2), .val (.int p3), .val (.ref a), .val (.ref q), .val (.int pp), .val (.int ee), .val (.int c1), .val (.ref t), .val (.int (0 : Int32)), .val (.int pp), .val (.int (0 : Int32)), .val (.int pp), .unset, .unset, .unset, .unset, .unset]) rfl ?_
            refine Go.iloadN C X at_180 (n := 181) rfl rfl ?_
            refine Go.bipush C X at_181 (n := 183) rfl (v := (7 : Int32)) rfl ?_
            refine Go.iushr C X at_183 (n := 184) rfl ?_
            refine Go.iconst C X at_184 (n := 185) rfl (v := (1 : Int32)) rfl ?_
            refine Go.iand C X at_185 (n := 186) rfl ?_
            refine Go.if0_eq C X at_186 (n1 := 201) (n2 := 189) (by decide) (by decide) rfl (fun hc186 => ?_) (fun hc186 => ?_)
            · refine Go.iloadN C X at_201 (n := 202) rfl rfl ?_
              refine Go.bipush C X at_202 (n := 204) rfl (v := (16 : Int32)) rfl ?_
              refine Go.iushr C X at_204 (n := 205) rfl ?_
              refine Go.ldcI C X (wd hw 1 rfl) at_205 (n := 207) rfl ?_
              refine Go.iand C X at_207 (n := 208) rfl ?_
              refine Go.i2c C X at_208 (n := 209) rfl ?_
              obtain ⟨c2, qz⟩ : ∃ z, z = (((XT.ushr p3 (16 : Int32)) &&& (65535 : Int32)).toUInt32.toUInt16.toUInt32.toInt32) := ⟨_, rfl⟩
              rw [← qz]
              clear qz
              show Go p e below _ (T.setTop (mkF m 209 #[.val (.int p0), .val (.int p1), .val (.int p2), .val (.int p3), .val (.ref a), .val (.ref q), .val (.int pp), .val (.int ee), .val (.int c1), .val (.ref t), .val (.int (0 : Int32)), .val (.int pp), .val (.int (0 : Int32)), .val (.int pp), .unset, .unset, .unset, .unset, .unset] [(.int c2)]))
              refine Go.istore C X at_209 (n := 211) rfl (l' := #[.val (.int p0), .val (.int p1), .val (.int p2), .val (.int p3), .val (.ref a), .val (.ref q), .val (.int pp), .val (.int ee), .val (.int c1), .val (.ref t), .val (.int (0 : Int32)), .val (.int pp), .val (.int (0 : Int32)), .val (.int pp), .val (.int c2), .unset, .unset, .unset, .unset]) rfl ?_
              refine Go.aload C X at_211 (n := 213) rfl rfl rfl ?_
              refine Go.iload C X at_213 (n := 215) rfl rfl ?_
              by_cases hk2 : pp < ee ∧ chA x0 x1 x2 x3 pp = c2
              · show Go p e below _ (T.setTop (mkF m 215 #[.val (.int p0), .val (.int p1), .val (.int p2), .val (.int p3), .val (.ref a), .val (.ref q), .val (.int pp), .val (.int ee), .val (.int c1), .val (.ref t), .val (.int (0 : Int32)), .val (.int pp), .val (.int (0 : Int32)), .val (.int pp), .val (.int c2), .unset, .unset, .unset, .unset] [(.int c2), (.ref t)]))
                refine Go.virt C X eT (argsL := [(.int c2)]) (rest := []) (a := t) (cons_y l Z a0 hw n0 _ t ca x0 x1 x2 x3 pp ee c2 hpp.1 hee.2 g_t ne_ca_t E_t F_t_chars F_t_position F_t_end V_ca hk2) (wd hw 73 rfl) (wd hw 74 rfl) (notFace_of_selects (args := #[]) (mvT C.hZ (wd hw 76 rfl))) (wd hw 76 rfl) (wd hw 75 rfl) (wd hw 33 rfl) (wd hw 77 rfl) (by decide) E_t (lenOf pd_20 rfl) rfl at_215 (n := 218) rfl rfl (by decide) (W := 0) rfl (by decide) (by decide) (by decide) ?_
                clear X eT
                intro T h v L X eT hQ
                obtain ⟨rfl, Nq, KK, F_t_position, F_t_chars, F_t_end⟩ := hQ
                replace N := N.app Nq
                replace O := O.keep KK (allS g_t all0)
                replace V_a := V_a.keep KK (ninS ne_a_t nin0)
                replace E_t := E_t.keep KK
                replace B := B.keep KK
                replace V_ca := V_ca.keep KK (ninS ne_ca_t nin0)
                show Go p e below _ (T.setTop (mkF m 218 #[.val (.int p0), .val (.int p1), .val (.int p2), .val (.int p3), .val (.ref a), .val (.ref q), .val (.int pp), .val (.int ee), .val (.int c1), .val (.ref t), .val (.int (0 : Int32)), .val (.int pp), .val (.int (0 : Int32)), .val (.int pp), .val (.int c2), .unset, .unset, .unset, .unset] [(.int (1 : Int32))]))
                refine Go.istore C X at_218 (n := 220) rfl (l' := #[.val (.int p0), .val (.int p1), .val (.int p2), .val (.int p3), .val (.ref a), .val (.ref q), .val (.int pp), .val (.int ee), .val (.int c1), .val (.ref t), .val (.int (0 : Int32)), .val (.int pp), .val (.int (0 : Int32)), .val (.int pp), .val (.int c2), .val (.int (1 : Int32)), .unset, .unset, .unset]) rfl ?_
                refine Go.aload C X at_220 (n := 222) rfl rfl rfl ?_
                refine Go.virt C X eT (argsL := []) (rest := []) (a := t) (pos l Z a0 hw n0 _ t (pp + (1 : Int32)) F_t_position) (wd hw 78 rfl) (wd hw 79 rfl) (notFace_of_selects (args := #[]) (mvT C.hZ (wd hw 81 rfl))) (wd hw 81 rfl) (wd hw 80 rfl) (wd hw 33 rfl) (wd hw 82 rfl) (by decide) E_t (lenOf pd_21 rfl) rfl at_222 (n := 225) rfl rfl (by decide) (W := 0) rfl (by decide) (by decide) (by decide) ?_
                clear X eT
                intro T h' v L X eT hQ
                obtain ⟨rfl, rfl, hE⟩ := hQ
                replace hE := hE.symm
                subst hE
                replace N := N.app (Fr.nil n0)
                show Go p e below _ (T.setTop (mkF m 225 #[.val (.int p0), .val (.int p1), .val (.int p2), .val (.int p3), .val (.ref a), .val (.ref q), .val (.int pp), .val (.int ee), .val (.int c1), .val (.ref t), .val (.int (0 : Int32)), .val (.int pp), .val (.int (0 : Int32)), .val (.int pp), .val (.int c2), .val (.int (1 : Int32)), .unset, .unset, .unset] [(.int (pp + (1 : Int32)))]))
                refine Go.istore C X at_225 (n := 227) rfl (l' := #[.val (.int p0), .val (.int p1), .val (.int p2), .val (.int p3), .val (.ref a), .val (.ref q), .val (.int pp), .val (.int ee), .val (.int c1), .val (.ref t), .val (.int (0 : Int32)), .val (.int pp), .val (.int (0 : Int32)), .val (.int pp), .val (.int c2), .val (.int (1 : Int32)), .val (.int (pp + (1 : Int32))), .unset, .unset]) rfl ?_
                refine Go.iconst C X at_227 (n := 228) rfl (v := (0 : Int32)) rfl ?_
                refine Go.istore C X at_228 (n := 230) rfl (l' := #[.val (.int p0), .val (.int p1), .val (.int p2), .val (.int p3), .val (.ref a), .val (.ref q), .val (.int pp), .val (.int ee), .val (.int c1), .val (.ref t), .val (.int (0 : Int32)), .val (.int pp), .val (.int (0 : Int32)), .val (.int pp), .val (.int c2), .val (.int (1 : Int32)), .val (.int (pp + (1 : Int32))), .val (.int (0 : Int32)), .unset]) rfl ?_
                refine Go.iload C X at_230 (n := 232) rfl rfl ?_
                refine Go.iload C X at_232 (n := 234) rfl rfl ?_
                refine Go.icmp_ge C X at_234 (n1 := 254) (n2 := 237) (by decide) (by decide) rfl (fun hc234 => ?_) (fun hc234 => ?_)
                · exact absurd hk2.1 hc234
                · refine Go.aload C X at_237 (n := 239) rfl rfl rfl ?_
                  refine Go.iload C X at_239 (n := 241) rfl rfl ?_
                  refine Go.caloadL C X eT V_a (i := pp.toInt.toNat) (own_ix hpp.1) (v := .int (chA x0 x1 x2 x3 pp)) (own_at4 x0 x1 x2 x3 hpp.1 (own_lt4 hc234 hee.2)) at_241 (n := 242) rfl ?_
                  refine Go.iload C X at_242 (n := 244) rfl rfl ?_
                  refine Go.icmp_ne C X at_244 (n1 := 251) (n2 := 247) (by decide) (by decide) rfl (fun hc244 => ?_) (fun hc244 => ?_)
                  · exact absurd hk2.2 hc244
                  · refine Go.iconst C X at_247 (n := 248) rfl (v := (1 : Int32)) rfl ?_
                    refine Go.goto C X at_248 (n := 252) (by decide) (by decide) ?_
                    refine Go.istore C X at_252 (n := 254) rfl (l' := #[.val (.int p0), .val (.int p1), .val (.int p2), .val (.int p3), .val (.ref a), .val (.ref q), .val (.int pp), .val (.int ee), .val (.int c1), .val (.ref t), .val (.int (0 : Int32)), .val (.int pp), .val (.int (0 : Int32)), .val (.int pp), .val (.int c2), .val (.int (1 : Int32)), .val (.int (pp + (1 : Int32))), .val (.int (1 : Int32)), .unset]) rfl ?_
                    refine Go.iload C X at_254 (n := 256) rfl rfl ?_
                    refine Go.if0_eq C X at_256 (n1 := 266) (n2 := 259) (by decide) (by decide) rfl (fun hc256 => ?_) (fun hc256 => ?_)
                    · exact absurd hc256 (by decide)
                    · refine Go.iload C X at_259 (n := 261) rfl rfl ?_
                      refine Go.iconst C X at_261 (n := 262) rfl (v := (1 : Int32)) rfl ?_
                      refine Go.iadd C X at_262 (n := 263) rfl ?_
                      refine Go.goto C X at_263 (n := 268) (by decide) (by decide) ?_
                      refine Go.istore C X at_268 (n := 270) rfl (l' := #[.val (.int p0), .val (.int p1), .val (.int p2), .val (.int p3), .val (.ref a), .val (.ref q), .val (.int pp), .val (.int ee), .val (.int c1), .val (.ref t), .val (.int (0 : Int32)), .val (.int pp), .val (.int (0 : Int32)), .val (.int pp), .val (.int c2), .val (.int (1 : Int32)), .val (.int (pp + (1 : Int32))), .val (.int (1 : Int32)), .val (.int (pp + (1 : Int32)))]) rfl ?_
                      refine Go.iload C X at_270 (n := 272) rfl rfl ?_
                      refine Go.iload C X at_272 (n := 274) rfl rfl ?_
                      refine Go.icmp_ne C X at_274 (n1 := 302) (n2 := 277) (by decide) (by decide) rfl (fun hc274 => ?_) (fun hc274 => ?_)
                      · exact absurd hc274 (by decide)
                      · refine Go.iload C X at_277 (n := 279) rfl rfl ?_
                        refine Go.iload C X at_279 (n := 281) rfl rfl ?_
                        refine Go.icmp_ne C X at_281 (n1 := 302) (n2 := 284) (by decide) (by decide) rfl (fun hc281 => ?_) (fun hc281 => ?_)
                        · exact absurd rfl hc281
                        · refine Go.iload C X at_284 (n := 286) rfl rfl ?_
                          refine Go.iload C X at_286 (n := 288) rfl rfl ?_
                          refine Go.icmp_ne C X at_288 (n1 := 302) (n2 := 291) (by decide) (by decide) rfl (fun hc288 => ?_) (fun hc288 => ?_)
                          · exact absurd hc288 (by decide)
                          · refine Go.iload C X at_291 (n := 293) rfl rfl ?_
                            refine Go.iload C X at_293 (n := 295) rfl rfl ?_
                            refine Go.icmp_ne C X at_295 (n1 := 302) (n2 := 298) (by decide) (by decide) rfl (fun hc295 => ?_) (fun hc295 => ?_)
                            · exact absurd rfl hc295
                            · refine Go.iconst C X at_298 (n := 299) rfl (v := (1 : Int32)) rfl ?_
                              refine Go.goto C X at_299 (n := 303) (by decide) (by decide) ?_
                              refine Go.retNW C X eT B JI.tt trivial (Or.inl rfl) (w := (1 : Int32)) (by decide) at_303 (by decide) (by decide) ?_
                              exact ⟨rfl, N⟩
              · show Go p e below _ (T.setTop (mkF m 215 #[.val (.int p0), .val (.int p1), .val (.int p2), .val (.int p3), .val (.ref a), .val (.ref q), .val (.int pp), .val (.int ee), .val (.int c1), .val (.ref t), .val (.int (0 : Int32)), .val (.int pp), .val (.int (0 : Int32)), .val (.int pp), .val (.int c2), .unset, .unset, .unset, .unset] [(.int c2), (.ref t)]))
                refine Go.virt C X eT (argsL := [(.int c2)]) (rest := []) (a := t) (cons_n l Z a0 hw n0 _ t ca x0 x1 x2 x3 pp ee c2 hpp.1 hee.2 g_t ne_ca_t E_t F_t_chars F_t_position F_t_end V_ca hk2) (wd hw 73 rfl) (wd hw 74 rfl) (notFace_of_selects (args := #[]) (mvT C.hZ (wd hw 76 rfl))) (wd hw 76 rfl) (wd hw 75 rfl) (wd hw 33 rfl) (wd hw 77 rfl) (by decide) E_t (lenOf pd_20 rfl) rfl at_215 (n := 218) rfl rfl (by decide) (W := 0) rfl (by decide) (by decide) (by decide) ?_
                clear X eT
                intro T h' v L X eT hQ
                obtain ⟨rfl, rfl, hE⟩ := hQ
                replace hE := hE.symm
                subst hE
                replace N := N.app (Fr.nil n0)
                show Go p e below _ (T.setTop (mkF m 218 #[.val (.int p0), .val (.int p1), .val (.int p2), .val (.int p3), .val (.ref a), .val (.ref q), .val (.int pp), .val (.int ee), .val (.int c1), .val (.ref t), .val (.int (0 : Int32)), .val (.int pp), .val (.int (0 : Int32)), .val (.int pp), .val (.int c2), .unset, .unset, .unset, .unset] [(.int (0 : Int32))]))
                refine Go.istore C X at_218 (n := 220) rfl (l' := #[.val (.int p0), .val (.int p1), .val (.int p2), .val (.int p3), .val (.ref a), .val (.ref q), .val (.int pp), .val (.int ee), .val (.int c1), .val (.ref t), .val (.int (0 : Int32)), .val (.int pp), .val (.int (0 : Int32)), .val (.int pp), .val (.int c2), .val (.int (0 : Int32)), .unset, .unset, .unset]) rfl ?_
                refine Go.aload C X at_220 (n := 222) rfl rfl rfl ?_
                refine Go.virt C X eT (argsL := []) (rest := []) (a := t) (pos l Z a0 hw n0 _ t pp F_t_position) (wd hw 78 rfl) (wd hw 79 rfl) (notFace_of_selects (args := #[]) (mvT C.hZ (wd hw 81 rfl))) (wd hw 81 rfl) (wd hw 80 rfl) (wd hw 33 rfl) (wd hw 82 rfl) (by decide) E_t (lenOf pd_21 rfl) rfl at_222 (n := 225) rfl rfl (by decide) (W := 0) rfl (by decide) (by decide) (by decide) ?_
                clear X eT
                intro T h' v L X eT hQ
                obtain ⟨rfl, rfl, hE⟩ := hQ
                replace hE := hE.symm
                subst hE
                replace N := N.app (Fr.nil n0)
                show Go p e below _ (T.setTop (mkF m 225 #[.val (.int p0), .val (.int p1), .val (.int p2), .val (.int p3), .val (.ref a), .val (.ref q), .val (.int pp), .val (.int ee), .val (.int c1), .val (.ref t), .val (.int (0 : Int32)), .val (.int pp), .val (.int (0 : Int32)), .val (.int pp), .val (.int c2), .val (.int (0 : Int32)), .unset, .unset, .unset] [(.int pp)]))
                refine Go.istore C X at_225 (n := 227) rfl (l' := #[.val (.int p0), .val (.int p1), .val (.int p2), .val (.int p3), .val (.ref a), .val (.ref q), .val (.int pp), .val (.int ee), .val (.int c1), .val (.ref t), .val (.int (0 : Int32)), .val (.int pp), .val (.int (0 : Int32)), .val (.int pp), .val (.int c2), .val (.int (0 : Int32)), .val (.int pp), .unset, .unset]) rfl ?_
                refine Go.iconst C X at_227 (n := 228) rfl (v := (0 : Int32)) rfl ?_
                refine Go.istore C X at_228 (n := 230) rfl (l' := #[.val (.int p0), .val (.int p1), .val (.int p2), .val (.int p3), .val (.ref a), .val (.ref q), .val (.int pp), .val (.int ee), .val (.int c1), .val (.ref t), .val (.int (0 : Int32)), .val (.int pp), .val (.int (0 : Int32)), .val (.int pp), .val (.int c2), .val (.int (0 : Int32)), .val (.int pp), .val (.int (0 : Int32)), .unset]) rfl ?_
                refine Go.iload C X at_230 (n := 232) rfl rfl ?_
                refine Go.iload C X at_232 (n := 234) rfl rfl ?_
                refine Go.icmp_ge C X at_234 (n1 := 254) (n2 := 237) (by decide) (by decide) rfl (fun hc234 => ?_) (fun hc234 => ?_)
                · refine Go.iload C X at_254 (n := 256) rfl rfl ?_
                  refine Go.if0_eq C X at_256 (n1 := 266) (n2 := 259) (by decide) (by decide) rfl (fun hc256 => ?_) (fun hc256 => ?_)
                  · refine Go.iload C X at_266 (n := 268) rfl rfl ?_
                    refine Go.istore C X at_268 (n := 270) rfl (l' := #[.val (.int p0), .val (.int p1), .val (.int p2), .val (.int p3), .val (.ref a), .val (.ref q), .val (.int pp), .val (.int ee), .val (.int c1), .val (.ref t), .val (.int (0 : Int32)), .val (.int pp), .val (.int (0 : Int32)), .val (.int pp), .val (.int c2), .val (.int (0 : Int32)), .val (.int pp), .val (.int (0 : Int32)), .val (.int pp)]) rfl ?_
                    refine Go.iload C X at_270 (n := 272) rfl rfl ?_
                    refine Go.iload C X at_272 (n := 274) rfl rfl ?_
                    refine Go.icmp_ne C X at_274 (n1 := 302) (n2 := 277) (by decide) (by decide) rfl (fun hc274 => ?_) (fun hc274 => ?_)
                    · exact absurd hc274 (by decide)
                    · refine Go.iload C X at_277 (n := 279) rfl rfl ?_
                      refine Go.iload C X at_279 (n := 281) rfl rfl ?_
                      refine Go.icmp_ne C X at_281 (n1 := 302) (n2 := 284) (by decide) (by decide) rfl (fun hc281 => ?_) (fun hc281 => ?_)
                      · exact absurd rfl hc281
                      · refine Go.iload C X at_284 (n := 286) rfl rfl ?_
                        refine Go.iload C X at_286 (n := 288) rfl rfl ?_
                        refine Go.icmp_ne C X at_288 (n1 := 302) (n2 := 291) (by decide) (by decide) rfl (fun hc288 => ?_) (fun hc288 => ?_)
                        · exact absurd hc288 (by decide)
                        · refine Go.iload C X at_291 (n := 293) rfl rfl ?_
                          refine Go.iload C X at_293 (n := 295) rfl rfl ?_
                          refine Go.icmp_ne C X at_295 (n1 := 302) (n2 := 298) (by decide) (by decide) rfl (fun hc295 => ?_) (fun hc295 => ?_)
                          · exact absurd rfl hc295
                          · refine Go.iconst C X at_298 (n := 299) rfl (v := (1 : Int32)) rfl ?_
                            refine Go.goto C X at_299 (n := 303) (by decide) (by decide) ?_
                            refine Go.retNW C X eT B JI.tt trivial (Or.inl rfl) (w := (1 : Int32)) (by decide) at_303 (by decide) (by decide) ?_
                            exact ⟨rfl, N⟩
                  · exact absurd hc256 (by decide)
                · refine Go.aload C X at_237 (n := 239) rfl rfl rfl ?_
                  refine Go.iload C X at_239 (n := 241) rfl rfl ?_
                  refine Go.caloadL C X eT V_a (i := pp.toInt.toNat) (own_ix hpp.1) (v := .int (chA x0 x1 x2 x3 pp)) (own_at4 x0 x1 x2 x3 hpp.1 (own_lt4 hc234 hee.2)) at_241 (n := 242) rfl ?_
                  refine Go.iload C X at_242 (n := 244) rfl rfl ?_
                  refine Go.icmp_ne C X at_244 (n1 := 251) (n2 := 247) (by decide) (by decide) rfl (fun hc244 => ?_) (fun hc244 => ?_)
                  · refine Go.iconst C X at_251 (n := 252) rfl (v := (0 : Int32)) rfl ?_
                    refine Go.istore C X at_252 (n := 254) rfl (l' := #[.val (.int p0), .val (.int p1), .val (.int p2), .val (.int p3), .val (.ref a), .val (.ref q), .val (.int pp), .val (.int ee), .val (.int c1), .val (.ref t), .val (.int (0 : Int32)), .val (.int pp), .val (.int (0 : Int32)), .val (.int pp), .val (.int c2), .val (.int (0 : Int32)), .val (.int pp), .val (.int (0 : Int32)), .unset]) rfl ?_
                    refine Go.iload C X at_254 (n := 256) rfl rfl ?_
                    refine Go.if0_eq C X at_256 (n1 := 266) (n2 := 259) (by decide) (by decide) rfl (fun hc256 => ?_) (fun hc256 => ?_)
                    · refine Go.iload C X at_266 (n := 268) rfl rfl ?_
                      refine Go.istore C X at_268 (n := 270) rfl (l' := #[.val (.int p0), .val (.int p1), .val (.int p2), .val (.int p3), .val (.ref a), .val (.ref q), .val (.int pp), .val (.int ee), .val (.int c1), .val (.ref t), .val (.int (0 : Int32)), .val (.int pp), .val (.int (0 : Int32)), .val (.int pp), .val (.int c2), .val (.int (0 : Int32)), .val (.int pp), .val (.int (0 : Int32)), .val (.int pp)]) rfl ?_
                      refine Go.iload C X at_270 (n := 272) rfl rfl ?_
                      refine Go.iload C X at_272 (n := 274) rfl rfl ?_
                      refine Go.icmp_ne C X at_274 (n1 := 302) (n2 := 277) (by decide) (by decide) rfl (fun hc274 => ?_) (fun hc274 => ?_)
                      · exact absurd hc274 (by decide)
                      · refine Go.iload C X at_277 (n := 279) rfl rfl ?_
                        refine Go.iload C X at_279 (n := 281) rfl rfl ?_
                        refine Go.icmp_ne C X at_281 (n1 := 302) (n2 := 284) (by decide) (by decide) rfl (fun hc281 => ?_) (fun hc281 => ?_)
                        · exact absurd rfl hc281
                        · refine Go.iload C X at_284 (n := 286) rfl rfl ?_
                          refine Go.iload C X at_286 (n := 288) rfl rfl ?_
                          refine Go.icmp_ne C X at_288 (n1 := 302) (n2 := 291) (by decide) (by decide) rfl (fun hc288 => ?_) (fun hc288 => ?_)
                          · exact absurd hc288 (by decide)
                          · refine Go.iload C X at_291 (n := 293) rfl rfl ?_
                            refine Go.iload C X at_293 (n := 295) rfl rfl ?_
                            refine Go.icmp_ne C X at_295 (n1 := 302) (n2 := 298) (by decide) (by decide) rfl (fun hc295 => ?_) (fun hc295 => ?_)
                            · exact absurd rfl hc295
                            · refine Go.iconst C X at_298 (n := 299) rfl (v := (1 : Int32)) rfl ?_
                              refine Go.goto C X at_299 (n := 303) (by decide) (by decide) ?_
                              refine Go.retNW C X eT B JI.tt trivial (Or.inl rfl) (w := (1 : Int32)) (by decide) at_303 (by decide) (by decide) ?_
                              exact ⟨rfl, N⟩
                    · exact absurd hc256 (by decide)
                  · exact absurd ⟨hc234, hc244⟩ hk2
            · refine Go.aload C X at_189 (n := 191) rfl rfl rfl ?_
              refine Go.iload C X at_191 (n := 193) rfl rfl ?_
              refine Go.iconst C X at_193 (n := 194) rfl (v := (3 : Int32)) rfl ?_
              refine Go.stat C X eT (argsL := [(.int pp), (.int (3 : Int32))]) (rest := [(.ref a)]) (mn3 l Z a0 hw n0 _ pp hpp.1) (wd hw 83 rfl) (wd hw 84 rfl) (wd hw 85 rfl) (wd hw 86 rfl) (by decide) (lenOf pd_22 rfl) rfl at_194 (n := 197) rfl rfl (by decide) (W := 1) rfl (by decide) (by decide) (by decide) ?_
              clear X eT
              intro T h' v L X eT hQ
              obtain ⟨r194, rfl, rfl, hE, hr194⟩ := hQ
              replace hE := hE.symm
              subst hE
              replace N := N.app (Fr.nil n0)
              show Go p e below _ (T.setTop (mkF m 197 #[.val (.int p0), .val (.int p1), .val (.int p2), .val (.int p3), .val (.ref a), .val (.ref q), .val (.int pp), .val (.int ee), .val (.int c1), .val (.ref t), .val (.int (0 : Int32)), .val (.int pp), .val (.int (0 : Int32)), .val (.int pp), .unset, .unset, .unset, .unset, .unset] [(.int r194), (.ref a)]))
              refine Go.caloadL C X eT V_a (i := r194.toInt.toNat) (own_ix hr194.1) (v := .int (chA x0 x1 x2 x3 r194)) (own_at4 x0 x1 x2 x3 hr194.1 hr194.2) at_197 (n := 198) rfl ?_
              refine Go.goto C X at_198 (n := 209) (by decide) (by decide) ?_
              obtain ⟨c2, qz⟩ : ∃ z, z = (chA x0 x1 x2 x3 r194) := ⟨_, rfl⟩
              rw [← qz]
              clear qz
              show Go p e below _ (T.setTop (mkF m 209 #[.val (.int p0), .val (.int p1), .val (.int p2), .val (.int p3), .val (.ref a), .val (.ref q), .val (.int pp), .val (.int ee), .val (.int c1), .val (.ref t), .val (.int (0 : Int32)), .val (.int pp), .val (.int (0 : Int32)), .val (.int pp), .unset, .unset, .unset, .unset, .unset] [(.int c2)]))
              refine Go.istore C X at_209 (n := 211) rfl (l' := #[.val (.int p0), .val (.int p1), .val (.int p2), .val (.int p3), .val (.ref a), .val (.ref q), .val (.int pp), .val (.int ee), .val (.int c1), .val (.ref t), .val (.int (0 : Int32)), .val (.int pp), .val (.int (0 : Int32)), .val (.int pp), .val (.int c2), .unset, .unset, .unset, .unset]) rfl ?_
              refine Go.aload C X at_211 (n := 213) rfl rfl rfl ?_
              refine Go.iload C X at_213 (n := 215) rfl rfl ?_
              by_cases hk2 : pp < ee ∧ chA x0 x1 x2 x3 pp = c2
              · show Go p e below _ (T.setTop (mkF m 215 #[.val (.int p0), .val (.int p1), .val (.int p2), .val (.int p3), .val (.ref a), .val (.ref q), .val (.int pp), .val (.int ee), .val (.int c1), .val (.ref t), .val (.int (0 : Int32)), .val (.int pp), .val (.int (0 : Int32)), .val (.int pp), .val (.int c2), .unset, .unset, .unset, .unset] [(.int c2), (.ref t)]))
                refine Go.virt C X eT (argsL := [(.int c2)]) (rest := []) (a := t) (cons_y l Z a0 hw n0 _ t ca x0 x1 x2 x3 pp ee c2 hpp.1 hee.2 g_t ne_ca_t E_t F_t_chars F_t_position F_t_end V_ca hk2) (wd hw 73 rfl) (wd hw 74 rfl) (notFace_of_selects (args := #[]) (mvT C.hZ (wd hw 76 rfl))) (wd hw 76 rfl) (wd hw 75 rfl) (wd hw 33 rfl) (wd hw 77 rfl) (by decide) E_t (lenOf pd_20 rfl) rfl at_215 (n := 218) rfl rfl (by decide) (W := 0) rfl (by decide) (by decide) (by decide) ?_
                clear X eT
                intro T h v L X eT hQ
                obtain ⟨rfl, Nq, KK, F_t_position, F_t_chars, F_t_end⟩ := hQ
                replace N := N.app Nq
                replace O := O.keep KK (allS g_t all0)
                replace V_a := V_a.keep KK (ninS ne_a_t nin0)
                replace E_t := E_t.keep KK
                replace B := B.keep KK
                replace V_ca := V_ca.keep KK (ninS ne_ca_t nin0)
                show Go p e below _ (T.setTop (mkF m 218 #[.val (.int p0), .val (.int p1), .val (.int p2), .val (.int p3), .val (.ref a), .val (.ref q), .val (.int pp), .val (.int ee), .val (.int c1), .val (.ref t), .val (.int (0 : Int32)), .val (.int pp), .val (.int (0 : Int32)), .val (.int pp), .val (.int c2), .unset, .unset, .unset, .unset] [(.int (1 : Int32))]))
                refine Go.istore C X at_218 (n := 220) rfl (l' := #[.val (.int p0), .val (.int p1), .val (.int p2), .val (.int p3), .val (.ref a), .val (.ref q), .val (.int pp), .val (.int ee), .val (.int c1), .val (.ref t), .val (.int (0 : Int32)), .val (.int pp), .val (.int (0 : Int32)), .val (.int pp), .val (.int c2), .val (.int (1 : Int32)), .unset, .unset, .unset]) rfl ?_
                refine Go.aload C X at_220 (n := 222) rfl rfl rfl ?_
                refine Go.virt C X eT (argsL := []) (rest := []) (a := t) (pos l Z a0 hw n0 _ t (pp + (1 : Int32)) F_t_position) (wd hw 78 rfl) (wd hw 79 rfl) (notFace_of_selects (args := #[]) (mvT C.hZ (wd hw 81 rfl))) (wd hw 81 rfl) (wd hw 80 rfl) (wd hw 33 rfl) (wd hw 82 rfl) (by decide) E_t (lenOf pd_21 rfl) rfl at_222 (n := 225) rfl rfl (by decide) (W := 0) rfl (by decide) (by decide) (by decide) ?_
                clear X eT
                intro T h' v L X eT hQ
                obtain ⟨rfl, rfl, hE⟩ := hQ
                replace hE := hE.symm
                subst hE
                replace N := N.app (Fr.nil n0)
                show Go p e below _ (T.setTop (mkF m 225 #[.val (.int p0), .val (.int p1), .val (.int p2), .val (.int p3), .val (.ref a), .val (.ref q), .val (.int pp), .val (.int ee), .val (.int c1), .val (.ref t), .val (.int (0 : Int32)), .val (.int pp), .val (.int (0 : Int32)), .val (.int pp), .val (.int c2), .val (.int (1 : Int32)), .unset, .unset, .unset] [(.int (pp + (1 : Int32)))]))
                refine Go.istore C X at_225 (n := 227) rfl (l' := #[.val (.int p0), .val (.int p1), .val (.int p2), .val (.int p3), .val (.ref a), .val (.ref q), .val (.int pp), .val (.int ee), .val (.int c1), .val (.ref t), .val (.int (0 : Int32)), .val (.int pp), .val (.int (0 : Int32)), .val (.int pp), .val (.int c2), .val (.int (1 : Int32)), .val (.int (pp + (1 : Int32))), .unset, .unset]) rfl ?_
                refine Go.iconst C X at_227 (n := 228) rfl (v := (0 : Int32)) rfl ?_
                refine Go.istore C X at_228 (n := 230) rfl (l' := #[.val (.int p0), .val (.int p1), .val (.int p2), .val (.int p3), .val (.ref a), .val (.ref q), .val (.int pp), .val (.int ee), .val (.int c1), .val (.ref t), .val (.int (0 : Int32)), .val (.int pp), .val (.int (0 : Int32)), .val (.int pp), .val (.int c2), .val (.int (1 : Int32)), .val (.int (pp + (1 : Int32))), .val (.int (0 : Int32)), .unset]) rfl ?_
                refine Go.iload C X at_230 (n := 232) rfl rfl ?_
                refine Go.iload C X at_232 (n := 234) rfl rfl ?_
                refine Go.icmp_ge C X at_234 (n1 := 254) (n2 := 237) (by decide) (by decide) rfl (fun hc234 => ?_) (fun hc234 => ?_)
                · exact absurd hk2.1 hc234
                · refine Go.aload C X at_237 (n := 239) rfl rfl rfl ?_
                  refine Go.iload C X at_239 (n := 241) rfl rfl ?_
                  refine Go.caloadL C X eT V_a (i := pp.toInt.toNat) (own_ix hpp.1) (v := .int (chA x0 x1 x2 x3 pp)) (own_at4 x0 x1 x2 x3 hpp.1 (own_lt4 hc234 hee.2)) at_241 (n := 242) rfl ?_
                  refine Go.iload C X at_242 (n := 244) rfl rfl ?_
                  refine Go.icmp_ne C X at_244 (n1 := 251) (n2 := 247) (by decide) (by decide) rfl (fun hc244 => ?_) (fun hc244 => ?_)
                  · exact absurd hk2.2 hc244
                  · refine Go.iconst C X at_247 (n := 248) rfl (v := (1 : Int32)) rfl ?_
                    refine Go.goto C X at_248 (n := 252) (by decide) (by decide) ?_
                    refine Go.istore C X at_252 (n := 254) rfl (l' := #[.val (.int p0), .val (.int p1), .val (.int p2), .val (.int p3), .val (.ref a), .val (.ref q), .val (.int pp), .val (.int ee), .val (.int c1), .val (.ref t), .val (.int (0 : Int32)), .val (.int pp), .val (.int (0 : Int32)), .val (.int pp), .val (.int c2), .val (.int (1 : Int32)), .val (.int (pp + (1 : Int32))), .val (.int (1 : Int32)), .unset]) rfl ?_
                    refine Go.iload C X at_254 (n := 256) rfl rfl ?_
                    refine Go.if0_eq C X at_256 (n1 := 266) (n2 := 259) (by decide) (by decide) rfl (fun hc256 => ?_) (fun hc256 => ?_)
                    · exact absurd hc256 (by decide)
                    · refine Go.iload C X at_259 (n := 261) rfl rfl ?_
                      refine Go.iconst C X at_261 (n := 262) rfl (v := (1 : Int32)) rfl ?_
                      refine Go.iadd C X at_262 (n := 263) rfl ?_
                      refine Go.goto C X at_263 (n := 268) (by decide) (by decide) ?_
                      refine Go.istore C X at_268 (n := 270) rfl (l' := #[.val (.int p0), .val (.int p1), .val (.int p2), .val (.int p3), .val (.ref a), .val (.ref q), .val (.int pp), .val (.int ee), .val (.int c1), .val (.ref t), .val (.int (0 : Int32)), .val (.int pp), .val (.int (0 : Int32)), .val (.int pp), .val (.int c2), .val (.int (1 : Int32)), .val (.int (pp + (1 : Int32))), .val (.int (1 : Int32)), .val (.int (pp + (1 : Int32)))]) rfl ?_
                      refine Go.iload C X at_270 (n := 272) rfl rfl ?_
                      refine Go.iload C X at_272 (n := 274) rfl rfl ?_
                      refine Go.icmp_ne C X at_274 (n1 := 302) (n2 := 277) (by decide) (by decide) rfl (fun hc274 => ?_) (fun hc274 => ?_)
                      · exact absurd hc274 (by decide)
                      · refine Go.iload C X at_277 (n := 279) rfl rfl ?_
                        refine Go.iload C X at_279 (n := 281) rfl rfl ?_
                        refine Go.icmp_ne C X at_281 (n1 := 302) (n2 := 284) (by decide) (by decide) rfl (fun hc281 => ?_) (fun hc281 => ?_)
                        · exact absurd rfl hc281
                        · refine Go.iload C X at_284 (n := 286) rfl rfl ?_
                          refine Go.iload C X at_286 (n := 288) rfl rfl ?_
                          refine Go.icmp_ne C X at_288 (n1 := 302) (n2 := 291) (by decide) (by decide) rfl (fun hc288 => ?_) (fun hc288 => ?_)
                          · exact absurd hc288 (by decide)
                          · refine Go.iload C X at_291 (n := 293) rfl rfl ?_
                            refine Go.iload C X at_293 (n := 295) rfl rfl ?_
                            refine Go.icmp_ne C X at_295 (n1 := 302) (n2 := 298) (by decide) (by decide) rfl (fun hc295 => ?_) (fun hc295 => ?_)
                            · exact absurd rfl hc295
                            · refine Go.iconst C X at_298 (n := 299) rfl (v := (1 : Int32)) rfl ?_
                              refine Go.goto C X at_299 (n := 303) (by decide) (by decide) ?_
                              refine Go.retNW C X eT B JI.tt trivial (Or.inl rfl) (w := (1 : Int32)) (by decide) at_303 (by decide) (by decide) ?_
                              exact ⟨rfl, N⟩
              · show Go p e below _ (T.setTop (mkF m 215 #[.val (.int p0), .val (.int p1), .val (.int p2), .val (.int p3), .val (.ref a), .val (.ref q), .val (.int pp), .val (.int ee), .val (.int c1), .val (.ref t), .val (.int (0 : Int32)), .val (.int pp), .val (.int (0 : Int32)), .val (.int pp), .val (.int c2), .unset, .unset, .unset, .unset] [(.int c2), (.ref t)]))
                refine Go.virt C X eT (argsL := [(.int c2)]) (rest := []) (a := t) (cons_n l Z a0 hw n0 _ t ca x0 x1 x2 x3 pp ee c2 hpp.1 hee.2 g_t ne_ca_t E_t F_t_chars F_t_position F_t_end V_ca hk2) (wd hw 73 rfl) (wd hw 74 rfl) (notFace_of_selects (args := #[]) (mvT C.hZ (wd hw 76 rfl))) (wd hw 76 rfl) (wd hw 75 rfl) (wd hw 33 rfl) (wd hw 77 rfl) (by decide) E_t (lenOf pd_20 rfl) rfl at_215 (n := 218) rfl rfl (by decide) (W := 0) rfl (by decide) (by decide) (by decide) ?_
                clear X eT
                intro T h' v L X eT hQ
                obtain ⟨rfl, rfl, hE⟩ := hQ
                replace hE := hE.symm
                subst hE
                replace N := N.app (Fr.nil n0)
                show Go p e below _ (T.setTop (mkF m 218 #[.val (.int p0), .val (.int p1), .val (.int p2), .val (.int p3), .val (.ref a), .val (.ref q), .val (.int pp), .val (.int ee), .val (.int c1), .val (.ref t), .val (.int (0 : Int32)), .val (.int pp), .val (.int (0 : Int32)), .val (.int pp), .val (.int c2), .unset, .unset, .unset, .unset] [(.int (0 : Int32))]))
                refine Go.istore C X at_218 (n := 220) rfl (l' := #[.val (.int p0), .val (.int p1), .val (.int p2), .val (.int p3), .val (.ref a), .val (.ref q), .val (.int pp), .val (.int ee), .val (.int c1), .val (.ref t), .val (.int (0 : Int32)), .val (.int pp), .val (.int (0 : Int32)), .val (.int pp), .val (.int c2), .val (.int (0 : Int32)), .unset, .unset, .unset]) rfl ?_
                refine Go.aload C X at_220 (n := 222) rfl rfl rfl ?_
                refine Go.virt C X eT (argsL := []) (rest := []) (a := t) (pos l Z a0 hw n0 _ t pp F_t_position) (wd hw 78 rfl) (wd hw 79 rfl) (notFace_of_selects (args := #[]) (mvT C.hZ (wd hw 81 rfl))) (wd hw 81 rfl) (wd hw 80 rfl) (wd hw 33 rfl) (wd hw 82 rfl) (by decide) E_t (lenOf pd_21 rfl) rfl at_222 (n := 225) rfl rfl (by decide) (W := 0) rfl (by decide) (by decide) (by decide) ?_
                clear X eT
                intro T h' v L X eT hQ
                obtain ⟨rfl, rfl, hE⟩ := hQ
                replace hE := hE.symm
                subst hE
                replace N := N.app (Fr.nil n0)
                show Go p e below _ (T.setTop (mkF m 225 #[.val (.int p0), .val (.int p1), .val (.int p2), .val (.int p3), .val (.ref a), .val (.ref q), .val (.int pp), .val (.int ee), .val (.int c1), .val (.ref t), .val (.int (0 : Int32)), .val (.int pp), .val (.int (0 : Int32)), .val (.int pp), .val (.int c2), .val (.int (0 : Int32)), .unset, .unset, .unset] [(.int pp)]))
                refine Go.istore C X at_225 (n := 227) rfl (l' := #[.val (.int p0), .val (.int p1), .val (.int p2), .val (.int p3), .val (.ref a), .val (.ref q), .val (.int pp), .val (.int ee), .val (.int c1), .val (.ref t), .val (.int (0 : Int32)), .val (.int pp), .val (.int (0 : Int32)), .val (.int pp), .val (.int c2), .val (.int (0 : Int32)), .val (.int pp), .unset, .unset]) rfl ?_
                refine Go.iconst C X at_227 (n := 228) rfl (v := (0 : Int32)) rfl ?_
                refine Go.istore C X at_228 (n := 230) rfl (l' := #[.val (.int p0), .val (.int p1), .val (.int p2), .val (.int p3), .val (.ref a), .val (.ref q), .val (.int pp), .val (.int ee), .val (.int c1), .val (.ref t), .val (.int (0 : Int32)), .val (.int pp), .val (.int (0 : Int32)), .val (.int pp), .val (.int c2), .val (.int (0 : Int32)), .val (.int pp), .val (.int (0 : Int32)), .unset]) rfl ?_
                refine Go.iload C X at_230 (n := 232) rfl rfl ?_
                refine Go.iload C X at_232 (n := 234) rfl rfl ?_
                refine Go.icmp_ge C X at_234 (n1 := 254) (n2 := 237) (by decide) (by decide) rfl (fun hc234 => ?_) (fun hc234 => ?_)
                · refine Go.iload C X at_254 (n := 256) rfl rfl ?_
                  refine Go.if0_eq C X at_256 (n1 := 266) (n2 := 259) (by decide) (by decide) rfl (fun hc256 => ?_) (fun hc256 => ?_)
                  · refine Go.iload C X at_266 (n := 268) rfl rfl ?_
                    refine Go.istore C X at_268 (n := 270) rfl (l' := #[.val (.int p0), .val (.int p1), .val (.int p2), .val (.int p3), .val (.ref a), .val (.ref q), .val (.int pp), .val (.int ee), .val (.int c1), .val (.ref t), .val (.int (0 : Int32)), .val (.int pp), .val (.int (0 : Int32)), .val (.int pp), .val (.int c2), .val (.int (0 : Int32)), .val (.int pp), .val (.int (0 : Int32)), .val (.int pp)]) rfl ?_
                    refine Go.iload C X at_270 (n := 272) rfl rfl ?_
                    refine Go.iload C X at_272 (n := 274) rfl rfl ?_
                    refine Go.icmp_ne C X at_274 (n1 := 302) (n2 := 277) (by decide) (by decide) rfl (fun hc274 => ?_) (fun hc274 => ?_)
                    · exact absurd hc274 (by decide)
                    · refine Go.iload C X at_277 (n := 279) rfl rfl ?_
                      refine Go.iload C X at_279 (n := 281) rfl rfl ?_
                      refine Go.icmp_ne C X at_281 (n1 := 302) (n2 := 284) (by decide) (by decide) rfl (fun hc281 => ?_) (fun hc281 => ?_)
                      · exact absurd rfl hc281
                      · refine Go.iload C X at_284 (n := 286) rfl rfl ?_
                        refine Go.iload C X at_286 (n := 288) rfl rfl ?_
                        refine Go.icmp_ne C X at_288 (n1 := 302) (n2 := 291) (by decide) (by decide) rfl (fun hc288 => ?_) (fun hc288 => ?_)
                        · exact absurd hc288 (by decide)
                        · refine Go.iload C X at_291 (n := 293) rfl rfl ?_
                          refine Go.iload C X at_293 (n := 295) rfl rfl ?_
                          refine Go.icmp_ne C X at_295 (n1 := 302) (n2 := 298) (by decide) (by decide) rfl (fun hc295 => ?_) (fun hc295 => ?_)
                          · exact absurd rfl hc295
                          · refine Go.iconst C X at_298 (n := 299) rfl (v := (1 : Int32)) rfl ?_
                            refine Go.goto C X at_299 (n := 303) (by decide) (by decide) ?_
                            refine Go.retNW C X eT B JI.tt trivial (Or.inl rfl) (w := (1 : Int32)) (by decide) at_303 (by decide) (by decide) ?_
                            exact ⟨rfl, N⟩
                  · exact absurd hc256 (by decide)
                · refine Go.aload C X at_237 (n := 239) rfl rfl rfl ?_
                  refine Go.iload C X at_239 (n := 241) rfl rfl ?_
                  refine Go.caloadL C X eT V_a (i := pp.toInt.toNat) (own_ix hpp.1) (v := .int (chA x0 x1 x2 x3 pp)) (own_at4 x0 x1 x2 x3 hpp.1 (own_lt4 hc234 hee.2)) at_241 (n := 242) rfl ?_
                  refine Go.iload C X at_242 (n := 244) rfl rfl ?_
                  refine Go.icmp_ne C X at_244 (n1 := 251) (n2 := 247) (by decide) (by decide) rfl (fun hc244 => ?_) (fun hc244 => ?_)
                  · refine Go.iconst C X at_251 (n := 252) rfl (v := (0 : Int32)) rfl ?_
                    refine Go.istore C X at_252 (n := 254) rfl (l' := #[.val (.int p0), .val (.int p1), .val (.int p2), .val (.int p3), .val (.ref a), .val (.ref q), .val (.int pp), .val (.int ee), .val (.int c1), .val (.ref t), .val (.int (0 : Int32)), .val (.int pp), .val (.int (0 : Int32)), .val (.int pp), .val (.int c2), .val (.int (0 : Int32)), .val (.int pp), .val (.int (0 : Int32)), .unset]) rfl ?_
                    refine Go.iload C X at_254 (n := 256) rfl rfl ?_
                    refine Go.if0_eq C X at_256 (n1 := 266) (n2 := 259) (by decide) (by decide) rfl (fun hc256 => ?_) (fun hc256 => ?_)
                    · refine Go.iload C X at_266 (n := 268) rfl rfl ?_
                      refine Go.istore C X at_268 (n := 270) rfl (l' := #[.val (.int p0), .val (.int p1), .val (.int p2), .val (.int p3), .val (.ref a), .val (.ref q), .val (.int pp), .val (.int ee), .val (.int c1), .val (.ref t), .val (.int (0 : Int32)), .val (.int pp), .val (.int (0 : Int32)), .val (.int pp), .val (.int c2), .val (.int (0 : Int32)), .val (.int pp), .val (.int (0 : Int32)), .val (.int pp)]) rfl ?_
                      refine Go.iload C X at_270 (n := 272) rfl rfl ?_
                      refine Go.iload C X at_272 (n := 274) rfl rfl ?_
                      refine Go.icmp_ne C X at_274 (n1 := 302) (n2 := 277) (by decide) (by decide) rfl (fun hc274 => ?_) (fun hc274 => ?_)
                      · exact absurd hc274 (by decide)
                      · refine Go.iload C X at_277 (n := 279) rfl rfl ?_
                        refine Go.iload C X at_279 (n := 281) rfl rfl ?_
                        refine Go.icmp_ne C X at_281 (n1 := 302) (n2 := 284) (by decide) (by decide) rfl (fun hc281 => ?_) (fun hc281 => ?_)
                        · exact absurd rfl hc281
                        · refine Go.iload C X at_284 (n := 286) rfl rfl ?_
                          refine Go.iload C X at_286 (n := 288) rfl rfl ?_
                          refine Go.icmp_ne C X at_288 (n1 := 302) (n2 := 291) (by decide) (by decide) rfl (fun hc288 => ?_) (fun hc288 => ?_)
                          · exact absurd hc288 (by decide)
                          · refine Go.iload C X at_291 (n := 293) rfl rfl ?_
                            refine Go.iload C X at_293 (n := 295) rfl rfl ?_
                            refine Go.icmp_ne C X at_295 (n1 := 302) (n2 := 298) (by decide) (by decide) rfl (fun hc295 => ?_) (fun hc295 => ?_)
                            · exact absurd rfl hc295
                            · refine Go.iconst C X at_298 (n := 299) rfl (v := (1 : Int32)) rfl ?_
                              refine Go.goto C X at_299 (n := 303) (by decide) (by decide) ?_
                              refine Go.retNW C X eT B JI.tt trivial (Or.inl rfl) (w := (1 : Int32)) (by decide) at_303 (by decide) (by decide) ?_
                              exact ⟨rfl, N⟩
                    · exact absurd hc256 (by decide)
                  · exact absurd ⟨hc234, hc244⟩ hk2
          · exact absurd hc166 (by decide)
        · exact absurd ⟨hc144, hc154⟩ hk1
set_option maxRecDepth 65536 in
set_option maxHeartbeats 40000000 in
theorem comes_1 {Post : Tables → Env → Array Value → State → Outcome → State → Prop} (hpost : ∀ tb e args s v u, (limb_1_1.after args s (.returned v) u = true ∧ limb_1_2.after args s (.returned v) u = true ∧ True) → Jvm.D.FramedW s (.returned v) u (Jvm.fieldLocs frame_1_writes args s ++ Jvm.arrayLocs frame_1_arrays args s ++ Jvm.staticLocs frame_1_statics s) 24 1152 → Post tb e args s (.returned v) u) :
    ArmFor flags0 classFile x code maxLocals ret World_1 tables_1 room_1 Calls_1 rest_1 Pre_1 Post := by
  intro l hfl _ _ p e ha hc hk s m args below hf hA hF happ hP
  obtain ⟨hcalls, hrest, hpre⟩ := hP
  obtain ⟨-, -, -, hnamed, -, -, -, hat⟩ := (Spec.applies_iff hf).mp happ
  obtain ⟨hg, hn⟩ := and_e (Cond.before_iff.mp (show (Jvm.Cond.and given_1 narrow_1).before args s = true from hpre))
  obtain ⟨hcnt, hq0⟩ := and_e hg
  obtain ⟨w0, w1, w2, w3, rfl⟩ : ∃ w0 w1 w2 w3 : Value, args = #[w0, w1, w2, w3] := by
    have hs : args.size = 4 := by simpa [Cond.value, given_1] using hcnt
    obtain ⟨L⟩ := args
    match L, hs with
    | [w0, w1, w2, w3], _ => exact ⟨w0, w1, w2, w3, rfl⟩
  have hw := fun d (hd : d ∈ tables_1) => atoms_spec (ws := Jvm.Cond.code x code maxLocals ret :: tables_1) hat d (List.mem_cons_of_mem _ hd)
  have hfit : Fit s := fun {y c} hc i hi => by
    obtain ⟨ha, rfl⟩ := Array.getElem?_eq_some_iff.mp hc
    have q := List.all_eq_true.mp ((Array.all_eq_true_iff_forall_mem.mp hF) _ (Array.getElem_mem ha)) i (List.mem_range.mpr hi)
    simpa [Array.getElem?_eq_getElem hi] using q
  obtain ⟨ha0, hq1⟩ := and_e hq0
  obtain ⟨i0, e0⟩ := is_v ha0
  obtain rfl : w0 = (.int i0) := Option.some.inj e0
  obtain ⟨ha1, hq2⟩ := and_e hq1
  obtain ⟨i1, e1⟩ := is_v ha1
  obtain rfl : w1 = (.int i1) := Option.some.inj e1
  obtain ⟨ha2, hq3⟩ := and_e hq2
  obtain ⟨i2, e2⟩ := is_v ha2
  obtain rfl : w2 = (.int i2) := Option.some.inj e2
  obtain ⟨i3, e3⟩ := is_v hq3
  obtain rfl : w3 = (.int i3) := Option.some.inj e3
  have hj := own_foldr (show (jdkStatics_1.foldr Jvm.Cond.and restOwn_1).before _ s = true from hrest)
  have hw := fun d (hd : d ∈ tables_1 ++ jdkStatics_1) => (List.mem_append.mp hd).elim (hw d) (hj d)
  obtain ⟨cs, ecs⟩ := is_v (Cond.before_iff.mp (wd hw 127 rfl))
  have SZ := Sta.start ecs (Or.inl (wd hw 126 rfl))
  have hcs := own_notz ecs (wd hw 128 rfl)
  have S1 := Sta.start (own_staI (wd hw 138 rfl)) (Or.inl (wd hw 137 rfl))
  have S2 := Sta.start (own_staI (wd hw 141 rfl)) (Or.inl (wd hw 140 rfl))
  have S3 := Sta.start (own_staI (wd hw 144 rfl)) (Or.inl (wd hw 143 rfl))
  obtain ⟨sf, esf, hsf⟩ := isR_v (Cond.before_iff.mp (wd hw 134 rfl))
  have S4 := Sta.start esf (Or.inl (wd hw 133 rfl))
  have wS : ∀ a ∈ Bundle.stringAtoms, a.before _ s = true := fun d hd => by
    simp only [Bundle.stringAtoms, List.mem_cons, List.not_mem_nil, or_false] at hd
    rcases hd with rfl | rfl | rfl | rfl | rfl | rfl | rfl
    · exact (wd hw 4 rfl)
    · exact (wd hw 3 rfl)
    · exact (wd hw 20 rfl)
    · exact (wd hw 30 rfl)
    · exact (wd hw 28 rfl)
    · exact (wd hw 35 rfl)
    · exact (wd hw 36 rfl)
  obtain ⟨n, o, g1, g2, g3, _, L, rfl, ⟨rfl, N⟩, -, hq⟩ := rm0 l s _ hw s.heap.size s.heap i0 i1 i2 i3 cs SZ hcs S1 S2 S3 sf hsf S4 wS (Old.start s) tables_1 p e ha hc hk s m _ below hf ((Spec.applies_iff_loose hf).mp happ).1 ⟨rfl, State.Warmed39.refl s, rfl, trivial⟩ trivial
  refine ⟨n, _, g1, g2, g3, hpost _ _ _ _ _ _ ⟨Cond.after_iff.mpr rfl, Cond.after_iff.mpr (eq_i res_at (Term.int_eval (1)) rfl), trivial⟩ ⟨hq.1, hq.2.1, hq.2.2.1, (hq.2.2.2.sift fun y hy => Or.inr (N y hy)).mono (by decide) (by decide)⟩⟩
theorem main_1_1 : Claimed_1_1 := comes_1 fun _ _ _ _ _ _ h hF => ⟨h.1, hF⟩
theorem main_1_2 : Claimed_1_2 := comes_1 fun _ _ _ _ _ _ h hF => ⟨h.2.1, hF⟩

end Jvm.Pilot.@@N@@
namespace Jvm.Pilot.@@N@@
open Jvm Jvm.ClassFile Sem Op Lib Jvm.Free Jvm.Stand Jvm.Pilot.@@N@@.Jvm.D
/-! MADE BY PROGRAM (witnessworld.py) out of the Statement's table words and the real class files: 21 classes; the members and pool entries that the words name. The judged class is class 1, her method 1. -/
namespace start1
open Jvm.ClassFile
def u (s : String) : CpInfo := .utf8 (stringToUtf16 s)
/-- a pool by its gaps: so many unusable entries, then the entry; so many at the end -/
def gap : Nat → List CpInfo → List CpInfo
  | 0, r => r
  | n + 1, r => .unusable :: gap n r
def poolList (es : List (Nat × CpInfo)) (last : Nat) : List CpInfo := es.foldr (fun e r => gap e.1 (e.2 :: r)) (gap last [])
def pool (es : List (Nat × CpInfo)) (last : Nat) : Array CpInfo := ⟨poolList es last⟩
def fileOf (pool : Array CpInfo) (this : Nat) (attrs : Array Attribute := #[]) (ms : Array MethodInfo := #[]) (fl : Nat := 33) (sup : Nat := 0) (ifs : Array Nat := #[]) (fds : Array FieldInfo := #[]) : ClassFile where
  minorVersion := 0
  majorVersion := 65
  constantPool := pool
  accessFlags := fl
  thisClass := this
  superClass := sup
  interfaces := ifs
  fields := fds
  methods := ms
  attributes := attrs
def plain (name : String) (sup : Option ClassId) : Class where
  name := name
  kind := .ordinary
  loader := none
  accessFlags := 33
  super := sup
  interfaces := #[]
  cf := none
  fields := #[]
  methods := #[]
  instanceTypes := #[]
  staticTypes := #[]
  resolved := #[]
  callSites := []
  init := .initialized
  statics := none
  mirror := none

def pool0 : Array CpInfo := pool [(5, u "<init>"), (0, u "()V"), (1, .class_ 10), (1, u "java/lang/Object")] 113

def k0c0 : Code := { maxStack := 0, maxLocals := 1, code := object_method_1_code, exceptionTable := #[], attributes := #[] }
def k0m0 : Method := { name := "<init>", desc := "()V", sig := { parameters := [], returnType := none }, accessFlags := 1, code := some k0c0 }
/-- java/lang/Object -/
def k0 : Class := { plain "java/lang/Object" none with
  accessFlags := 33
  interfaces := #[]
  cf := some (fileOf pool0 8 #[] #[{ accessFlags := 1, nameIndex := 5, descriptorIndex := 6, attributes := #[] }] 33 0 #[] #[])
  fields := #[]
  methods := #[k0m0]
  instanceTypes := #[]
  staticTypes := #[]
  resolved := Array.replicate 124 none
  statics := none }

def pool1 : Array CpInfo := pool [(2, .class_ 4), (1, u "java/lang/Object"), (0, u "<init>"), (0, u "()V"), (0, .integer 65535), (0, .class_ 9), (0, u "java/lang/String"), (0, .methodref 8 11), (0, .nameAndType 5 12), (0, u "([C)V"), (0, .methodref 14 15), (0, .class_ 16), (0, .nameAndType 17 18), (0, u "java/lang/Math"), (0, u "min"), (0, u "(II)I"), (0, .class_ 20), (0, u "com/example/libsymtree/libsymtree/theory/TextCursor"), (0, .string 22), (0, u "end"), (0, .methodref 19 24), (0, .nameAndType 5 25), (0, u "(Ljava/lang/String;IILjava/lang/String;)V"), (0, .methodref 19 27), (0, .nameAndType 28 29), (0, u "consume"), (0, u "(C)Z"), (0, .methodref 19 31), (0, .nameAndType 32 33), (0, u "position"), (0, u "()I"), (0, .class_ 35), (0, u "com/example/libsymtree/libsymtree/theory/TextCursorConsumePinLaw"), (2, u "law"), (0, u "(IIII)Z")] 5

def k1m0 : Method := { name := "<init>", desc := "()V", sig := { parameters := [], returnType := none }, accessFlags := 1, code := none }
def k1c1 : Code := { maxStack := 6, maxLocals := 19, code := code, exceptionTable := #[], attributes := #[] }
def k1m1 : Method := { name := "law", desc := "(IIII)Z", sig := { parameters := [.int, .int, .int, .int], returnType := some .boolean }, accessFlags := 9, code := some k1c1 }
/-- com/example/libsymtree/libsymtree/theory/TextCursorConsumePinLaw -/
def k1 : Class := { plain "com/example/libsymtree/libsymtree/theory/TextCursorConsumePinLaw" (some 0) with
  accessFlags := 49
  interfaces := #[]
  cf := some (fileOf pool1 34 #[] #[{ accessFlags := 1, nameIndex := 5, descriptorIndex := 6, attributes := #[] }, { accessFlags := 9, nameIndex := 38, descriptorIndex := 39, attributes := #[] }] 49 2 #[] #[])
  fields := #[]
  methods := #[k1m0, k1m1]
  instanceTypes := #[]
  staticTypes := #[]
  resolved := Array.replicate 45 none
  statics := none }

def pool2 : Array CpInfo := pool [(1, .class_ 2), (0, u "java/io/Serializable"), (0, .class_ 4), (0, u "java/lang/Object")] 2

/-- java/io/Serializable -/
def k2 : Class := { plain "java/io/Serializable" (some 0) with
  accessFlags := 1537
  interfaces := #[]
  cf := some (fileOf pool2 1 #[] #[] 1537 3 #[] #[])
  fields := #[]
  methods := #[]
  instanceTypes := #[]
  staticTypes := #[]
  resolved := Array.replicate 7 none
  statics := none }

def pool3 : Array CpInfo := pool [(1, .class_ 2), (0, u "java/lang/Comparable"), (0, .class_ 4), (0, u "java/lang/Object")] 7

/-- java/lang/Comparable -/
def k3 : Class := { plain "java/lang/Comparable" (some 0) with
  accessFlags := 1537
  interfaces := #[]
  cf := some (fileOf pool3 1 #[] #[] 1537 3 #[] #[])
  fields := #[]
  methods := #[]
  instanceTypes := #[]
  staticTypes := #[]
  resolved := Array.replicate 12 none
  statics := none }

def pool4 : Array CpInfo := pool [(2, .class_ 4), (1, u "java/lang/CharSequence"), (42, .class_ 48), (0, u "java/lang/CharSequence$1CodePointIterator"), (10, .class_ 60), (0, u "java/lang/CharSequence$1CharIterator"), (5, .class_ 67), (0, u "java/lang/Object")] 63

/-- java/lang/CharSequence -/
def k4 : Class := { plain "java/lang/CharSequence" (some 0) with
  accessFlags := 1537
  interfaces := #[]
  cf := some (fileOf pool4 2 #[.nestMembers #[47, 59]] #[] 1537 66 #[] #[])
  fields := #[]
  methods := #[]
  instanceTypes := #[]
  staticTypes := #[]
  resolved := Array.replicate 131 none
  statics := none }

def pool5 : Array CpInfo := pool [(1, .class_ 2), (0, u "java/lang/constant/Constable"), (0, .class_ 4), (0, u "java/lang/Object")] 6

/-- java/lang/constant/Constable -/
def k5 : Class := { plain "java/lang/constant/Constable" (some 0) with
  accessFlags := 1537
  interfaces := #[]
  cf := some (fileOf pool5 1 #[] #[] 1537 3 #[] #[])
  fields := #[]
  methods := #[]
  instanceTypes := #[]
  staticTypes := #[]
  resolved := Array.replicate 11 none
  statics := none }

def pool6 : Array CpInfo := pool [(1, .class_ 2), (0, u "java/lang/constant/ConstantDesc"), (0, .class_ 4), (0, u "java/lang/Object")] 32

/-- java/lang/constant/ConstantDesc -/
def k6 : Class := { plain "java/lang/constant/ConstantDesc" (some 0) with
  accessFlags := 1537
  interfaces := #[]
  cf := some (fileOf pool6 1 #[] #[] 1537 3 #[] #[])
  fields := #[]
  methods := #[]
  instanceTypes := #[]
  staticTypes := #[]
  resolved := Array.replicate 37 none
  statics := none }

def pool7 : Array CpInfo := pool [(1, .methodref 2 3), (0, .class_ 4), (0, .nameAndType 5 6), (0, u "java/lang/Object"), (0, u "<init>"), (0, u "()V"), (2, .fieldref 10 11), (0, .class_ 12), (0, .nameAndType 13 14), (0, u "java/lang/String"), (0, u "value"), (0, u "[B"), (0, .fieldref 10 16), (0, .nameAndType 17 18), (0, u "coder"), (0, u "B"), (2, u "hash"), (0, u "I"), (2, u "hashIsZero"), (0, u "Z"), (0, .methodref 10 28), (0, .nameAndType 5 29), (0, u "([CIILjava/lang/Void;)V"), (6, u "checkBoundsOffCount"), (0, u "(III)I"), (0, .fieldref 10 39), (0, .nameAndType 40 26), (0, u "COMPACT_STRINGS"), (1, .class_ 44), (1, u "java/lang/StringUTF16"), (0, u "compress"), (1, .methodref 42 48), (0, .nameAndType 49 50), (0, u "coderFromArrayLen"), (0, u "([BI)B"), (56, .class_ 109), (1, u "java/lang/StringLatin1"), (32, u "()Z"), (34, .methodref 42 178), (0, .nameAndType 45 179), (0, u "([CII)[B"), (119, .methodref 107 300), (0, .nameAndType 301 302), (0, u "toChars"), (0, u "([B)[C"), (0, .methodref 42 300), (188, .methodref 10 493), (0, .nameAndType 494 142), (0, u "isLatin1"), (80, .class_ 576), (0, u "java/lang/CharSequence"), (22, u "CASE_INSENSITIVE_ORDER"), (0, u "Ljava/util/Comparator;"), (354, u "toCharArray"), (0, u "()[C"), (53, u "([C)V"), (42, .fieldref 1054 1055), (0, .class_ 1056), (0, .nameAndType 1057 1058), (0, u "jdk/internal/util/Preconditions"), (0, u "SIOOBE_FORMATTER"), (0, u "Ljava/util/function/BiFunction;"), (5, u "(IIILjava/util/function/BiFunction;)I"), (0, .methodref 1054 1066), (0, .nameAndType 1067 1064), (0, u "checkFromIndexSize"), (33, u "serialPersistentFields"), (0, u "[Ljava/io/ObjectStreamField;"), (0, .class_ 1104), (0, u "java/lang/String$CaseInsensitiveComparator"), (1, .class_ 1107), (0, u "java/io/Serializable"), (0, .class_ 1109), (0, u "java/lang/Comparable"), (0, .class_ 1111), (0, u "java/lang/constant/Constable"), (0, .class_ 1113), (0, u "java/lang/constant/ConstantDesc"), (2, u "serialVersionUID"), (0, u "J"), (3, u "REPL"), (0, u "C"), (2, u "LATIN1"), (1, u "UTF16")] 323

def k7m0 : Method := { name := "<init>", desc := "()V", sig := { parameters := [], returnType := none }, accessFlags := 1, code := none }
def k7c1 : Code := { maxStack := 5, maxLocals := 2, code := jdk_42_method_3_code, exceptionTable := #[], attributes := #[] }
def k7m1 : Method := { name := "<init>", desc := "([C)V", sig := { parameters := [(.array .char)], returnType := none }, accessFlags := 1, code := some k7c1 }
def k7c2 : Code := { maxStack := 1, maxLocals := 1, code := jdk_42_method_129_code, exceptionTable := #[], attributes := #[] }
def k7m2 : Method := { name := "toCharArray", desc := "()[C", sig := { parameters := [], returnType := some (.array .char) }, accessFlags := 1, code := some k7c2 }
def k7c3 : Code := { maxStack := 4, maxLocals := 6, code := jdk_42_method_149_code, exceptionTable := #[], attributes := #[] }
def k7m3 : Method := { name := "<init>", desc := "([CIILjava/lang/Void;)V", sig := { parameters := [(.array .char), .int, .int, (.object "java/lang/Void")], returnType := none }, accessFlags := 2, code := some k7c3 }
def k7c4 : Code := { maxStack := 1, maxLocals := 1, code := jdk_42_method_154_code, exceptionTable := #[], attributes := #[] }
def k7m4 : Method := { name := "isLatin1", desc := "()Z", sig := { parameters := [], returnType := some .boolean }, accessFlags := 0, code := some k7c4 }
def k7c5 : Code := { maxStack := 4, maxLocals := 3, code := jdk_42_method_157_code, exceptionTable := #[], attributes := #[] }
def k7m5 : Method := { name := "checkBoundsOffCount", desc := "(III)I", sig := { parameters := [.int, .int, .int], returnType := some .int }, accessFlags := 8, code := some k7c5 }
/-- java/lang/String -/
def k7 : Class := { plain "java/lang/String" (some 0) with
  accessFlags := 49
  interfaces := #[2, 3, 4, 5, 6]
  cf := some (fileOf pool7 10 #[.nestMembers #[1103]] #[{ accessFlags := 1, nameIndex := 5, descriptorIndex := 6, attributes := #[] }, { accessFlags := 1, nameIndex := 5, descriptorIndex := 1010, attributes := #[] }, { accessFlags := 1, nameIndex := 955, descriptorIndex := 956, attributes := #[] }, { accessFlags := 2, nameIndex := 5, descriptorIndex := 29, attributes := #[] }, { accessFlags := 0, nameIndex := 494, descriptorIndex := 142, attributes := #[] }, { accessFlags := 8, nameIndex := 36, descriptorIndex := 37, attributes := #[] }] 49 2 #[1106, 1108, 575, 1110, 1112] #[{ accessFlags := 18, nameIndex := 13, descriptorIndex := 14, attributes := #[] }, { accessFlags := 18, nameIndex := 17, descriptorIndex := 18, attributes := #[] }, { accessFlags := 2, nameIndex := 21, descriptorIndex := 22, attributes := #[] }, { accessFlags := 2, nameIndex := 25, descriptorIndex := 26, attributes := #[] }, { accessFlags := 26, nameIndex := 1116, descriptorIndex := 1117, attributes := #[] }, { accessFlags := 24, nameIndex := 40, descriptorIndex := 26, attributes := #[] }, { accessFlags := 26, nameIndex := 1101, descriptorIndex := 1102, attributes := #[] }, { accessFlags := 26, nameIndex := 1121, descriptorIndex := 1122, attributes := #[] }, { accessFlags := 25, nameIndex := 599, descriptorIndex := 600, attributes := #[] }, { accessFlags := 24, nameIndex := 1125, descriptorIndex := 18, attributes := #[] }, { accessFlags := 24, nameIndex := 1127, descriptorIndex := 18, attributes := #[] }])
  fields := #[{ name := "value", type := (.array .byte), accessFlags := 18, slot := 0, constantValue := 0 }, { name := "coder", type := .byte, accessFlags := 18, slot := 1, constantValue := 0 }, { name := "hash", type := .int, accessFlags := 2, slot := 2, constantValue := 0 }, { name := "hashIsZero", type := .boolean, accessFlags := 2, slot := 3, constantValue := 0 }, { name := "serialVersionUID", type := .long, accessFlags := 26, slot := 0, constantValue := 0 }, { name := "COMPACT_STRINGS", type := .boolean, accessFlags := 24, slot := 1, constantValue := 0 }, { name := "serialPersistentFields", type := (.array (.object "java/io/ObjectStreamField")), accessFlags := 26, slot := 2, constantValue := 0 }, { name := "REPL", type := .char, accessFlags := 26, slot := 3, constantValue := 0 }, { name := "CASE_INSENSITIVE_ORDER", type := (.object "java/util/Comparator"), accessFlags := 25, slot := 4, constantValue := 0 }, { name := "LATIN1", type := .byte, accessFlags := 24, slot := 5, constantValue := 0 }, { name := "UTF16", type := .byte, accessFlags := 24, slot := 6, constantValue := 0 }]
  methods := #[k7m0, k7m1, k7m2, k7m3, k7m4, k7m5]
  instanceTypes := #[(.array .byte), .byte, .int, .boolean]
  staticTypes := #[.long, .boolean, (.array (.object "java/io/ObjectStreamField")), .char, (.object "java/util/Comparator"), .byte, .byte]
  resolved := Array.replicate 1451 none
  statics := some 0 }

def pool8 : Array CpInfo := pool [(3, .class_ 4), (0, u "java/lang/String"), (1, .class_ 8), (1, u "java/lang/Object"), (0, u "<init>"), (0, u "()V"), (0, .methodref 12 13), (0, .class_ 14), (0, .nameAndType 15 16), (0, u "java/lang/StringUTF16"), (0, u "newBytesLength"), (0, u "(I)I"), (3, .integer 1073741823), (23, .fieldref 12 45), (0, .nameAndType 46 47), (0, u "$assertionsDisabled"), (0, u "Z"), (0, .methodref 12 49), (0, .nameAndType 50 51), (0, u "length"), (0, u "([B)I"), (7, .fieldref 12 60), (0, .nameAndType 61 62), (0, u "HI_BYTE_SHIFT"), (0, u "I"), (0, .fieldref 12 64), (0, .nameAndType 65 62), (0, u "LO_BYTE_SHIFT"), (5, .methodref 12 72), (0, .nameAndType 73 74), (0, u "getChar"), (0, u "([BI)C"), (24, u "(II[B)V"), (3, .methodref 12 104), (0, .nameAndType 105 106), (0, u "getChars"), (0, u "([BII[CI)V"), (0, .methodref 12 108), (0, .nameAndType 109 110), (0, u "newBytesFor"), (0, u "(I)[B"), (0, .methodref 12 112), (0, .nameAndType 113 114), (0, u "putChar"), (0, u "([BII)V"), (0, .methodref 12 116), (0, .nameAndType 117 118), (0, u "compress"), (0, u "([CI[BII)I"), (0, .methodref 12 120), (0, .nameAndType 121 122), (0, u "toBytes"), (0, u "([CII)[B"), (50, .methodref 12 174), (0, .nameAndType 175 99), (0, u "checkBoundsOffCount"), (85, u "coderFromArrayLen"), (0, u "([BI)B"), (18, u "(III)I"), (60, u "toChars"), (26, .class_ 371), (1, u "java/lang/StringUTF16$LinesSpliterator"), (47, .methodref 3 420), (0, .nameAndType 175 281), (9, u "MAX_LENGTH"), (23, u "([B)[C"), (172, .class_ 628), (0, u "java/lang/StringUTF16$CodePointsSpliterator"), (0, .class_ 630), (0, u "java/lang/StringUTF16$CharsSpliterator")] 4

def k8m0 : Method := { name := "<init>", desc := "()V", sig := { parameters := [], returnType := none }, accessFlags := 0, code := none }
def k8c1 : Code := { maxStack := 1, maxLocals := 1, code := jdk_52_method_2_code, exceptionTable := #[], attributes := #[] }
def k8m1 : Method := { name := "newBytesFor", desc := "(I)[B", sig := { parameters := [.int], returnType := some (.array .byte) }, accessFlags := 9, code := some k8c1 }
def k8c2 : Code := { maxStack := 4, maxLocals := 1, code := jdk_52_method_3_code, exceptionTable := #[], attributes := #[] }
def k8m2 : Method := { name := "newBytesLength", desc := "(I)I", sig := { parameters := [.int], returnType := some .int }, accessFlags := 9, code := some k8c2 }
def k8c3 : Code := { maxStack := 4, maxLocals := 3, code := jdk_52_method_4_code, exceptionTable := #[], attributes := #[] }
def k8m3 : Method := { name := "putChar", desc := "([BII)V", sig := { parameters := [(.array .byte), .int, .int], returnType := none }, accessFlags := 8, code := some k8c3 }
def k8c4 : Code := { maxStack := 3, maxLocals := 2, code := jdk_52_method_5_code, exceptionTable := #[], attributes := #[] }
def k8m4 : Method := { name := "getChar", desc := "([BI)C", sig := { parameters := [(.array .byte), .int], returnType := some .char }, accessFlags := 8, code := some k8c4 }
def k8c5 : Code := { maxStack := 2, maxLocals := 1, code := jdk_52_method_6_code, exceptionTable := #[], attributes := #[] }
def k8m5 : Method := { name := "length", desc := "([B)I", sig := { parameters := [(.array .byte)], returnType := some .int }, accessFlags := 9, code := some k8c5 }
def k8c6 : Code := { maxStack := 5, maxLocals := 2, code := jdk_52_method_13_code, exceptionTable := #[], attributes := #[] }
def k8m6 : Method := { name := "toChars", desc := "([B)[C", sig := { parameters := [(.array .byte)], returnType := some (.array .char) }, accessFlags := 9, code := some k8c6 }
def k8c7 : Code := { maxStack := 4, maxLocals := 5, code := jdk_52_method_14_code, exceptionTable := #[], attributes := #[] }
def k8m7 : Method := { name := "toBytes", desc := "([CII)[B", sig := { parameters := [(.array .char), .int, .int], returnType := some (.array .byte) }, accessFlags := 9, code := some k8c7 }
def k8c8 : Code := { maxStack := 2, maxLocals := 2, code := jdk_52_method_15_code, exceptionTable := #[], attributes := #[] }
def k8m8 : Method := { name := "coderFromArrayLen", desc := "([BI)B", sig := { parameters := [(.array .byte), .int], returnType := some .byte }, accessFlags := 8, code := some k8c8 }
def k8c9 : Code := { maxStack := 5, maxLocals := 6, code := jdk_52_method_16_code, exceptionTable := #[], attributes := #[] }
def k8m9 : Method := { name := "compress", desc := "([CII)[B", sig := { parameters := [(.array .char), .int, .int], returnType := some (.array .byte) }, accessFlags := 9, code := some k8c9 }
def k8c10 : Code := { maxStack := 3, maxLocals := 7, code := jdk_52_method_21_code, exceptionTable := #[], attributes := #[] }
def k8m10 : Method := { name := "compress", desc := "([CI[BII)I", sig := { parameters := [(.array .char), .int, (.array .byte), .int, .int], returnType := some .int }, accessFlags := 9, code := some k8c10 }
def k8c11 : Code := { maxStack := 4, maxLocals := 6, code := jdk_52_method_26_code, exceptionTable := #[], attributes := #[] }
def k8m11 : Method := { name := "getChars", desc := "([BII[CI)V", sig := { parameters := [(.array .byte), .int, .int, (.array .char), .int], returnType := none }, accessFlags := 9, code := some k8c11 }
def k8c12 : Code := { maxStack := 3, maxLocals := 3, code := jdk_52_method_94_code, exceptionTable := #[], attributes := #[] }
def k8m12 : Method := { name := "checkBoundsOffCount", desc := "(II[B)V", sig := { parameters := [.int, .int, (.array .byte)], returnType := none }, accessFlags := 9, code := some k8c12 }
/-- java/lang/StringUTF16 -/
def k8 : Class := { plain "java/lang/StringUTF16" (some 0) with
  accessFlags := 48
  interfaces := #[]
  cf := some (fileOf pool8 12 #[.nestMembers #[627, 629, 369]] #[{ accessFlags := 0, nameIndex := 9, descriptorIndex := 10, attributes := #[] }, { accessFlags := 9, nameIndex := 109, descriptorIndex := 110, attributes := #[] }, { accessFlags := 9, nameIndex := 15, descriptorIndex := 16, attributes := #[] }, { accessFlags := 8, nameIndex := 113, descriptorIndex := 114, attributes := #[] }, { accessFlags := 8, nameIndex := 73, descriptorIndex := 74, attributes := #[] }, { accessFlags := 9, nameIndex := 50, descriptorIndex := 51, attributes := #[] }, { accessFlags := 9, nameIndex := 342, descriptorIndex := 454, attributes := #[] }, { accessFlags := 9, nameIndex := 121, descriptorIndex := 122, attributes := #[] }, { accessFlags := 8, nameIndex := 261, descriptorIndex := 262, attributes := #[] }, { accessFlags := 9, nameIndex := 117, descriptorIndex := 122, attributes := #[] }, { accessFlags := 9, nameIndex := 117, descriptorIndex := 118, attributes := #[] }, { accessFlags := 9, nameIndex := 105, descriptorIndex := 106, attributes := #[] }, { accessFlags := 9, nameIndex := 175, descriptorIndex := 99, attributes := #[] }] 48 6 #[] #[{ accessFlags := 26, nameIndex := 61, descriptorIndex := 62, attributes := #[] }, { accessFlags := 26, nameIndex := 65, descriptorIndex := 62, attributes := #[] }, { accessFlags := 24, nameIndex := 430, descriptorIndex := 62, attributes := #[] }, { accessFlags := 4120, nameIndex := 46, descriptorIndex := 47, attributes := #[] }])
  fields := #[{ name := "HI_BYTE_SHIFT", type := .int, accessFlags := 26, slot := 0, constantValue := 0 }, { name := "LO_BYTE_SHIFT", type := .int, accessFlags := 26, slot := 1, constantValue := 0 }, { name := "MAX_LENGTH", type := .int, accessFlags := 24, slot := 2, constantValue := 0 }, { name := "$assertionsDisabled", type := .boolean, accessFlags := 4120, slot := 3, constantValue := 0 }]
  methods := #[k8m0, k8m1, k8m2, k8m3, k8m4, k8m5, k8m6, k8m7, k8m8, k8m9, k8m10, k8m11, k8m12]
  instanceTypes := #[]
  staticTypes := #[.int, .int, .int, .boolean]
  resolved := Array.replicate 635 none
  statics := some 1 }

def pool9 : Array CpInfo := pool [(1, .methodref 2 3), (0, .class_ 4), (0, .nameAndType 5 6), (0, u "com/example/libsymtree/libsymtree/theory/TextCursor"), (0, u "<init>"), (0, u "(Ljava/lang/String;IILjava/lang/String;Lcom/example/libsymtree/libsymtree/theory/TextCursor$Lines;)V"), (1, .class_ 10), (1, u "java/lang/String"), (1, u "()I"), (2, u "(Ljava/lang/String;IILjava/lang/String;)V"), (2, .methodref 19 20), (0, .class_ 21), (0, .nameAndType 5 22), (0, u "java/lang/Object"), (0, u "()V"), (0, .fieldref 2 24), (0, .nameAndType 25 26), (0, u "text"), (0, u "Ljava/lang/String;"), (0, .methodref 8 28), (0, .nameAndType 29 30), (0, u "toCharArray"), (0, u "()[C"), (0, .fieldref 2 32), (0, .nameAndType 33 34), (0, u "chars"), (0, u "[C"), (0, .fieldref 2 36), (0, .nameAndType 37 38), (0, u "position"), (0, u "I"), (0, .fieldref 2 40), (0, .nameAndType 41 38), (0, u "end"), (0, .fieldref 2 43), (0, .nameAndType 44 26), (0, u "endName"), (0, .fieldref 2 46), (0, .nameAndType 47 48), (0, u "lines"), (0, u "Lcom/example/libsymtree/libsymtree/theory/TextCursor$Lines;"), (7, u "(C)Z"), (1, .class_ 60), (1, u "com/example/libsymtree/libsymtree/theory/TextCursor$Lines"), (11, u "consume"), (14, .class_ 89), (1, u "com/example/libsymtree/libsymtree/theory/TextCursor$NameSyntax"), (28, .class_ 120), (1, u "com/example/libsymtree/libsymtree/theory/TextCursor$Names"), (25, u "[Z"), (59, .class_ 208), (1, u "com/example/libsymtree/libsymtree/theory/TextCursor$Parser"), (23, u "SPACES"), (3, u "ASCII")] 65

def k9c0 : Code := { maxStack := 6, maxLocals := 5, code := prog_86_method_1_code, exceptionTable := #[], attributes := #[] }
def k9m0 : Method := { name := "<init>", desc := "(Ljava/lang/String;IILjava/lang/String;)V", sig := { parameters := [(.object "java/lang/String"), .int, .int, (.object "java/lang/String")], returnType := none }, accessFlags := 1, code := some k9c0 }
def k9c1 : Code := { maxStack := 2, maxLocals := 6, code := prog_86_method_4_code, exceptionTable := #[], attributes := #[] }
def k9m1 : Method := { name := "<init>", desc := "(Ljava/lang/String;IILjava/lang/String;Lcom/example/libsymtree/libsymtree/theory/TextCursor$Lines;)V", sig := { parameters := [(.object "java/lang/String"), .int, .int, (.object "java/lang/String"), (.object "com/example/libsymtree/libsymtree/theory/TextCursor$Lines")], returnType := none }, accessFlags := 2, code := some k9c1 }
def k9c2 : Code := { maxStack := 1, maxLocals := 1, code := prog_86_method_6_code, exceptionTable := #[], attributes := #[] }
def k9m2 : Method := { name := "position", desc := "()I", sig := { parameters := [], returnType := some .int }, accessFlags := 1, code := some k9c2 }
def k9c3 : Code := { maxStack := 3, maxLocals := 3, code := prog_86_method_11_code, exceptionTable := #[], attributes := #[] }
def k9m3 : Method := { name := "consume", desc := "(C)Z", sig := { parameters := [.char], returnType := some .boolean }, accessFlags := 1, code := some k9c3 }
/-- com/example/libsymtree/libsymtree/theory/TextCursor -/
def k9 : Class := { plain "com/example/libsymtree/libsymtree/theory/TextCursor" (some 0) with
  accessFlags := 49
  interfaces := #[]
  cf := some (fileOf pool9 2 #[.nestMembers #[206, 87, 58, 118]] #[{ accessFlags := 1, nameIndex := 5, descriptorIndex := 15, attributes := #[] }, { accessFlags := 2, nameIndex := 5, descriptorIndex := 6, attributes := #[] }, { accessFlags := 1, nameIndex := 37, descriptorIndex := 12, attributes := #[] }, { accessFlags := 1, nameIndex := 72, descriptorIndex := 56, attributes := #[] }] 49 19 #[] #[{ accessFlags := 26, nameIndex := 236, descriptorIndex := 38, attributes := #[] }, { accessFlags := 26, nameIndex := 232, descriptorIndex := 146, attributes := #[] }, { accessFlags := 2, nameIndex := 25, descriptorIndex := 26, attributes := #[] }, { accessFlags := 2, nameIndex := 33, descriptorIndex := 34, attributes := #[] }, { accessFlags := 2, nameIndex := 41, descriptorIndex := 38, attributes := #[] }, { accessFlags := 18, nameIndex := 44, descriptorIndex := 26, attributes := #[] }, { accessFlags := 18, nameIndex := 47, descriptorIndex := 48, attributes := #[] }, { accessFlags := 2, nameIndex := 37, descriptorIndex := 38, attributes := #[] }])
  fields := #[{ name := "ASCII", type := .int, accessFlags := 26, slot := 0, constantValue := 0 }, { name := "SPACES", type := (.array .boolean), accessFlags := 26, slot := 1, constantValue := 0 }, { name := "text", type := (.object "java/lang/String"), accessFlags := 2, slot := 0, constantValue := 0 }, { name := "chars", type := (.array .char), accessFlags := 2, slot := 1, constantValue := 0 }, { name := "end", type := .int, accessFlags := 2, slot := 2, constantValue := 0 }, { name := "endName", type := (.object "java/lang/String"), accessFlags := 18, slot := 3, constantValue := 0 }, { name := "lines", type := (.object "com/example/libsymtree/libsymtree/theory/TextCursor$Lines"), accessFlags := 18, slot := 4, constantValue := 0 }, { name := "position", type := .int, accessFlags := 2, slot := 5, constantValue := 0 }]
  methods := #[k9m0, k9m1, k9m2, k9m3]
  instanceTypes := #[(.object "java/lang/String"), (.array .char), .int, (.object "java/lang/String"), (.object "com/example/libsymtree/libsymtree/theory/TextCursor$Lines"), .int]
  staticTypes := #[.int, (.array .boolean)]
  resolved := Array.replicate 302 none
  statics := none }

def pool10 : Array CpInfo := pool [(4, .class_ 6), (1, u "java/lang/Object"), (0, u "<init>"), (0, u "()V"), (4, .methodref 14 15), (0, .class_ 16), (0, .nameAndType 17 18), (0, u "java/lang/StringLatin1"), (0, u "inflate"), (0, u "([BI[CII)V"), (102, u "$assertionsDisabled"), (0, u "Z"), (69, u "toChars"), (28, .class_ 223), (1, u "java/lang/StringLatin1$LinesSpliterator"), (44, u "([B)[C"), (121, .class_ 391), (0, u "java/lang/StringLatin1$CharsSpliterator")] 3

def k10m0 : Method := { name := "<init>", desc := "()V", sig := { parameters := [], returnType := none }, accessFlags := 0, code := none }
def k10c1 : Code := { maxStack := 5, maxLocals := 2, code := jdk_43_method_9_code, exceptionTable := #[], attributes := #[] }
def k10m1 : Method := { name := "toChars", desc := "([B)[C", sig := { parameters := [(.array .byte)], returnType := some (.array .char) }, accessFlags := 9, code := some k10c1 }
def k10c2 : Code := { maxStack := 4, maxLocals := 6, code := jdk_43_method_49_code, exceptionTable := #[], attributes := #[] }
def k10m2 : Method := { name := "inflate", desc := "([BI[CII)V", sig := { parameters := [(.array .byte), .int, (.array .char), .int, .int], returnType := none }, accessFlags := 9, code := some k10c2 }
/-- java/lang/StringLatin1 -/
def k10 : Class := { plain "java/lang/StringLatin1" (some 0) with
  accessFlags := 48
  interfaces := #[]
  cf := some (fileOf pool10 14 #[.nestMembers #[390, 221]] #[{ accessFlags := 0, nameIndex := 7, descriptorIndex := 8, attributes := #[] }, { accessFlags := 9, nameIndex := 192, descriptorIndex := 268, attributes := #[] }, { accessFlags := 9, nameIndex := 17, descriptorIndex := 18, attributes := #[] }] 48 4 #[] #[{ accessFlags := 4120, nameIndex := 121, descriptorIndex := 122, attributes := #[] }])
  fields := #[{ name := "$assertionsDisabled", type := .boolean, accessFlags := 4120, slot := 0, constantValue := 0 }]
  methods := #[k10m0, k10m1, k10m2]
  instanceTypes := #[]
  staticTypes := #[.boolean]
  resolved := Array.replicate 395 none
  statics := none }

def pool11 : Array CpInfo := pool [(1, .class_ 2), (0, u "java/lang/Math"), (1, .class_ 6), (1, u "java/lang/Object"), (0, u "<init>"), (0, u "()V"), (89, .class_ 100), (1, u "java/lang/Math$RandomNumberGeneratorHolder"), (71, u "negativeZeroFloatBits"), (0, u "J"), (2, u "negativeZeroDoubleBits"), (24, u "min"), (43, u "$assertionsDisabled"), (0, u "Z"), (88, u "(II)I"), (2, u "twoToTheDoubleScaleDown"), (0, u "D"), (4, u "twoToTheDoubleScaleUp"), (9, u "E"), (3, u "PI"), (2, u "TAU"), (2, u "DEGREES_TO_RADIANS"), (0, u "RADIANS_TO_DEGREES")] 94

def k11m0 : Method := { name := "<init>", desc := "()V", sig := { parameters := [], returnType := none }, accessFlags := 2, code := none }
def k11c1 : Code := { maxStack := 2, maxLocals := 2, code := jdk_29_method_69_code, exceptionTable := #[], attributes := #[] }
def k11m1 : Method := { name := "min", desc := "(II)I", sig := { parameters := [.int, .int], returnType := some .int }, accessFlags := 9, code := some k11c1 }
/-- java/lang/Math -/
def k11 : Class := { plain "java/lang/Math" (some 0) with
  accessFlags := 49
  interfaces := #[]
  cf := some (fileOf pool11 1 #[.nestMembers #[98]] #[{ accessFlags := 2, nameIndex := 7, descriptorIndex := 8, attributes := #[] }, { accessFlags := 9, nameIndex := 201, descriptorIndex := 335, attributes := #[] }] 49 4 #[] #[{ accessFlags := 25, nameIndex := 354, descriptorIndex := 339, attributes := #[] }, { accessFlags := 25, nameIndex := 358, descriptorIndex := 339, attributes := #[] }, { accessFlags := 25, nameIndex := 361, descriptorIndex := 339, attributes := #[] }, { accessFlags := 26, nameIndex := 364, descriptorIndex := 339, attributes := #[] }, { accessFlags := 26, nameIndex := 365, descriptorIndex := 339, attributes := #[] }, { accessFlags := 26, nameIndex := 172, descriptorIndex := 173, attributes := #[] }, { accessFlags := 26, nameIndex := 176, descriptorIndex := 173, attributes := #[] }, { accessFlags := 8, nameIndex := 344, descriptorIndex := 339, attributes := #[] }, { accessFlags := 8, nameIndex := 338, descriptorIndex := 339, attributes := #[] }, { accessFlags := 4120, nameIndex := 245, descriptorIndex := 246, attributes := #[] }])
  fields := #[{ name := "E", type := .double, accessFlags := 25, slot := 0, constantValue := 0 }, { name := "PI", type := .double, accessFlags := 25, slot := 1, constantValue := 0 }, { name := "TAU", type := .double, accessFlags := 25, slot := 2, constantValue := 0 }, { name := "DEGREES_TO_RADIANS", type := .double, accessFlags := 26, slot := 3, constantValue := 0 }, { name := "RADIANS_TO_DEGREES", type := .double, accessFlags := 26, slot := 4, constantValue := 0 }, { name := "negativeZeroFloatBits", type := .long, accessFlags := 26, slot := 5, constantValue := 0 }, { name := "negativeZeroDoubleBits", type := .long, accessFlags := 26, slot := 6, constantValue := 0 }, { name := "twoToTheDoubleScaleUp", type := .double, accessFlags := 8, slot := 7, constantValue := 0 }, { name := "twoToTheDoubleScaleDown", type := .double, accessFlags := 8, slot := 8, constantValue := 0 }, { name := "$assertionsDisabled", type := .boolean, accessFlags := 4120, slot := 9, constantValue := 0 }]
  methods := #[k11m0, k11m1]
  instanceTypes := #[]
  staticTypes := #[.double, .double, .double, .double, .double, .long, .long, .double, .double, .boolean]
  resolved := Array.replicate 460 none
  statics := none }

def pool12 : Array CpInfo := pool [(2, .class_ 4), (1, u "java/lang/Object"), (0, u "<init>"), (0, u "()V"), (17, .class_ 26), (1, u "jdk/internal/util/Preconditions"), (22, u "checkFromIndexSize"), (5, .class_ 56), (0, u "jdk/internal/util/Preconditions$4"), (57, .class_ 115), (0, u "jdk/internal/util/Preconditions$1"), (7, u "SIOOBE_FORMATTER"), (0, u "Ljava/util/function/BiFunction;"), (0, .class_ 126), (0, u "jdk/internal/util/Preconditions$2"), (3, u "AIOOBE_FORMATTER"), (0, .class_ 132), (0, u "jdk/internal/util/Preconditions$3"), (3, u "IOOBE_FORMATTER"), (46, u "(IIILjava/util/function/BiFunction;)I")] 10

def k12m0 : Method := { name := "<init>", desc := "()V", sig := { parameters := [], returnType := none }, accessFlags := 1, code := none }
def k12c1 : Code := { maxStack := 4, maxLocals := 4, code := jdk_41_method_13_code, exceptionTable := #[], attributes := #[] }
def k12m1 : Method := { name := "checkFromIndexSize", desc := "(IIILjava/util/function/BiFunction;)I", sig := { parameters := [.int, .int, .int, (.object "java/util/function/BiFunction")], returnType := some .int }, accessFlags := 9, code := some k12c1 }
/-- jdk/internal/util/Preconditions -/
def k12 : Class := { plain "jdk/internal/util/Preconditions" (some 0) with
  accessFlags := 33
  interfaces := #[]
  cf := some (fileOf pool12 24 #[.nestMembers #[55, 131, 125, 114]] #[{ accessFlags := 1, nameIndex := 5, descriptorIndex := 6, attributes := #[] }, { accessFlags := 9, nameIndex := 49, descriptorIndex := 183, attributes := #[] }] 33 2 #[] #[{ accessFlags := 25, nameIndex := 123, descriptorIndex := 124, attributes := #[] }, { accessFlags := 25, nameIndex := 130, descriptorIndex := 124, attributes := #[] }, { accessFlags := 25, nameIndex := 136, descriptorIndex := 124, attributes := #[] }])
  fields := #[{ name := "SIOOBE_FORMATTER", type := (.object "java/util/function/BiFunction"), accessFlags := 25, slot := 0, constantValue := 0 }, { name := "AIOOBE_FORMATTER", type := (.object "java/util/function/BiFunction"), accessFlags := 25, slot := 1, constantValue := 0 }, { name := "IOOBE_FORMATTER", type := (.object "java/util/function/BiFunction"), accessFlags := 25, slot := 2, constantValue := 0 }]
  methods := #[k12m0, k12m1]
  instanceTypes := #[]
  staticTypes := #[(.object "java/util/function/BiFunction"), (.object "java/util/function/BiFunction"), (.object "java/util/function/BiFunction")]
  resolved := Array.replicate 194 none
  statics := some 2 }

def pool13 : Array CpInfo := pool [(9, u "<init>"), (6, .class_ 18), (1, u "java/lang/Object"), (0, u "()V"), (1, .class_ 23), (1, u "jdk/internal/util/ArraysSupport"), (0, u "LOG2_ARRAY_LONG_INDEX_SCALE"), (0, u "I"), (2, u "U"), (0, u "Ljdk/internal/misc/Unsafe;"), (8, u "BIG_ENDIAN"), (0, u "Z"), (8, u "LOG2_BYTE_BIT_SIZE"), (4, u "LOG2_ARRAY_INT_INDEX_SCALE"), (54, u "JLA"), (0, u "Ljdk/internal/access/JavaLangAccess;"), (11, u "LOG2_ARRAY_BOOLEAN_INDEX_SCALE"), (9, u "LOG2_ARRAY_BYTE_INDEX_SCALE"), (5, u "LOG2_ARRAY_CHAR_INDEX_SCALE"), (5, u "LOG2_ARRAY_SHORT_INDEX_SCALE"), (18, u "LOG2_ARRAY_FLOAT_INDEX_SCALE"), (24, u "LOG2_ARRAY_DOUBLE_INDEX_SCALE"), (89, u "T_BOOLEAN"), (2, u "T_CHAR"), (1, u "T_FLOAT"), (1, u "T_DOUBLE"), (1, u "T_BYTE"), (1, u "T_SHORT"), (1, u "T_INT"), (1, u "T_LONG"), (1, u "SOFT_MAX_ARRAY_LENGTH")] 83

def k13m0 : Method := { name := "<init>", desc := "()V", sig := { parameters := [], returnType := none }, accessFlags := 2, code := none }
/-- jdk/internal/util/ArraysSupport -/
def k13 : Class := { plain "jdk/internal/util/ArraysSupport" (some 0) with
  accessFlags := 33
  interfaces := #[]
  cf := some (fileOf pool13 21 #[] #[{ accessFlags := 2, nameIndex := 9, descriptorIndex := 19, attributes := #[] }] 33 16 #[] #[{ accessFlags := 24, nameIndex := 28, descriptorIndex := 29, attributes := #[] }, { accessFlags := 26, nameIndex := 38, descriptorIndex := 39, attributes := #[] }, { accessFlags := 25, nameIndex := 121, descriptorIndex := 25, attributes := #[] }, { accessFlags := 25, nameIndex := 131, descriptorIndex := 25, attributes := #[] }, { accessFlags := 25, nameIndex := 137, descriptorIndex := 25, attributes := #[] }, { accessFlags := 25, nameIndex := 143, descriptorIndex := 25, attributes := #[] }, { accessFlags := 25, nameIndex := 53, descriptorIndex := 25, attributes := #[] }, { accessFlags := 25, nameIndex := 24, descriptorIndex := 25, attributes := #[] }, { accessFlags := 25, nameIndex := 162, descriptorIndex := 25, attributes := #[] }, { accessFlags := 25, nameIndex := 187, descriptorIndex := 25, attributes := #[] }, { accessFlags := 26, nameIndex := 48, descriptorIndex := 25, attributes := #[] }, { accessFlags := 25, nameIndex := 277, descriptorIndex := 25, attributes := #[] }, { accessFlags := 25, nameIndex := 280, descriptorIndex := 25, attributes := #[] }, { accessFlags := 25, nameIndex := 282, descriptorIndex := 25, attributes := #[] }, { accessFlags := 25, nameIndex := 284, descriptorIndex := 25, attributes := #[] }, { accessFlags := 25, nameIndex := 286, descriptorIndex := 25, attributes := #[] }, { accessFlags := 25, nameIndex := 288, descriptorIndex := 25, attributes := #[] }, { accessFlags := 25, nameIndex := 290, descriptorIndex := 25, attributes := #[] }, { accessFlags := 25, nameIndex := 292, descriptorIndex := 25, attributes := #[] }, { accessFlags := 26, nameIndex := 108, descriptorIndex := 109, attributes := #[] }, { accessFlags := 25, nameIndex := 294, descriptorIndex := 25, attributes := #[] }])
  fields := #[{ name := "U", type := (.object "jdk/internal/misc/Unsafe"), accessFlags := 24, slot := 0, constantValue := 0 }, { name := "BIG_ENDIAN", type := .boolean, accessFlags := 26, slot := 1, constantValue := 0 }, { name := "LOG2_ARRAY_BOOLEAN_INDEX_SCALE", type := .int, accessFlags := 25, slot := 2, constantValue := 0 }, { name := "LOG2_ARRAY_BYTE_INDEX_SCALE", type := .int, accessFlags := 25, slot := 3, constantValue := 0 }, { name := "LOG2_ARRAY_CHAR_INDEX_SCALE", type := .int, accessFlags := 25, slot := 4, constantValue := 0 }, { name := "LOG2_ARRAY_SHORT_INDEX_SCALE", type := .int, accessFlags := 25, slot := 5, constantValue := 0 }, { name := "LOG2_ARRAY_INT_INDEX_SCALE", type := .int, accessFlags := 25, slot := 6, constantValue := 0 }, { name := "LOG2_ARRAY_LONG_INDEX_SCALE", type := .int, accessFlags := 25, slot := 7, constantValue := 0 }, { name := "LOG2_ARRAY_FLOAT_INDEX_SCALE", type := .int, accessFlags := 25, slot := 8, constantValue := 0 }, { name := "LOG2_ARRAY_DOUBLE_INDEX_SCALE", type := .int, accessFlags := 25, slot := 9, constantValue := 0 }, { name := "LOG2_BYTE_BIT_SIZE", type := .int, accessFlags := 26, slot := 10, constantValue := 0 }, { name := "T_BOOLEAN", type := .int, accessFlags := 25, slot := 11, constantValue := 0 }, { name := "T_CHAR", type := .int, accessFlags := 25, slot := 12, constantValue := 0 }, { name := "T_FLOAT", type := .int, accessFlags := 25, slot := 13, constantValue := 0 }, { name := "T_DOUBLE", type := .int, accessFlags := 25, slot := 14, constantValue := 0 }, { name := "T_BYTE", type := .int, accessFlags := 25, slot := 15, constantValue := 0 }, { name := "T_SHORT", type := .int, accessFlags := 25, slot := 16, constantValue := 0 }, { name := "T_INT", type := .int, accessFlags := 25, slot := 17, constantValue := 0 }, { name := "T_LONG", type := .int, accessFlags := 25, slot := 18, constantValue := 0 }, { name := "JLA", type := (.object "jdk/internal/access/JavaLangAccess"), accessFlags := 26, slot := 19, constantValue := 0 }, { name := "SOFT_MAX_ARRAY_LENGTH", type := .int, accessFlags := 25, slot := 20, constantValue := 0 }]
  methods := #[k13m0]
  instanceTypes := #[]
  staticTypes := #[(.object "jdk/internal/misc/Unsafe"), .boolean, .int, .int, .int, .int, .int, .int, .int, .int, .int, .int, .int, .int, .int, .int, .int, .int, .int, (.object "jdk/internal/access/JavaLangAccess"), .int]
  resolved := Array.replicate 378 none
  statics := none }

def pool14 : Array CpInfo := pool [(1, u "java/lang/Cloneable"), (0, .class_ 1), (0, u "java/lang/Object"), (0, .class_ 3)] 3

/-- java/lang/Cloneable -/
def k14 : Class := { plain "java/lang/Cloneable" (some 0) with
  accessFlags := 1537
  interfaces := #[]
  cf := some (fileOf pool14 2 #[] #[] 1537 4 #[] #[])
  fields := #[]
  methods := #[]
  instanceTypes := #[]
  staticTypes := #[]
  resolved := Array.replicate 8 none
  statics := none }

/-- the primitive byte -/
def k15 : Class := { plain "byte" none with kind := .primitive 'B', accessFlags := 0x411 }
/-- [B -/
def k16 : Class := { plain "[B" (some 0) with kind := .array 15 .byte, interfaces := #[14, 2], accessFlags := 1041 }

/-- the primitive char -/
def k17 : Class := { plain "char" none with kind := .primitive 'C', accessFlags := 0x411 }
/-- [C -/
def k18 : Class := { plain "[C" (some 0) with kind := .array 17 .char, interfaces := #[14, 2], accessFlags := 1041 }

/-- the primitive int -/
def k19 : Class := { plain "int" none with kind := .primitive 'I', accessFlags := 0x411 }
/-- [I -/
def k20 : Class := { plain "[I" (some 0) with kind := .array 19 .int, interfaces := #[14, 2], accessFlags := 1041 }

def heap : Heap := #[{ cls := 7, slots := #[.long 0, .int 1, .null, .int 0, .null, .int 0, .int 0], vm := .statics 7 },
  { cls := 8, slots := #[.int 0, .int 8, .int 0, .int 1], vm := .statics 8 },
  { cls := 12, slots := #[.null, .null, .null], vm := .statics 12 }]
def classes : Array Class := #[k0, k1, k2, k3, k4, k5, k6, k7, k8, k9, k10, k11, k12, k13, k14, k15, k16, k17, k18, k19, k20]
def interned : List (Array UInt16 × Addr) := []
def slotsUsed : Nat := 14
def theMethod : MethodId := ⟨1, 1⟩
def args0 : Array Value := #[.int 4325441, .int 4456515, .int 224, .int 4390978]
def aboutOver (below : List Frame) : State where
  vm := { classes := classes, interned := interned.toArray }
  heap := heap
  slotsUsed := slotsUsed
  threads := #[{ frames := .invoking theMethod args0 :: below }]
def below0 : List Frame := [.native { method := ⟨0, 0⟩, args := #[] }]
def about1 : State := aboutOver below0
def p0 : Program := .bare "" "" ""
def e0 : Env := launch0.env 0 0 0
theorem w_frames : about1.frames = Frame.invoking theMethod args0 :: below0 := rfl
set_option maxRecDepth 65536 in
theorem w_args : argsFit about1.vm theMethod args0 = true := by decide +kernel
set_option maxRecDepth 65536 in
theorem w_heap : heapFits about1 = true := by decide +kernel
set_option maxRecDepth 65536 in
theorem w_runnable : about1.curStatus? = some .runnable := by decide +kernel
set_option maxRecDepth 65536 in
theorem w_alone : about1.alone = true := by decide +kernel
set_option maxRecDepth 65536 in
theorem w_named : about1.methodNamed? x = some theMethod := by decide +kernel
set_option maxRecDepth 65536 in
theorem w_hears : about1.hears theMethod below0 = true := by decide +kernel
set_option maxRecDepth 65536 in
theorem w_ripe : about1.ripe theMethod args0 below0 = true := by decide +kernel
theorem w_running : about1.status = .running := rfl
set_option maxRecDepth 65536 in
theorem w_room : about1.hasRoom e0.platform room_1 = true :=
  launch0.hasRoom_least _ room_1 (by decide +kernel) (by decide +kernel) (by decide +kernel) (by decide +kernel) (by decide +kernel) (by decide +kernel)
theorem allAtoms_all (ts : List Jvm.Cond) (a : Array Jvm.Value) (st : Jvm.State) : (allAtoms ts).before a st = ts.all (fun c => c.before a st) := by
  induction ts with
  | nil => rfl
  | cons c t ih =>
    show (Jvm.Cond.and c (allAtoms t)).before a st = _
    rw [Jvm.Cond.before_and, ih, List.all_cons]
def words1 : List Jvm.Cond := Jvm.Cond.code x code maxLocals ret :: tables_1
/-- a 'code' word, met by the world's own term for the bytes: nothing is compared byte by byte -/
theorem code_word {y : MethodName} {bytes : ByteArray} {mx : Nat} {rt : Option FieldType} {a : Array Value} {s : State} {m : MethodId} {meth : Method} {c : Code} (h1 : s.methodNamed? y = some m) (h2 : s.vm.method? m = some meth) (h3 : meth.code = some c) (h4 : c.code = bytes)
    (h5 : (c.maxLocals == mx && c.exceptionTable.isEmpty && decide (c.maxStack ≤ mostOperands) && decide (meth.sig.returnType = rt) && !meth.locks && decide (parseMethodDescriptor y.desc = some meth.sig)) = true) : (Jvm.Cond.code y bytes mx rt).before a s = true := by
  simp only [Bool.and_eq_true, beq_iff_eq, Bool.not_eq_true', decide_eq_true_eq] at h5
  obtain ⟨⟨⟨⟨⟨g1, g2⟩, g3⟩, g4⟩, g5⟩, g6⟩ := h5
  simp [Cond.before, Cond.holds, Cond.value, h1, h2, h3, h4, g1, g2, g3, g4, g5, g6]
def isCode : Jvm.Cond → Bool
  | .code _ _ _ _ => true
  | _ => false
theorem all_split {L : List Jvm.Cond} {P : Jvm.Cond → Bool} (h1 : L.all (fun c => isCode c || P c) = true) (h2 : ∀ c ∈ L.filter isCode, P c = true) : L.all P = true := by
  refine List.all_eq_true.mpr fun c hc => ?_
  have h := List.all_eq_true.mp h1 c hc
  rcases Bool.eq_false_or_eq_true (isCode c) with hi | hi
  · exact h2 c (List.mem_filter.mpr ⟨hc, hi⟩)
  · simpa [hi] using h
set_option maxRecDepth 65536 in
theorem w_c0 : (Jvm.Cond.code x code maxLocals ret).before args0 about1 = true := code_word (m := ⟨1, 1⟩) (meth := k1m1) (c := k1c1) (by decide +kernel) rfl rfl rfl (by decide +kernel)
set_option maxRecDepth 65536 in
theorem w_c1 : (Jvm.Cond.code ({ cls := "java/lang/String", name := "<init>", desc := "([C)V" } : Jvm.MethodName) jdk_42_method_3_code (2 : Nat) (Option.none : Option Jvm.ClassFile.FieldType)).before args0 about1 = true := code_word (m := ⟨7, 1⟩) (meth := k7m1) (c := k7c1) (by decide +kernel) rfl rfl rfl (by decide +kernel)
set_option maxRecDepth 65536 in
theorem w_c2 : (Jvm.Cond.code ({ cls := "java/lang/String", name := "<init>", desc := "([CIILjava/lang/Void;)V" } : Jvm.MethodName) jdk_42_method_149_code (6 : Nat) (Option.none : Option Jvm.ClassFile.FieldType)).before args0 about1 = true := code_word (m := ⟨7, 3⟩) (meth := k7m3) (c := k7c3) (by decide +kernel) rfl rfl rfl (by decide +kernel)
set_option maxRecDepth 65536 in
theorem w_c3 : (Jvm.Cond.code ({ cls := "java/lang/Object", name := "<init>", desc := "()V" } : Jvm.MethodName) object_method_1_code (1 : Nat) (Option.none : Option Jvm.ClassFile.FieldType)).before args0 about1 = true := code_word (m := ⟨0, 0⟩) (meth := k0m0) (c := k0c0) (by decide +kernel) rfl rfl rfl (by decide +kernel)
set_option maxRecDepth 65536 in
theorem w_c4 : (Jvm.Cond.code ({ cls := "java/lang/StringUTF16", name := "compress", desc := "([CII)[B" } : Jvm.MethodName) jdk_52_method_16_code (6 : Nat) (Option.some (Jvm.ClassFile.FieldType.array Jvm.ClassFile.FieldType.byte))).before args0 about1 = true := code_word (m := ⟨8, 9⟩) (meth := k8m9) (c := k8c9) (by decide +kernel) rfl rfl rfl (by decide +kernel)
set_option maxRecDepth 65536 in
theorem w_c5 : (Jvm.Cond.code ({ cls := "java/lang/StringUTF16", name := "compress", desc := "([CI[BII)I" } : Jvm.MethodName) jdk_52_method_21_code (7 : Nat) (Option.some Jvm.ClassFile.FieldType.int)).before args0 about1 = true := code_word (m := ⟨8, 10⟩) (meth := k8m10) (c := k8c10) (by decide +kernel) rfl rfl rfl (by decide +kernel)
set_option maxRecDepth 65536 in
theorem w_c6 : (Jvm.Cond.code ({ cls := "java/lang/StringUTF16", name := "coderFromArrayLen", desc := "([BI)B" } : Jvm.MethodName) jdk_52_method_15_code (2 : Nat) (Option.some Jvm.ClassFile.FieldType.byte)).before args0 about1 = true := code_word (m := ⟨8, 8⟩) (meth := k8m8) (c := k8c8) (by decide +kernel) rfl rfl rfl (by decide +kernel)
set_option maxRecDepth 65536 in
theorem w_c7 : (Jvm.Cond.code ({ cls := "com/example/libsymtree/libsymtree/theory/TextCursor", name := "<init>", desc := "(Ljava/lang/String;IILjava/lang/String;)V" } : Jvm.MethodName) prog_86_method_1_code (5 : Nat) (Option.none : Option Jvm.ClassFile.FieldType)).before args0 about1 = true := code_word (m := ⟨9, 0⟩) (meth := k9m0) (c := k9c0) (by decide +kernel) rfl rfl rfl (by decide +kernel)
set_option maxRecDepth 65536 in
theorem w_c8 : (Jvm.Cond.code ({ cls := "com/example/libsymtree/libsymtree/theory/TextCursor", name := "<init>", desc := "(Ljava/lang/String;IILjava/lang/String;Lcom/example/libsymtree/libsymtree/theory/TextCursor$Lines;)V" } : Jvm.MethodName) prog_86_method_4_code (6 : Nat) (Option.none : Option Jvm.ClassFile.FieldType)).before args0 about1 = true := code_word (m := ⟨9, 1⟩) (meth := k9m1) (c := k9c1) (by decide +kernel) rfl rfl rfl (by decide +kernel)
set_option maxRecDepth 65536 in
theorem w_c9 : (Jvm.Cond.code ({ cls := "java/lang/String", name := "toCharArray", desc := "()[C" } : Jvm.MethodName) jdk_42_method_129_code (1 : Nat) (Option.some (Jvm.ClassFile.FieldType.array Jvm.ClassFile.FieldType.char))).before args0 about1 = true := code_word (m := ⟨7, 2⟩) (meth := k7m2) (c := k7c2) (by decide +kernel) rfl rfl rfl (by decide +kernel)
set_option maxRecDepth 65536 in
theorem w_c10 : (Jvm.Cond.code ({ cls := "java/lang/String", name := "isLatin1", desc := "()Z" } : Jvm.MethodName) jdk_42_method_154_code (1 : Nat) (Option.some Jvm.ClassFile.FieldType.boolean)).before args0 about1 = true := code_word (m := ⟨7, 4⟩) (meth := k7m4) (c := k7c4) (by decide +kernel) rfl rfl rfl (by decide +kernel)
set_option maxRecDepth 65536 in
theorem w_c11 : (Jvm.Cond.code ({ cls := "java/lang/StringLatin1", name := "toChars", desc := "([B)[C" } : Jvm.MethodName) jdk_43_method_9_code (2 : Nat) (Option.some (Jvm.ClassFile.FieldType.array Jvm.ClassFile.FieldType.char))).before args0 about1 = true := code_word (m := ⟨10, 1⟩) (meth := k10m1) (c := k10c1) (by decide +kernel) rfl rfl rfl (by decide +kernel)
set_option maxRecDepth 65536 in
theorem w_c12 : (Jvm.Cond.code ({ cls := "java/lang/StringLatin1", name := "inflate", desc := "([BI[CII)V" } : Jvm.MethodName) jdk_43_method_49_code (6 : Nat) (Option.none : Option Jvm.ClassFile.FieldType)).before args0 about1 = true := code_word (m := ⟨10, 2⟩) (meth := k10m2) (c := k10c2) (by decide +kernel) rfl rfl rfl (by decide +kernel)
set_option maxRecDepth 65536 in
theorem w_c13 : (Jvm.Cond.code ({ cls := "com/example/libsymtree/libsymtree/theory/TextCursor", name := "consume", desc := "(C)Z" } : Jvm.MethodName) prog_86_method_11_code (3 : Nat) (Option.some Jvm.ClassFile.FieldType.boolean)).before args0 about1 = true := code_word (m := ⟨9, 3⟩) (meth := k9m3) (c := k9c3) (by decide +kernel) rfl rfl rfl (by decide +kernel)
set_option maxRecDepth 65536 in
theorem w_c14 : (Jvm.Cond.code ({ cls := "com/example/libsymtree/libsymtree/theory/TextCursor", name := "position", desc := "()I" } : Jvm.MethodName) prog_86_method_6_code (1 : Nat) (Option.some Jvm.ClassFile.FieldType.int)).before args0 about1 = true := code_word (m := ⟨9, 2⟩) (meth := k9m2) (c := k9c2) (by decide +kernel) rfl rfl rfl (by decide +kernel)
set_option maxRecDepth 65536 in
theorem w_c15 : (Jvm.Cond.code ({ cls := "java/lang/Math", name := "min", desc := "(II)I" } : Jvm.MethodName) jdk_29_method_69_code (2 : Nat) (Option.some Jvm.ClassFile.FieldType.int)).before args0 about1 = true := code_word (m := ⟨11, 1⟩) (meth := k11m1) (c := k11c1) (by decide +kernel) rfl rfl rfl (by decide +kernel)
set_option maxRecDepth 65536 in
theorem w_c16 : (Jvm.Cond.code ({ cls := "java/lang/StringUTF16", name := "toBytes", desc := "([CII)[B" } : Jvm.MethodName) jdk_52_method_14_code (5 : Nat) (Option.some (Jvm.ClassFile.FieldType.array Jvm.ClassFile.FieldType.byte))).before args0 about1 = true := code_word (m := ⟨8, 7⟩) (meth := k8m7) (c := k8c7) (by decide +kernel) rfl rfl rfl (by decide +kernel)
set_option maxRecDepth 65536 in
theorem w_c17 : (Jvm.Cond.code ({ cls := "java/lang/StringUTF16", name := "newBytesFor", desc := "(I)[B" } : Jvm.MethodName) jdk_52_method_2_code (1 : Nat) (Option.some (Jvm.ClassFile.FieldType.array Jvm.ClassFile.FieldType.byte))).before args0 about1 = true := code_word (m := ⟨8, 1⟩) (meth := k8m1) (c := k8c1) (by decide +kernel) rfl rfl rfl (by decide +kernel)
set_option maxRecDepth 65536 in
theorem w_c18 : (Jvm.Cond.code ({ cls := "java/lang/StringUTF16", name := "newBytesLength", desc := "(I)I" } : Jvm.MethodName) jdk_52_method_3_code (1 : Nat) (Option.some Jvm.ClassFile.FieldType.int)).before args0 about1 = true := code_word (m := ⟨8, 2⟩) (meth := k8m2) (c := k8c2) (by decide +kernel) rfl rfl rfl (by decide +kernel)
set_option maxRecDepth 65536 in
theorem w_c19 : (Jvm.Cond.code ({ cls := "java/lang/StringUTF16", name := "putChar", desc := "([BII)V" } : Jvm.MethodName) jdk_52_method_4_code (3 : Nat) (Option.none : Option Jvm.ClassFile.FieldType)).before args0 about1 = true := code_word (m := ⟨8, 3⟩) (meth := k8m3) (c := k8c3) (by decide +kernel) rfl rfl rfl (by decide +kernel)
set_option maxRecDepth 65536 in
theorem w_c20 : (Jvm.Cond.code ({ cls := "java/lang/StringUTF16", name := "getChar", desc := "([BI)C" } : Jvm.MethodName) jdk_52_method_5_code (2 : Nat) (Option.some Jvm.ClassFile.FieldType.char)).before args0 about1 = true := code_word (m := ⟨8, 4⟩) (meth := k8m4) (c := k8c4) (by decide +kernel) rfl rfl rfl (by decide +kernel)
set_option maxRecDepth 65536 in
theorem w_c21 : (Jvm.Cond.code ({ cls := "java/lang/StringUTF16", name := "toChars", desc := "([B)[C" } : Jvm.MethodName) jdk_52_method_13_code (2 : Nat) (Option.some (Jvm.ClassFile.FieldType.array Jvm.ClassFile.FieldType.char))).before args0 about1 = true := code_word (m := ⟨8, 6⟩) (meth := k8m6) (c := k8c6) (by decide +kernel) rfl rfl rfl (by decide +kernel)
set_option maxRecDepth 65536 in
theorem w_c22 : (Jvm.Cond.code ({ cls := "java/lang/StringUTF16", name := "getChars", desc := "([BII[CI)V" } : Jvm.MethodName) jdk_52_method_26_code (6 : Nat) (Option.none : Option Jvm.ClassFile.FieldType)).before args0 about1 = true := code_word (m := ⟨8, 11⟩) (meth := k8m11) (c := k8c11) (by decide +kernel) rfl rfl rfl (by decide +kernel)
set_option maxRecDepth 65536 in
theorem w_c23 : (Jvm.Cond.code ({ cls := "java/lang/StringUTF16", name := "checkBoundsOffCount", desc := "(II[B)V" } : Jvm.MethodName) jdk_52_method_94_code (3 : Nat) (Option.none : Option Jvm.ClassFile.FieldType)).before args0 about1 = true := code_word (m := ⟨8, 12⟩) (meth := k8m12) (c := k8c12) (by decide +kernel) rfl rfl rfl (by decide +kernel)
set_option maxRecDepth 65536 in
theorem w_c24 : (Jvm.Cond.code ({ cls := "java/lang/StringUTF16", name := "length", desc := "([B)I" } : Jvm.MethodName) jdk_52_method_6_code (1 : Nat) (Option.some Jvm.ClassFile.FieldType.int)).before args0 about1 = true := code_word (m := ⟨8, 5⟩) (meth := k8m5) (c := k8c5) (by decide +kernel) rfl rfl rfl (by decide +kernel)
set_option maxRecDepth 65536 in
theorem w_c25 : (Jvm.Cond.code ({ cls := "java/lang/String", name := "checkBoundsOffCount", desc := "(III)I" } : Jvm.MethodName) jdk_42_method_157_code (3 : Nat) (Option.some Jvm.ClassFile.FieldType.int)).before args0 about1 = true := code_word (m := ⟨7, 5⟩) (meth := k7m5) (c := k7c5) (by decide +kernel) rfl rfl rfl (by decide +kernel)
set_option maxRecDepth 65536 in
theorem w_c26 : (Jvm.Cond.code ({ cls := "jdk/internal/util/Preconditions", name := "checkFromIndexSize", desc := "(IIILjava/util/function/BiFunction;)I" } : Jvm.MethodName) jdk_41_method_13_code (4 : Nat) (Option.some Jvm.ClassFile.FieldType.int)).before args0 about1 = true := code_word (m := ⟨12, 1⟩) (meth := k12m1) (c := k12c1) (by decide +kernel) rfl rfl rfl (by decide +kernel)
def codes1 : List Jvm.Cond := [Jvm.Cond.code x code maxLocals ret, Jvm.Cond.code ({ cls := "java/lang/String", name := "<init>", desc := "([C)V" } : Jvm.MethodName) jdk_42_method_3_code (2 : Nat) (Option.none : Option Jvm.ClassFile.FieldType), Jvm.Cond.code ({ cls := "java/lang/String", name := "<init>", desc := "([CIILjava/lang/Void;)V" } : Jvm.MethodName) jdk_42_method_149_code (6 : Nat) (Option.none : Option Jvm.ClassFile.FieldType), Jvm.Cond.code ({ cls := "java/lang/Object", name := "<init>", desc := "()V" } : Jvm.MethodName) object_method_1_code (1 : Nat) (Option.none : Option Jvm.ClassFile.FieldType), Jvm.Cond.code ({ cls := "java/lang/StringUTF16", name := "compress", desc := "([CII)[B" } : Jvm.MethodName) jdk_52_method_16_code (6 : Nat) (Option.some (Jvm.ClassFile.FieldType.array Jvm.ClassFile.FieldType.byte)), Jvm.Cond.code ({ cls := "java/lang/StringUTF16", name := "compress", desc := "([CI[BII)I" } : Jvm.MethodName) jdk_52_method_21_code (7 : Nat) (Option.some Jvm.ClassFile.FieldType.int), Jvm.Cond.code ({ cls := "java/lang/StringUTF16", name := "coderFromArrayLen", desc := "([BI)B" } : Jvm.MethodName) jdk_52_method_15_code (2 : Nat) (Option.some Jvm.ClassFile.FieldType.byte), Jvm.Cond.code ({ cls := "com/example/libsymtree/libsymtree/theory/TextCursor", name := "<init>", desc := "(Ljava/lang/String;IILjava/lang/String;)V" } : Jvm.MethodName) prog_86_method_1_code (5 : Nat) (Option.none : Option Jvm.ClassFile.FieldType), Jvm.Cond.code ({ cls := "com/example/libsymtree/libsymtree/theory/TextCursor", name := "<init>", desc := "(Ljava/lang/String;IILjava/lang/String;Lcom/example/libsymtree/libsymtree/theory/TextCursor$Lines;)V" } : Jvm.MethodName) prog_86_method_4_code (6 : Nat) (Option.none : Option Jvm.ClassFile.FieldType), Jvm.Cond.code ({ cls := "java/lang/String", name := "toCharArray", desc := "()[C" } : Jvm.MethodName) jdk_42_method_129_code (1 : Nat) (Option.some (Jvm.ClassFile.FieldType.array Jvm.ClassFile.FieldType.char)), Jvm.Cond.code ({ cls := "java/lang/String", name := "isLatin1", desc := "()Z" } : Jvm.MethodName) jdk_42_method_154_code (1 : Nat) (Option.some Jvm.ClassFile.FieldType.boolean), Jvm.Cond.code ({ cls := "java/lang/StringLatin1", name := "toChars", desc := "([B)[C" } : Jvm.MethodName) jdk_43_method_9_code (2 : Nat) (Option.some (Jvm.ClassFile.FieldType.array Jvm.ClassFile.FieldType.char)), Jvm.Cond.code ({ cls := "java/lang/StringLatin1", name := "inflate", desc := "([BI[CII)V" } : Jvm.MethodName) jdk_43_method_49_code (6 : Nat) (Option.none : Option Jvm.ClassFile.FieldType), Jvm.Cond.code ({ cls := "com/example/libsymtree/libsymtree/theory/TextCursor", name := "consume", desc := "(C)Z" } : Jvm.MethodName) prog_86_method_11_code (3 : Nat) (Option.some Jvm.ClassFile.FieldType.boolean), Jvm.Cond.code ({ cls := "com/example/libsymtree/libsymtree/theory/TextCursor", name := "position", desc := "()I" } : Jvm.MethodName) prog_86_method_6_code (1 : Nat) (Option.some Jvm.ClassFile.FieldType.int), Jvm.Cond.code ({ cls := "java/lang/Math", name := "min", desc := "(II)I" } : Jvm.MethodName) jdk_29_method_69_code (2 : Nat) (Option.some Jvm.ClassFile.FieldType.int), Jvm.Cond.code ({ cls := "java/lang/StringUTF16", name := "toBytes", desc := "([CII)[B" } : Jvm.MethodName) jdk_52_method_14_code (5 : Nat) (Option.some (Jvm.ClassFile.FieldType.array Jvm.ClassFile.FieldType.byte)), Jvm.Cond.code ({ cls := "java/lang/StringUTF16", name := "newBytesFor", desc := "(I)[B" } : Jvm.MethodName) jdk_52_method_2_code (1 : Nat) (Option.some (Jvm.ClassFile.FieldType.array Jvm.ClassFile.FieldType.byte)), Jvm.Cond.code ({ cls := "java/lang/StringUTF16", name := "newBytesLength", desc := "(I)I" } : Jvm.MethodName) jdk_52_method_3_code (1 : Nat) (Option.some Jvm.ClassFile.FieldType.int), Jvm.Cond.code ({ cls := "java/lang/StringUTF16", name := "putChar", desc := "([BII)V" } : Jvm.MethodName) jdk_52_method_4_code (3 : Nat) (Option.none : Option Jvm.ClassFile.FieldType), Jvm.Cond.code ({ cls := "java/lang/StringUTF16", name := "getChar", desc := "([BI)C" } : Jvm.MethodName) jdk_52_method_5_code (2 : Nat) (Option.some Jvm.ClassFile.FieldType.char), Jvm.Cond.code ({ cls := "java/lang/StringUTF16", name := "toChars", desc := "([B)[C" } : Jvm.MethodName) jdk_52_method_13_code (2 : Nat) (Option.some (Jvm.ClassFile.FieldType.array Jvm.ClassFile.FieldType.char)), Jvm.Cond.code ({ cls := "java/lang/StringUTF16", name := "getChars", desc := "([BII[CI)V" } : Jvm.MethodName) jdk_52_method_26_code (6 : Nat) (Option.none : Option Jvm.ClassFile.FieldType), Jvm.Cond.code ({ cls := "java/lang/StringUTF16", name := "checkBoundsOffCount", desc := "(II[B)V" } : Jvm.MethodName) jdk_52_method_94_code (3 : Nat) (Option.none : Option Jvm.ClassFile.FieldType), Jvm.Cond.code ({ cls := "java/lang/StringUTF16", name := "length", desc := "([B)I" } : Jvm.MethodName) jdk_52_method_6_code (1 : Nat) (Option.some Jvm.ClassFile.FieldType.int), Jvm.Cond.code ({ cls := "java/lang/String", name := "checkBoundsOffCount", desc := "(III)I" } : Jvm.MethodName) jdk_42_method_157_code (3 : Nat) (Option.some Jvm.ClassFile.FieldType.int), Jvm.Cond.code ({ cls := "jdk/internal/util/Preconditions", name := "checkFromIndexSize", desc := "(IIILjava/util/function/BiFunction;)I" } : Jvm.MethodName) jdk_41_method_13_code (4 : Nat) (Option.some Jvm.ClassFile.FieldType.int)]
set_option maxRecDepth 65536 in
theorem codes_eq : words1.filter isCode = codes1 := rfl
theorem w_codes : ∀ c ∈ words1.filter isCode, c.before args0 about1 = true := by
  rw [codes_eq]
  intro c hc
  simp only [codes1, List.mem_cons, List.not_mem_nil, or_false] at hc
  rcases hc with rfl | rfl | rfl | rfl | rfl | rfl | rfl | rfl | rfl | rfl | rfl | rfl | rfl | rfl | rfl | rfl | rfl | rfl | rfl | rfl | rfl | rfl | rfl | rfl | rfl | rfl | rfl
  · exact w_c0
  · exact w_c1
  · exact w_c2
  · exact w_c3
  · exact w_c4
  · exact w_c5
  · exact w_c6
  · exact w_c7
  · exact w_c8
  · exact w_c9
  · exact w_c10
  · exact w_c11
  · exact w_c12
  · exact w_c13
  · exact w_c14
  · exact w_c15
  · exact w_c16
  · exact w_c17
  · exact w_c18
  · exact w_c19
  · exact w_c20
  · exact w_c21
  · exact w_c22
  · exact w_c23
  · exact w_c24
  · exact w_c25
  · exact w_c26
set_option maxRecDepth 65536 in
theorem w_t1 : (words1.take 24).all (fun c => isCode c || c.before args0 about1) = true := by decide +kernel
set_option maxRecDepth 65536 in
theorem w_t2 : ((words1.drop 24).take 24).all (fun c => isCode c || c.before args0 about1) = true := by decide +kernel
set_option maxRecDepth 65536 in
theorem w_t3 : (((words1.drop 24).drop 24).take 24).all (fun c => isCode c || c.before args0 about1) = true := by decide +kernel
set_option maxRecDepth 65536 in
theorem w_t4 : ((((words1.drop 24).drop 24).drop 24).take 24).all (fun c => isCode c || c.before args0 about1) = true := by decide +kernel
set_option maxRecDepth 65536 in
theorem w_t5 : (((((words1.drop 24).drop 24).drop 24).drop 24).take 24).all (fun c => isCode c || c.before args0 about1) = true := by decide +kernel
set_option maxRecDepth 65536 in
theorem w_t6 : (((((words1.drop 24).drop 24).drop 24).drop 24).drop 24).all (fun c => isCode c || c.before args0 about1) = true := by decide +kernel
theorem w_tables : (allAtoms (Jvm.Cond.code x code maxLocals ret :: tables_1)).before args0 about1 = true := by
  rw [allAtoms_all]
  show words1.all (fun c => c.before args0 about1) = true
  refine all_split ?_ w_codes
  rw [← List.take_append_drop 24 words1, List.all_append, w_t1, ← List.take_append_drop 24 (words1.drop 24), List.all_append, w_t2, ← List.take_append_drop 24 ((words1.drop 24).drop 24), List.all_append, w_t3, ← List.take_append_drop 24 (((words1.drop 24).drop 24).drop 24), List.all_append, w_t4, ← List.take_append_drop 24 ((((words1.drop 24).drop 24).drop 24).drop 24), List.all_append, w_t5, w_t6]
  rfl
set_option maxRecDepth 65536 in
theorem w_rest : rest_1_c.before args0 about1 = true := by decide +kernel
set_option maxRecDepth 65536 in
theorem w_case : (Jvm.Cond.and given_1 narrow_1).before args0 about1 = true := by decide +kernel
theorem w_applies : (headSpec (Jvm.Cond.code x code maxLocals ret :: tables_1) room_1).applies x e0.platform about1 = true :=
  (Spec.applies_iff w_frames).mpr ⟨w_running, w_runnable, w_alone, w_named, w_hears, w_ripe, w_room, w_tables⟩
theorem atStart : AtStart classFile x code maxLocals ret World_1 tables_1 room_1 Calls_1 rest_1 Pre_1 launch0 p0 e0 about1 theMethod args0 below0 :=
  ⟨lists_1, trivial, launch0.admits_env _ _ _, launch0.least_env, fairChoices_fair.cas, fairChoices_fair.clock, w_frames, w_args, w_heap, w_applies, trivial, w_rest, w_case⟩
end start1
theorem witness_1 : WitnessClaimed_1 := ⟨start1.p0, start1.e0, start1.about1, start1.theMethod, start1.args0, start1.below0, start1.atStart⟩
end Jvm.Pilot.@@N@@
