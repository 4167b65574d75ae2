import JvmDerived
import JvmDerived.Pilot.@@N@@Statement
import JvmDerived.Pilot.@@N@@Code
set_option linter.unusedVariables false
set_option linter.unusedSimpArgs false
namespace Jvm.RoadKit
open Sem ClassFile Op Lib Jvm.Stand Jvm.Free Jvm.LawKit
section OwnA
variable {p : Program} {l : Launch} {e : Env} {R : Room} {s : State} {m : MethodId} {args : Array Value} {below : List Frame} {meth : Method} {c : Code} {T : State} {locs : List Loc} {cells slots : Nat} {Z : State} {a0 : Array Value} {h : Heap}
/-- from T the run comes to an end of which K speaks -/
def Go (p : Program) (e : Env) (below : List Frame) (K : Outcome → State → Prop) (T : State) : Prop :=
  ∃ s₂ o, Steps p.tables e below T s₂ ∧ s₂.status = .running ∧ Ended s₂ below o ∧ K o s₂
theorem Go.of {K : Outcome → State → Prop} {T T' : State} (st : ∀ t, Steps p.tables e below T' t → Steps p.tables e below T t) (k : Go p e below K T') : Go p e below K T := by
  obtain ⟨t, o, h1, h2⟩ := k
  exact ⟨t, o, st t h1, h2⟩
/-- what stands through a whole body -/
def Cx (p : Program) (s : State) (m : MethodId) (meth : Method) (c : Code) (Z : State) (own : String) (bytes : ByteArray) (maxL : Nat) (ret : Option FieldType) (nm : String) : Prop :=
  p.tables.exec = Jvm.exec ∧ Z.Warmed39 s.vm ∧ c.code = bytes ∧ c.maxLocals = maxL ∧ s.vm.findClass own = some m.cls ∧ meth.sig.returnType = ret ∧ meth.name = nm ∧ meth.locks = false
variable {own nm : String} {bytes : ByteArray} {maxL : Nat} {ret : Option FieldType} {K : Outcome → State → Prop}
theorem Cx.hx (C : Cx p s m meth c Z own bytes maxL ret nm) : p.tables.exec = Jvm.exec := C.1
theorem Cx.hZ (C : Cx p s m meth c Z own bytes maxL ret nm) : Z.Warmed39 s.vm := C.2.1
theorem Cx.hby (C : Cx p s m meth c Z own bytes maxL ret nm) : c.code = bytes := C.2.2.1
theorem Cx.hml (C : Cx p s m meth c Z own bytes maxL ret nm) : c.maxLocals = maxL := C.2.2.2.1
theorem Cx.hown (C : Cx p s m meth c Z own bytes maxL ret nm) : s.vm.findClass own = some m.cls := C.2.2.2.2.1
theorem Cx.hret (C : Cx p s m meth c Z own bytes maxL ret nm) : meth.sig.returnType = ret := C.2.2.2.2.2.1
theorem Cx.hnm (C : Cx p s m meth c Z own bytes maxL ret nm) : meth.name = nm := C.2.2.2.2.2.2.1
theorem Cx.hlk (C : Cx p s m meth c Z own bytes maxL ret nm) : meth.locks = false := C.2.2.2.2.2.2.2
/-- the end of a body: what it returned, the heap, the places written -/
def EndQ (s : State) (Q : Option Value → Heap → List Loc → Prop) (k n : Nat) (o : Outcome) (t : State) : Prop := ∃ v L, o = .returned v ∧ Q v t.heap L ∧ FrameEnd s o t L k n
/-- a body's contract -/
def Ctr (l : Launch) (Z : State) (y : MethodName) (bytes : ByteArray) (maxL : Nat) (ret : Option FieldType) (rm : Room) (as' : Array Value) (h : Heap) (Q : Option Value → Heap → List Loc → Prop) : Prop :=
  ∀ ws, MetFree l y (head1 (Cond.code y bytes maxL ret :: ws) rm) (fun a U => a = as' ∧ Z.Warmed39 U.vm ∧ U.heap = h) (fun _ _ _ _ _ => True) (fun _ U o U' => EndQ U Q rm.cells rm.slots o U')
theorem Ctr.mk {y : MethodName} {rm : Room} {as' : Array Value} {Q : Option Value → Heap → List Loc → Prop} (hp : plainFor y = true) {ls : Array Slot} (hE : ∀ m : MethodId, entryFrame m as' maxL = mkF m 0 ls [])
    (body : ∀ (p : Program) (e : Env) (s : State) (m : MethodId) (below : List Frame) (meth : Method) (c : Code) (T : State), Cx p s m meth c Z y.cls bytes maxL ret y.name → Stand p l e rm s m as' below meth c T [] 0 0 → T.heap = h → s.heap = h → Go p e below (EndQ s Q rm.cells rm.slots) (T.setTop (mkF m 0 ls []))) :
    Ctr l Z y bytes maxL ret rm as' h Q := by
  intro ws
  refine MetFree.of_bodySF hp hisR ?_
  intro p e s m args below meth c s₁ Bd hml0 hP hK
  obtain ⟨rfl, hZ, hh⟩ := hP
  have q := body p e s m below meth c s₁ ⟨Bd.exec, hZ, Bd.bytes, hml0, findClass_of_methodNamed Bd.named, Bd.returns, (name_of_methodNamed Bd.named Bd.method).1, BodyLoose.notSynchronized Bd⟩ (Stand.of_body Bd) (by rw [← hh, Bd.state]; rfl) hh
  rw [← hE m] at q
  exact q
theorem Ctr.mono {y : MethodName} {rm : Room} {as' : Array Value} {Q Q' : Option Value → Heap → List Loc → Prop} (h1 : Ctr l Z y bytes maxL ret rm as' h Q) (h2 : ∀ v h' L, Q v h' L → Q' v h' L) : Ctr l Z y bytes maxL ret rm as' h Q' :=
  fun ws p e ha hc hk s m args below hf happ hP hK => by
    obtain ⟨n, o, g1, g2, g3, v, L, g4, g5, g6⟩ := h1 ws p e ha hc hk s m args below hf happ hP hK
    exact ⟨n, o, g1, g2, g3, v, L, g4, h2 _ _ _ g5, g6⟩
theorem Go.fin (C : Cx p s m meth c Z own bytes maxL ret nm) (X : Stand p l e R s m args below meth c T locs cells slots) (eT : T.heap = h) {v : Option Value} (hv : ret = none → v = none) {Q : Option Value → Heap → List Loc → Prop} {k n : Nat} (hQ : Q v h locs) (hc : cells ≤ k) (hn : slots ≤ n) {g : JFrame}
    (st : ∀ fs, (∀ (f : JFrame) (acts : List Action), f.method = m → f.locked = none → f.entered = [] → (doReturn e (T.setTop f) acts v).1 = T.setFrames fs) → Steps p.tables e below (T.setTop g) (T.setFrames fs)) : Go p e below (EndQ s Q k n) (T.setTop g) := by
  obtain ⟨fs, hr, hrun, hended, hW, hsame⟩ := X.leave (v := v) (fun h => hv (C.hret ▸ h)) C.hlk
  subst eT
  exact ⟨_, _, st fs hr, hrun, hended, _, _, rfl, hQ, ⟨_, rfl⟩, hW, hsame.mono hc hn⟩
theorem Go.ret0 (C : Cx p s m meth c Z own bytes maxL none nm) (X : Stand p l e R s m args below meth c T locs cells slots) (eT : T.heap = h) {pc : Nat} {ls : Array Slot} {Q : Option Value → Heap → List Loc → Prop} {k n : Nat} (hd : decode bytes pc = .ok (.return_, 1)) (hc : cells ≤ k) (hn : slots ≤ n) (hQ : Q none h locs) : Go p e below (EndQ s Q k n) (T.setTop (mkF m pc ls [])) :=
  Go.fin C X eT (v := none) (fun _ => rfl) hQ hc hn fun fs hr => X.returnOut C.hx C.hret (hb C.hby hd) hr
theorem Go.retI (C : Cx p s m meth c Z own bytes maxL (some .int) nm) (X : Stand p l e R s m args below meth c T locs cells slots) (eT : T.heap = h) {pc : Nat} {ls : Array Slot} {z : Int32} {rest : List Value} {Q : Option Value → Heap → List Loc → Prop} {k n : Nat} (hd : decode bytes pc = .ok (.ireturn, 1)) (hc : cells ≤ k) (hn : slots ≤ n) (hQ : Q (some (.int z)) h locs) : Go p e below (EndQ s Q k n) (T.setTop (mkF m pc ls (.int z :: rest))) :=
  Go.fin C X eT (v := some (.int z)) (fun h => nomatch h) hQ hc hn fun fs hr => retOut X C.hx C.hret rfl (Or.inl ⟨rfl, Or.inl rfl, z, rfl⟩) (hb C.hby hd) hr
theorem Go.retJ (C : Cx p s m meth c Z own bytes maxL (some .long) nm) (X : Stand p l e R s m args below meth c T locs cells slots) (eT : T.heap = h) {pc : Nat} {ls : Array Slot} {z : Int64} {rest : List Value} {Q : Option Value → Heap → List Loc → Prop} {k n : Nat} (hd : decode bytes pc = .ok (.lreturn, 1)) (hc : cells ≤ k) (hn : slots ≤ n) (hQ : Q (some (.long z)) h locs) : Go p e below (EndQ s Q k n) (T.setTop (mkF m pc ls (.long z :: rest))) :=
  Go.fin C X eT (v := some (.long z)) (fun h => nomatch h) hQ hc hn fun fs hr => retOut X C.hx C.hret rfl (Or.inr (Or.inl ⟨rfl, rfl, z, rfl⟩)) (hb C.hby hd) hr
theorem Go.retA {t : FieldType} (C : Cx p s m meth c Z own bytes maxL (some t) nm) (X : Stand p l e R s m args below meth c T locs cells slots) (eT : T.heap = h) {pc : Nat} {ls : Array Slot} {w : Value} {rest : List Value} {Q : Option Value → Heap → List Loc → Prop} {k n : Nat} (ht : t.isReference = true) (hn0 : narrow t w = w) (hw : w.isRef = true) (hd : decode bytes pc = .ok (.areturn, 1)) (hc : cells ≤ k) (hn : slots ≤ n) (hQ : Q (some w) h locs) : Go p e below (EndQ s Q k n) (T.setTop (mkF m pc ls (w :: rest))) :=
  Go.fin C X eT (v := some w) (fun h => nomatch h) hQ hc hn fun fs hr => retOut X C.hx C.hret hn0 (Or.inr (Or.inr (Or.inr (Or.inr ⟨rfl, ht, hw⟩)))) (hb C.hby hd) hr
theorem Go.retN {t : FieldType} (C : Cx p s m meth c Z own bytes maxL (some t) nm) (X : Stand p l e R s m args below meth c T locs cells slots) (eT : T.heap = h) {pc : Nat} {ls : Array Slot} {z w : Int32} {rest : List Value} {Q : Option Value → Heap → List Loc → Prop} {k n : Nat} (ht : t = .boolean ∨ t = .byte ∨ t = .char ∨ t = .short) (hw : nar t z = w) (hd : decode bytes pc = .ok (.ireturn, 1)) (hc : cells ≤ k) (hn : slots ≤ n) (hQ : Q (some (.int w)) h locs) : Go p e below (EndQ s Q k n) (T.setTop (mkF m pc ls (.int z :: rest))) := by
  subst hw
  exact Go.fin C X eT (v := some (.int (nar t z))) (fun h => nomatch h) hQ hc hn fun fs hr => Jvm.RoadKit.retN X C.hx C.hret ht (hb C.hby hd) hr
theorem Go.iloadN (C : Cx p s m meth c Z own bytes maxL ret nm) (X : Stand p l e R s m args below meth c T locs cells slots) {pc n : Nat} {ls : Array Slot} {rest : List Value} {k : Fin 4} {v : Int32} (hd : decode bytes pc = .ok (.iload_n k, 1)) (hn : pc + 1 = n) (hl : ls[k.val]? = some (.val (.int v))) (k : Go p e below K (T.setTop (mkF m n ls (.int v :: rest)))) : Go p e below K (T.setTop (mkF m pc ls (rest))) := by
  subst hn
  exact Go.of (fun t q => XS.iloadN X.here C.hx rfl (hb C.hby hd) hl q) k
theorem Go.iload (C : Cx p s m meth c Z own bytes maxL ret nm) (X : Stand p l e R s m args below meth c T locs cells slots) {pc n : Nat} {ls : Array Slot} {rest : List Value} {k : Nat} {v : Int32} (hd : decode bytes pc = .ok (.iload k, 2)) (hn : pc + 2 = n) (hl : ls[k]? = some (.val (.int v))) (k : Go p e below K (T.setTop (mkF m n ls (.int v :: rest)))) : Go p e below K (T.setTop (mkF m pc ls (rest))) := by
  subst hn
  exact Go.of (fun t q => XS.iload X.here C.hx rfl (hb C.hby hd) hl q) k
theorem Go.istoreN (C : Cx p s m meth c Z own bytes maxL ret nm) (X : Stand p l e R s m args below meth c T locs cells slots) {pc n : Nat} {ls : Array Slot} {rest : List Value} {k : Fin 4} {v : Int32} {l' : Array Slot} (hd : decode bytes pc = .ok (.istore_n k, 1)) (hn : pc + 1 = n) (hl : storeLocals ls k.val (.int v) = some l') (k : Go p e below K (T.setTop (mkF m n l' (rest)))) : Go p e below K (T.setTop (mkF m pc ls (.int v :: rest))) := by
  subst hn
  exact Go.of (fun t q => XS.istoreN X.here C.hx rfl (hb C.hby hd) rfl hl q) k
theorem Go.istore (C : Cx p s m meth c Z own bytes maxL ret nm) (X : Stand p l e R s m args below meth c T locs cells slots) {pc n : Nat} {ls : Array Slot} {rest : List Value} {k : Nat} {v : Int32} {l' : Array Slot} (hd : decode bytes pc = .ok (.istore k, 2)) (hn : pc + 2 = n) (hl : storeLocals ls k (.int v) = some l') (k : Go p e below K (T.setTop (mkF m n l' (rest)))) : Go p e below K (T.setTop (mkF m pc ls (.int v :: rest))) := by
  subst hn
  exact Go.of (fun t q => XS.istore X.here C.hx rfl (hb C.hby hd) rfl hl q) k
theorem Go.lloadN (C : Cx p s m meth c Z own bytes maxL ret nm) (X : Stand p l e R s m args below meth c T locs cells slots) {pc n : Nat} {ls : Array Slot} {rest : List Value} {k : Fin 4} {v : Int64} (hd : decode bytes pc = .ok (.lload_n k, 1)) (hn : pc + 1 = n) (hl : ls[k.val]? = some (.val (.long v))) (k : Go p e below K (T.setTop (mkF m n ls (.long v :: rest)))) : Go p e below K (T.setTop (mkF m pc ls (rest))) := by
  subst hn
  exact Go.of (fun t q => XT.lloadN X.here C.hx rfl (hb C.hby hd) hl q) k
theorem Go.lload (C : Cx p s m meth c Z own bytes maxL ret nm) (X : Stand p l e R s m args below meth c T locs cells slots) {pc n : Nat} {ls : Array Slot} {rest : List Value} {k : Nat} {v : Int64} (hd : decode bytes pc = .ok (.lload k, 2)) (hn : pc + 2 = n) (hl : ls[k]? = some (.val (.long v))) (k : Go p e below K (T.setTop (mkF m n ls (.long v :: rest)))) : Go p e below K (T.setTop (mkF m pc ls (rest))) := by
  subst hn
  exact Go.of (fun t q => XT.lload X.here C.hx rfl (hb C.hby hd) hl q) k
theorem Go.lstoreN (C : Cx p s m meth c Z own bytes maxL ret nm) (X : Stand p l e R s m args below meth c T locs cells slots) {pc n : Nat} {ls : Array Slot} {rest : List Value} {k : Fin 4} {v : Int64} {l' : Array Slot} (hd : decode bytes pc = .ok (.lstore_n k, 1)) (hn : pc + 1 = n) (hl : storeLocals ls k.val (.long v) = some l') (k : Go p e below K (T.setTop (mkF m n l' (rest)))) : Go p e below K (T.setTop (mkF m pc ls (.long v :: rest))) := by
  subst hn
  exact Go.of (fun t q => XT.lstoreN X.here C.hx rfl (hb C.hby hd) rfl hl q) k
theorem Go.lstore (C : Cx p s m meth c Z own bytes maxL ret nm) (X : Stand p l e R s m args below meth c T locs cells slots) {pc n : Nat} {ls : Array Slot} {rest : List Value} {k : Nat} {v : Int64} {l' : Array Slot} (hd : decode bytes pc = .ok (.lstore k, 2)) (hn : pc + 2 = n) (hl : storeLocals ls k (.long v) = some l') (k : Go p e below K (T.setTop (mkF m n l' (rest)))) : Go p e below K (T.setTop (mkF m pc ls (.long v :: rest))) := by
  subst hn
  exact Go.of (fun t q => XT.lstore X.here C.hx rfl (hb C.hby hd) rfl hl q) k
theorem Go.aloadN (C : Cx p s m meth c Z own bytes maxL ret nm) (X : Stand p l e R s m args below meth c T locs cells slots) {pc n : Nat} {ls : Array Slot} {rest : List Value} {k : Fin 4} {v : Value} (hd : decode bytes pc = .ok (.aload_n k, 1)) (hn : pc + 1 = n) (hl : ls[k.val]? = some (.val v)) (hv : v.isRef = true) (k : Go p e below K (T.setTop (mkF m n ls (v :: rest)))) : Go p e below K (T.setTop (mkF m pc ls (rest))) := by
  subst hn
  exact Go.of (fun t q => XS.aloadN X.here C.hx rfl (hb C.hby hd) hl hv q) k
theorem Go.aload (C : Cx p s m meth c Z own bytes maxL ret nm) (X : Stand p l e R s m args below meth c T locs cells slots) {pc n : Nat} {ls : Array Slot} {rest : List Value} {k : Nat} {v : Value} (hd : decode bytes pc = .ok (.aload k, 2)) (hn : pc + 2 = n) (hl : ls[k]? = some (.val v)) (hv : v.isRef = true) (k : Go p e below K (T.setTop (mkF m n ls (v :: rest)))) : Go p e below K (T.setTop (mkF m pc ls (rest))) := by
  subst hn
  exact Go.of (fun t q => XS.aload X.here C.hx rfl (hb C.hby hd) hl hv q) k
theorem Go.astoreN (C : Cx p s m meth c Z own bytes maxL ret nm) (X : Stand p l e R s m args below meth c T locs cells slots) {pc n : Nat} {ls : Array Slot} {rest : List Value} {k : Fin 4} {v : Value} {l' : Array Slot} (hd : decode bytes pc = .ok (.astore_n k, 1)) (hn : pc + 1 = n) (hv : v.isRef = true) (hl : storeLocals ls k.val v = some l') (k : Go p e below K (T.setTop (mkF m n l' (rest)))) : Go p e below K (T.setTop (mkF m pc ls (v :: rest))) := by
  subst hn
  exact Go.of (fun t q => XS.astoreN X.here C.hx rfl (hb C.hby hd) rfl hv hl q) k
theorem Go.astore (C : Cx p s m meth c Z own bytes maxL ret nm) (X : Stand p l e R s m args below meth c T locs cells slots) {pc n : Nat} {ls : Array Slot} {rest : List Value} {k : Nat} {v : Value} {l' : Array Slot} (hd : decode bytes pc = .ok (.astore k, 2)) (hn : pc + 2 = n) (hv : v.isRef = true) (hl : storeLocals ls k v = some l') (k : Go p e below K (T.setTop (mkF m n l' (rest)))) : Go p e below K (T.setTop (mkF m pc ls (v :: rest))) := by
  subst hn
  exact Go.of (fun t q => XS.astore X.here C.hx rfl (hb C.hby hd) rfl hv hl q) k
theorem Go.iconst (C : Cx p s m meth c Z own bytes maxL ret nm) (X : Stand p l e R s m args below meth c T locs cells slots) {pc n : Nat} {ls : Array Slot} {rest : List Value} {i : Int} {v : Int32} (hd : decode bytes pc = .ok (.iconst i, 1)) (hn : pc + 1 = n) (hv : Int32.ofInt i = v) (k : Go p e below K (T.setTop (mkF m n ls (.int v :: rest)))) : Go p e below K (T.setTop (mkF m pc ls (rest))) := by
  subst hn
  exact Go.of (fun t q => XT.iconstV X.here C.hx rfl v (hb C.hby hd) hv q) k
theorem Go.bipush (C : Cx p s m meth c Z own bytes maxL ret nm) (X : Stand p l e R s m args below meth c T locs cells slots) {pc n : Nat} {ls : Array Slot} {rest : List Value} {i : Int} {v : Int32} (hd : decode bytes pc = .ok (.bipush i, 2)) (hn : pc + 2 = n) (hv : (Int8.ofInt i).toInt32 = v) (k : Go p e below K (T.setTop (mkF m n ls (.int v :: rest)))) : Go p e below K (T.setTop (mkF m pc ls (rest))) := by
  subst hn
  exact Go.of (fun t q => XT.bipushV X.here C.hx rfl v (hb C.hby hd) hv q) k
theorem Go.sipush (C : Cx p s m meth c Z own bytes maxL ret nm) (X : Stand p l e R s m args below meth c T locs cells slots) {pc n : Nat} {ls : Array Slot} {rest : List Value} {i : Int} {v : Int32} (hd : decode bytes pc = .ok (.sipush i, 3)) (hn : pc + 3 = n) (hv : (Int16.ofInt i).toInt32 = v) (k : Go p e below K (T.setTop (mkF m n ls (.int v :: rest)))) : Go p e below K (T.setTop (mkF m pc ls (rest))) := by
  subst hn
  exact Go.of (fun t q => XT.sipushV X.here C.hx rfl v (hb C.hby hd) hv q) k
theorem Go.lconst (C : Cx p s m meth c Z own bytes maxL ret nm) (X : Stand p l e R s m args below meth c T locs cells slots) {pc n : Nat} {ls : Array Slot} {rest : List Value} {i : Fin 2} {v : Int64} (hd : decode bytes pc = .ok (.lconst i, 1)) (hn : pc + 1 = n) (hv : Int64.ofNat i = v) (k : Go p e below K (T.setTop (mkF m n ls (.long v :: rest)))) : Go p e below K (T.setTop (mkF m pc ls (rest))) := by
  subst hn
  exact Go.of (fun t q => XT.lconstV X.here C.hx rfl v (hb C.hby hd) hv q) k
theorem Go.aconstNull (C : Cx p s m meth c Z own bytes maxL ret nm) (X : Stand p l e R s m args below meth c T locs cells slots) {pc n : Nat} {ls : Array Slot} {rest : List Value}  (hd : decode bytes pc = .ok (.aconst_null, 1)) (hn : pc + 1 = n) (k : Go p e below K (T.setTop (mkF m n ls (.null :: rest)))) : Go p e below K (T.setTop (mkF m pc ls (rest))) := by
  subst hn
  exact Go.of (fun t q => XS.aconstNull X.here C.hx rfl (hb C.hby hd) q) k
theorem Go.iadd (C : Cx p s m meth c Z own bytes maxL ret nm) (X : Stand p l e R s m args below meth c T locs cells slots) {pc n : Nat} {ls : Array Slot} {rest : List Value} {x y : Int32} (hd : decode bytes pc = .ok (.iadd, 1)) (hn : pc + 1 = n) (k : Go p e below K (T.setTop (mkF m n ls (.int (x + y) :: rest)))) : Go p e below K (T.setTop (mkF m pc ls (.int y :: .int x :: rest))) := by
  subst hn
  exact Go.of (fun t q => XS.iadd X.here C.hx rfl (hb C.hby hd) rfl q) k
theorem Go.ladd (C : Cx p s m meth c Z own bytes maxL ret nm) (X : Stand p l e R s m args below meth c T locs cells slots) {pc n : Nat} {ls : Array Slot} {rest : List Value} {x y : Int64} (hd : decode bytes pc = .ok (.ladd, 1)) (hn : pc + 1 = n) (k : Go p e below K (T.setTop (mkF m n ls (.long (x + y) :: rest)))) : Go p e below K (T.setTop (mkF m pc ls (.long y :: .long x :: rest))) := by
  subst hn
  exact Go.of (fun t q => XT.ladd X.here C.hx rfl (hb C.hby hd) rfl q) k
theorem Go.isub (C : Cx p s m meth c Z own bytes maxL ret nm) (X : Stand p l e R s m args below meth c T locs cells slots) {pc n : Nat} {ls : Array Slot} {rest : List Value} {x y : Int32} (hd : decode bytes pc = .ok (.isub, 1)) (hn : pc + 1 = n) (k : Go p e below K (T.setTop (mkF m n ls (.int (x - y) :: rest)))) : Go p e below K (T.setTop (mkF m pc ls (.int y :: .int x :: rest))) := by
  subst hn
  exact Go.of (fun t q => XS.isub X.here C.hx rfl (hb C.hby hd) rfl q) k
theorem Go.lsub (C : Cx p s m meth c Z own bytes maxL ret nm) (X : Stand p l e R s m args below meth c T locs cells slots) {pc n : Nat} {ls : Array Slot} {rest : List Value} {x y : Int64} (hd : decode bytes pc = .ok (.lsub, 1)) (hn : pc + 1 = n) (k : Go p e below K (T.setTop (mkF m n ls (.long (x - y) :: rest)))) : Go p e below K (T.setTop (mkF m pc ls (.long y :: .long x :: rest))) := by
  subst hn
  exact Go.of (fun t q => XT.lsub X.here C.hx rfl (hb C.hby hd) rfl q) k
theorem Go.imul (C : Cx p s m meth c Z own bytes maxL ret nm) (X : Stand p l e R s m args below meth c T locs cells slots) {pc n : Nat} {ls : Array Slot} {rest : List Value} {x y : Int32} (hd : decode bytes pc = .ok (.imul, 1)) (hn : pc + 1 = n) (k : Go p e below K (T.setTop (mkF m n ls (.int (x * y) :: rest)))) : Go p e below K (T.setTop (mkF m pc ls (.int y :: .int x :: rest))) := by
  subst hn
  exact Go.of (fun t q => XS.imul X.here C.hx rfl (hb C.hby hd) rfl q) k
theorem Go.lmul (C : Cx p s m meth c Z own bytes maxL ret nm) (X : Stand p l e R s m args below meth c T locs cells slots) {pc n : Nat} {ls : Array Slot} {rest : List Value} {x y : Int64} (hd : decode bytes pc = .ok (.lmul, 1)) (hn : pc + 1 = n) (k : Go p e below K (T.setTop (mkF m n ls (.long (x * y) :: rest)))) : Go p e below K (T.setTop (mkF m pc ls (.long y :: .long x :: rest))) := by
  subst hn
  exact Go.of (fun t q => XT.lmul X.here C.hx rfl (hb C.hby hd) rfl q) k
theorem Go.iand (C : Cx p s m meth c Z own bytes maxL ret nm) (X : Stand p l e R s m args below meth c T locs cells slots) {pc n : Nat} {ls : Array Slot} {rest : List Value} {x y : Int32} (hd : decode bytes pc = .ok (.iand, 1)) (hn : pc + 1 = n) (k : Go p e below K (T.setTop (mkF m n ls (.int (x &&& y) :: rest)))) : Go p e below K (T.setTop (mkF m pc ls (.int y :: .int x :: rest))) := by
  subst hn
  exact Go.of (fun t q => XS.iand X.here C.hx rfl (hb C.hby hd) rfl q) k
theorem Go.land (C : Cx p s m meth c Z own bytes maxL ret nm) (X : Stand p l e R s m args below meth c T locs cells slots) {pc n : Nat} {ls : Array Slot} {rest : List Value} {x y : Int64} (hd : decode bytes pc = .ok (.land, 1)) (hn : pc + 1 = n) (k : Go p e below K (T.setTop (mkF m n ls (.long (x &&& y) :: rest)))) : Go p e below K (T.setTop (mkF m pc ls (.long y :: .long x :: rest))) := by
  subst hn
  exact Go.of (fun t q => XT.land X.here C.hx rfl (hb C.hby hd) rfl q) k
theorem Go.ior (C : Cx p s m meth c Z own bytes maxL ret nm) (X : Stand p l e R s m args below meth c T locs cells slots) {pc n : Nat} {ls : Array Slot} {rest : List Value} {x y : Int32} (hd : decode bytes pc = .ok (.ior, 1)) (hn : pc + 1 = n) (k : Go p e below K (T.setTop (mkF m n ls (.int (x ||| y) :: rest)))) : Go p e below K (T.setTop (mkF m pc ls (.int y :: .int x :: rest))) := by
  subst hn
  exact Go.of (fun t q => XT.ior X.here C.hx rfl (hb C.hby hd) rfl q) k
theorem Go.lor (C : Cx p s m meth c Z own bytes maxL ret nm) (X : Stand p l e R s m args below meth c T locs cells slots) {pc n : Nat} {ls : Array Slot} {rest : List Value} {x y : Int64} (hd : decode bytes pc = .ok (.lor, 1)) (hn : pc + 1 = n) (k : Go p e below K (T.setTop (mkF m n ls (.long (x ||| y) :: rest)))) : Go p e below K (T.setTop (mkF m pc ls (.long y :: .long x :: rest))) := by
  subst hn
  exact Go.of (fun t q => XT.lor X.here C.hx rfl (hb C.hby hd) rfl q) k
theorem Go.ixor (C : Cx p s m meth c Z own bytes maxL ret nm) (X : Stand p l e R s m args below meth c T locs cells slots) {pc n : Nat} {ls : Array Slot} {rest : List Value} {x y : Int32} (hd : decode bytes pc = .ok (.ixor, 1)) (hn : pc + 1 = n) (k : Go p e below K (T.setTop (mkF m n ls (.int (x ^^^ y) :: rest)))) : Go p e below K (T.setTop (mkF m pc ls (.int y :: .int x :: rest))) := by
  subst hn
  exact Go.of (fun t q => XT.ixor X.here C.hx rfl (hb C.hby hd) rfl q) k
theorem Go.lxor (C : Cx p s m meth c Z own bytes maxL ret nm) (X : Stand p l e R s m args below meth c T locs cells slots) {pc n : Nat} {ls : Array Slot} {rest : List Value} {x y : Int64} (hd : decode bytes pc = .ok (.lxor, 1)) (hn : pc + 1 = n) (k : Go p e below K (T.setTop (mkF m n ls (.long (x ^^^ y) :: rest)))) : Go p e below K (T.setTop (mkF m pc ls (.long y :: .long x :: rest))) := by
  subst hn
  exact Go.of (fun t q => XT.lxor X.here C.hx rfl (hb C.hby hd) rfl q) k
theorem Go.ishl (C : Cx p s m meth c Z own bytes maxL ret nm) (X : Stand p l e R s m args below meth c T locs cells slots) {pc n : Nat} {ls : Array Slot} {rest : List Value} {x y : Int32} (hd : decode bytes pc = .ok (.ishl, 1)) (hn : pc + 1 = n) (k : Go p e below K (T.setTop (mkF m n ls (.int (x <<< (y &&& 31)) :: rest)))) : Go p e below K (T.setTop (mkF m pc ls (.int y :: .int x :: rest))) := by
  subst hn
  exact Go.of (fun t q => XT.ishl X.here C.hx rfl (hb C.hby hd) rfl q) k
theorem Go.ishr (C : Cx p s m meth c Z own bytes maxL ret nm) (X : Stand p l e R s m args below meth c T locs cells slots) {pc n : Nat} {ls : Array Slot} {rest : List Value} {x y : Int32} (hd : decode bytes pc = .ok (.ishr, 1)) (hn : pc + 1 = n) (k : Go p e below K (T.setTop (mkF m n ls (.int (x >>> (y &&& 31)) :: rest)))) : Go p e below K (T.setTop (mkF m pc ls (.int y :: .int x :: rest))) := by
  subst hn
  exact Go.of (fun t q => XT.ishr X.here C.hx rfl (hb C.hby hd) rfl q) k
theorem Go.iushr (C : Cx p s m meth c Z own bytes maxL ret nm) (X : Stand p l e R s m args below meth c T locs cells slots) {pc n : Nat} {ls : Array Slot} {rest : List Value} {x y : Int32} (hd : decode bytes pc = .ok (.iushr, 1)) (hn : pc + 1 = n) (k : Go p e below K (T.setTop (mkF m n ls (.int (XT.ushr x y) :: rest)))) : Go p e below K (T.setTop (mkF m pc ls (.int y :: .int x :: rest))) := by
  subst hn
  exact Go.of (fun t q => XT.iushr X.here C.hx rfl (hb C.hby hd) rfl q) k
theorem Go.idiv (C : Cx p s m meth c Z own bytes maxL ret nm) (X : Stand p l e R s m args below meth c T locs cells slots) {pc n : Nat} {ls : Array Slot} {rest : List Value} {x y : Int32} (hd : decode bytes pc = .ok (.idiv, 1)) (hn : pc + 1 = n) (hy : y ≠ 0) (k : Go p e below K (T.setTop (mkF m n ls (.int (x / y) :: rest)))) : Go p e below K (T.setTop (mkF m pc ls (.int y :: .int x :: rest))) := by
  subst hn
  exact Go.of (fun t q => XS.idiv X.here C.hx rfl (hb C.hby hd) rfl hy q) k
theorem Go.irem (C : Cx p s m meth c Z own bytes maxL ret nm) (X : Stand p l e R s m args below meth c T locs cells slots) {pc n : Nat} {ls : Array Slot} {rest : List Value} {x y : Int32} (hd : decode bytes pc = .ok (.irem, 1)) (hn : pc + 1 = n) (hy : y ≠ 0) (k : Go p e below K (T.setTop (mkF m n ls (.int (x % y) :: rest)))) : Go p e below K (T.setTop (mkF m pc ls (.int y :: .int x :: rest))) := by
  subst hn
  exact Go.of (fun t q => iremM X C.hx rfl (hb C.hby hd) rfl hy q) k
theorem Go.ldiv (C : Cx p s m meth c Z own bytes maxL ret nm) (X : Stand p l e R s m args below meth c T locs cells slots) {pc n : Nat} {ls : Array Slot} {rest : List Value} {x y : Int64} (hd : decode bytes pc = .ok (.ldiv, 1)) (hn : pc + 1 = n) (hy : y ≠ 0) (k : Go p e below K (T.setTop (mkF m n ls (.long (x / y) :: rest)))) : Go p e below K (T.setTop (mkF m pc ls (.long y :: .long x :: rest))) := by
  subst hn
  exact Go.of (fun t q => XT.ldiv X.here C.hx rfl (hb C.hby hd) rfl hy q) k
theorem Go.lrem (C : Cx p s m meth c Z own bytes maxL ret nm) (X : Stand p l e R s m args below meth c T locs cells slots) {pc n : Nat} {ls : Array Slot} {rest : List Value} {x y : Int64} (hd : decode bytes pc = .ok (.lrem, 1)) (hn : pc + 1 = n) (hy : y ≠ 0) (k : Go p e below K (T.setTop (mkF m n ls (.long (x - (x / y) * y) :: rest)))) : Go p e below K (T.setTop (mkF m pc ls (.long y :: .long x :: rest))) := by
  subst hn
  exact Go.of (fun t q => XT.lrem X.here C.hx rfl (hb C.hby hd) rfl hy q) k
theorem Go.ineg (C : Cx p s m meth c Z own bytes maxL ret nm) (X : Stand p l e R s m args below meth c T locs cells slots) {pc n : Nat} {ls : Array Slot} {rest : List Value} {x : Int32} (hd : decode bytes pc = .ok (.ineg, 1)) (hn : pc + 1 = n) (k : Go p e below K (T.setTop (mkF m n ls (.int (-x) :: rest)))) : Go p e below K (T.setTop (mkF m pc ls (.int x :: rest))) := by
  subst hn
  exact Go.of (fun t q => XS.ineg X.here C.hx rfl (hb C.hby hd) rfl q) k
theorem Go.i2l (C : Cx p s m meth c Z own bytes maxL ret nm) (X : Stand p l e R s m args below meth c T locs cells slots) {pc n : Nat} {ls : Array Slot} {rest : List Value} {x : Int32} (hd : decode bytes pc = .ok (.i2l, 1)) (hn : pc + 1 = n) (k : Go p e below K (T.setTop (mkF m n ls (.long (x.toInt64) :: rest)))) : Go p e below K (T.setTop (mkF m pc ls (.int x :: rest))) := by
  subst hn
  exact Go.of (fun t q => XT.i2l X.here C.hx rfl (hb C.hby hd) rfl q) k
theorem Go.i2b (C : Cx p s m meth c Z own bytes maxL ret nm) (X : Stand p l e R s m args below meth c T locs cells slots) {pc n : Nat} {ls : Array Slot} {rest : List Value} {x : Int32} (hd : decode bytes pc = .ok (.i2b, 1)) (hn : pc + 1 = n) (k : Go p e below K (T.setTop (mkF m n ls (.int (x.toInt8.toInt32) :: rest)))) : Go p e below K (T.setTop (mkF m pc ls (.int x :: rest))) := by
  subst hn
  exact Go.of (fun t q => XT.i2b X.here C.hx rfl (hb C.hby hd) rfl q) k
theorem Go.i2c (C : Cx p s m meth c Z own bytes maxL ret nm) (X : Stand p l e R s m args below meth c T locs cells slots) {pc n : Nat} {ls : Array Slot} {rest : List Value} {x : Int32} (hd : decode bytes pc = .ok (.i2c, 1)) (hn : pc + 1 = n) (k : Go p e below K (T.setTop (mkF m n ls (.int (x.toUInt32.toUInt16.toUInt32.toInt32) :: rest)))) : Go p e below K (T.setTop (mkF m pc ls (.int x :: rest))) := by
  subst hn
  exact Go.of (fun t q => XT.i2c X.here C.hx rfl (hb C.hby hd) rfl q) k
theorem Go.i2s (C : Cx p s m meth c Z own bytes maxL ret nm) (X : Stand p l e R s m args below meth c T locs cells slots) {pc n : Nat} {ls : Array Slot} {rest : List Value} {x : Int32} (hd : decode bytes pc = .ok (.i2s, 1)) (hn : pc + 1 = n) (k : Go p e below K (T.setTop (mkF m n ls (.int (x.toInt16.toInt32) :: rest)))) : Go p e below K (T.setTop (mkF m pc ls (.int x :: rest))) := by
  subst hn
  exact Go.of (fun t q => XT.i2s X.here C.hx rfl (hb C.hby hd) rfl q) k
theorem Go.l2i (C : Cx p s m meth c Z own bytes maxL ret nm) (X : Stand p l e R s m args below meth c T locs cells slots) {pc n : Nat} {ls : Array Slot} {rest : List Value} {x : Int64} (hd : decode bytes pc = .ok (.l2i, 1)) (hn : pc + 1 = n) (k : Go p e below K (T.setTop (mkF m n ls (.int (x.toInt32) :: rest)))) : Go p e below K (T.setTop (mkF m pc ls (.long x :: rest))) := by
  subst hn
  exact Go.of (fun t q => XT.l2i X.here C.hx rfl (hb C.hby hd) rfl q) k
theorem Go.lcmp (C : Cx p s m meth c Z own bytes maxL ret nm) (X : Stand p l e R s m args below meth c T locs cells slots) {pc n : Nat} {ls : Array Slot} {rest : List Value} {x y : Int64} (hd : decode bytes pc = .ok (.lcmp, 1)) (hn : pc + 1 = n) (k : Go p e below K (T.setTop (mkF m n ls (.int (XT.cmpL x y) :: rest)))) : Go p e below K (T.setTop (mkF m pc ls (.long y :: .long x :: rest))) := by
  subst hn
  exact Go.of (fun t q => XT.lcmp X.here C.hx rfl (hb C.hby hd) rfl q) k
theorem Go.iinc (C : Cx p s m meth c Z own bytes maxL ret nm) (X : Stand p l e R s m args below meth c T locs cells slots) {pc n : Nat} {ls : Array Slot} {rest : List Value} {k : Nat} {cst : Int} {x v : Int32} {l' : Array Slot} (hd : decode bytes pc = .ok (.iinc k cst, 3)) (hn : pc + 3 = n) (hv : Int32.ofInt cst = v) (hl : ls[k]? = some (.val (.int x))) (hl' : storeLocals ls k (.int (x + v)) = some l') (k : Go p e below K (T.setTop (mkF m n l' (rest)))) : Go p e below K (T.setTop (mkF m pc ls (rest))) := by
  subst hn
  exact Go.of (fun t q => XT.iincV X.here C.hx rfl v (hb C.hby hd) hv hl hl' q) k
theorem Go.dup (C : Cx p s m meth c Z own bytes maxL ret nm) (X : Stand p l e R s m args below meth c T locs cells slots) {pc n : Nat} {ls : Array Slot} {rest : List Value} {x : Value} (hd : decode bytes pc = .ok (.dup, 1)) (hn : pc + 1 = n) (hc : x.category = 1) (k : Go p e below K (T.setTop (mkF m n ls (x :: x :: rest)))) : Go p e below K (T.setTop (mkF m pc ls (x :: rest))) := by
  subst hn
  exact Go.of (fun t q => XS.dup X.here C.hx rfl (hb C.hby hd) rfl hc q) k
theorem Go.dupX1 (C : Cx p s m meth c Z own bytes maxL ret nm) (X : Stand p l e R s m args below meth c T locs cells slots) {pc n : Nat} {ls : Array Slot} {rest : List Value} {x y : Value} (hd : decode bytes pc = .ok (.dup_x1, 1)) (hn : pc + 1 = n) (hc : x.category = 1) (hc' : y.category = 1) (k : Go p e below K (T.setTop (mkF m n ls (x :: y :: x :: rest)))) : Go p e below K (T.setTop (mkF m pc ls (x :: y :: rest))) := by
  subst hn
  exact Go.of (fun t q => XT.dupX1 X.here C.hx rfl (hb C.hby hd) rfl hc hc' q) k
theorem Go.dup2 (C : Cx p s m meth c Z own bytes maxL ret nm) (X : Stand p l e R s m args below meth c T locs cells slots) {pc n : Nat} {ls : Array Slot} {rest : List Value} {x y : Value} (hd : decode bytes pc = .ok (.dup2, 1)) (hn : pc + 1 = n) (hc : x.category = 1) (hc' : y.category = 1) (k : Go p e below K (T.setTop (mkF m n ls (x :: y :: x :: y :: rest)))) : Go p e below K (T.setTop (mkF m pc ls (x :: y :: rest))) := by
  subst hn
  exact Go.of (fun t q => XT.dup2 X.here C.hx rfl (hb C.hby hd) rfl hc hc' q) k
theorem Go.pop (C : Cx p s m meth c Z own bytes maxL ret nm) (X : Stand p l e R s m args below meth c T locs cells slots) {pc n : Nat} {ls : Array Slot} {rest : List Value} {x : Value} (hd : decode bytes pc = .ok (.pop, 1)) (hn : pc + 1 = n) (hc : x.category = 1) (k : Go p e below K (T.setTop (mkF m n ls (rest)))) : Go p e below K (T.setTop (mkF m pc ls (x :: rest))) := by
  subst hn
  exact Go.of (fun t q => XT.pop X.here C.hx rfl (hb C.hby hd) rfl hc q) k
theorem Go.dupX2 (C : Cx p s m meth c Z own bytes maxL ret nm) (X : Stand p l e R s m args below meth c T locs cells slots) {pc n : Nat} {ls : Array Slot} {rest : List Value} {x y z : Value} (hd : decode bytes pc = .ok (.dup_x2, 1)) (hn : pc + 1 = n) (hc : x.category = 1) (hc' : y.category = 1) (hc'' : z.category = 1) (k : Go p e below K (T.setTop (mkF m n ls (x :: y :: z :: x :: rest)))) : Go p e below K (T.setTop (mkF m pc ls (x :: y :: z :: rest))) := by
  subst hn
  exact Go.of (fun t q => by jvm_step X.here [X.here.top, C.hx, (hb C.hby hd), hc, hc', hc'']; exact q) k
theorem Go.goto (C : Cx p s m meth c Z own bytes maxL ret nm) (X : Stand p l e R s m args below meth c T locs cells slots) {pc n : Nat} {ls : Array Slot} {rest : List Value} {o : Int} (hd : decode bytes pc = .ok (.goto o, 3)) (ho : 0 ≤ (pc : Int) + o) (hn : ((pc : Int) + o).toNat = n) (k : Go p e below K (T.setTop (mkF m n ls rest))) : Go p e below K (T.setTop (mkF m pc ls rest)) :=
  Go.of (fun t q => XS.goto X.here C.hx rfl rfl (hb C.hby hd) ho hn q) k
theorem Go.ldcI (C : Cx p s m meth c Z own bytes maxL ret nm) (X : Stand p l e R s m args below meth c T locs cells slots) {pc n : Nat} {ls : Array Slot} {rest : List Value} {index : Nat} {v : Int32} (w : (Cond.constant own index v).before a0 Z = true) (hd : decode bytes pc = .ok (.ldc index, 2)) (hn : pc + 2 = n) (k : Go p e below K (T.setTop (mkF m n ls (.int v :: rest)))) : Go p e below K (T.setTop (mkF m pc ls rest)) := by
  subst hn
  exact Go.of (fun t q => Jvm.Stand.ldcI X C.hx C.hown (mv C.hZ w) rfl (hb C.hby hd) q) k
theorem Go.icmp_eq (C : Cx p s m meth c Z own bytes maxL ret nm) (X : Stand p l e R s m args below meth c T locs cells slots) {pc n1 n2 : Nat} {ls : Array Slot} {rest : List Value} {x y : Int32} {o : Int} (hd : decode bytes pc = .ok (.if_icmp .eq o, 3)) (ho : 0 ≤ (pc : Int) + o) (h1 : ((pc : Int) + o).toNat = n1) (h2 : pc + 3 = n2)
    (ky : x = y → Go p e below K (T.setTop (mkF m n1 ls rest))) (kn : ¬ x = y → Go p e below K (T.setTop (mkF m n2 ls rest))) : Go p e below K (T.setTop (mkF m pc ls (.int y :: .int x :: rest))) := by
  subst h2
  by_cases q : x = y
  · exact Go.of (fun t z => XS.icmpYes X.here C.hx rfl rfl (hb C.hby hd) rfl (XT.ii_eq_t q) ho h1 z) (ky q)
  · exact Go.of (fun t z => XS.icmpNo X.here C.hx rfl (hb C.hby hd) rfl (XT.ii_eq_f q) z) (kn q)
theorem Go.if0_eq (C : Cx p s m meth c Z own bytes maxL ret nm) (X : Stand p l e R s m args below meth c T locs cells slots) {pc n1 n2 : Nat} {ls : Array Slot} {rest : List Value} {x : Int32} {o : Int} (hd : decode bytes pc = .ok (.ifCond .eq o, 3)) (ho : 0 ≤ (pc : Int) + o) (h1 : ((pc : Int) + o).toNat = n1) (h2 : pc + 3 = n2)
    (ky : x = 0 → Go p e below K (T.setTop (mkF m n1 ls rest))) (kn : ¬ x = 0 → Go p e below K (T.setTop (mkF m n2 ls rest))) : Go p e below K (T.setTop (mkF m pc ls (.int x :: rest))) := by
  subst h2
  by_cases q : x = 0
  · exact Go.of (fun t z => XS.ifYes X.here C.hx rfl rfl (hb C.hby hd) rfl (XT.i0_eq_t q) ho h1 z) (ky q)
  · exact Go.of (fun t z => XS.ifNo X.here C.hx rfl (hb C.hby hd) rfl (XT.i0_eq_f q) z) (kn q)
theorem Go.lcmp_eq (C : Cx p s m meth c Z own bytes maxL ret nm) (X : Stand p l e R s m args below meth c T locs cells slots) {pc n1 n2 : Nat} {ls : Array Slot} {rest : List Value} {x y : Int64} {o : Int} (hd : decode bytes pc = .ok (.ifCond .eq o, 3)) (ho : 0 ≤ (pc : Int) + o) (h1 : ((pc : Int) + o).toNat = n1) (h2 : pc + 3 = n2)
    (ky : x = y → Go p e below K (T.setTop (mkF m n1 ls rest))) (kn : ¬ x = y → Go p e below K (T.setTop (mkF m n2 ls rest))) : Go p e below K (T.setTop (mkF m pc ls (.int (XT.cmpL x y) :: rest))) := by
  subst h2
  by_cases q : x = y
  · exact Go.of (fun t z => XS.ifYes X.here C.hx rfl rfl (hb C.hby hd) rfl (XT.ll_eq_t q) ho h1 z) (ky q)
  · exact Go.of (fun t z => XS.ifNo X.here C.hx rfl (hb C.hby hd) rfl (XT.ll_eq_f q) z) (kn q)
theorem Go.icmp_ne (C : Cx p s m meth c Z own bytes maxL ret nm) (X : Stand p l e R s m args below meth c T locs cells slots) {pc n1 n2 : Nat} {ls : Array Slot} {rest : List Value} {x y : Int32} {o : Int} (hd : decode bytes pc = .ok (.if_icmp .ne o, 3)) (ho : 0 ≤ (pc : Int) + o) (h1 : ((pc : Int) + o).toNat = n1) (h2 : pc + 3 = n2)
    (ky : ¬ x = y → Go p e below K (T.setTop (mkF m n1 ls rest))) (kn : x = y → Go p e below K (T.setTop (mkF m n2 ls rest))) : Go p e below K (T.setTop (mkF m pc ls (.int y :: .int x :: rest))) := by
  subst h2
  by_cases q : x = y
  · exact Go.of (fun t z => XS.icmpNo X.here C.hx rfl (hb C.hby hd) rfl (XT.ii_ne_f q) z) (kn q)
  · exact Go.of (fun t z => XS.icmpYes X.here C.hx rfl rfl (hb C.hby hd) rfl (XT.ii_ne_t q) ho h1 z) (ky q)
theorem Go.if0_ne (C : Cx p s m meth c Z own bytes maxL ret nm) (X : Stand p l e R s m args below meth c T locs cells slots) {pc n1 n2 : Nat} {ls : Array Slot} {rest : List Value} {x : Int32} {o : Int} (hd : decode bytes pc = .ok (.ifCond .ne o, 3)) (ho : 0 ≤ (pc : Int) + o) (h1 : ((pc : Int) + o).toNat = n1) (h2 : pc + 3 = n2)
    (ky : ¬ x = 0 → Go p e below K (T.setTop (mkF m n1 ls rest))) (kn : x = 0 → Go p e below K (T.setTop (mkF m n2 ls rest))) : Go p e below K (T.setTop (mkF m pc ls (.int x :: rest))) := by
  subst h2
  by_cases q : x = 0
  · exact Go.of (fun t z => XS.ifNo X.here C.hx rfl (hb C.hby hd) rfl (XT.i0_ne_f q) z) (kn q)
  · exact Go.of (fun t z => XS.ifYes X.here C.hx rfl rfl (hb C.hby hd) rfl (XT.i0_ne_t q) ho h1 z) (ky q)
theorem Go.lcmp_ne (C : Cx p s m meth c Z own bytes maxL ret nm) (X : Stand p l e R s m args below meth c T locs cells slots) {pc n1 n2 : Nat} {ls : Array Slot} {rest : List Value} {x y : Int64} {o : Int} (hd : decode bytes pc = .ok (.ifCond .ne o, 3)) (ho : 0 ≤ (pc : Int) + o) (h1 : ((pc : Int) + o).toNat = n1) (h2 : pc + 3 = n2)
    (ky : ¬ x = y → Go p e below K (T.setTop (mkF m n1 ls rest))) (kn : x = y → Go p e below K (T.setTop (mkF m n2 ls rest))) : Go p e below K (T.setTop (mkF m pc ls (.int (XT.cmpL x y) :: rest))) := by
  subst h2
  by_cases q : x = y
  · exact Go.of (fun t z => XS.ifNo X.here C.hx rfl (hb C.hby hd) rfl (XT.ll_ne_f q) z) (kn q)
  · exact Go.of (fun t z => XS.ifYes X.here C.hx rfl rfl (hb C.hby hd) rfl (XT.ll_ne_t q) ho h1 z) (ky q)
theorem Go.icmp_lt (C : Cx p s m meth c Z own bytes maxL ret nm) (X : Stand p l e R s m args below meth c T locs cells slots) {pc n1 n2 : Nat} {ls : Array Slot} {rest : List Value} {x y : Int32} {o : Int} (hd : decode bytes pc = .ok (.if_icmp .lt o, 3)) (ho : 0 ≤ (pc : Int) + o) (h1 : ((pc : Int) + o).toNat = n1) (h2 : pc + 3 = n2)
    (ky : x < y → Go p e below K (T.setTop (mkF m n1 ls rest))) (kn : ¬ x < y → Go p e below K (T.setTop (mkF m n2 ls rest))) : Go p e below K (T.setTop (mkF m pc ls (.int y :: .int x :: rest))) := by
  subst h2
  by_cases q : x < y
  · exact Go.of (fun t z => XS.icmpYes X.here C.hx rfl rfl (hb C.hby hd) rfl (XT.ii_lt_t q) ho h1 z) (ky q)
  · exact Go.of (fun t z => XS.icmpNo X.here C.hx rfl (hb C.hby hd) rfl (XT.ii_lt_f q) z) (kn q)
theorem Go.if0_lt (C : Cx p s m meth c Z own bytes maxL ret nm) (X : Stand p l e R s m args below meth c T locs cells slots) {pc n1 n2 : Nat} {ls : Array Slot} {rest : List Value} {x : Int32} {o : Int} (hd : decode bytes pc = .ok (.ifCond .lt o, 3)) (ho : 0 ≤ (pc : Int) + o) (h1 : ((pc : Int) + o).toNat = n1) (h2 : pc + 3 = n2)
    (ky : x < 0 → Go p e below K (T.setTop (mkF m n1 ls rest))) (kn : ¬ x < 0 → Go p e below K (T.setTop (mkF m n2 ls rest))) : Go p e below K (T.setTop (mkF m pc ls (.int x :: rest))) := by
  subst h2
  by_cases q : x < 0
  · exact Go.of (fun t z => XS.ifYes X.here C.hx rfl rfl (hb C.hby hd) rfl (XT.i0_lt_t q) ho h1 z) (ky q)
  · exact Go.of (fun t z => XS.ifNo X.here C.hx rfl (hb C.hby hd) rfl (XT.i0_lt_f q) z) (kn q)
theorem Go.lcmp_lt (C : Cx p s m meth c Z own bytes maxL ret nm) (X : Stand p l e R s m args below meth c T locs cells slots) {pc n1 n2 : Nat} {ls : Array Slot} {rest : List Value} {x y : Int64} {o : Int} (hd : decode bytes pc = .ok (.ifCond .lt o, 3)) (ho : 0 ≤ (pc : Int) + o) (h1 : ((pc : Int) + o).toNat = n1) (h2 : pc + 3 = n2)
    (ky : x < y → Go p e below K (T.setTop (mkF m n1 ls rest))) (kn : ¬ x < y → Go p e below K (T.setTop (mkF m n2 ls rest))) : Go p e below K (T.setTop (mkF m pc ls (.int (XT.cmpL x y) :: rest))) := by
  subst h2
  by_cases q : x < y
  · exact Go.of (fun t z => XS.ifYes X.here C.hx rfl rfl (hb C.hby hd) rfl (XT.ll_lt_t q) ho h1 z) (ky q)
  · exact Go.of (fun t z => XS.ifNo X.here C.hx rfl (hb C.hby hd) rfl (XT.ll_lt_f q) z) (kn q)
theorem Go.icmp_ge (C : Cx p s m meth c Z own bytes maxL ret nm) (X : Stand p l e R s m args below meth c T locs cells slots) {pc n1 n2 : Nat} {ls : Array Slot} {rest : List Value} {x y : Int32} {o : Int} (hd : decode bytes pc = .ok (.if_icmp .ge o, 3)) (ho : 0 ≤ (pc : Int) + o) (h1 : ((pc : Int) + o).toNat = n1) (h2 : pc + 3 = n2)
    (ky : ¬ x < y → Go p e below K (T.setTop (mkF m n1 ls rest))) (kn : x < y → Go p e below K (T.setTop (mkF m n2 ls rest))) : Go p e below K (T.setTop (mkF m pc ls (.int y :: .int x :: rest))) := by
  subst h2
  by_cases q : x < y
  · exact Go.of (fun t z => XS.icmpNo X.here C.hx rfl (hb C.hby hd) rfl (XT.ii_ge_f q) z) (kn q)
  · exact Go.of (fun t z => XS.icmpYes X.here C.hx rfl rfl (hb C.hby hd) rfl (XT.ii_ge_t q) ho h1 z) (ky q)
theorem Go.if0_ge (C : Cx p s m meth c Z own bytes maxL ret nm) (X : Stand p l e R s m args below meth c T locs cells slots) {pc n1 n2 : Nat} {ls : Array Slot} {rest : List Value} {x : Int32} {o : Int} (hd : decode bytes pc = .ok (.ifCond .ge o, 3)) (ho : 0 ≤ (pc : Int) + o) (h1 : ((pc : Int) + o).toNat = n1) (h2 : pc + 3 = n2)
    (ky : ¬ x < 0 → Go p e below K (T.setTop (mkF m n1 ls rest))) (kn : x < 0 → Go p e below K (T.setTop (mkF m n2 ls rest))) : Go p e below K (T.setTop (mkF m pc ls (.int x :: rest))) := by
  subst h2
  by_cases q : x < 0
  · exact Go.of (fun t z => XS.ifNo X.here C.hx rfl (hb C.hby hd) rfl (XT.i0_ge_f q) z) (kn q)
  · exact Go.of (fun t z => XS.ifYes X.here C.hx rfl rfl (hb C.hby hd) rfl (XT.i0_ge_t q) ho h1 z) (ky q)
theorem Go.lcmp_ge (C : Cx p s m meth c Z own bytes maxL ret nm) (X : Stand p l e R s m args below meth c T locs cells slots) {pc n1 n2 : Nat} {ls : Array Slot} {rest : List Value} {x y : Int64} {o : Int} (hd : decode bytes pc = .ok (.ifCond .ge o, 3)) (ho : 0 ≤ (pc : Int) + o) (h1 : ((pc : Int) + o).toNat = n1) (h2 : pc + 3 = n2)
    (ky : ¬ x < y → Go p e below K (T.setTop (mkF m n1 ls rest))) (kn : x < y → Go p e below K (T.setTop (mkF m n2 ls rest))) : Go p e below K (T.setTop (mkF m pc ls (.int (XT.cmpL x y) :: rest))) := by
  subst h2
  by_cases q : x < y
  · exact Go.of (fun t z => XS.ifNo X.here C.hx rfl (hb C.hby hd) rfl (XT.ll_ge_f q) z) (kn q)
  · exact Go.of (fun t z => XS.ifYes X.here C.hx rfl rfl (hb C.hby hd) rfl (XT.ll_ge_t q) ho h1 z) (ky q)
theorem Go.icmp_gt (C : Cx p s m meth c Z own bytes maxL ret nm) (X : Stand p l e R s m args below meth c T locs cells slots) {pc n1 n2 : Nat} {ls : Array Slot} {rest : List Value} {x y : Int32} {o : Int} (hd : decode bytes pc = .ok (.if_icmp .gt o, 3)) (ho : 0 ≤ (pc : Int) + o) (h1 : ((pc : Int) + o).toNat = n1) (h2 : pc + 3 = n2)
    (ky : y < x → Go p e below K (T.setTop (mkF m n1 ls rest))) (kn : ¬ y < x → Go p e below K (T.setTop (mkF m n2 ls rest))) : Go p e below K (T.setTop (mkF m pc ls (.int y :: .int x :: rest))) := by
  subst h2
  by_cases q : y < x
  · exact Go.of (fun t z => XS.icmpYes X.here C.hx rfl rfl (hb C.hby hd) rfl (XT.ii_gt_t q) ho h1 z) (ky q)
  · exact Go.of (fun t z => XS.icmpNo X.here C.hx rfl (hb C.hby hd) rfl (XT.ii_gt_f q) z) (kn q)
theorem Go.if0_gt (C : Cx p s m meth c Z own bytes maxL ret nm) (X : Stand p l e R s m args below meth c T locs cells slots) {pc n1 n2 : Nat} {ls : Array Slot} {rest : List Value} {x : Int32} {o : Int} (hd : decode bytes pc = .ok (.ifCond .gt o, 3)) (ho : 0 ≤ (pc : Int) + o) (h1 : ((pc : Int) + o).toNat = n1) (h2 : pc + 3 = n2)
    (ky : 0 < x → Go p e below K (T.setTop (mkF m n1 ls rest))) (kn : ¬ 0 < x → Go p e below K (T.setTop (mkF m n2 ls rest))) : Go p e below K (T.setTop (mkF m pc ls (.int x :: rest))) := by
  subst h2
  by_cases q : 0 < x
  · exact Go.of (fun t z => XS.ifYes X.here C.hx rfl rfl (hb C.hby hd) rfl (XT.i0_gt_t q) ho h1 z) (ky q)
  · exact Go.of (fun t z => XS.ifNo X.here C.hx rfl (hb C.hby hd) rfl (XT.i0_gt_f q) z) (kn q)
theorem Go.lcmp_gt (C : Cx p s m meth c Z own bytes maxL ret nm) (X : Stand p l e R s m args below meth c T locs cells slots) {pc n1 n2 : Nat} {ls : Array Slot} {rest : List Value} {x y : Int64} {o : Int} (hd : decode bytes pc = .ok (.ifCond .gt o, 3)) (ho : 0 ≤ (pc : Int) + o) (h1 : ((pc : Int) + o).toNat = n1) (h2 : pc + 3 = n2)
    (ky : y < x → Go p e below K (T.setTop (mkF m n1 ls rest))) (kn : ¬ y < x → Go p e below K (T.setTop (mkF m n2 ls rest))) : Go p e below K (T.setTop (mkF m pc ls (.int (XT.cmpL x y) :: rest))) := by
  subst h2
  by_cases q : y < x
  · exact Go.of (fun t z => XS.ifYes X.here C.hx rfl rfl (hb C.hby hd) rfl (XT.ll_gt_t q) ho h1 z) (ky q)
  · exact Go.of (fun t z => XS.ifNo X.here C.hx rfl (hb C.hby hd) rfl (XT.ll_gt_f q) z) (kn q)
theorem Go.icmp_le (C : Cx p s m meth c Z own bytes maxL ret nm) (X : Stand p l e R s m args below meth c T locs cells slots) {pc n1 n2 : Nat} {ls : Array Slot} {rest : List Value} {x y : Int32} {o : Int} (hd : decode bytes pc = .ok (.if_icmp .le o, 3)) (ho : 0 ≤ (pc : Int) + o) (h1 : ((pc : Int) + o).toNat = n1) (h2 : pc + 3 = n2)
    (ky : ¬ y < x → Go p e below K (T.setTop (mkF m n1 ls rest))) (kn : y < x → Go p e below K (T.setTop (mkF m n2 ls rest))) : Go p e below K (T.setTop (mkF m pc ls (.int y :: .int x :: rest))) := by
  subst h2
  by_cases q : y < x
  · exact Go.of (fun t z => XS.icmpNo X.here C.hx rfl (hb C.hby hd) rfl (XT.ii_le_f q) z) (kn q)
  · exact Go.of (fun t z => XS.icmpYes X.here C.hx rfl rfl (hb C.hby hd) rfl (XT.ii_le_t q) ho h1 z) (ky q)
theorem Go.if0_le (C : Cx p s m meth c Z own bytes maxL ret nm) (X : Stand p l e R s m args below meth c T locs cells slots) {pc n1 n2 : Nat} {ls : Array Slot} {rest : List Value} {x : Int32} {o : Int} (hd : decode bytes pc = .ok (.ifCond .le o, 3)) (ho : 0 ≤ (pc : Int) + o) (h1 : ((pc : Int) + o).toNat = n1) (h2 : pc + 3 = n2)
    (ky : ¬ 0 < x → Go p e below K (T.setTop (mkF m n1 ls rest))) (kn : 0 < x → Go p e below K (T.setTop (mkF m n2 ls rest))) : Go p e below K (T.setTop (mkF m pc ls (.int x :: rest))) := by
  subst h2
  by_cases q : 0 < x
  · exact Go.of (fun t z => XS.ifNo X.here C.hx rfl (hb C.hby hd) rfl (XT.i0_le_f q) z) (kn q)
  · exact Go.of (fun t z => XS.ifYes X.here C.hx rfl rfl (hb C.hby hd) rfl (XT.i0_le_t q) ho h1 z) (ky q)
theorem Go.lcmp_le (C : Cx p s m meth c Z own bytes maxL ret nm) (X : Stand p l e R s m args below meth c T locs cells slots) {pc n1 n2 : Nat} {ls : Array Slot} {rest : List Value} {x y : Int64} {o : Int} (hd : decode bytes pc = .ok (.ifCond .le o, 3)) (ho : 0 ≤ (pc : Int) + o) (h1 : ((pc : Int) + o).toNat = n1) (h2 : pc + 3 = n2)
    (ky : ¬ y < x → Go p e below K (T.setTop (mkF m n1 ls rest))) (kn : y < x → Go p e below K (T.setTop (mkF m n2 ls rest))) : Go p e below K (T.setTop (mkF m pc ls (.int (XT.cmpL x y) :: rest))) := by
  subst h2
  by_cases q : y < x
  · exact Go.of (fun t z => XS.ifNo X.here C.hx rfl (hb C.hby hd) rfl (XT.ll_le_f q) z) (kn q)
  · exact Go.of (fun t z => XS.ifYes X.here C.hx rfl rfl (hb C.hby hd) rfl (XT.ll_le_t q) ho h1 z) (ky q)
theorem Go.ifnullN (C : Cx p s m meth c Z own bytes maxL ret nm) (X : Stand p l e R s m args below meth c T locs cells slots) {pc n : Nat} {ls : Array Slot} {rest : List Value} {o : Int} (hd : decode bytes pc = .ok (.ifnull o, 3)) (ho : 0 ≤ (pc : Int) + o) (hn : ((pc : Int) + o).toNat = n) (k : Go p e below K (T.setTop (mkF m n ls rest))) : Go p e below K (T.setTop (mkF m pc ls (.null :: rest))) :=
  Go.of (fun t q => XS.ifnullYes X.here C.hx rfl rfl (hb C.hby hd) rfl ho hn q) k
theorem Go.ifnullR (C : Cx p s m meth c Z own bytes maxL ret nm) (X : Stand p l e R s m args below meth c T locs cells slots) {pc n : Nat} {ls : Array Slot} {rest : List Value} {o : Int} {b : Addr} (hd : decode bytes pc = .ok (.ifnull o, 3)) (hn : pc + 3 = n) (k : Go p e below K (T.setTop (mkF m n ls rest))) : Go p e below K (T.setTop (mkF m pc ls (.ref b :: rest))) := by
  subst hn
  exact Go.of (fun t q => XS.ifnullNo X.here C.hx rfl (hb C.hby hd) rfl q) k
theorem Go.ifnonnullN (C : Cx p s m meth c Z own bytes maxL ret nm) (X : Stand p l e R s m args below meth c T locs cells slots) {pc n : Nat} {ls : Array Slot} {rest : List Value} {o : Int} (hd : decode bytes pc = .ok (.ifnonnull o, 3)) (hn : pc + 3 = n) (k : Go p e below K (T.setTop (mkF m n ls rest))) : Go p e below K (T.setTop (mkF m pc ls (.null :: rest))) := by
  subst hn
  exact Go.of (fun t q => XT.ifnonnullNo X.here C.hx rfl (hb C.hby hd) rfl q) k
theorem Go.ifnonnullR (C : Cx p s m meth c Z own bytes maxL ret nm) (X : Stand p l e R s m args below meth c T locs cells slots) {pc n : Nat} {ls : Array Slot} {rest : List Value} {o : Int} {b : Addr} (hd : decode bytes pc = .ok (.ifnonnull o, 3)) (ho : 0 ≤ (pc : Int) + o) (hn : ((pc : Int) + o).toNat = n) (k : Go p e below K (T.setTop (mkF m n ls rest))) : Go p e below K (T.setTop (mkF m pc ls (.ref b :: rest))) :=
  Go.of (fun t q => XT.ifnonnullYes X.here C.hx rfl rfl (hb C.hby hd) rfl ho hn q) k
theorem Go.acmp_eq (C : Cx p s m meth c Z own bytes maxL ret nm) (X : Stand p l e R s m args below meth c T locs cells slots) {pc n1 n2 : Nat} {ls : Array Slot} {rest : List Value} {x y : Value} {o : Int} (hx' : x.isRef = true) (hy' : y.isRef = true) (hd : decode bytes pc = .ok (.if_acmp .eq o, 3)) (ho : 0 ≤ (pc : Int) + o) (h1 : ((pc : Int) + o).toNat = n1) (h2 : pc + 3 = n2)
    (ky : x = y → Go p e below K (T.setTop (mkF m n1 ls rest))) (kn : ¬ x = y → Go p e below K (T.setTop (mkF m n2 ls rest))) : Go p e below K (T.setTop (mkF m pc ls (y :: x :: rest))) := by
  subst h2
  by_cases q : x = y
  · exact Go.of (fun t z => XT.acmpYes X.here C.hx rfl rfl (hb C.hby hd) rfl hx' hy' (XT.aa_eq_t q) ho h1 z) (ky q)
  · exact Go.of (fun t z => XT.acmpNo X.here C.hx rfl (hb C.hby hd) rfl hx' hy' (XT.aa_eq_f q) z) (kn q)
theorem Go.acmp_ne (C : Cx p s m meth c Z own bytes maxL ret nm) (X : Stand p l e R s m args below meth c T locs cells slots) {pc n1 n2 : Nat} {ls : Array Slot} {rest : List Value} {x y : Value} {o : Int} (hx' : x.isRef = true) (hy' : y.isRef = true) (hd : decode bytes pc = .ok (.if_acmp .ne o, 3)) (ho : 0 ≤ (pc : Int) + o) (h1 : ((pc : Int) + o).toNat = n1) (h2 : pc + 3 = n2)
    (ky : ¬ x = y → Go p e below K (T.setTop (mkF m n1 ls rest))) (kn : x = y → Go p e below K (T.setTop (mkF m n2 ls rest))) : Go p e below K (T.setTop (mkF m pc ls (y :: x :: rest))) := by
  subst h2
  by_cases q : x = y
  · exact Go.of (fun t z => XT.acmpNo X.here C.hx rfl (hb C.hby hd) rfl hx' hy' (XT.aa_ne_f q) z) (kn q)
  · exact Go.of (fun t z => XT.acmpYes X.here C.hx rfl rfl (hb C.hby hd) rfl hx' hy' (XT.aa_ne_t q) ho h1 z) (ky q)
theorem Go.iaload (C : Cx p s m meth c Z own bytes maxL ret nm) (X : Stand p l e R s m args below meth c T locs cells slots) {pc n : Nat} {ls : Array Slot} {rest : List Value} (eT : T.heap = h) {a : Addr} {cl : Cell} {j : Int32} {v : Value} (A : Arr Z h a cl .int) (hj : ¬ (j < 0 ∨ cl.slots.size ≤ j.toNatClampNeg)) (hv : cl.slots[j.toNatClampNeg]? = some v) (hd : decode bytes pc = .ok (.iaload, 1)) (hn : pc + 1 = n) (k : Go p e below K (T.setTop (mkF m n ls (v :: rest)))) : Go p e below K (T.setTop (mkF m pc ls (.int j :: .ref a :: rest))) := by
  subst hn
  have hc : T.heap[a]? = some cl := by rw [eT]; exact A.1
  have ha := State.isArrayOf_alike (T := s) C.hZ.alike A.2.1
  exact Go.of (fun t q => X.iaload C.hx hc ha A.2.2 hj hv (g := mkF m pc ls (.int j :: .ref a :: rest)) rfl rfl (hb C.hby hd) t q) k
theorem Go.caload (C : Cx p s m meth c Z own bytes maxL ret nm) (X : Stand p l e R s m args below meth c T locs cells slots) {pc n : Nat} {ls : Array Slot} {rest : List Value} (eT : T.heap = h) {a : Addr} {cl : Cell} {j : Int32} {v : Value} (A : Arr Z h a cl .char) (hj : ¬ (j < 0 ∨ cl.slots.size ≤ j.toNatClampNeg)) (hv : cl.slots[j.toNatClampNeg]? = some v) (hd : decode bytes pc = .ok (.caload, 1)) (hn : pc + 1 = n) (k : Go p e below K (T.setTop (mkF m n ls (v :: rest)))) : Go p e below K (T.setTop (mkF m pc ls (.int j :: .ref a :: rest))) := by
  subst hn
  have hc : T.heap[a]? = some cl := by rw [eT]; exact A.1
  have ha := State.isArrayOf_alike (T := s) C.hZ.alike A.2.1
  exact Go.of (fun t q => X.caload C.hx hc ha A.2.2 hj hv (g := mkF m pc ls (.int j :: .ref a :: rest)) rfl rfl (hb C.hby hd) t q) k
theorem Go.baloadB (C : Cx p s m meth c Z own bytes maxL ret nm) (X : Stand p l e R s m args below meth c T locs cells slots) {pc n : Nat} {ls : Array Slot} {rest : List Value} (eT : T.heap = h) {a : Addr} {cl : Cell} {j : Int32} {v : Value} (A : Arr Z h a cl .byte) (hj : ¬ (j < 0 ∨ cl.slots.size ≤ j.toNatClampNeg)) (hv : cl.slots[j.toNatClampNeg]? = some v) (hd : decode bytes pc = .ok (.baload, 1)) (hn : pc + 1 = n) (k : Go p e below K (T.setTop (mkF m n ls (v :: rest)))) : Go p e below K (T.setTop (mkF m pc ls (.int j :: .ref a :: rest))) := by
  subst hn
  have hc : T.heap[a]? = some cl := by rw [eT]; exact A.1
  have ha := State.isArrayOf_alike (T := s) C.hZ.alike A.2.1
  exact Go.of (fun t q => X.baloadBytes C.hx hc ha A.2.2 hj hv (g := mkF m pc ls (.int j :: .ref a :: rest)) rfl rfl (hb C.hby hd) t q) k
theorem Go.aaload (C : Cx p s m meth c Z own bytes maxL ret nm) (X : Stand p l e R s m args below meth c T locs cells slots) {pc n : Nat} {ls : Array Slot} {rest : List Value} (eT : T.heap = h) {a : Addr} {cl : Cell} {j : Int32} {v : Value} {ty : FieldType} (hty : ty.isReference = true) (A : Arr Z h a cl ty) (hj : ¬ (j < 0 ∨ cl.slots.size ≤ j.toNatClampNeg)) (hv : cl.slots[j.toNatClampNeg]? = some v) (hd : decode bytes pc = .ok (.aaload, 1)) (hn : pc + 1 = n) (k : Go p e below K (T.setTop (mkF m n ls (v :: rest)))) : Go p e below K (T.setTop (mkF m pc ls (.int j :: .ref a :: rest))) := by
  subst hn
  have hc : T.heap[a]? = some cl := by rw [eT]; exact A.1
  have ha := State.isArrayOf_alike (T := s) C.hZ.alike A.2.1
  exact Go.of (fun t q => X.aaload C.hx hc ha hty A.2.2 hj hv (g := mkF m pc ls (.int j :: .ref a :: rest)) rfl rfl (hb C.hby hd) t q) k
theorem Go.arraylength (C : Cx p s m meth c Z own bytes maxL ret nm) (X : Stand p l e R s m args below meth c T locs cells slots) {pc n : Nat} {ls : Array Slot} {rest : List Value} (eT : T.heap = h) {a : Addr} {cl : Cell} {ty : FieldType} {z : Int32} (A : Arr Z h a cl ty) (hz : cl.slots.size.toInt32 = z) (hd : decode bytes pc = .ok (.arraylength, 1)) (hn : pc + 1 = n) (k : Go p e below K (T.setTop (mkF m n ls (.int z :: rest)))) : Go p e below K (T.setTop (mkF m pc ls (.ref a :: rest))) := by
  subst hn hz
  have hc : T.heap[a]? = some cl := by rw [eT]; exact A.1
  have ha := State.isArrayOf_alike (T := s) C.hZ.alike A.2.1
  exact Go.of (fun t q => X.arraylength C.hx hc ha (g := mkF m pc ls (.ref a :: rest)) rfl rfl (hb C.hby hd) t q) k
theorem Go.iastore (C : Cx p s m meth c Z own bytes maxL ret nm) (X : Stand p l e R s m args below meth c T locs cells slots) {pc n : Nat} {ls : Array Slot} {rest : List Value} (eT : T.heap = h) {a : Addr} {cl : Cell} {j : Int32} {x : Int32} (A : Arr Z h a cl .int) (hj : ¬ (j < 0 ∨ cl.slots.size ≤ j.toNatClampNeg)) (hd : decode bytes pc = .ok (.iastore, 1)) (hn : pc + 1 = n) (k : ∀ T' h', Stand p l e R s m args below meth c T' (locs ++ [⟨a, j.toNatClampNeg⟩]) cells slots → T'.heap = h' → Wr h h' a j.toNatClampNeg (.int x) → Go p e below K (T'.setTop (mkF m n ls rest))) : Go p e below K (T.setTop (mkF m pc ls (.int x :: .int j :: .ref a :: rest))) := by
  subst hn
  obtain ⟨T', h', X', e', W, st⟩ := stI X C.hx C.hZ eT A hj (g := mkF m pc ls (.int x :: .int j :: .ref a :: rest)) rfl rfl (hb C.hby hd)
  exact Go.of st (k T' h' X' e' W)
theorem Go.castore (C : Cx p s m meth c Z own bytes maxL ret nm) (X : Stand p l e R s m args below meth c T locs cells slots) {pc n : Nat} {ls : Array Slot} {rest : List Value} (eT : T.heap = h) {a : Addr} {cl : Cell} {j : Int32} {x : Int32} (A : Arr Z h a cl .char) (hj : ¬ (j < 0 ∨ cl.slots.size ≤ j.toNatClampNeg)) (hd : decode bytes pc = .ok (.castore, 1)) (hn : pc + 1 = n) (k : ∀ T' h', Stand p l e R s m args below meth c T' (locs ++ [⟨a, j.toNatClampNeg⟩]) cells slots → T'.heap = h' → Wr h h' a j.toNatClampNeg (.int (nar .char x)) → Go p e below K (T'.setTop (mkF m n ls rest))) : Go p e below K (T.setTop (mkF m pc ls (.int x :: .int j :: .ref a :: rest))) := by
  subst hn
  obtain ⟨T', h', X', e', W, st⟩ := stC X C.hx C.hZ eT A hj (g := mkF m pc ls (.int x :: .int j :: .ref a :: rest)) rfl rfl (hb C.hby hd)
  exact Go.of st (k T' h' X' e' W)
theorem Go.bastoreB (C : Cx p s m meth c Z own bytes maxL ret nm) (X : Stand p l e R s m args below meth c T locs cells slots) {pc n : Nat} {ls : Array Slot} {rest : List Value} (eT : T.heap = h) {a : Addr} {cl : Cell} {j : Int32} {x : Int32} (A : Arr Z h a cl .byte) (hj : ¬ (j < 0 ∨ cl.slots.size ≤ j.toNatClampNeg)) (hd : decode bytes pc = .ok (.bastore, 1)) (hn : pc + 1 = n) (k : ∀ T' h', Stand p l e R s m args below meth c T' (locs ++ [⟨a, j.toNatClampNeg⟩]) cells slots → T'.heap = h' → Wr h h' a j.toNatClampNeg (.int (nar .byte x)) → Go p e below K (T'.setTop (mkF m n ls rest))) : Go p e below K (T.setTop (mkF m pc ls (.int x :: .int j :: .ref a :: rest))) := by
  subst hn
  obtain ⟨T', h', X', e', W, st⟩ := stB X C.hx C.hZ eT A hj (g := mkF m pc ls (.int x :: .int j :: .ref a :: rest)) rfl rfl (hb C.hby hd)
  exact Go.of st (k T' h' X' e' W)
theorem Go.aastore (C : Cx p s m meth c Z own bytes maxL ret nm) (X : Stand p l e R s m args below meth c T locs cells slots) {pc n : Nat} {ls : Array Slot} {rest : List Value} (eT : T.heap = h) {a : Addr} {cl : Cell} {j : Int32} {v : Value} {ty : FieldType} (A : Arr Z h a cl ty) (hj : ¬ (j < 0 ∨ cl.slots.size ≤ j.toNatClampNeg)) (hty : ty.isReference = true) (F : Sto Z h a v) (hd : decode bytes pc = .ok (.aastore, 1)) (hn : pc + 1 = n) (k : ∀ T' h', Stand p l e R s m args below meth c T' (locs ++ [⟨a, j.toNatClampNeg⟩]) cells slots → T'.heap = h' → Wr h h' a j.toNatClampNeg v → Go p e below K (T'.setTop (mkF m n ls rest))) : Go p e below K (T.setTop (mkF m pc ls (v :: .int j :: .ref a :: rest))) := by
  subst hn
  obtain ⟨T', h', X', e', W, st⟩ := stR X C.hx C.hZ eT A hj hty F (g := mkF m pc ls (v :: .int j :: .ref a :: rest)) rfl rfl (hb C.hby hd)
  exact Go.of st (k T' h' X' e' W)
theorem Go.getF (C : Cx p s m meth c Z own bytes maxL ret nm) (X : Stand p l e R s m args below meth c T locs cells slots) {pc n : Nat} {ls : Array Slot} {rest : List Value} (eT : T.heap = h) {R0 O n0 d : String} {index : Nat} {a : Addr} {v : Value} (w : (Cond.fieldLink own index R0 n0 d).before a0 Z = true) (via : Via Z R0 O n0 d) (F : Fld Z h a O n0 d v) (hd : decode bytes pc = .ok (.getfield index, 3)) (hn : pc + 3 = n) (k : ∀ T', Stand p l e R s m args below meth c T' locs cells slots → T'.heap = h → Go p e below K (T'.setTop (mkF m n ls (v :: rest)))) : Go p e below K (T.setTop (mkF m pc ls (.ref a :: rest))) := by
  subst hn
  obtain ⟨T', X', e', st⟩ := Jvm.RoadKit.getF X C.hx C.hZ C.hown (host := "") (Or.inl w) via eT F (g := mkF m pc ls (.ref a :: rest)) rfl rfl (hb C.hby hd)
  exact Go.of st (k T' X' e')
theorem Go.putF (C : Cx p s m meth c Z own bytes maxL ret nm) (X : Stand p l e R s m args below meth c T locs cells slots) {pc n : Nat} {ls : Array Slot} {rest : List Value} (eT : T.heap = h) {R0 O n0 d C0 : String} {index kk : Nat} {ty : FieldType} {a : Addr} {v v' old : Value} (w : (Cond.fieldLink own index R0 n0 d).before a0 Z = true) (via : Via Z R0 O n0 d) (F : Fld Z h a O n0 d old) (E : Exa Z h a C0) (L : (Cond.lays C0 O n0 d).before a0 Z = true ∨ ((Cond.laysFinal C0 O n0 d).before a0 Z = true ∧ own = O ∧ nm = "<init>")) (wi : (Cond.instantiable C0 kk).before a0 Z = true) (hty : parseFieldDescriptor d = some ty) (hnv : narrow ty v = v') (hf : fits ty v' = true) (hd : decode bytes pc = .ok (.putfield index, 3)) (hn : pc + 3 = n)
    (k : ∀ T' h', Stand p l e R s m args below meth c T' (locs ++ [⟨a, slotOf Z O n0 d⟩]) cells slots → T'.heap = h' → Wr h h' a (slotOf Z O n0 d) v' → Go p e below K (T'.setTop (mkF m n ls rest))) : Go p e below K (T.setTop (mkF m pc ls (v :: .ref a :: rest))) := by
  subst hn
  obtain ⟨T', h', X', e', W, st⟩ := Jvm.RoadKit.putFN X C.hx C.hZ C.hown w via eT F E (L.imp id fun z => ⟨z.1, z.2.1, C.hnm.trans z.2.2⟩) wi hty hnv hf (g := mkF m pc ls (v :: .ref a :: rest)) rfl rfl (hb C.hby hd)
  exact Go.of st (k T' h' X' e' W)
theorem Go.getS (C : Cx p s m meth c Z own bytes maxL ret nm) (X : Stand p l e R s m args below meth c T locs cells slots) {pc n : Nat} {ls : Array Slot} {rest : List Value} (eT : T.heap = h) {R0 O n0 d : String} {index : Nat} {v : Value} (w : (Cond.fieldLink own index R0 n0 d).before a0 Z = true) (via : Via Z R0 O n0 d) (F : Sta Z h O n0 d v) (hd : decode bytes pc = .ok (.getstatic index, 3)) (hn : pc + 3 = n) (k : ∀ T', Stand p l e R s m args below meth c T' locs cells slots → T'.heap = h → Go p e below K (T'.setTop (mkF m n ls (v :: rest)))) : Go p e below K (T.setTop (mkF m pc ls rest)) := by
  subst hn
  obtain ⟨T', X', e', st⟩ := Jvm.RoadKit.getS X C.hx C.hZ C.hown (host := "") w via eT F (g := mkF m pc ls rest) rfl (hb C.hby hd)
  exact Go.of st (k T' X' e')
theorem Go.newO (C : Cx p s m meth c Z own bytes maxL ret nm) (X : Stand p l e R s m args below meth c T locs cells slots) {pc n : Nat} {ls : Array Slot} {rest : List Value} (eT : T.heap = h) {C0 : String} {index n0 : Nat} (w : (Cond.classLink own index C0).before a0 Z = true) (wi : (Cond.instantiable C0 n0).before a0 Z = true) (wz : (Cond.initialized C0).before a0 Z = true) (hd : decode bytes pc = .ok (.new index, 3)) (hn : pc + 3 = n) (hc : cells + 1 ≤ R.cells) (hl : slots + n0 ≤ R.slots)
    (k : ∀ T' h' a, a = h.size → Stand p l e R s m args below meth c T' locs (cells + 1) (slots + n0) → T'.heap = h' → Ext h h' → Exa Z h' a C0 → (∀ {O nm d : String} {ty : FieldType}, Laid Z a0 C0 O nm d → parseFieldDescriptor d = some ty → Fld Z h' a O nm d (defaultValue ty)) → Go p e below K (T'.setTop (mkF m n ls (.ref a :: rest)))) : Go p e below K (T.setTop (mkF m pc ls rest)) := by
  subst hn
  obtain ⟨T', h', X', e', E', A', D', -, st⟩ := Jvm.RoadKit.newO X C.hx C.hZ C.hown w wi wz eT (g := mkF m pc ls rest) rfl (hb C.hby hd) hc hl
  exact Go.of st (k T' h' _ rfl X' e' E' A' D')
theorem Go.newP (C : Cx p s m meth c Z own bytes maxL ret nm) (X : Stand p l e R s m args below meth c T locs cells slots) {pc n : Nat} {ls : Array Slot} {rest : List Value} (eT : T.heap = h) {aty : ArrayType} (w : (Cond.arrayClass (newarray.typeOf aty)).before a0 Z = true) {z : Int32} (hd : decode bytes pc = .ok (.newarray aty, 2)) (hn : pc + 2 = n) (hz : ¬ z < 0) (cap : Nat) (hcap : z.toNatClampNeg ≤ cap) (hb8 : cap * 8 ≤ 536870912) (hc : cells + 1 ≤ R.cells) (hl : slots + cap ≤ R.slots)
    (k : ∀ T' h' a cA, a = h.size → Stand p l e R s m args below meth c T' locs (cells + 1) (slots + cap) → T'.heap = h' → Ext h h' → Arr Z h' a (newA cA (newarray.typeOf aty) z) (newarray.typeOf aty) → Go p e below K (T'.setTop (mkF m n ls (.ref a :: rest)))) : Go p e below K (T.setTop (mkF m pc ls (.int z :: rest))) := by
  subst hn
  obtain ⟨T', h', cA, X', e', E', A', st⟩ := Jvm.RoadKit.newP X C.hx C.hZ w eT (g := mkF m pc ls (.int z :: rest)) rfl (hb C.hby hd) rfl hz hcap hb8 hc hl
  exact Go.of st (k T' h' _ cA rfl X' e' E' A')
theorem Go.newR (C : Cx p s m meth c Z own bytes maxL ret nm) (X : Stand p l e R s m args below meth c T locs cells slots) {pc n : Nat} {ls : Array Slot} {rest : List Value} (eT : T.heap = h) {C0 : String} {index : Nat} (w1 : (Cond.classLink own index C0).before a0 Z = true) (w2 : (Cond.arrayOver (.object C0)).before a0 Z = true) {z : Int32} (hd : decode bytes pc = .ok (.anewarray index, 3)) (hn : pc + 3 = n) (hz : ¬ z < 0) (cap : Nat) (hcap : z.toNatClampNeg ≤ cap) (hb8 : cap * 8 ≤ 536870912) (hc : cells + 1 ≤ R.cells) (hl : slots + cap ≤ R.slots)
    (k : ∀ T' h' a cA, a = h.size → Stand p l e R s m args below meth c T' locs (cells + 1) (slots + cap) → T'.heap = h' → Ext h h' → Arr Z h' a (newA cA (.object C0) z) (.object C0) → Ovr Z cA C0 → Go p e below K (T'.setTop (mkF m n ls (.ref a :: rest)))) : Go p e below K (T.setTop (mkF m pc ls (.int z :: rest))) := by
  subst hn
  obtain ⟨T', h', cA, X', e', E', A', O', st⟩ := Jvm.RoadKit.newR X C.hx C.hZ C.hown w1 w2 eT (g := mkF m pc ls (.int z :: rest)) rfl (hb C.hby hd) rfl hz hcap hb8 hc hl
  exact Go.of st (k T' h' _ cA rfl X' e' E' A' O')
theorem Go.initO (C : Cx p s m meth c Z own bytes maxL ret nm) (X : Stand p l e R s m args below meth c T locs cells slots) {pc n : Nat} {ls : Array Slot} {rest : List Value} (eT : T.heap = h) {index : Nat} {a : Addr} (w1 : (Cond.methodLink own index Lib.objectInit).before a0 Z = true) (w2 : (Cond.instanceMethod Lib.objectInit).before a0 Z = true) (w3 : (Cond.code Lib.objectInit ⟨#[0xb1]⟩ 1 none).before a0 Z = true) (hd : decode bytes pc = .ok (.invokespecial index, 3)) (hn : pc + 3 = n) (hsz : ls.size = maxL) (hf : 1 ≤ R.frames) {W : Nat} (hW : (rest.map fun v => v.category).sum = W) (hl : W + 12 ≤ R.locals)
    (k : ∀ T', Stand p l e R s m args below meth c T' locs cells slots → T'.heap = h → Go p e below K (T'.setTop (mkF m n ls rest))) : Go p e below K (T.setTop (mkF m pc ls (.ref a :: rest))) := by
  subst hn
  obtain ⟨T', X', e', st⟩ := Jvm.RoadKit.initO X C.hx C.hZ C.hown w1 w2 w3 eT (g := mkF m pc ls (.ref a :: rest)) rfl (hsz.trans C.hml.symm) rfl (hb C.hby hd) hf (W := W) (by show 2 * 0 + _ ≤ _; omega) hl
  exact Go.of st (k T' X' e')
theorem Go.castY (C : Cx p s m meth c Z own bytes maxL ret nm) (X : Stand p l e R s m args below meth c T locs cells slots) {pc n : Nat} {ls : Array Slot} {rest : List Value} (eT : T.heap = h) {K0 : String} {index : Nat} {a : Addr} (w : (Cond.classLink own index K0).before a0 Z = true) (F : Ins Z h a K0 true) (hd : decode bytes pc = .ok (.checkcast index, 3)) (hn : pc + 3 = n) (k : ∀ T', Stand p l e R s m args below meth c T' locs cells slots → T'.heap = h → Go p e below K (T'.setTop (mkF m n ls (.ref a :: rest)))) : Go p e below K (T.setTop (mkF m pc ls (.ref a :: rest))) := by
  subst hn
  obtain ⟨T', X', e', st⟩ := Jvm.RoadKit.castY X C.hx C.hZ C.hown w eT F (g := mkF m pc ls (.ref a :: rest)) rfl rfl (hb C.hby hd)
  exact Go.of st (k T' X' e')
theorem Go.instY (C : Cx p s m meth c Z own bytes maxL ret nm) (X : Stand p l e R s m args below meth c T locs cells slots) {pc n : Nat} {ls : Array Slot} {rest : List Value} (eT : T.heap = h) {K0 : String} {index : Nat} {a : Addr} (w : (Cond.classLink own index K0).before a0 Z = true) (F : Ins Z h a K0 true) (hd : decode bytes pc = .ok (.instanceof index, 3)) (hn : pc + 3 = n) (k : ∀ T', Stand p l e R s m args below meth c T' locs cells slots → T'.heap = h → Go p e below K (T'.setTop (mkF m n ls (.int 1 :: rest)))) : Go p e below K (T.setTop (mkF m pc ls (.ref a :: rest))) := by
  subst hn
  obtain ⟨T', X', e', st⟩ := Jvm.RoadKit.instY X C.hx C.hZ C.hown w eT F (g := mkF m pc ls (.ref a :: rest)) rfl rfl (hb C.hby hd)
  exact Go.of st (k T' X' e')
theorem Go.newPE (C : Cx p s m meth c Z own bytes maxL ret nm) (X : Stand p l e R s m args below meth c T locs cells slots) {pc n : Nat} {ls : Array Slot} {rest : List Value} (eT : T.heap = h) {aty : ArrayType} (w : (Cond.arrayClass (newarray.typeOf aty)).before a0 Z = true) {z : Int32} (hd : decode bytes pc = .ok (.newarray aty, 2)) (hn : pc + 2 = n) (hz : ¬ z < 0) (cap : Nat) (hcap : z.toNatClampNeg ≤ cap) (hb8 : cap * 8 ≤ 536870912) (hc : cells + 1 ≤ R.cells) (hl : slots + cap ≤ R.slots) {ad : String} (had : "[" ++ (newarray.typeOf aty).toString = ad)
    (k : ∀ T' h' a cA, a = h.size → Stand p l e R s m args below meth c T' locs (cells + 1) (slots + cap) → T'.heap = h' → Ext h h' → Arr Z h' a (newA cA (newarray.typeOf aty) z) (newarray.typeOf aty) → Exa Z h' a ad → Go p e below K (T'.setTop (mkF m n ls (.ref a :: rest)))) : Go p e below K (T.setTop (mkF m pc ls (.int z :: rest))) := by
  subst hn
  obtain ⟨T', h', cA, X', e', E', A', x', st⟩ := Jvm.RoadKit.newPE X C.hx C.hZ w eT (g := mkF m pc ls (.int z :: rest)) rfl (hb C.hby hd) rfl hz hcap hb8 hc hl had
  exact Go.of st (k T' h' _ cA rfl X' e' E' A' x')
theorem Go.cloneA (C : Cx p s m meth c Z own bytes maxL ret nm) (X : Stand p l e R s m args below meth c T locs cells slots) {pc n : Nat} {ls : Array Slot} {rest : List Value} (eT : T.heap = h) {index : Nat} {a : Addr} {ad : String} {cl : Cell} {ty : FieldType} (w1 : (Cond.methodLink own index ⟨ad, "clone", "()Ljava/lang/Object;"⟩).before a0 Z = true) (w2 : (Cond.sameMethod ad "java/lang/Object" "clone" "()Ljava/lang/Object;").before a0 Z = true) (w3 : (Cond.native ⟨"java/lang/Object", "clone", "()Ljava/lang/Object;"⟩).before a0 Z = true) (w4 : (Cond.instanceMethod ⟨"java/lang/Object", "clone", "()Ljava/lang/Object;"⟩).before a0 Z = true) (w5 : (Cond.selects ad ⟨ad, "clone", "()Ljava/lang/Object;"⟩ ⟨"java/lang/Object", "clone", "()Ljava/lang/Object;"⟩).before a0 Z = true) (w6 : (Cond.castable ad "java/lang/Cloneable").before a0 Z = true)
    (A : Arr Z h a cl ty) (E : Exa Z h a ad) (F : FitC Z cl) (hd : decode bytes pc = .ok (.invokevirtual index, 3)) (hn : pc + 3 = n) (hsz : ls.size = maxL) (hf : 1 ≤ R.frames) {W : Nat} (hW : (rest.map fun v => v.category).sum = W) (hl : W + 14 ≤ R.locals) (cap : Nat) (hcap : cl.slots.size ≤ cap) (hc : cells + 1 ≤ R.cells) (hsl : slots + cap ≤ R.slots)
    (k : ∀ T' h' b, b = h.size → Stand p l e R s m args below meth c T' locs (cells + 1) (slots + cap) → T'.heap = h' → Ext h h' → Arr Z h' b (cloneOf cl) ty → Exa Z h' b ad → Go p e below K (T'.setTop (mkF m n ls (.ref b :: rest)))) : Go p e below K (T.setTop (mkF m pc ls (.ref a :: rest))) := by
  subst hn
  obtain ⟨T', h', X', e', E', A', x', st⟩ := Jvm.RoadKit.cloneA X C.hx C.hZ C.hown w1 w2 w3 w4 w5 w6 eT A E F (g := mkF m pc ls (.ref a :: rest)) rfl (hsz.trans C.hml.symm) rfl (hb C.hby hd) hf (W := W) (by show 2 * 0 + _ ≤ _; omega) hl hcap hc hsl
  exact Go.of st (k T' h' _ rfl X' e' E' A' x')
theorem Go.stat (C : Cx p s m meth c Z own bytes maxL ret nm) (X : Stand p l e R s m args below meth c T locs cells slots) {pc n : Nat} {ls : Array Slot} {rest : List Value} (eT : T.heap = h) {index yL W : Nat} {ybytes : ByteArray} {yret : Option FieldType} {rm : Room} {Q : Option Value → Heap → List Loc → Prop} {argsL : List Value} {st : List Value} {y : MethodName} (hC : Ctr l Z y ybytes yL yret rm argsL.toArray h Q) (wl : (Cond.methodLink own index y).before a0 Z = true) (ws : (Cond.static y).before a0 Z = true) (wi : (Cond.initialized y.cls).before a0 Z = true) (wc : (Cond.code y ybytes yL yret).before a0 Z = true) (hy : y.cls ≠ "java/lang/invoke/MethodHandle" ∧ y.cls ≠ "java/lang/invoke/VarHandle")
    (hlen : ∀ sig, parseMethodDescriptor y.desc = some sig → argsL.length = sig.parameters.length) (hst : st = argsL.reverse ++ rest) (hd : decode bytes pc = .ok (.invokestatic index, 3)) (hn : pc + 3 = n) (hsz : ls.size = maxL) (hf : rm.frames + 1 ≤ R.frames) (hW : (rest.map fun v => v.category).sum = W) (hl : W + (yL + 11) + rm.locals ≤ R.locals) (hcl : cells + rm.cells ≤ R.cells) (hsl : slots + rm.slots ≤ R.slots) 
    (k : ∀ T' h' v L, Stand p l e R s m args below meth c T' (locs ++ L) (cells + rm.cells) (slots + rm.slots) → T'.heap = h' → Q v h' L → Go p e below K (T'.setTop (mkF m n ls (v.toList ++ rest)))) : Go p e below K (T.setTop (mkF m pc ls st)) := by
  subst hn hst
  obtain ⟨v, _, ⟨T', L', k', n'⟩, -, X', ⟨L1, hQ, l1, y1, z1⟩, stp⟩ := Jvm.LawKit.callS X C.hx (y := y) C.hown (mvT C.hZ wl) (mvT C.hZ ws) (mvT C.hZ wi) (mvT C.hZ wc) hy (backOf (W := W) (hC []) C.hZ wc wi hf hl) (g := mkF m pc ls (argsL.reverse ++ rest)) rfl (hsz.trans C.hml.symm) (argsL := argsL) (rest := rest) hlen rfl (by show 2 * 0 + _ ≤ _; omega) (hb C.hby hd) (fun _ _ => ⟨rfl, eT, hcl, hsl⟩)
  dsimp only [Pt.U, Pt.locs, Pt.cells, Pt.slots] at X' l1 y1 z1 stp hQ
  subst l1 y1 z1
  exact Go.of stp (k T' T'.heap v L1 X' rfl hQ)
theorem Go.spec (C : Cx p s m meth c Z own bytes maxL ret nm) (X : Stand p l e R s m args below meth c T locs cells slots) {pc n : Nat} {ls : Array Slot} {rest : List Value} (eT : T.heap = h) {index yL W : Nat} {ybytes : ByteArray} {rm : Room} {Q : Option Value → Heap → List Loc → Prop} {argsL : List Value} {st : List Value} {y : MethodName} {a : Addr} (hC : Ctr l Z y ybytes yL none rm (.ref a :: argsL).toArray h Q) (hy1 : y.name = "<init>") (wl : (Cond.methodLink own index y).before a0 Z = true) (wm : (Cond.instanceMethod y).before a0 Z = true) (wi : (Cond.initialized y.cls).before a0 Z = true) (wc : (Cond.code y ybytes yL none).before a0 Z = true) (hy : y.cls ≠ "java/lang/invoke/MethodHandle" ∧ y.cls ≠ "java/lang/invoke/VarHandle")
    (hlen : ∀ sig, parseMethodDescriptor y.desc = some sig → argsL.length = sig.parameters.length) (hst : st = argsL.reverse ++ .ref a :: rest) (hd : decode bytes pc = .ok (.invokespecial index, 3)) (hn : pc + 3 = n) (hsz : ls.size = maxL) (hf : rm.frames + 1 ≤ R.frames) (hW : (rest.map fun v => v.category).sum = W) (hl : W + (yL + 11) + rm.locals ≤ R.locals) (hcl : cells + rm.cells ≤ R.cells) (hsl : slots + rm.slots ≤ R.slots) 
    (k : ∀ T' h' v L, Stand p l e R s m args below meth c T' (locs ++ L) (cells + rm.cells) (slots + rm.slots) → T'.heap = h' → Q v h' L → Go p e below K (T'.setTop (mkF m n ls (v.toList ++ rest)))) : Go p e below K (T.setTop (mkF m pc ls st)) := by
  subst hn hst
  obtain ⟨v, _, ⟨T', L', k', n'⟩, -, X', ⟨L1, hQ, l1, y1, z1⟩, stp⟩ := X.specialBack C.hx (y := y) hy1 C.hown (mvT C.hZ wl) (mvT C.hZ wm) (mvT C.hZ wc) hy (backOf (W := W) (hC []) C.hZ wc wi hf hl) (g := mkF m pc ls (argsL.reverse ++ .ref a :: rest)) rfl (hsz.trans C.hml.symm) (Steps.refl _) (a := a) (argsL := argsL) (rest := rest) hlen rfl (by show 2 * 0 + _ ≤ _; omega) (hb C.hby hd) (fun _ _ => ⟨rfl, eT, hcl, hsl⟩)
  dsimp only [Pt.U, Pt.locs, Pt.cells, Pt.slots] at X' l1 y1 z1 stp hQ
  subst l1 y1 z1
  exact Go.of (fun t q => stp.trans q) (k T' T'.heap v L1 X' rfl hQ)
theorem Go.virt (C : Cx p s m meth c Z own bytes maxL ret nm) (X : Stand p l e R s m args below meth c T locs cells slots) {pc n : Nat} {ls : Array Slot} {rest : List Value} (eT : T.heap = h) {index yL W : Nat} {ybytes : ByteArray} {yret : Option FieldType} {rm : Room} {Q : Option Value → Heap → List Loc → Prop} {argsL : List Value} {st : List Value} {y z : MethodName} {a : Addr} {C0 : String} (hC : Ctr l Z z ybytes yL yret rm (.ref a :: argsL).toArray h Q) (wl : (Cond.methodLink own index y).before a0 Z = true) (wd : (Cond.declares y).before a0 Z = true) (nf : NotFace s y) (wsel : (Cond.selects C0 y z).before a0 Z = true) (wm : (Cond.instanceMethod z).before a0 Z = true) (wi : (Cond.initialized z.cls).before a0 Z = true) (wc : (Cond.code z ybytes yL yret).before a0 Z = true) (hy : y.cls ≠ "java/lang/invoke/MethodHandle" ∧ y.cls ≠ "java/lang/invoke/VarHandle") (E : Exa Z h a C0)
    (hlen : ∀ sig, parseMethodDescriptor y.desc = some sig → argsL.length = sig.parameters.length) (hst : st = argsL.reverse ++ .ref a :: rest) (hd : decode bytes pc = .ok (.invokevirtual index, 3)) (hn : pc + 3 = n) (hsz : ls.size = maxL) (hf : rm.frames + 1 ≤ R.frames) (hW : (rest.map fun v => v.category).sum = W) (hl : W + (yL + 11) + rm.locals ≤ R.locals) (hcl : cells + rm.cells ≤ R.cells) (hsl : slots + rm.slots ≤ R.slots) 
    (k : ∀ T' h' v L, Stand p l e R s m args below meth c T' (locs ++ L) (cells + rm.cells) (slots + rm.slots) → T'.heap = h' → Q v h' L → Go p e below K (T'.setTop (mkF m n ls (v.toList ++ rest)))) : Go p e below K (T.setTop (mkF m pc ls st)) := by
  subst hn hst
  obtain ⟨cq, kq, q1, q2, q3⟩ := isOf C.hZ eT E
  obtain ⟨v, _, ⟨T', L', k', n'⟩, -, X', ⟨L1, hQ, l1, y1, z1⟩, stp⟩ := X.virtualBack C.hx (y := y) (z := z) C.hown (mvT C.hZ wl) (mvT C.hZ wd) nf (mvT C.hZ wsel) (mvT C.hZ wm) hy (backOf (W := W) (hC []) C.hZ wc wi hf hl) q1 q3 (g := mkF m pc ls (argsL.reverse ++ .ref a :: rest)) rfl (hsz.trans C.hml.symm) (Steps.refl _) (argsL := argsL) (rest := rest) hlen rfl (by show 2 * 0 + _ ≤ _; omega) (hb C.hby hd) (fun _ _ => ⟨rfl, eT, hcl, hsl⟩)
  dsimp only [Pt.U, Pt.locs, Pt.cells, Pt.slots] at X' l1 y1 z1 stp hQ
  subst l1 y1 z1
  exact Go.of (fun t q => stp.trans q) (k T' T'.heap v L1 X' rfl hQ)
theorem Go.priv (C : Cx p s m meth c Z own bytes maxL ret nm) (X : Stand p l e R s m args below meth c T locs cells slots) {pc n : Nat} {ls : Array Slot} {rest : List Value} (eT : T.heap = h) {index yL W : Nat} {ybytes : ByteArray} {yret : Option FieldType} {rm : Room} {Q : Option Value → Heap → List Loc → Prop} {argsL : List Value} {st : List Value} {y : MethodName} {a : Addr} {C0 : String} (hC : Ctr l Z y ybytes yL yret rm (.ref a :: argsL).toArray h Q) (wl : (Cond.methodLink own index y).before a0 Z = true) (wm : (Cond.instanceMethod y).before a0 Z = true) {kk : Nat} (wk : (Cond.instantiable y.cls kk).before a0 Z = true) (wp : (Cond.privateMethod y).before a0 Z = true) (wi : (Cond.initialized y.cls).before a0 Z = true) (wc : (Cond.code y ybytes yL yret).before a0 Z = true) (hy : y.cls ≠ "java/lang/invoke/MethodHandle" ∧ y.cls ≠ "java/lang/invoke/VarHandle") (E : Exa Z h a C0)
    (hlen : ∀ sig, parseMethodDescriptor y.desc = some sig → argsL.length = sig.parameters.length) (hst : st = argsL.reverse ++ .ref a :: rest) (hd : decode bytes pc = .ok (.invokevirtual index, 3)) (hn : pc + 3 = n) (hsz : ls.size = maxL) (hf : rm.frames + 1 ≤ R.frames) (hW : (rest.map fun v => v.category).sum = W) (hl : W + (yL + 11) + rm.locals ≤ R.locals) (hcl : cells + rm.cells ≤ R.cells) (hsl : slots + rm.slots ≤ R.slots) 
    (k : ∀ T' h' v L, Stand p l e R s m args below meth c T' (locs ++ L) (cells + rm.cells) (slots + rm.slots) → T'.heap = h' → Q v h' L → Go p e below K (T'.setTop (mkF m n ls (v.toList ++ rest)))) : Go p e below K (T.setTop (mkF m pc ls st)) := by
  subst hn hst
  obtain ⟨cq, q, q'⟩ := E.cell
  obtain ⟨c0, k0, i1, i2, -, i4, -⟩ := Cond.instantiable_spec (mvT C.hZ wk (args := args) : (Cond.instantiable y.cls kk).before args s = true)
  have hni : k0.isInterface = false := by cases hq : k0.isInterface <;> simp [hq] at i4 ⊢
  have hsel := selects_self_of_private (args := args) i1 i2 hni (Cond.privateMethod_at (mvP C.hZ wp (args := #[]))) (mvT C.hZ wm) hy
  obtain ⟨v, _, ⟨T', L', k', n'⟩, -, X', ⟨L1, hQ, l1, y1, z1⟩, stp⟩ := X.privateBack C.hx (y := y) C.hown (mvT C.hZ wl) (mvT C.hZ wm) hsel (Cond.privateMethod_at (mvP C.hZ wp (args := #[]))) (mvT C.hZ wc) hy (backOf (W := W) (hC []) C.hZ wc wi hf hl) (g := mkF m pc ls (argsL.reverse ++ .ref a :: rest)) rfl (hsz.trans C.hml.symm) (Steps.refl _) (a := a) (by rw [eT]; exact q) q' (argsL := argsL) (rest := rest) hlen rfl (by show 2 * 0 + _ ≤ _; omega) (hb C.hby hd) (fun _ _ => ⟨rfl, eT, hcl, hsl⟩)
  dsimp only [Pt.U, Pt.locs, Pt.cells, Pt.slots] at X' l1 y1 z1 stp hQ
  subst l1 y1 z1
  exact Go.of (fun t q => stp.trans q) (k T' T'.heap v L1 X' rfl hQ)
theorem Go.face (C : Cx p s m meth c Z own bytes maxL ret nm) (X : Stand p l e R s m args below meth c T locs cells slots) {pc n : Nat} {ls : Array Slot} {rest : List Value} (eT : T.heap = h) {index yL W : Nat} {ybytes : ByteArray} {yret : Option FieldType} {rm : Room} {Q : Option Value → Heap → List Loc → Prop} {argsL : List Value} {st : List Value} {count : Nat} {xi y : MethodName} {a : Addr} {C0 : String} (hC : Ctr l Z y ybytes yL yret rm (.ref a :: argsL).toArray h Q) (wl : (Cond.methodLink own index xi).before a0 Z = true) (wd : (Cond.declares xi).before a0 Z = true) (wf : (Cond.interfaceMethod xi.cls xi.cls xi.name xi.desc).before a0 Z = true) (wsel : (Cond.selects C0 xi y).before a0 Z = true) (wm : (Cond.instanceMethod y).before a0 Z = true) (wp : (Cond.publicMethod y).before a0 Z = true) (wu : (Cond.unhidden C0 xi.name xi.desc).before a0 Z = true) (wca : (Cond.castable C0 xi.cls).before a0 Z = true) (wi : (Cond.initialized y.cls).before a0 Z = true) (wc : (Cond.code y ybytes yL yret).before a0 Z = true) (hy : xi.cls ≠ "java/lang/invoke/MethodHandle" ∧ xi.cls ≠ "java/lang/invoke/VarHandle") (E : Exa Z h a C0)
    (hlen : ∀ sig, parseMethodDescriptor xi.desc = some sig → argsL.length = sig.parameters.length) (hst : st = argsL.reverse ++ .ref a :: rest) (hd : decode bytes pc = .ok (.invokeinterface index count, 5)) (hn : pc + 5 = n) (hsz : ls.size = maxL) (hf : rm.frames + 1 ≤ R.frames) (hW : (rest.map fun v => v.category).sum = W) (hl : W + (yL + 11) + rm.locals ≤ R.locals) (hcl : cells + rm.cells ≤ R.cells) (hsl : slots + rm.slots ≤ R.slots) 
    (k : ∀ T' h' v L, Stand p l e R s m args below meth c T' (locs ++ L) (cells + rm.cells) (slots + rm.slots) → T'.heap = h' → Q v h' L → Go p e below K (T'.setTop (mkF m n ls (v.toList ++ rest)))) : Go p e below K (T.setTop (mkF m pc ls st)) := by
  subst hn hst
  obtain ⟨cq, kq, q1, q2, q3⟩ := isOf C.hZ eT E
  obtain ⟨v, _, ⟨T', L', k', n'⟩, -, X', ⟨L1, hQ, l1, y1, z1⟩, stp⟩ := X.interfaceBack C.hx (xi := xi) (y := y) C.hown (mvT C.hZ wl) (mvT C.hZ wd) (mvT C.hZ wf (by simp [Cond.onTables, Cond.keepsFace, Cond.keeps, Cond.faceAtom, Cond.steady, hy.1, hy.2])) (mvT C.hZ wsel) (mvT C.hZ wm) (mvT C.hZ wp) (mvT C.hZ wu) (mvT C.hZ wca) hy (backOf (W := W) (hC []) C.hZ wc wi hf hl) q1 q2 q3 (g := mkF m pc ls (argsL.reverse ++ .ref a :: rest)) rfl (hsz.trans C.hml.symm) (Steps.refl _) (argsL := argsL) (rest := rest) hlen rfl (by show 2 * 0 + _ ≤ _; omega) (hb C.hby hd) (fun _ _ => ⟨rfl, eT, hcl, hsl⟩)
  dsimp only [Pt.U, Pt.locs, Pt.cells, Pt.slots] at X' l1 y1 z1 stp hQ
  subst l1 y1 z1
  exact Go.of (fun t q => stp.trans q) (k T' T'.heap v L1 X' rfl hQ)
end OwnA
end Jvm.RoadKit
namespace Jvm.RoadKit
open Sem ClassFile Op Lib Jvm.Stand Jvm.Free Jvm.LawKit
section OwnB
variable {p : Program} {l : Launch} {e : Env} {R : Room} {s : State} {m : MethodId} {args : Array Value} {below : List Frame} {meth : Method} {c : Code} {T : State} {locs : List Loc} {cells slots : Nat} {Z : State} {a0 : Array Value} {h h' : Heap} {a b : Addr} {sl : Nat} {v : Value} {ty : FieldType} {vs : List Value} {ws : List Addr}
variable {own nm : String} {bytes : ByteArray} {maxL : Nat} {ret : Option FieldType} {K : Outcome → State → Prop}
theorem wd {tab : List Jvm.Cond} {a0 : Array Value} {Z : State} (hw : ∀ d ∈ tab, d.before a0 Z = true) (k : Nat) {d : Jvm.Cond} (q : tab[k]? = some d) : d.before a0 Z = true := hw d (List.mem_of_getElem? q)
theorem Old.le {n0 : Nat} (O : Old Z n0 h) : n0 ≤ h.size := O.1 ▸ O.2.1
theorem Fr.one {k i : Nat} (q : k ≤ a) : Fr k [⟨a, i⟩] := fun y hy => by cases List.mem_singleton.mp hy; exact q
theorem Go.weaken {Q Q' : Option Value → Heap → List Loc → Prop} {k n : Nat} (q : ∀ v h L, Q v h L → Q' v h L) (g : Go p e below (EndQ s Q k n) T) : Go p e below (EndQ s Q' k n) T := by
  obtain ⟨t, o, h1, h2, h3, v, L, h4, h5, h6⟩ := g
  exact ⟨t, o, h1, h2, h3, v, L, h4, q _ _ _ h5, h6⟩
/-- an array and its components -/
def Arl (Z : State) (h : Heap) (a : Addr) (ty : FieldType) (vs : List Value) : Prop := ∃ c : Cell, Arr Z h a c ty ∧ c.slots.toList = vs ∧ vs.length < 2 ^ 31
theorem Arl.lt (F : Arl Z h a ty vs) : a < h.size := by obtain ⟨c, A, -⟩ := F; exact A.lt
theorem Arl.ext (F : Arl Z h a ty vs) (E : Ext h h') : Arl Z h' a ty vs := by obtain ⟨c, A, r⟩ := F; exact ⟨c, A.ext E, r⟩
theorem Arl.other (F : Arl Z h b ty vs) (W : Wr h h' a sl v) (q : b ≠ a) : Arl Z h' b ty vs := by obtain ⟨c, A, r⟩ := F; exact ⟨c, A.other W q, r⟩
theorem Arl.keep (F : Arl Z h a ty vs) (K : Keep h h' ws) (q : a ∉ ws) : Arl Z h' a ty vs := by obtain ⟨c, A, r⟩ := F; exact ⟨c, ⟨K.2.1 a c A.1 q, A.2⟩, r⟩
theorem Arl.set (F : Arl Z h a ty vs) (W : Wr h h' a sl v) : Arl Z h' a ty (vs.set sl v) := by
  obtain ⟨c, A, e1, r⟩ := F
  exact ⟨c.setSlot sl v, A.same W, by simp [Cell.setSlot, e1], by simpa using r⟩
theorem Arl.new {k : ClassId} {z : Int32} {n : Nat} (A : Arr Z h a (newA k ty z) ty) (hz : z.toInt = n) : Arl Z h a ty (List.replicate n (defaultValue ty)) := by
  have h1 : z.toNatClampNeg = n := by simp only [Int32.toNatClampNeg]; omega
  have h2 := Int32.toInt_lt z
  exact ⟨_, A, by simp [newA, h1], by simp; omega⟩
theorem nat_idx {j : Int32} {i : Nat} (hj : j.toInt = i) : j.toNatClampNeg = i ∧ ¬ j < 0 := by
  refine ⟨by simp only [Int32.toNatClampNeg]; omega, fun q => ?_⟩
  rw [Int32.lt_iff_toInt_lt] at q
  simp at q; omega
theorem Arl.at (F : Arl Z h a ty vs) {j : Int32} {i : Nat} (hj : j.toInt = i) (hv : vs[i]? = some v) : ∃ c : Cell, Arr Z h a c ty ∧ ¬ (j < 0 ∨ c.slots.size ≤ j.toNatClampNeg) ∧ c.slots[j.toNatClampNeg]? = some v := by
  obtain ⟨c, A, e1, r⟩ := F
  obtain ⟨q1, q2⟩ := nat_idx hj
  subst e1
  rw [Array.getElem?_toList] at hv
  obtain ⟨hlt, -⟩ := Array.getElem?_eq_some_iff.mp hv
  exact ⟨c, A, fun q => q.elim q2 (fun q => by omega), by rw [q1]; exact hv⟩
theorem Arl.in (F : Arl Z h a ty vs) {j : Int32} {i : Nat} (hj : j.toInt = i) (hi : i < vs.length) : ∃ c : Cell, Arr Z h a c ty ∧ ¬ (j < 0 ∨ c.slots.size ≤ j.toNatClampNeg) ∧ j.toNatClampNeg = i := by
  obtain ⟨c, A, e1, r⟩ := F
  obtain ⟨q1, q2⟩ := nat_idx hj
  subst e1
  rw [Array.length_toList] at hi
  exact ⟨c, A, fun q => q.elim q2 (fun q => by omega), q1⟩
section Cxs
variable (C : Cx p s m meth c Z own bytes maxL ret nm) (X : Stand p l e R s m args below meth c T locs cells slots) {pc n : Nat} {ls : Array Slot} {rest : List Value} (eT : T.heap = h) {j : Int32}
theorem Go.ialoadL (C : Cx p s m meth c Z own bytes maxL ret nm) (X : Stand p l e R s m args below meth c T locs cells slots) (eT : T.heap = h) (F : Arl Z h a .int vs) (i : Nat) (hj : j.toInt = i) (hv : vs[i]? = some v) (hd : decode bytes pc = .ok (.iaload, 1)) (hn : pc + 1 = n) (k : Go p e below K (T.setTop (mkF m n ls (v :: rest)))) : Go p e below K (T.setTop (mkF m pc ls (.int j :: .ref a :: rest))) := by
  obtain ⟨cl, A, q1, q2⟩ := F.at hj hv
  exact Go.iaload C X eT A q1 q2 hd hn k
theorem Go.caloadL (C : Cx p s m meth c Z own bytes maxL ret nm) (X : Stand p l e R s m args below meth c T locs cells slots) (eT : T.heap = h) (F : Arl Z h a .char vs) (i : Nat) (hj : j.toInt = i) (hv : vs[i]? = some v) (hd : decode bytes pc = .ok (.caload, 1)) (hn : pc + 1 = n) (k : Go p e below K (T.setTop (mkF m n ls (v :: rest)))) : Go p e below K (T.setTop (mkF m pc ls (.int j :: .ref a :: rest))) := by
  obtain ⟨cl, A, q1, q2⟩ := F.at hj hv
  exact Go.caload C X eT A q1 q2 hd hn k
theorem Go.aaloadL (C : Cx p s m meth c Z own bytes maxL ret nm) (X : Stand p l e R s m args below meth c T locs cells slots) (eT : T.heap = h) (hty : ty.isReference = true) (F : Arl Z h a ty vs) (i : Nat) (hj : j.toInt = i) (hv : vs[i]? = some v) (hd : decode bytes pc = .ok (.aaload, 1)) (hn : pc + 1 = n) (k : Go p e below K (T.setTop (mkF m n ls (v :: rest)))) : Go p e below K (T.setTop (mkF m pc ls (.int j :: .ref a :: rest))) := by
  obtain ⟨cl, A, q1, q2⟩ := F.at hj hv
  exact Go.aaload C X eT hty A q1 q2 hd hn k
theorem Go.lengthL (C : Cx p s m meth c Z own bytes maxL ret nm) (X : Stand p l e R s m args below meth c T locs cells slots) (eT : T.heap = h) (F : Arl Z h a ty vs) {z : Int32} (hz : z.toInt = vs.length) (hd : decode bytes pc = .ok (.arraylength, 1)) (hn : pc + 1 = n) (k : Go p e below K (T.setTop (mkF m n ls (.int z :: rest)))) : Go p e below K (T.setTop (mkF m pc ls (.ref a :: rest))) := by
  obtain ⟨cl, A, q1, q2⟩ := F
  refine Go.arraylength C X eT A ?_ hd hn k
  subst q1
  rw [Array.length_toList] at q2 hz
  exact Int32.toInt_inj.mp (by rw [len_toInt q2, hz])
theorem Go.iastoreL (C : Cx p s m meth c Z own bytes maxL ret nm) (X : Stand p l e R s m args below meth c T locs cells slots) (eT : T.heap = h) {x : Int32} (F : Arl Z h a .int vs) (i : Nat) (hj : j.toInt = i) (hi : i < vs.length) (hd : decode bytes pc = .ok (.iastore, 1)) (hn : pc + 1 = n)
    (k : ∀ T' h', Stand p l e R s m args below meth c T' (locs ++ [⟨a, i⟩]) cells slots → T'.heap = h' → Wr h h' a i (.int x) → Arl Z h' a .int (vs.set i (.int x)) → Go p e below K (T'.setTop (mkF m n ls rest))) : Go p e below K (T.setTop (mkF m pc ls (.int x :: .int j :: .ref a :: rest))) := by
  obtain ⟨cl, A, q1, q2⟩ := F.in hj hi
  refine Go.iastore C X eT A q1 hd hn fun T' h' X' e' W => ?_
  rw [q2] at X' W
  exact k T' h' X' e' W (F.set W)
theorem Go.castoreL (C : Cx p s m meth c Z own bytes maxL ret nm) (X : Stand p l e R s m args below meth c T locs cells slots) (eT : T.heap = h) {x : Int32} (F : Arl Z h a .char vs) (i : Nat) (hj : j.toInt = i) (hi : i < vs.length) (hd : decode bytes pc = .ok (.castore, 1)) (hn : pc + 1 = n)
    (k : ∀ T' h', Stand p l e R s m args below meth c T' (locs ++ [⟨a, i⟩]) cells slots → T'.heap = h' → Wr h h' a i (.int (nar .char x)) → Arl Z h' a .char (vs.set i (.int (nar .char x))) → Go p e below K (T'.setTop (mkF m n ls rest))) : Go p e below K (T.setTop (mkF m pc ls (.int x :: .int j :: .ref a :: rest))) := by
  obtain ⟨cl, A, q1, q2⟩ := F.in hj hi
  refine Go.castore C X eT A q1 hd hn fun T' h' X' e' W => ?_
  rw [q2] at X' W
  exact k T' h' X' e' W (F.set W)
theorem Go.bastoreL (C : Cx p s m meth c Z own bytes maxL ret nm) (X : Stand p l e R s m args below meth c T locs cells slots) (eT : T.heap = h) {x : Int32} (F : Arl Z h a .byte vs) (i : Nat) (hj : j.toInt = i) (hi : i < vs.length) (hd : decode bytes pc = .ok (.bastore, 1)) (hn : pc + 1 = n)
    (k : ∀ T' h', Stand p l e R s m args below meth c T' (locs ++ [⟨a, i⟩]) cells slots → T'.heap = h' → Wr h h' a i (.int (nar .byte x)) → Arl Z h' a .byte (vs.set i (.int (nar .byte x))) → Go p e below K (T'.setTop (mkF m n ls rest))) : Go p e below K (T.setTop (mkF m pc ls (.int x :: .int j :: .ref a :: rest))) := by
  obtain ⟨cl, A, q1, q2⟩ := F.in hj hi
  refine Go.bastoreB C X eT A q1 hd hn fun T' h' X' e' W => ?_
  rw [q2] at X' W
  exact k T' h' X' e' W (F.set W)
theorem Go.newL (C : Cx p s m meth c Z own bytes maxL ret nm) (X : Stand p l e R s m args below meth c T locs cells slots) (eT : T.heap = h) {aty : ArrayType} (w : (Cond.arrayClass (newarray.typeOf aty)).before a0 Z = true) {z : Int32} (i : Nat) (hz : z.toInt = i) (cap : Nat) (hcap : i ≤ cap) (hd : decode bytes pc = .ok (.newarray aty, 2)) (hn : pc + 2 = n) (hb8 : cap * 8 ≤ 536870912) (hc : cells + 1 ≤ R.cells) (hl : slots + cap ≤ R.slots)
    (k : ∀ T' h' a, a = h.size → Stand p l e R s m args below meth c T' locs (cells + 1) (slots + cap) → T'.heap = h' → Ext h h' → Arl Z h' a (newarray.typeOf aty) (List.replicate i (defaultValue (newarray.typeOf aty))) → Go p e below K (T'.setTop (mkF m n ls (.ref a :: rest)))) : Go p e below K (T.setTop (mkF m pc ls (.int z :: rest))) := by
  obtain ⟨q1, q2⟩ := nat_idx hz
  exact Go.newP C X eT w hd hn q2 cap (by rw [q1]; exact hcap) hb8 hc hl fun T' h' a' cA e1 X' e' E A => k T' h' a' e1 X' e' E (Arl.new A hz)
theorem Go.newLE (C : Cx p s m meth c Z own bytes maxL ret nm) (X : Stand p l e R s m args below meth c T locs cells slots) (eT : T.heap = h) {aty : ArrayType} (w : (Cond.arrayClass (newarray.typeOf aty)).before a0 Z = true) {z : Int32} (i : Nat) (hz : z.toInt = i) (cap : Nat) (hcap : i ≤ cap) (hd : decode bytes pc = .ok (.newarray aty, 2)) (hn : pc + 2 = n) (hb8 : cap * 8 ≤ 536870912) (hc : cells + 1 ≤ R.cells) (hl : slots + cap ≤ R.slots) {ad : String} (had : "[" ++ (newarray.typeOf aty).toString = ad)
    (k : ∀ T' h' a, a = h.size → Stand p l e R s m args below meth c T' locs (cells + 1) (slots + cap) → T'.heap = h' → Ext h h' → Arl Z h' a (newarray.typeOf aty) (List.replicate i (defaultValue (newarray.typeOf aty))) → Exa Z h' a ad → Go p e below K (T'.setTop (mkF m n ls (.ref a :: rest)))) : Go p e below K (T.setTop (mkF m pc ls (.int z :: rest))) := by
  obtain ⟨q1, q2⟩ := nat_idx hz
  exact Go.newPE C X eT w hd hn q2 cap (by rw [q1]; exact hcap) hb8 hc hl had fun T' h' a' cA e1 X' e' E A x' => k T' h' a' e1 X' e' E (Arl.new A hz) x'
theorem Go.cloneL (C : Cx p s m meth c Z own bytes maxL ret nm) (X : Stand p l e R s m args below meth c T locs cells slots) (eT : T.heap = h) {index : Nat} {ad : String} (w1 : (Cond.methodLink own index ⟨ad, "clone", "()Ljava/lang/Object;"⟩).before a0 Z = true) (w2 : (Cond.sameMethod ad "java/lang/Object" "clone" "()Ljava/lang/Object;").before a0 Z = true) (w3 : (Cond.native ⟨"java/lang/Object", "clone", "()Ljava/lang/Object;"⟩).before a0 Z = true) (w4 : (Cond.instanceMethod ⟨"java/lang/Object", "clone", "()Ljava/lang/Object;"⟩).before a0 Z = true) (w5 : (Cond.selects ad ⟨ad, "clone", "()Ljava/lang/Object;"⟩ ⟨"java/lang/Object", "clone", "()Ljava/lang/Object;"⟩).before a0 Z = true) (w6 : (Cond.castable ad "java/lang/Cloneable").before a0 Z = true)
    (F : Arl Z h a ty vs) (E : Exa Z h a ad) (hfit : ∀ v ∈ vs, fits ty v = true) (hd : decode bytes pc = .ok (.invokevirtual index, 3)) (hn : pc + 3 = n) (hsz : ls.size = maxL) (hf : 1 ≤ R.frames) {W : Nat} (hW : (rest.map fun v => v.category).sum = W) (hl : W + 14 ≤ R.locals) (cap : Nat) (hcap : vs.length ≤ cap) (hc : cells + 1 ≤ R.cells) (hsl : slots + cap ≤ R.slots)
    (k : ∀ T' h' b, b = h.size → Stand p l e R s m args below meth c T' locs (cells + 1) (slots + cap) → T'.heap = h' → Ext h h' → Arl Z h' b ty vs → Exa Z h' b ad → Go p e below K (T'.setTop (mkF m n ls (.ref b :: rest)))) : Go p e below K (T.setTop (mkF m pc ls (.ref a :: rest))) := by
  obtain ⟨cl, A, q1, q2⟩ := F
  have FC : FitC Z cl := fitC_of A fun i hi v hv => hfit v (by rw [← q1]; exact Array.mem_toList_iff.mpr (Array.mem_of_getElem? hv))
  exact Go.cloneA C X eT w1 w2 w3 w4 w5 w6 A E FC hd hn hsz hf hW hl cap (by rw [← Array.length_toList, q1]; exact hcap) hc hsl fun T' h' b e1 X' e' E' A' x' => k T' h' b e1 X' e' E' ⟨_, A', q1, q2⟩ x'
end Cxs
/-! from the words of a case -/
theorem fldI {args : Array Value} {t : Term} {C f d : String} {k : Int32} (ev : t.eval args s none [] s = some (.ref a)) (q : (Cond.eq (.field t C f d) (.int k)).value args s none s [] = some true) : Fld s s.heap a C f d (.int k) := by
  obtain ⟨x, y, e1, e2, k1, k2⟩ := cmp_v (Or.inl q)
  cases e2
  obtain ⟨z, rfl⟩ := k2
  have e3 : (Term.int k).eval args s none [] s = some (.int k) := rfl
  have q2 : (Cond.eq (.field t C f d) (.int k)).value args s none s [] = some (decide (z = k)) := by simp [Cond.value, e1, e3]
  have q3 := gotT q2 q
  subst q3
  rw [fld_at ev] at e1
  exact Fld.start e1
theorem staE {args : Array Value} {C n d K : String} (q : (Cond.exactly (.static C n d) K).value args s none s [] = some true) (w1 : (Cond.initialized C).before args s = true) (w2 : (Cond.laysStatic C n d).before args s = true) : ∃ a, (Term.static C n d).eval args s none [] s = some (.ref a) ∧ Sta s s.heap C n d (.ref a) ∧ Exa s s.heap a K := by
  obtain ⟨a, ev⟩ := exa_v q
  exact ⟨a, ev, Sta.start ev (Or.inr ⟨w1, w2⟩), Exa.start ev q⟩
end OwnB
end Jvm.RoadKit
@@BLOCK:NumsL.lean.txt@@
namespace Jvm.Pilot.@@N@@
open Jvm Jvm.ClassFile Sem Op Lib Jvm.Free Jvm.Stand Jvm.LawKit Jvm.RoadKit Bundle Jvm.Pilot.@@N@@.Jvm.D
/-! the plain law: the odometer's step is the successor of a number written with three digits -/
/-- the odometer's step: k places are left -/
def advK : Nat → List Int32 → List Int32 → Int32 × List Int32
  | 0, cur, _ => (0, cur)
  | k + 1, cur, ys => if cur.getD k 0 + 1 < ys.getD k 0 then (1, cur.set k (cur.getD k 0 + 1)) else advK k ((cur.set k (cur.getD k 0 + 1)).set k 0) ys
theorem own_at {xs : List Int32} {k : Nat} (hk : k < xs.length) : (xs.map Value.int)[k]? = some (.int (xs.getD k 0)) := by simp [List.getD_eq_getElem?_getD, hk]
theorem own_set_at {xs : List Int32} {k : Nat} {v : Int32} (hk : k < xs.length) : ((xs.set k v).map Value.int)[k]? = some (.int v) := by simp [hk]
theorem own_dec {i : Int32} (h : 0 ≤ i.toInt) : (i + (-1 : Int32)).toInt = i.toInt - 1 := by
  have h1 : (-1 : Int32).toInt = -1 := by decide
  have h2 := i.toInt_lt
  rw [Jvm.Kit.i32_add (by rw [h1]; omega) (by rw [h1]; omega), h1]; omega
theorem own_dec1 {i : Int32} (h : 0 ≤ i.toInt) : (i - (1 : Int32)).toInt = i.toInt - 1 := by
  have h1 : (1 : Int32).toInt = 1 := by decide
  have h2 := i.toInt_lt
  rw [Jvm.Kit.i32_sub (by rw [h1]; omega) (by rw [h1]; omega), h1]
theorem own_nz {x : Int32} (h : 1 ≤ x.toInt ∧ x.toInt ≤ 2 ^ 20) : x.toInt64 ≠ 0 := fun q => by
  have h1 := congrArg Int64.toInt q
  rw [Jvm.Kit.i64_of_i32] at h1
  have h2 : (0 : Int64).toInt = 0 := by decide
  omega
theorem own_nz32 {x : Int32} (h : 1 ≤ x.toInt ∧ x.toInt ≤ 2 ^ 20) : x ≠ 0 := fun q => by
  have h1 := congrArg Int32.toInt q
  have h2 : (0 : Int32).toInt = 0 := by decide
  omega
theorem own_mulb {x y A B : Int} (h1 : 0 ≤ x) (h2 : x ≤ A) (h3 : 0 ≤ y) (h4 : y ≤ B) : 0 ≤ x * y ∧ x * y ≤ A * B :=
  ⟨Int.mul_nonneg h1 h3, Int.mul_le_mul h2 h4 h3 (Int.le_trans h1 h2)⟩
theorem own_mulp {x y : Int} (h1 : 1 ≤ x) (h3 : 1 ≤ y) : 1 ≤ x * y := by
  have := Int.mul_le_mul h1 h3 (by omega) (by omega)
  omega
theorem own_mul64 {x y : Int64} (k1 : 0 ≤ x.toInt ∧ x.toInt ≤ 2 ^ 40) (k2 : 0 ≤ y.toInt ∧ y.toInt ≤ 2 ^ 20) : (x * y).toInt = x.toInt * y.toInt := by
  have h := own_mulb k1.1 k1.2 k2.1 k2.2
  refine Jvm.Kit.i64_mul (by omega) (by omega)
theorem own_mulnz {x y : Int32} (k1 : 1 ≤ x.toInt ∧ x.toInt ≤ 2 ^ 20) (k2 : 1 ≤ y.toInt ∧ y.toInt ≤ 2 ^ 20) : x.toInt64 * y.toInt64 ≠ 0 := fun q => by
  have h1 := congrArg Int64.toInt q
  rw [own_mul64 (by rw [Jvm.Kit.i64_of_i32]; omega) (by rw [Jvm.Kit.i64_of_i32]; omega), Jvm.Kit.i64_of_i32, Jvm.Kit.i64_of_i32] at h1
  have h2 : (0 : Int64).toInt = 0 := by decide
  have h3 := own_mulp k1.1 k2.1
  omega
theorem own_mulnz1 {x : Int32} (k1 : 1 ≤ x.toInt ∧ x.toInt ≤ 2 ^ 20) : x.toInt64 * (1 : Int64) ≠ 0 := by
  rw [Int64.mul_one]; exact own_nz k1
theorem own_size (x : Int32) : 1 ≤ ((1 : Int32) + (x &&& (1048575 : Int32))).toInt ∧ ((1 : Int32) + (x &&& (1048575 : Int32))).toInt ≤ 2 ^ 20 := by
  have h1 : (1 : Int32).toInt = 1 := by decide
  have h := Jvm.Kit.i32_mask x (1048575 : Int32) (k := 20) (by decide) (by decide)
  rw [Jvm.Kit.i32_add (by rw [h, h1]; omega) (by rw [h, h1]; omega), h, h1]; omega
theorem own_rem (x : Int32) {y : Int32} (k : 1 ≤ y.toInt ∧ y.toInt ≤ 2 ^ 20) : 0 ≤ ((x &&& (2147483647 : Int32)) % y).toInt ∧ ((x &&& (2147483647 : Int32)) % y).toInt < y.toInt := by
  have h := Jvm.Kit.i32_mask x (2147483647 : Int32) (k := 31) (by decide) (by decide)
  rw [Jvm.Kit.i32_rem_nonneg (by rw [h]; omega)]
  exact ⟨Int.emod_nonneg _ (by omega), Int.emod_lt_of_pos _ (by omega)⟩
theorem own_four {x : Int32} (h : 0 ≤ x.toInt ∧ x.toInt < 4) : x = 0 ∨ x = 1 ∨ x = 2 ∨ x = 3 := by
  have h0 : (0 : Int32).toInt = 0 := by decide
  have h1 : (1 : Int32).toInt = 1 := by decide
  have h2 : (2 : Int32).toInt = 2 := by decide
  have h3 : (3 : Int32).toInt = 3 := by decide
  rcases (by omega : x.toInt = 0 ∨ x.toInt = 1 ∨ x.toInt = 2 ∨ x.toInt = 3) with q | q | q | q
  · exact Or.inl (Int32.toInt_inj.mp (q.trans h0.symm))
  · exact Or.inr (Or.inl (Int32.toInt_inj.mp (q.trans h1.symm)))
  · exact Or.inr (Or.inr (Or.inl (Int32.toInt_inj.mp (q.trans h2.symm))))
  · exact Or.inr (Or.inr (Or.inr (Int32.toInt_inj.mp (q.trans h3.symm))))
theorem own_list1 {xs : List Int32} (h : xs.length = 1) : ∃ x, xs = [x] := by match xs, h with | [x], _ => exact ⟨x, rfl⟩
theorem own_list2 {xs : List Int32} (h : xs.length = 2) : ∃ x y, xs = [x, y] := by match xs, h with | [x, y], _ => exact ⟨x, y, rfl⟩
theorem own_list3 {xs : List Int32} (h : xs.length = 3) : ∃ x y z, xs = [x, y, z] := by match xs, h with | [x, y, z], _ => exact ⟨x, y, z, rfl⟩
/-- the digits of a number -/
theorem own_dig {r0 r1 r2 d0 d1 d2 m : Int} (h : m = (d0 * r1 + d1) * r2 + d2) (k0 : 0 ≤ d0 ∧ d0 < r0) (k1 : 0 ≤ d1 ∧ d1 < r1) (k2 : 0 ≤ d2 ∧ d2 < r2) : m % r2 = d2 ∧ m / r2 % r1 = d1 ∧ m / (r2 * r1) = d0 ∧ m / r2 = d0 * r1 + d1 ∧ 0 ≤ m ∧ m < r0 * r1 * r2 := by
  have e1 : m % r2 = d2 := by rw [h, Int.add_comm, Int.add_mul_emod_self_right, Int.emod_eq_of_lt k2.1 k2.2]
  have e2 : m / r2 = d0 * r1 + d1 := by rw [h, Int.add_comm, Int.add_mul_ediv_right _ _ (by omega), Int.ediv_eq_zero_of_lt k2.1 k2.2]; omega
  have e3 : (d0 * r1 + d1) % r1 = d1 := by rw [Int.add_comm, Int.add_mul_emod_self_right, Int.emod_eq_of_lt k1.1 k1.2]
  have e4 : (d0 * r1 + d1) / r1 = d0 := by rw [Int.add_comm, Int.add_mul_ediv_right _ _ (by omega), Int.ediv_eq_zero_of_lt k1.1 k1.2]; omega
  have e5 : m / (r2 * r1) = d0 := by rw [← Int.ediv_ediv_of_nonneg (by omega), e2, e4]
  have f1 : 0 ≤ d0 * r1 := Int.mul_nonneg k0.1 (by omega)
  have f2 : (d0 + 1) * r1 ≤ r0 * r1 := Int.mul_le_mul_of_nonneg_right (by omega) (by omega)
  have f3 : (d0 + 1) * r1 = d0 * r1 + r1 := by rw [Int.add_mul]; omega
  have f4 : 0 ≤ (d0 * r1 + d1) * r2 := Int.mul_nonneg (by omega) (by omega)
  have f5 : (d0 * r1 + d1 + 1) * r2 ≤ r0 * r1 * r2 := Int.mul_le_mul_of_nonneg_right (by omega) (by omega)
  have f6 : (d0 * r1 + d1 + 1) * r2 = (d0 * r1 + d1) * r2 + r2 := by rw [Int.add_mul]; omega
  exact ⟨e1, by rw [e2]; exact e3, e5, e2, by omega, by omega⟩
/-- Java's digits of a long are these -/
theorem own_java {r0 r1 r2 m : Int64} {d0 d1 d2 : Int} (h : m.toInt = (d0 * r1.toInt + d1) * r2.toInt + d2) (k0 : 0 ≤ d0 ∧ d0 < r0.toInt) (k1 : 0 ≤ d1 ∧ d1 < r1.toInt) (k2 : 0 ≤ d2 ∧ d2 < r2.toInt) (l0 : r0.toInt ≤ 2 ^ 20) (l1 : r1.toInt ≤ 2 ^ 20) (l2 : r2.toInt ≤ 2 ^ 20) :
    (m - (m / r2) * r2).toInt = d2 ∧ ((m / r2) - ((m / r2) / r1) * r1).toInt = d1 ∧ (m / (r2 * r1)).toInt = d0 ∧ m < r0 * r1 * r2 := by
  obtain ⟨e1, e2, e3, e4, e5, e6⟩ := own_dig h k0 k1 k2
  have t : (r0 * r1).toInt = r0.toInt * r1.toInt := own_mul64 (by omega) (by omega)
  have tb := own_mulb (show 0 ≤ r0.toInt by omega) l0 (show 0 ≤ r1.toInt by omega) l1
  have u : (r0 * r1 * r2).toInt = r0.toInt * r1.toInt * r2.toInt := by rw [own_mul64 (by rw [t]; omega) (by omega), t]
  have v : (r2 * r1).toInt = r2.toInt * r1.toInt := own_mul64 (by omega) (by omega)
  have w : (m / r2).toInt = m.toInt / r2.toInt := by rw [Jvm.Kit.i64_div (by omega), Int.tdiv_eq_ediv_of_nonneg e5]
  have w2 : (m / (r2 * r1)).toInt = m.toInt / (r2.toInt * r1.toInt) := by rw [Jvm.Kit.i64_div (by omega), Int.tdiv_eq_ediv_of_nonneg e5, v]
  refine ⟨?_, ?_, ?_, ?_⟩
  · rw [Jvm.Kit.i64_rem_nonneg e5]; exact e1
  · rw [Jvm.Kit.i64_rem_nonneg (by rw [w]; exact Int.ediv_nonneg e5 (by omega)), w]; exact e2
  · rw [w2]; exact e3
  · rw [Int64.lt_iff_toInt_lt, u]; exact e6
/-- the number's successor, in longs -/
theorem own_rank {r0 r1 r2 b0 b1 b2 : Int64} (k0 : 0 ≤ b0.toInt ∧ b0.toInt < r0.toInt) (k1 : 0 ≤ b1.toInt ∧ b1.toInt < r1.toInt) (k2 : 0 ≤ b2.toInt ∧ b2.toInt < r2.toInt) (l0 : r0.toInt ≤ 2 ^ 20) (l1 : r1.toInt ≤ 2 ^ 20) (l2 : r2.toInt ≤ 2 ^ 20) :
    (((b0 * r1 + b1) * r2 + b2) + 1).toInt = (b0.toInt * r1.toInt + b1.toInt) * r2.toInt + b2.toInt + 1 ∧ (r0 * r1 * r2).toInt = r0.toInt * r1.toInt * r2.toInt := by
  have h1 : (1 : Int64).toInt = 1 := by decide
  obtain ⟨e1, e2, e3, e4, e5, e6⟩ := own_dig (r0 := r0.toInt) rfl k0 k1 k2
  have t : (b0 * r1).toInt = b0.toInt * r1.toInt := own_mul64 (by omega) (by omega)
  have tb := own_mulb k0.1 (show b0.toInt ≤ 2 ^ 20 - 1 by omega) (show 0 ≤ r1.toInt by omega) l1
  have t2 : (b0 * r1 + b1).toInt = b0.toInt * r1.toInt + b1.toInt := by rw [Jvm.Kit.i64_add (by rw [t]; omega) (by rw [t]; omega), t]
  have t3 : ((b0 * r1 + b1) * r2).toInt = (b0.toInt * r1.toInt + b1.toInt) * r2.toInt := by rw [own_mul64 (by rw [t2]; omega) (by omega), t2]
  have tc := own_mulb (show 0 ≤ b0.toInt * r1.toInt + b1.toInt by omega) (show b0.toInt * r1.toInt + b1.toInt ≤ 2 ^ 40 by omega) (show 0 ≤ r2.toInt by omega) l2
  have t4 : ((b0 * r1 + b1) * r2 + b2).toInt = (b0.toInt * r1.toInt + b1.toInt) * r2.toInt + b2.toInt := by rw [Jvm.Kit.i64_add (by rw [t3]; omega) (by rw [t3]; omega), t3]
  have u : (r0 * r1).toInt = r0.toInt * r1.toInt := own_mul64 (by omega) (by omega)
  have ub := own_mulb (show 0 ≤ r0.toInt by omega) l0 (show 0 ≤ r1.toInt by omega) l1
  exact ⟨by rw [Jvm.Kit.i64_add (by rw [t4, h1]; omega) (by rw [t4, h1]; omega), t4, h1], by rw [own_mul64 (by rw [u]; omega) (by omega), u]⟩
theorem own_inc {x : Int32} (h : x.toInt ≤ 2 ^ 20) : (x + (1 : Int32)).toInt = x.toInt + 1 := by
  have h1 : (1 : Int32).toInt = 1 := by decide
  have h2 := x.le_toInt
  rw [Jvm.Kit.i32_add (by rw [h1]; omega) (by rw [h1]; omega), h1]
theorem own_ltI {x y : Int32} (h : x.toInt ≤ 2 ^ 20) : x + 1 < y ↔ x.toInt + 1 < y.toInt := by rw [Int32.lt_iff_toInt_lt, own_inc h]
theorem own_e {x : Int32} {y : Int64} {d : Int} (h1 : x.toInt = d) (h2 : y.toInt = d) : x.toInt64 = y := Int64.toInt_inj.mp (by rw [Jvm.Kit.i64_of_i32, h1, h2])
theorem own_z32 : (0 : Int32).toInt = 0 := by decide
theorem own_z64 : (0 : Int64).toInt = 0 := by decide
theorem own_o64 : (1 : Int64).toInt = 1 := by decide
theorem plain1m {s0 a0 : Int32} {r : Int32} {xs' : List Int32} (ks0 : 1 ≤ s0.toInt ∧ s0.toInt ≤ 2 ^ 20) (ka0 : 0 ≤ a0.toInt ∧ a0.toInt < s0.toInt) (hq : advK 1 [a0] [s0] = (r, xs')) (hm : ((((((0 : Int64) * (1 : Int64)) + (0 : Int64)) * (s0.toInt64)) + (a0.toInt64)) + (1 : Int64)) < (((1 : Int64) * (1 : Int64)) * (s0.toInt64))) : r = 1 ∧ xs'.length = 1 ∧ (xs'.getD 0 0).toInt64 = (((((((0 : Int64) * (1 : Int64)) + (0 : Int64)) * (s0.toInt64)) + (a0.toInt64)) + (1 : Int64)) - (((((((0 : Int64) * (1 : Int64)) + (0 : Int64)) * (s0.toInt64)) + (a0.toInt64)) + (1 : Int64)) / (s0.toInt64)) * (s0.toInt64)) := by
  obtain ⟨hN, hT⟩ := own_rank (r0 := (1 : Int64)) (r1 := (1 : Int64)) (r2 := (s0.toInt64)) (b0 := (0 : Int64)) (b1 := (0 : Int64)) (b2 := (a0.toInt64)) (by rw [own_z64, own_o64]; omega) (by rw [own_z64, own_o64]; omega) (by rw [Jvm.Kit.i64_of_i32, Jvm.Kit.i64_of_i32]; exact ka0) (by rw [own_o64]; omega) (by rw [own_o64]; omega) (by rw [Jvm.Kit.i64_of_i32]; exact ks0.2)
  simp only [Jvm.Kit.i64_of_i32, own_z64, own_o64] at hN hT
  rw [Int64.lt_iff_toInt_lt, hN, hT] at hm
  simp only [advK, List.getD_cons_zero, List.getD_cons_succ, List.set_cons_zero, List.set_cons_succ] at hq
  have c0 := own_ltI (x := a0) (y := s0) (by omega)
  have i0 := own_inc (x := a0) (by omega)
  by_cases h0 : a0 + 1 < s0
  · rw [if_pos h0] at hq
    rw [c0] at h0
    cases hq
    have hd : ((((((0 : Int64) * (1 : Int64)) + (0 : Int64)) * (s0.toInt64)) + (a0.toInt64)) + (1 : Int64)).toInt = ((0) * (1 : Int64).toInt + (0)) * (s0.toInt64).toInt + (a0.toInt + 1) := by
      rw [hN]; simp only [Jvm.Kit.i64_of_i32, own_o64]
      simp only [Int.add_assoc]
      try omega
    obtain ⟨f2, f1, f0, -⟩ := own_java (r0 := (1 : Int64)) (d0 := 0) (d1 := 0) (d2 := a0.toInt + 1) hd (by rw [own_o64]; omega) (by rw [own_o64]; omega) (by rw [Jvm.Kit.i64_of_i32]; omega) (by rw [own_o64]; omega) (by rw [own_o64]; omega) (by rw [Jvm.Kit.i64_of_i32]; exact ks0.2)
    exact ⟨rfl, rfl, own_e i0 f2⟩
  rw [if_neg h0] at hq
  rw [c0] at h0
  exfalso
  have q0 : s0.toInt = a0.toInt + 1 := by omega
  simp only [q0, Int.add_mul, Int.mul_add, Int.mul_one, Int.one_mul, Int.zero_mul, Int.mul_zero, Int.add_zero, Int.zero_add] at hm
  omega
theorem plain1n {s0 a0 : Int32} {r : Int32} {xs' : List Int32} (ks0 : 1 ≤ s0.toInt ∧ s0.toInt ≤ 2 ^ 20) (ka0 : 0 ≤ a0.toInt ∧ a0.toInt < s0.toInt) (hq : advK 1 [a0] [s0] = (r, xs')) (hm : ¬ ((((((0 : Int64) * (1 : Int64)) + (0 : Int64)) * (s0.toInt64)) + (a0.toInt64)) + (1 : Int64)) < (((1 : Int64) * (1 : Int64)) * (s0.toInt64))) : r = 0 ∧ xs'.length = 1 ∧ (xs'.getD 0 0).toInt64 = ((0 : Int64) - ((0 : Int64) / (s0.toInt64)) * (s0.toInt64)) := by
  obtain ⟨hN, hT⟩ := own_rank (r0 := (1 : Int64)) (r1 := (1 : Int64)) (r2 := (s0.toInt64)) (b0 := (0 : Int64)) (b1 := (0 : Int64)) (b2 := (a0.toInt64)) (by rw [own_z64, own_o64]; omega) (by rw [own_z64, own_o64]; omega) (by rw [Jvm.Kit.i64_of_i32, Jvm.Kit.i64_of_i32]; exact ka0) (by rw [own_o64]; omega) (by rw [own_o64]; omega) (by rw [Jvm.Kit.i64_of_i32]; exact ks0.2)
  simp only [Jvm.Kit.i64_of_i32, own_z64, own_o64] at hN hT
  rw [Int64.lt_iff_toInt_lt, hN, hT] at hm
  simp only [advK, List.getD_cons_zero, List.getD_cons_succ, List.set_cons_zero, List.set_cons_succ] at hq
  have c0 := own_ltI (x := a0) (y := s0) (by omega)
  have i0 := own_inc (x := a0) (by omega)
  by_cases h0 : a0 + 1 < s0
  · rw [if_pos h0] at hq
    rw [c0] at h0
    exfalso
    apply hm
    have hd := own_dig (r0 := (1 : Int)) (r1 := (1 : Int)) (r2 := s0.toInt) (d0 := 0) (d1 := 0) (d2 := a0.toInt + 1) rfl (by omega) (by omega) (by omega)
    have hz := hd.2.2.2.2.2
    refine Int.lt_of_le_of_lt (Int.le_of_eq ?_) hz
    simp only [Int.add_assoc]
    try omega
  rw [if_neg h0] at hq
  rw [c0] at h0
  cases hq
  obtain ⟨f2, f1, f0, -⟩ := own_java (r0 := (1 : Int64)) (r1 := (1 : Int64)) (r2 := (s0.toInt64)) (m := (0 : Int64)) (d0 := 0) (d1 := 0) (d2 := 0) (by simp) (by rw [own_o64]; omega) (by rw [own_o64]; omega) (by rw [Jvm.Kit.i64_of_i32]; omega) (by rw [own_o64]; omega) (by rw [own_o64]; omega) (by rw [Jvm.Kit.i64_of_i32]; exact ks0.2)
  exact ⟨rfl, rfl, own_e own_z32 f2⟩
theorem plain2m {s0 s1 a0 a1 : Int32} {r : Int32} {xs' : List Int32} (ks0 : 1 ≤ s0.toInt ∧ s0.toInt ≤ 2 ^ 20) (ka0 : 0 ≤ a0.toInt ∧ a0.toInt < s0.toInt) (ks1 : 1 ≤ s1.toInt ∧ s1.toInt ≤ 2 ^ 20) (ka1 : 0 ≤ a1.toInt ∧ a1.toInt < s1.toInt) (hq : advK 2 [a0, a1] [s0, s1] = (r, xs')) (hm : ((((((0 : Int64) * (s0.toInt64)) + (a0.toInt64)) * (s1.toInt64)) + (a1.toInt64)) + (1 : Int64)) < (((1 : Int64) * (s0.toInt64)) * (s1.toInt64))) : r = 1 ∧ xs'.length = 2 ∧ (xs'.getD 0 0).toInt64 = ((((((((0 : Int64) * (s0.toInt64)) + (a0.toInt64)) * (s1.toInt64)) + (a1.toInt64)) + (1 : Int64)) / (s1.toInt64)) - ((((((((0 : Int64) * (s0.toInt64)) + (a0.toInt64)) * (s1.toInt64)) + (a1.toInt64)) + (1 : Int64)) / (s1.toInt64)) / (s0.toInt64)) * (s0.toInt64)) ∧ (xs'.getD 1 0).toInt64 = (((((((0 : Int64) * (s0.toInt64)) + (a0.toInt64)) * (s1.toInt64)) + (a1.toInt64)) + (1 : Int64)) - (((((((0 : Int64) * (s0.toInt64)) + (a0.toInt64)) * (s1.toInt64)) + (a1.toInt64)) + (1 : Int64)) / (s1.toInt64)) * (s1.toInt64)) := by
  obtain ⟨hN, hT⟩ := own_rank (r0 := (1 : Int64)) (r1 := (s0.toInt64)) (r2 := (s1.toInt64)) (b0 := (0 : Int64)) (b1 := (a0.toInt64)) (b2 := (a1.toInt64)) (by rw [own_z64, own_o64]; omega) (by rw [Jvm.Kit.i64_of_i32, Jvm.Kit.i64_of_i32]; exact ka0) (by rw [Jvm.Kit.i64_of_i32, Jvm.Kit.i64_of_i32]; exact ka1) (by rw [own_o64]; omega) (by rw [Jvm.Kit.i64_of_i32]; exact ks0.2) (by rw [Jvm.Kit.i64_of_i32]; exact ks1.2)
  simp only [Jvm.Kit.i64_of_i32, own_z64, own_o64] at hN hT
  rw [Int64.lt_iff_toInt_lt, hN, hT] at hm
  simp only [advK, List.getD_cons_zero, List.getD_cons_succ, List.set_cons_zero, List.set_cons_succ] at hq
  have c0 := own_ltI (x := a0) (y := s0) (by omega)
  have i0 := own_inc (x := a0) (by omega)
  have c1 := own_ltI (x := a1) (y := s1) (by omega)
  have i1 := own_inc (x := a1) (by omega)
  by_cases h1 : a1 + 1 < s1
  · rw [if_pos h1] at hq
    rw [c1] at h1
    cases hq
    have hd : ((((((0 : Int64) * (s0.toInt64)) + (a0.toInt64)) * (s1.toInt64)) + (a1.toInt64)) + (1 : Int64)).toInt = ((0) * (s0.toInt64).toInt + (a0.toInt)) * (s1.toInt64).toInt + (a1.toInt + 1) := by
      rw [hN]; simp only [Jvm.Kit.i64_of_i32, own_o64]
      simp only [Int.add_assoc]
      try omega
    obtain ⟨f2, f1, f0, -⟩ := own_java (r0 := (1 : Int64)) (d0 := 0) (d1 := a0.toInt) (d2 := a1.toInt + 1) hd (by rw [own_o64]; omega) (by rw [Jvm.Kit.i64_of_i32]; omega) (by rw [Jvm.Kit.i64_of_i32]; omega) (by rw [own_o64]; omega) (by rw [Jvm.Kit.i64_of_i32]; exact ks0.2) (by rw [Jvm.Kit.i64_of_i32]; exact ks1.2)
    exact ⟨rfl, rfl, own_e rfl f1, own_e i1 f2⟩
  rw [if_neg h1] at hq
  rw [c1] at h1
  by_cases h0 : a0 + 1 < s0
  · rw [if_pos h0] at hq
    rw [c0] at h0
    cases hq
    have hd : ((((((0 : Int64) * (s0.toInt64)) + (a0.toInt64)) * (s1.toInt64)) + (a1.toInt64)) + (1 : Int64)).toInt = ((0) * (s0.toInt64).toInt + (a0.toInt + 1)) * (s1.toInt64).toInt + (0) := by
      rw [hN]; simp only [Jvm.Kit.i64_of_i32, own_o64]
      have q1 : s1.toInt = a1.toInt + 1 := by omega
      simp only [q1, Int.add_mul, Int.mul_add, Int.mul_one, Int.one_mul, Int.zero_mul, Int.mul_zero, Int.add_zero, Int.zero_add]
      try omega
    obtain ⟨f2, f1, f0, -⟩ := own_java (r0 := (1 : Int64)) (d0 := 0) (d1 := a0.toInt + 1) (d2 := 0) hd (by rw [own_o64]; omega) (by rw [Jvm.Kit.i64_of_i32]; omega) (by rw [Jvm.Kit.i64_of_i32]; omega) (by rw [own_o64]; omega) (by rw [Jvm.Kit.i64_of_i32]; exact ks0.2) (by rw [Jvm.Kit.i64_of_i32]; exact ks1.2)
    exact ⟨rfl, rfl, own_e i0 f1, own_e own_z32 f2⟩
  rw [if_neg h0] at hq
  rw [c0] at h0
  exfalso
  have q0 : s0.toInt = a0.toInt + 1 := by omega
  have q1 : s1.toInt = a1.toInt + 1 := by omega
  simp only [q0, q1, Int.add_mul, Int.mul_add, Int.mul_one, Int.one_mul, Int.zero_mul, Int.mul_zero, Int.add_zero, Int.zero_add] at hm
  omega
theorem plain2n {s0 s1 a0 a1 : Int32} {r : Int32} {xs' : List Int32} (ks0 : 1 ≤ s0.toInt ∧ s0.toInt ≤ 2 ^ 20) (ka0 : 0 ≤ a0.toInt ∧ a0.toInt < s0.toInt) (ks1 : 1 ≤ s1.toInt ∧ s1.toInt ≤ 2 ^ 20) (ka1 : 0 ≤ a1.toInt ∧ a1.toInt < s1.toInt) (hq : advK 2 [a0, a1] [s0, s1] = (r, xs')) (hm : ¬ ((((((0 : Int64) * (s0.toInt64)) + (a0.toInt64)) * (s1.toInt64)) + (a1.toInt64)) + (1 : Int64)) < (((1 : Int64) * (s0.toInt64)) * (s1.toInt64))) : r = 0 ∧ xs'.length = 2 ∧ (xs'.getD 0 0).toInt64 = (((0 : Int64) / (s1.toInt64)) - (((0 : Int64) / (s1.toInt64)) / (s0.toInt64)) * (s0.toInt64)) ∧ (xs'.getD 1 0).toInt64 = ((0 : Int64) - ((0 : Int64) / (s1.toInt64)) * (s1.toInt64)) := by
  obtain ⟨hN, hT⟩ := own_rank (r0 := (1 : Int64)) (r1 := (s0.toInt64)) (r2 := (s1.toInt64)) (b0 := (0 : Int64)) (b1 := (a0.toInt64)) (b2 := (a1.toInt64)) (by rw [own_z64, own_o64]; omega) (by rw [Jvm.Kit.i64_of_i32, Jvm.Kit.i64_of_i32]; exact ka0) (by rw [Jvm.Kit.i64_of_i32, Jvm.Kit.i64_of_i32]; exact ka1) (by rw [own_o64]; omega) (by rw [Jvm.Kit.i64_of_i32]; exact ks0.2) (by rw [Jvm.Kit.i64_of_i32]; exact ks1.2)
  simp only [Jvm.Kit.i64_of_i32, own_z64, own_o64] at hN hT
  rw [Int64.lt_iff_toInt_lt, hN, hT] at hm
  simp only [advK, List.getD_cons_zero, List.getD_cons_succ, List.set_cons_zero, List.set_cons_succ] at hq
  have c0 := own_ltI (x := a0) (y := s0) (by omega)
  have i0 := own_inc (x := a0) (by omega)
  have c1 := own_ltI (x := a1) (y := s1) (by omega)
  have i1 := own_inc (x := a1) (by omega)
  by_cases h1 : a1 + 1 < s1
  · rw [if_pos h1] at hq
    rw [c1] at h1
    exfalso
    apply hm
    have hd := own_dig (r0 := (1 : Int)) (r1 := s0.toInt) (r2 := s1.toInt) (d0 := 0) (d1 := a0.toInt) (d2 := a1.toInt + 1) rfl (by omega) (by omega) (by omega)
    have hz := hd.2.2.2.2.2
    refine Int.lt_of_le_of_lt (Int.le_of_eq ?_) hz
    simp only [Int.add_assoc]
    try omega
  rw [if_neg h1] at hq
  rw [c1] at h1
  by_cases h0 : a0 + 1 < s0
  · rw [if_pos h0] at hq
    rw [c0] at h0
    exfalso
    apply hm
    have hd := own_dig (r0 := (1 : Int)) (r1 := s0.toInt) (r2 := s1.toInt) (d0 := 0) (d1 := a0.toInt + 1) (d2 := 0) rfl (by omega) (by omega) (by omega)
    have hz := hd.2.2.2.2.2
    have q1 : s1.toInt = a1.toInt + 1 := by omega
    refine Int.lt_of_le_of_lt (Int.le_of_eq ?_) hz
    simp only [q1, Int.add_mul, Int.mul_add, Int.mul_one, Int.one_mul, Int.zero_mul, Int.mul_zero, Int.add_zero, Int.zero_add]
    try omega
  rw [if_neg h0] at hq
  rw [c0] at h0
  cases hq
  obtain ⟨f2, f1, f0, -⟩ := own_java (r0 := (1 : Int64)) (r1 := (s0.toInt64)) (r2 := (s1.toInt64)) (m := (0 : Int64)) (d0 := 0) (d1 := 0) (d2 := 0) (by simp) (by rw [own_o64]; omega) (by rw [Jvm.Kit.i64_of_i32]; omega) (by rw [Jvm.Kit.i64_of_i32]; omega) (by rw [own_o64]; omega) (by rw [Jvm.Kit.i64_of_i32]; exact ks0.2) (by rw [Jvm.Kit.i64_of_i32]; exact ks1.2)
  exact ⟨rfl, rfl, own_e own_z32 f1, own_e own_z32 f2⟩
theorem plain3m {s0 s1 s2 a0 a1 a2 : Int32} {r : Int32} {xs' : List Int32} (ks0 : 1 ≤ s0.toInt ∧ s0.toInt ≤ 2 ^ 20) (ka0 : 0 ≤ a0.toInt ∧ a0.toInt < s0.toInt) (ks1 : 1 ≤ s1.toInt ∧ s1.toInt ≤ 2 ^ 20) (ka1 : 0 ≤ a1.toInt ∧ a1.toInt < s1.toInt) (ks2 : 1 ≤ s2.toInt ∧ s2.toInt ≤ 2 ^ 20) (ka2 : 0 ≤ a2.toInt ∧ a2.toInt < s2.toInt) (hq : advK 3 [a0, a1, a2] [s0, s1, s2] = (r, xs')) (hm : ((((((a0.toInt64) * (s1.toInt64)) + (a1.toInt64)) * (s2.toInt64)) + (a2.toInt64)) + (1 : Int64)) < (((s0.toInt64) * (s1.toInt64)) * (s2.toInt64))) : r = 1 ∧ xs'.length = 3 ∧ (xs'.getD 0 0).toInt64 = (((((((a0.toInt64) * (s1.toInt64)) + (a1.toInt64)) * (s2.toInt64)) + (a2.toInt64)) + (1 : Int64)) / ((s2.toInt64) * (s1.toInt64))) ∧ (xs'.getD 1 0).toInt64 = ((((((((a0.toInt64) * (s1.toInt64)) + (a1.toInt64)) * (s2.toInt64)) + (a2.toInt64)) + (1 : Int64)) / (s2.toInt64)) - ((((((((a0.toInt64) * (s1.toInt64)) + (a1.toInt64)) * (s2.toInt64)) + (a2.toInt64)) + (1 : Int64)) / (s2.toInt64)) / (s1.toInt64)) * (s1.toInt64)) ∧ (xs'.getD 2 0).toInt64 = (((((((a0.toInt64) * (s1.toInt64)) + (a1.toInt64)) * (s2.toInt64)) + (a2.toInt64)) + (1 : Int64)) - (((((((a0.toInt64) * (s1.toInt64)) + (a1.toInt64)) * (s2.toInt64)) + (a2.toInt64)) + (1 : Int64)) / (s2.toInt64)) * (s2.toInt64)) := by
  obtain ⟨hN, hT⟩ := own_rank (r0 := (s0.toInt64)) (r1 := (s1.toInt64)) (r2 := (s2.toInt64)) (b0 := (a0.toInt64)) (b1 := (a1.toInt64)) (b2 := (a2.toInt64)) (by rw [Jvm.Kit.i64_of_i32, Jvm.Kit.i64_of_i32]; exact ka0) (by rw [Jvm.Kit.i64_of_i32, Jvm.Kit.i64_of_i32]; exact ka1) (by rw [Jvm.Kit.i64_of_i32, Jvm.Kit.i64_of_i32]; exact ka2) (by rw [Jvm.Kit.i64_of_i32]; exact ks0.2) (by rw [Jvm.Kit.i64_of_i32]; exact ks1.2) (by rw [Jvm.Kit.i64_of_i32]; exact ks2.2)
  simp only [Jvm.Kit.i64_of_i32, own_z64, own_o64] at hN hT
  rw [Int64.lt_iff_toInt_lt, hN, hT] at hm
  simp only [advK, List.getD_cons_zero, List.getD_cons_succ, List.set_cons_zero, List.set_cons_succ] at hq
  have c0 := own_ltI (x := a0) (y := s0) (by omega)
  have i0 := own_inc (x := a0) (by omega)
  have c1 := own_ltI (x := a1) (y := s1) (by omega)
  have i1 := own_inc (x := a1) (by omega)
  have c2 := own_ltI (x := a2) (y := s2) (by omega)
  have i2 := own_inc (x := a2) (by omega)
  by_cases h2 : a2 + 1 < s2
  · rw [if_pos h2] at hq
    rw [c2] at h2
    cases hq
    have hd : ((((((a0.toInt64) * (s1.toInt64)) + (a1.toInt64)) * (s2.toInt64)) + (a2.toInt64)) + (1 : Int64)).toInt = ((a0.toInt) * (s1.toInt64).toInt + (a1.toInt)) * (s2.toInt64).toInt + (a2.toInt + 1) := by
      rw [hN]; simp only [Jvm.Kit.i64_of_i32, own_o64]
      simp only [Int.add_assoc]
      try omega
    obtain ⟨f2, f1, f0, -⟩ := own_java (r0 := (s0.toInt64)) (d0 := a0.toInt) (d1 := a1.toInt) (d2 := a2.toInt + 1) hd (by rw [Jvm.Kit.i64_of_i32]; omega) (by rw [Jvm.Kit.i64_of_i32]; omega) (by rw [Jvm.Kit.i64_of_i32]; omega) (by rw [Jvm.Kit.i64_of_i32]; exact ks0.2) (by rw [Jvm.Kit.i64_of_i32]; exact ks1.2) (by rw [Jvm.Kit.i64_of_i32]; exact ks2.2)
    exact ⟨rfl, rfl, own_e rfl f0, own_e rfl f1, own_e i2 f2⟩
  rw [if_neg h2] at hq
  rw [c2] at h2
  by_cases h1 : a1 + 1 < s1
  · rw [if_pos h1] at hq
    rw [c1] at h1
    cases hq
    have hd : ((((((a0.toInt64) * (s1.toInt64)) + (a1.toInt64)) * (s2.toInt64)) + (a2.toInt64)) + (1 : Int64)).toInt = ((a0.toInt) * (s1.toInt64).toInt + (a1.toInt + 1)) * (s2.toInt64).toInt + (0) := by
      rw [hN]; simp only [Jvm.Kit.i64_of_i32, own_o64]
      have q2 : s2.toInt = a2.toInt + 1 := by omega
      simp only [q2, Int.add_mul, Int.mul_add, Int.mul_one, Int.one_mul, Int.zero_mul, Int.mul_zero, Int.add_zero, Int.zero_add]
      try omega
    obtain ⟨f2, f1, f0, -⟩ := own_java (r0 := (s0.toInt64)) (d0 := a0.toInt) (d1 := a1.toInt + 1) (d2 := 0) hd (by rw [Jvm.Kit.i64_of_i32]; omega) (by rw [Jvm.Kit.i64_of_i32]; omega) (by rw [Jvm.Kit.i64_of_i32]; omega) (by rw [Jvm.Kit.i64_of_i32]; exact ks0.2) (by rw [Jvm.Kit.i64_of_i32]; exact ks1.2) (by rw [Jvm.Kit.i64_of_i32]; exact ks2.2)
    exact ⟨rfl, rfl, own_e rfl f0, own_e i1 f1, own_e own_z32 f2⟩
  rw [if_neg h1] at hq
  rw [c1] at h1
  by_cases h0 : a0 + 1 < s0
  · rw [if_pos h0] at hq
    rw [c0] at h0
    cases hq
    have hd : ((((((a0.toInt64) * (s1.toInt64)) + (a1.toInt64)) * (s2.toInt64)) + (a2.toInt64)) + (1 : Int64)).toInt = ((a0.toInt + 1) * (s1.toInt64).toInt + (0)) * (s2.toInt64).toInt + (0) := by
      rw [hN]; simp only [Jvm.Kit.i64_of_i32, own_o64]
      have q1 : s1.toInt = a1.toInt + 1 := by omega
      have q2 : s2.toInt = a2.toInt + 1 := by omega
      simp only [q1, q2, Int.add_mul, Int.mul_add, Int.mul_one, Int.one_mul, Int.zero_mul, Int.mul_zero, Int.add_zero, Int.zero_add]
      try omega
    obtain ⟨f2, f1, f0, -⟩ := own_java (r0 := (s0.toInt64)) (d0 := a0.toInt + 1) (d1 := 0) (d2 := 0) hd (by rw [Jvm.Kit.i64_of_i32]; omega) (by rw [Jvm.Kit.i64_of_i32]; omega) (by rw [Jvm.Kit.i64_of_i32]; omega) (by rw [Jvm.Kit.i64_of_i32]; exact ks0.2) (by rw [Jvm.Kit.i64_of_i32]; exact ks1.2) (by rw [Jvm.Kit.i64_of_i32]; exact ks2.2)
    exact ⟨rfl, rfl, own_e i0 f0, own_e own_z32 f1, own_e own_z32 f2⟩
  rw [if_neg h0] at hq
  rw [c0] at h0
  exfalso
  have q0 : s0.toInt = a0.toInt + 1 := by omega
  have q1 : s1.toInt = a1.toInt + 1 := by omega
  have q2 : s2.toInt = a2.toInt + 1 := by omega
  simp only [q0, q1, q2, Int.add_mul, Int.mul_add, Int.mul_one, Int.one_mul, Int.zero_mul, Int.mul_zero, Int.add_zero, Int.zero_add] at hm
  omega
theorem plain3n {s0 s1 s2 a0 a1 a2 : Int32} {r : Int32} {xs' : List Int32} (ks0 : 1 ≤ s0.toInt ∧ s0.toInt ≤ 2 ^ 20) (ka0 : 0 ≤ a0.toInt ∧ a0.toInt < s0.toInt) (ks1 : 1 ≤ s1.toInt ∧ s1.toInt ≤ 2 ^ 20) (ka1 : 0 ≤ a1.toInt ∧ a1.toInt < s1.toInt) (ks2 : 1 ≤ s2.toInt ∧ s2.toInt ≤ 2 ^ 20) (ka2 : 0 ≤ a2.toInt ∧ a2.toInt < s2.toInt) (hq : advK 3 [a0, a1, a2] [s0, s1, s2] = (r, xs')) (hm : ¬ ((((((a0.toInt64) * (s1.toInt64)) + (a1.toInt64)) * (s2.toInt64)) + (a2.toInt64)) + (1 : Int64)) < (((s0.toInt64) * (s1.toInt64)) * (s2.toInt64))) : r = 0 ∧ xs'.length = 3 ∧ (xs'.getD 0 0).toInt64 = ((0 : Int64) / ((s2.toInt64) * (s1.toInt64))) ∧ (xs'.getD 1 0).toInt64 = (((0 : Int64) / (s2.toInt64)) - (((0 : Int64) / (s2.toInt64)) / (s1.toInt64)) * (s1.toInt64)) ∧ (xs'.getD 2 0).toInt64 = ((0 : Int64) - ((0 : Int64) / (s2.toInt64)) * (s2.toInt64)) := by
  obtain ⟨hN, hT⟩ := own_rank (r0 := (s0.toInt64)) (r1 := (s1.toInt64)) (r2 := (s2.toInt64)) (b0 := (a0.toInt64)) (b1 := (a1.toInt64)) (b2 := (a2.toInt64)) (by rw [Jvm.Kit.i64_of_i32, Jvm.Kit.i64_of_i32]; exact ka0) (by rw [Jvm.Kit.i64_of_i32, Jvm.Kit.i64_of_i32]; exact ka1) (by rw [Jvm.Kit.i64_of_i32, Jvm.Kit.i64_of_i32]; exact ka2) (by rw [Jvm.Kit.i64_of_i32]; exact ks0.2) (by rw [Jvm.Kit.i64_of_i32]; exact ks1.2) (by rw [Jvm.Kit.i64_of_i32]; exact ks2.2)
  simp only [Jvm.Kit.i64_of_i32, own_z64, own_o64] at hN hT
  rw [Int64.lt_iff_toInt_lt, hN, hT] at hm
  simp only [advK, List.getD_cons_zero, List.getD_cons_succ, List.set_cons_zero, List.set_cons_succ] at hq
  have c0 := own_ltI (x := a0) (y := s0) (by omega)
  have i0 := own_inc (x := a0) (by omega)
  have c1 := own_ltI (x := a1) (y := s1) (by omega)
  have i1 := own_inc (x := a1) (by omega)
  have c2 := own_ltI (x := a2) (y := s2) (by omega)
  have i2 := own_inc (x := a2) (by omega)
  by_cases h2 : a2 + 1 < s2
  · rw [if_pos h2] at hq
    rw [c2] at h2
    exfalso
    apply hm
    have hd := own_dig (r0 := s0.toInt) (r1 := s1.toInt) (r2 := s2.toInt) (d0 := a0.toInt) (d1 := a1.toInt) (d2 := a2.toInt + 1) rfl (by omega) (by omega) (by omega)
    have hz := hd.2.2.2.2.2
    refine Int.lt_of_le_of_lt (Int.le_of_eq ?_) hz
    simp only [Int.add_assoc]
    try omega
  rw [if_neg h2] at hq
  rw [c2] at h2
  by_cases h1 : a1 + 1 < s1
  · rw [if_pos h1] at hq
    rw [c1] at h1
    exfalso
    apply hm
    have hd := own_dig (r0 := s0.toInt) (r1 := s1.toInt) (r2 := s2.toInt) (d0 := a0.toInt) (d1 := a1.toInt + 1) (d2 := 0) rfl (by omega) (by omega) (by omega)
    have hz := hd.2.2.2.2.2
    have q2 : s2.toInt = a2.toInt + 1 := by omega
    refine Int.lt_of_le_of_lt (Int.le_of_eq ?_) hz
    simp only [q2, Int.add_mul, Int.mul_add, Int.mul_one, Int.one_mul, Int.zero_mul, Int.mul_zero, Int.add_zero, Int.zero_add]
    try omega
  rw [if_neg h1] at hq
  rw [c1] at h1
  by_cases h0 : a0 + 1 < s0
  · rw [if_pos h0] at hq
    rw [c0] at h0
    exfalso
    apply hm
    have hd := own_dig (r0 := s0.toInt) (r1 := s1.toInt) (r2 := s2.toInt) (d0 := a0.toInt + 1) (d1 := 0) (d2 := 0) rfl (by omega) (by omega) (by omega)
    have hz := hd.2.2.2.2.2
    have q1 : s1.toInt = a1.toInt + 1 := by omega
    have q2 : s2.toInt = a2.toInt + 1 := by omega
    refine Int.lt_of_le_of_lt (Int.le_of_eq ?_) hz
    simp only [q1, q2, Int.add_mul, Int.mul_add, Int.mul_one, Int.one_mul, Int.zero_mul, Int.mul_zero, Int.add_zero, Int.zero_add]
    try omega
  rw [if_neg h0] at hq
  rw [c0] at h0
  cases hq
  obtain ⟨f2, f1, f0, -⟩ := own_java (r0 := (s0.toInt64)) (r1 := (s1.toInt64)) (r2 := (s2.toInt64)) (m := (0 : Int64)) (d0 := 0) (d1 := 0) (d2 := 0) (by simp) (by rw [Jvm.Kit.i64_of_i32]; omega) (by rw [Jvm.Kit.i64_of_i32]; omega) (by rw [Jvm.Kit.i64_of_i32]; omega) (by rw [Jvm.Kit.i64_of_i32]; exact ks0.2) (by rw [Jvm.Kit.i64_of_i32]; exact ks1.2) (by rw [Jvm.Kit.i64_of_i32]; exact ks2.2)
  exact ⟨rfl, rfl, own_e own_z32 f0, own_e own_z32 f1, own_e own_z32 f2⟩
theorem plain0n {r : Int32} {xs' : List Int32} (hq : advK 0 [] [] = (r, xs')) {P : Prop} (hm : P) : r = 0 ∧ xs'.length = 0 ∧ True := by cases hq; exact ⟨rfl, rfl, trivial⟩

theorem d1_0 : decode prog_45_method_3_code 0 = .ok (.aload_n 0, 1) := by decide +kernel
theorem d1_1 : decode prog_45_method_3_code 1 = .ok (.arraylength, 1) := by decide +kernel
theorem d1_2 : decode prog_45_method_3_code 2 = .ok (.iconst 1, 1) := by decide +kernel
theorem d1_3 : decode prog_45_method_3_code 3 = .ok (.isub, 1) := by decide +kernel
theorem d1_4 : decode prog_45_method_3_code 4 = .ok (.istore_n 2, 1) := by decide +kernel
theorem d1_5 : decode prog_45_method_3_code 5 = .ok (.iload_n 2, 1) := by decide +kernel
theorem d1_6 : decode prog_45_method_3_code 6 = .ok (.ifCond .lt 31, 3) := by decide +kernel
theorem d1_9 : decode prog_45_method_3_code 9 = .ok (.aload_n 0, 1) := by decide +kernel
theorem d1_10 : decode prog_45_method_3_code 10 = .ok (.iload_n 2, 1) := by decide +kernel
theorem d1_11 : decode prog_45_method_3_code 11 = .ok (.dup2, 1) := by decide +kernel
theorem d1_12 : decode prog_45_method_3_code 12 = .ok (.iaload, 1) := by decide +kernel
theorem d1_13 : decode prog_45_method_3_code 13 = .ok (.iconst 1, 1) := by decide +kernel
theorem d1_14 : decode prog_45_method_3_code 14 = .ok (.iadd, 1) := by decide +kernel
theorem d1_15 : decode prog_45_method_3_code 15 = .ok (.iastore, 1) := by decide +kernel
theorem d1_16 : decode prog_45_method_3_code 16 = .ok (.aload_n 0, 1) := by decide +kernel
theorem d1_17 : decode prog_45_method_3_code 17 = .ok (.iload_n 2, 1) := by decide +kernel
theorem d1_18 : decode prog_45_method_3_code 18 = .ok (.iaload, 1) := by decide +kernel
theorem d1_19 : decode prog_45_method_3_code 19 = .ok (.aload_n 1, 1) := by decide +kernel
theorem d1_20 : decode prog_45_method_3_code 20 = .ok (.iload_n 2, 1) := by decide +kernel
theorem d1_21 : decode prog_45_method_3_code 21 = .ok (.iaload, 1) := by decide +kernel
theorem d1_22 : decode prog_45_method_3_code 22 = .ok (.if_icmp .ge 5, 3) := by decide +kernel
theorem d1_25 : decode prog_45_method_3_code 25 = .ok (.iconst 1, 1) := by decide +kernel
theorem d1_26 : decode prog_45_method_3_code 26 = .ok (.ireturn, 1) := by decide +kernel
theorem d1_27 : decode prog_45_method_3_code 27 = .ok (.aload_n 0, 1) := by decide +kernel
theorem d1_28 : decode prog_45_method_3_code 28 = .ok (.iload_n 2, 1) := by decide +kernel
theorem d1_29 : decode prog_45_method_3_code 29 = .ok (.iconst 0, 1) := by decide +kernel
theorem d1_30 : decode prog_45_method_3_code 30 = .ok (.iastore, 1) := by decide +kernel
theorem d1_31 : decode prog_45_method_3_code 31 = .ok (.iinc 2 (-1), 3) := by decide +kernel
theorem d1_34 : decode prog_45_method_3_code 34 = .ok (.goto (-29), 3) := by decide +kernel
theorem d1_37 : decode prog_45_method_3_code 37 = .ok (.iconst 0, 1) := by decide +kernel
theorem d1_38 : decode prog_45_method_3_code 38 = .ok (.ireturn, 1) := by decide +kernel
set_option maxRecDepth 65536 in
set_option maxHeartbeats 40000000 in
theorem loop1 {p : Program} {l : Launch} {e : Env} {R : Room} {s : State} {m : MethodId} {args : Array Value} {below : List Frame} {meth : Method} {c : Code} {Z : State} {h0 : Heap} {n0 : Nat} {a b : Addr} {ys : List Int32} (g_a : n0 ≤ a) (ne_a_b : a ≠ b) (k : Nat) : ∀ (cur : List Int32) (i : Int32) {r : Int32} {xs' : List Int32} {T : State} {locs : List Loc} {h : Heap},
    Cx p s m meth c Z "com/example/libsymtree/libsymtree/Odometer" prog_45_method_3_code 3 (some .boolean) "advance" → Stand p l e R s m args below meth c T locs 0 0 → T.heap = h → Arl Z h a .int (cur.map .int) → Arl Z h b .int (ys.map .int) → Keep h0 h [a] → Fr n0 locs → i.toInt = (k : Int) - 1 → k ≤ cur.length → cur.length = ys.length → advK k cur ys = (r, xs') →
    Go p e below (EndQ s (fun v h L => v = some (.int r) ∧ Fr n0 L ∧ Keep h0 h [a] ∧ Arl Z h a .int (xs'.map .int)) 0 0) (T.setTop (mkF m 5 #[.val (.ref a), .val (.ref b), .val (.int i)] [])) := by
  induction k with
  | zero =>
    intro cur i r xs' T locs h C X eT V_a V_b KP N hi hk hlen hq
    cases hq
    show Go p e below _ (T.setTop (mkF m 5 #[.val (.ref a), .val (.ref b), .val (.int i)] []))
    refine Go.iloadN C X d1_5 (n := 6) rfl rfl ?_
    refine Go.if0_lt C X d1_6 (n1 := 37) (n2 := 9) (by decide) (by decide) rfl (fun hc6 => ?_) (fun hc6 => ?_)
    · refine Go.iconst C X d1_37 (n := 38) rfl (v := (0 : Int32)) rfl ?_
      refine Go.retN C X eT (Or.inl rfl) (w := (0 : Int32)) (by decide) d1_38 (by decide) (by decide) ?_
      exact ⟨rfl, N, KP, V_a⟩
    · exact absurd hc6 (fun q => by rw [Int32.lt_iff_toInt_lt] at hc6; simp at hc6; omega)
  | succ k ih =>
    intro cur i r xs' T locs h C X eT V_a V_b KP N hi hk hlen hq
    replace hi : i.toInt = (k : Int) := by omega
    replace hk : k < cur.length := hk
    show Go p e below _ (T.setTop (mkF m 5 #[.val (.ref a), .val (.ref b), .val (.int i)] []))
    refine Go.iloadN C X d1_5 (n := 6) rfl rfl ?_
    refine Go.if0_lt C X d1_6 (n1 := 37) (n2 := 9) (by decide) (by decide) rfl (fun hc6 => ?_) (fun hc6 => ?_)
    · exfalso
      rw [Int32.lt_iff_toInt_lt] at hc6
      simp at hc6
      omega
    · refine Go.aloadN C X d1_9 (n := 10) rfl rfl rfl ?_
      refine Go.iloadN C X d1_10 (n := 11) rfl rfl ?_
      refine Go.dup2 C X d1_11 (n := 12) rfl rfl rfl ?_
      refine Go.ialoadL C X eT V_a (i := k) hi (v := .int (cur.getD k 0)) (own_at hk) d1_12 (n := 13) rfl ?_
      refine Go.iconst C X d1_13 (n := 14) rfl (v := (1 : Int32)) rfl ?_
      refine Go.iadd C X d1_14 (n := 15) rfl ?_
      refine Go.iastoreL C X eT V_a (i := k) hi (by simpa using hk) d1_15 (n := 16) rfl ?_
      clear X eT
      intro T h X eT W V_new
      replace V_b := V_b.other W (Ne.symm ne_a_b)
      replace KP := KP.wr W (Or.inl (List.mem_of_getElem? (i := 0) rfl))
      clear V_a
      have V_a := V_new
      clear V_new
      replace N := Fr.snoc X N g_a
      rw [← List.map_set] at V_a
      refine Go.aloadN C X d1_16 (n := 17) rfl rfl rfl ?_
      refine Go.iloadN C X d1_17 (n := 18) rfl rfl ?_
      refine Go.ialoadL C X eT V_a (i := k) hi (v := .int ((cur.getD k 0) + (1 : Int32))) (own_set_at hk) d1_18 (n := 19) rfl ?_
      refine Go.aloadN C X d1_19 (n := 20) rfl rfl rfl ?_
      refine Go.iloadN C X d1_20 (n := 21) rfl rfl ?_
      refine Go.ialoadL C X eT V_b (i := k) hi (v := .int (ys.getD k 0)) (own_at (by omega)) d1_21 (n := 22) rfl ?_
      refine Go.icmp_ge C X d1_22 (n1 := 27) (n2 := 25) (by decide) (by decide) rfl (fun hc22 => ?_) (fun hc22 => ?_)
      · have hc22' : ¬ (cur.getD k 0 + 1 < ys.getD k 0) := hc22
        refine Go.aloadN C X d1_27 (n := 28) rfl rfl rfl ?_
        refine Go.iloadN C X d1_28 (n := 29) rfl rfl ?_
        refine Go.iconst C X d1_29 (n := 30) rfl (v := (0 : Int32)) rfl ?_
        refine Go.iastoreL C X eT V_a (i := k) hi (by simpa using hk) d1_30 (n := 31) rfl ?_
        clear X eT
        intro T h X eT W V_new
        replace V_b := V_b.other W (Ne.symm ne_a_b)
        replace KP := KP.wr W (Or.inl (List.mem_of_getElem? (i := 0) rfl))
        clear V_a
        have V_a := V_new
        clear V_new
        replace N := Fr.snoc X N g_a
        rw [← List.map_set] at V_a
        refine Go.iinc C X d1_31 (n := 34) rfl (v := (-1 : Int32)) rfl rfl (l' := #[.val (.ref a), .val (.ref b), .val (.int (i + (-1 : Int32)))]) rfl ?_
        refine Go.goto C X d1_34 (n := 5) (by decide) (by decide) ?_
        refine ih _ _ (r := r) (xs' := xs') C X eT V_a V_b KP N ?_ ?_ ?_ ?_
        · rw [own_dec (by omega)]; omega
        · simp; omega
        · simpa using hlen
        · rw [advK, if_neg hc22'] at hq; exact hq
      · have hc22' : cur.getD k 0 + 1 < ys.getD k 0 := hc22
        refine Go.iconst C X d1_25 (n := 26) rfl (v := (1 : Int32)) rfl ?_
        refine Go.retN C X eT (Or.inl rfl) (w := (1 : Int32)) (by decide) d1_26 (by decide) (by decide) ?_
        simp only [advK, hc22', if_true] at hq
        cases hq
        exact ⟨rfl, N, KP, V_a⟩
theorem pn_0 : plainName "com/example/libsymtree/libsymtree/Odometer" = true := by first | (simp [plainName, overriddenIn]; done) | decide +kernel
set_option maxRecDepth 65536 in
set_option maxHeartbeats 40000000 in
theorem rm1 (l : Launch) (Z : State) (a0 : Array Value) (hw : ∀ d ∈ tables_1, d.before a0 Z = true) (n0 : Nat) (h0 : Heap) (a b : Addr) (xs ys : List Int32) (nn : Int32) (r : Int32) (xs' : List Int32) (g_a : n0 ≤ a) (ne_a_b : a ≠ b) (hn : nn.toInt = xs.length) (hlen : xs.length = ys.length) (hq : advK xs.length xs ys = (r, xs')) (V_a : Arl Z h0 a .int (xs.map .int)) (V_b : Arl Z h0 b .int (ys.map .int)) :
    Ctr l Z (⟨"com/example/libsymtree/libsymtree/Odometer", "advance", "([I[I)Z"⟩ : MethodName) prog_45_method_3_code 3 (some .boolean) ({ frames := 0, cells := 0, slots := 0, locals := 0 } : Room) #[(.ref a), (.ref b)] h0 (fun v h L => v = some (.int r) ∧ Fr n0 L ∧ Keep h0 h [a] ∧ Arl Z h a .int (xs'.map .int)) := by
  refine Ctr.mk (plainFor_of_name pn_0) (ls := #[.val (.ref a), .val (.ref b), .unset]) (fun m => by first | (simp [entryFrame, mkF, argsToLocals, Value.category]; done) | rfl) ?_
  intro p e s m below meth c T C X eT hs0
  have N := Fr.nil n0
  show Go p e below _ (T.setTop (mkF m 0 #[.val (.ref a), .val (.ref b), .unset] []))
  refine Go.aloadN C X d1_0 (n := 1) rfl rfl rfl ?_
  refine Go.lengthL C X eT V_a (z := nn) (by simpa using hn) d1_1 (n := 2) rfl ?_
  refine Go.iconst C X d1_2 (n := 3) rfl (v := (1 : Int32)) rfl ?_
  refine Go.isub C X d1_3 (n := 4) rfl ?_
  refine Go.istoreN C X d1_4 (n := 5) rfl (l' := #[.val (.ref a), .val (.ref b), .val (.int (nn - (1 : Int32)))]) rfl ?_
  refine loop1 g_a ne_a_b xs.length xs _ C X eT V_a V_b (Keep.refl _ _) N ?_ (Nat.le_refl _) hlen hq
  rw [own_dec1 (by have := nn.toInt_lt; omega)]; omega
theorem pd_0 : parseMethodDescriptor "([I[I)Z" = some ⟨[(.array .int), (.array .int)], some .boolean⟩ := by decide +kernel
set_option maxRecDepth 65536 in
set_option maxHeartbeats 40000000 in
theorem seg61_0 {p : Program} {l : Launch} {e : Env} {s : State} {m : MethodId} {args : Array Value} {below : List Frame} {meth : Method} {c : Code} {Z : State} {a0' : Array Value} {T : State} {h : Heap} {n0 : Nat} {locs : List Loc} (hw : ∀ d ∈ tables_1, d.before a0' Z = true) (C : Cx p s m meth c Z x.cls code maxLocals ret x.name) (X : Stand p l e room_1 s m args below meth c T locs 0 0) (eT : T.heap = h) (O : Old Z n0 h) (N : Fr n0 locs) {p0 p1 p2 p3 p4 p5 s0 s1 s2 a0 a1 a2 : Int32} (ks0 : 1 ≤ s0.toInt ∧ s0.toInt ≤ 2 ^ 20) (ks1 : 1 ≤ s1.toInt ∧ s1.toInt ≤ 2 ^ 20) (ks2 : 1 ≤ s2.toInt ∧ s2.toInt ≤ 2 ^ 20) (ka0 : 0 ≤ a0.toInt ∧ a0.toInt < s0.toInt) (ka1 : 0 ≤ a1.toInt ∧ a1.toInt < s1.toInt) (ka2 : 0 ≤ a2.toInt ∧ a2.toInt < s2.toInt) :
    Go p e below (EndQ s (fun v h L => v = some (.int 1) ∧ Fr n0 L) room_1.cells room_1.slots) (T.setTop (mkF m 61 #[.val (.int p0), .val (.int p1), .val (.int p2), .val (.int p3), .val (.int p4), .val (.int p5), .val (.int (0 : Int32)), .val (.int s0), .val (.int s1), .val (.int s2), .val (.int a0), .val (.int a1), .val (.int a2), .unset, .unset, .unset, .unset, .unset, .unset, .unset, .unset, .unset, .unset, .unset, .unset, .unset, .unset, .unset, .unset, .unset, .unset, .unset, .unset, .unset, .unset, .unset, .unset, .unset, .unset, .unset, .unset, .unset, .unset, .unset] [])) := by
  have zs0 := own_nz ks0
  have zs1 := own_nz ks1
  have zs2 := own_nz ks2
  show Go p e below _ (T.setTop (mkF m 61 #[.val (.int p0), .val (.int p1), .val (.int p2), .val (.int p3), .val (.int p4), .val (.int p5), .val (.int (0 : Int32)), .val (.int s0), .val (.int s1), .val (.int s2), .val (.int a0), .val (.int a1), .val (.int a2), .unset, .unset, .unset, .unset, .unset, .unset, .unset, .unset, .unset, .unset, .unset, .unset, .unset, .unset, .unset, .unset, .unset, .unset, .unset, .unset, .unset, .unset, .unset, .unset, .unset, .unset, .unset, .unset, .unset, .unset, .unset] []))
  refine Go.lconst C X at_61 (n := 62) rfl (v := (1 : Int64)) rfl ?_
  refine Go.lstore C X at_62 (n := 64) rfl (l' := #[.val (.int p0), .val (.int p1), .val (.int p2), .val (.int p3), .val (.int p4), .val (.int p5), .val (.int (0 : Int32)), .val (.int s0), .val (.int s1), .val (.int s2), .val (.int a0), .val (.int a1), .val (.int a2), .val (.long (1 : Int64)), .second, .unset, .unset, .unset, .unset, .unset, .unset, .unset, .unset, .unset, .unset, .unset, .unset, .unset, .unset, .unset, .unset, .unset, .unset, .unset, .unset, .unset, .unset, .unset, .unset, .unset, .unset, .unset, .unset, .unset]) rfl ?_
  refine Go.lconst C X at_64 (n := 65) rfl (v := (1 : Int64)) rfl ?_
  refine Go.lstore C X at_65 (n := 67) rfl (l' := #[.val (.int p0), .val (.int p1), .val (.int p2), .val (.int p3), .val (.int p4), .val (.int p5), .val (.int (0 : Int32)), .val (.int s0), .val (.int s1), .val (.int s2), .val (.int a0), .val (.int a1), .val (.int a2), .val (.long (1 : Int64)), .second, .val (.long (1 : Int64)), .second, .unset, .unset, .unset, .unset, .unset, .unset, .unset, .unset, .unset, .unset, .unset, .unset, .unset, .unset, .unset, .unset, .unset, .unset, .unset, .unset, .unset, .unset, .unset, .unset, .unset, .unset, .unset]) rfl ?_
  refine Go.lconst C X at_67 (n := 68) rfl (v := (1 : Int64)) rfl ?_
  refine Go.lstore C X at_68 (n := 70) rfl (l' := #[.val (.int p0), .val (.int p1), .val (.int p2), .val (.int p3), .val (.int p4), .val (.int p5), .val (.int (0 : Int32)), .val (.int s0), .val (.int s1), .val (.int s2), .val (.int a0), .val (.int a1), .val (.int a2), .val (.long (1 : Int64)), .second, .val (.long (1 : Int64)), .second, .val (.long (1 : Int64)), .second, .unset, .unset, .unset, .unset, .unset, .unset, .unset, .unset, .unset, .unset, .unset, .unset, .unset, .unset, .unset, .unset, .unset, .unset, .unset, .unset, .unset, .unset, .unset, .unset, .unset]) rfl ?_
  refine Go.lconst C X at_70 (n := 71) rfl (v := (0 : Int64)) rfl ?_
  refine Go.lstore C X at_71 (n := 73) rfl (l' := #[.val (.int p0), .val (.int p1), .val (.int p2), .val (.int p3), .val (.int p4), .val (.int p5), .val (.int (0 : Int32)), .val (.int s0), .val (.int s1), .val (.int s2), .val (.int a0), .val (.int a1), .val (.int a2), .val (.long (1 : Int64)), .second, .val (.long (1 : Int64)), .second, .val (.long (1 : Int64)), .second, .val (.long (0 : Int64)), .second, .unset, .unset, .unset, .unset, .unset, .unset, .unset, .unset, .unset, .unset, .unset, .unset, .unset, .unset, .unset, .unset, .unset, .unset, .unset, .unset, .unset, .unset, .unset]) rfl ?_
  refine Go.lconst C X at_73 (n := 74) rfl (v := (0 : Int64)) rfl ?_
  refine Go.lstore C X at_74 (n := 76) rfl (l' := #[.val (.int p0), .val (.int p1), .val (.int p2), .val (.int p3), .val (.int p4), .val (.int p5), .val (.int (0 : Int32)), .val (.int s0), .val (.int s1), .val (.int s2), .val (.int a0), .val (.int a1), .val (.int a2), .val (.long (1 : Int64)), .second, .val (.long (1 : Int64)), .second, .val (.long (1 : Int64)), .second, .val (.long (0 : Int64)), .second, .val (.long (0 : Int64)), .second, .unset, .unset, .unset, .unset, .unset, .unset, .unset, .unset, .unset, .unset, .unset, .unset, .unset, .unset, .unset, .unset, .unset, .unset, .unset, .unset, .unset]) rfl ?_
  refine Go.lconst C X at_76 (n := 77) rfl (v := (0 : Int64)) rfl ?_
  refine Go.lstore C X at_77 (n := 79) rfl (l' := #[.val (.int p0), .val (.int p1), .val (.int p2), .val (.int p3), .val (.int p4), .val (.int p5), .val (.int (0 : Int32)), .val (.int s0), .val (.int s1), .val (.int s2), .val (.int a0), .val (.int a1), .val (.int a2), .val (.long (1 : Int64)), .second, .val (.long (1 : Int64)), .second, .val (.long (1 : Int64)), .second, .val (.long (0 : Int64)), .second, .val (.long (0 : Int64)), .second, .val (.long (0 : Int64)), .second, .unset, .unset, .unset, .unset, .unset, .unset, .unset, .unset, .unset, .unset, .unset, .unset, .unset, .unset, .unset, .unset, .unset, .unset, .unset]) rfl ?_
  refine Go.iload C X at_79 (n := 81) rfl rfl ?_
  refine Go.iconst C X at_81 (n := 82) rfl (v := (3 : Int32)) rfl ?_
  refine Go.icmp_ne C X at_82 (n1 := 118) (n2 := 85) (by decide) (by decide) rfl (fun hc82 => ?_) (fun hc82 => ?_)
  · refine Go.iload C X at_118 (n := 120) rfl rfl ?_
    refine Go.iconst C X at_120 (n := 121) rfl (v := (2 : Int32)) rfl ?_
    refine Go.icmp_ne C X at_121 (n1 := 147) (n2 := 124) (by decide) (by decide) rfl (fun hc121 => ?_) (fun hc121 => ?_)
    · refine Go.iload C X at_147 (n := 149) rfl rfl ?_
      refine Go.iconst C X at_149 (n := 150) rfl (v := (1 : Int32)) rfl ?_
      refine Go.icmp_ne C X at_150 (n1 := 163) (n2 := 153) (by decide) (by decide) rfl (fun hc150 => ?_) (fun hc150 => ?_)
      · refine Go.lload C X at_163 (n := 165) rfl rfl ?_
        refine Go.lload C X at_165 (n := 167) rfl rfl ?_
        refine Go.lmul C X at_167 (n := 168) rfl ?_
        refine Go.lload C X at_168 (n := 170) rfl rfl ?_
        refine Go.lmul C X at_170 (n := 171) rfl ?_
        refine Go.lstore C X at_171 (n := 173) rfl (l' := #[.val (.int p0), .val (.int p1), .val (.int p2), .val (.int p3), .val (.int p4), .val (.int p5), .val (.int (0 : Int32)), .val (.int s0), .val (.int s1), .val (.int s2), .val (.int a0), .val (.int a1), .val (.int a2), .val (.long (1 : Int64)), .second, .val (.long (1 : Int64)), .second, .val (.long (1 : Int64)), .second, .val (.long (0 : Int64)), .second, .val (.long (0 : Int64)), .second, .val (.long (0 : Int64)), .second, .val (.long (((1 : Int64) * (1 : Int64)) * (1 : Int64))), .second, .unset, .unset, .unset, .unset, .unset, .unset, .unset, .unset, .unset, .unset, .unset, .unset, .unset, .unset, .unset, .unset, .unset]) rfl ?_
        refine Go.lload C X at_173 (n := 175) rfl rfl ?_
        refine Go.lload C X at_175 (n := 177) rfl rfl ?_
        refine Go.lmul C X at_177 (n := 178) rfl ?_
        refine Go.lload C X at_178 (n := 180) rfl rfl ?_
        refine Go.ladd C X at_180 (n := 181) rfl ?_
        refine Go.lload C X at_181 (n := 183) rfl rfl ?_
        refine Go.lmul C X at_183 (n := 184) rfl ?_
        refine Go.lload C X at_184 (n := 186) rfl rfl ?_
        refine Go.ladd C X at_186 (n := 187) rfl ?_
        refine Go.lstore C X at_187 (n := 189) rfl (l' := #[.val (.int p0), .val (.int p1), .val (.int p2), .val (.int p3), .val (.int p4), .val (.int p5), .val (.int (0 : Int32)), .val (.int s0), .val (.int s1), .val (.int s2), .val (.int a0), .val (.int a1), .val (.int a2), .val (.long (1 : Int64)), .second, .val (.long (1 : Int64)), .second, .val (.long (1 : Int64)), .second, .val (.long (0 : Int64)), .second, .val (.long (0 : Int64)), .second, .val (.long (0 : Int64)), .second, .val (.long (((1 : Int64) * (1 : Int64)) * (1 : Int64))), .second, .val (.long (((((0 : Int64) * (1 : Int64)) + (0 : Int64)) * (1 : Int64)) + (0 : Int64))), .second, .unset, .unset, .unset, .unset, .unset, .unset, .unset, .unset, .unset, .unset, .unset, .unset, .unset, .unset, .unset]) rfl ?_
        refine Go.lload C X at_189 (n := 191) rfl rfl ?_
        refine Go.lconst C X at_191 (n := 192) rfl (v := (1 : Int64)) rfl ?_
        refine Go.ladd C X at_192 (n := 193) rfl ?_
        refine Go.lstore C X at_193 (n := 195) rfl (l' := #[.val (.int p0), .val (.int p1), .val (.int p2), .val (.int p3), .val (.int p4), .val (.int p5), .val (.int (0 : Int32)), .val (.int s0), .val (.int s1), .val (.int s2), .val (.int a0), .val (.int a1), .val (.int a2), .val (.long (1 : Int64)), .second, .val (.long (1 : Int64)), .second, .val (.long (1 : Int64)), .second, .val (.long (0 : Int64)), .second, .val (.long (0 : Int64)), .second, .val (.long (0 : Int64)), .second, .val (.long (((1 : Int64) * (1 : Int64)) * (1 : Int64))), .second, .val (.long (((((0 : Int64) * (1 : Int64)) + (0 : Int64)) * (1 : Int64)) + (0 : Int64))), .second, .val (.long ((((((0 : Int64) * (1 : Int64)) + (0 : Int64)) * (1 : Int64)) + (0 : Int64)) + (1 : Int64))), .second, .unset, .unset, .unset, .unset, .unset, .unset, .unset, .unset, .unset, .unset, .unset, .unset, .unset]) rfl ?_
        refine Go.lload C X at_195 (n := 197) rfl rfl ?_
        refine Go.lload C X at_197 (n := 199) rfl rfl ?_
        refine Go.lcmp C X at_199 (n := 200) rfl ?_
        refine Go.lcmp_ge C X at_200 (n1 := 207) (n2 := 203) (by decide) (by decide) rfl (fun hc200 => ?_) (fun hc200 => ?_)
        · refine Go.iconst C X at_207 (n := 208) rfl (v := (0 : Int32)) rfl ?_
          refine Go.istore C X at_208 (n := 210) rfl (l' := #[.val (.int p0), .val (.int p1), .val (.int p2), .val (.int p3), .val (.int p4), .val (.int p5), .val (.int (0 : Int32)), .val (.int s0), .val (.int s1), .val (.int s2), .val (.int a0), .val (.int a1), .val (.int a2), .val (.long (1 : Int64)), .second, .val (.long (1 : Int64)), .second, .val (.long (1 : Int64)), .second, .val (.long (0 : Int64)), .second, .val (.long (0 : Int64)), .second, .val (.long (0 : Int64)), .second, .val (.long (((1 : Int64) * (1 : Int64)) * (1 : Int64))), .second, .val (.long (((((0 : Int64) * (1 : Int64)) + (0 : Int64)) * (1 : Int64)) + (0 : Int64))), .second, .val (.long ((((((0 : Int64) * (1 : Int64)) + (0 : Int64)) * (1 : Int64)) + (0 : Int64)) + (1 : Int64))), .second, .val (.int (0 : Int32)), .unset, .unset, .unset, .unset, .unset, .unset, .unset, .unset, .unset, .unset, .unset, .unset]) rfl ?_
          refine Go.iload C X at_210 (n := 212) rfl rfl ?_
          refine Go.if0_eq C X at_212 (n1 := 220) (n2 := 215) (by decide) (by decide) rfl (fun hc212 => ?_) (fun hc212 => ?_)
          · refine Go.lconst C X at_220 (n := 221) rfl (v := (0 : Int64)) rfl ?_
            refine Go.lstore C X at_221 (n := 223) rfl (l' := #[.val (.int p0), .val (.int p1), .val (.int p2), .val (.int p3), .val (.int p4), .val (.int p5), .val (.int (0 : Int32)), .val (.int s0), .val (.int s1), .val (.int s2), .val (.int a0), .val (.int a1), .val (.int a2), .val (.long (1 : Int64)), .second, .val (.long (1 : Int64)), .second, .val (.long (1 : Int64)), .second, .val (.long (0 : Int64)), .second, .val (.long (0 : Int64)), .second, .val (.long (0 : Int64)), .second, .val (.long (((1 : Int64) * (1 : Int64)) * (1 : Int64))), .second, .val (.long (((((0 : Int64) * (1 : Int64)) + (0 : Int64)) * (1 : Int64)) + (0 : Int64))), .second, .val (.long ((((((0 : Int64) * (1 : Int64)) + (0 : Int64)) * (1 : Int64)) + (0 : Int64)) + (1 : Int64))), .second, .val (.int (0 : Int32)), .val (.long (0 : Int64)), .second, .unset, .unset, .unset, .unset, .unset, .unset, .unset, .unset, .unset, .unset]) rfl ?_
            refine Go.lload C X at_223 (n := 225) rfl rfl ?_
            refine Go.lload C X at_225 (n := 227) rfl rfl ?_
            refine Go.lrem C X at_227 (n := 228) rfl (by decide) ?_
            refine Go.lstore C X at_228 (n := 230) rfl (l' := #[.val (.int p0), .val (.int p1), .val (.int p2), .val (.int p3), .val (.int p4), .val (.int p5), .val (.int (0 : Int32)), .val (.int s0), .val (.int s1), .val (.int s2), .val (.int a0), .val (.int a1), .val (.int a2), .val (.long (1 : Int64)), .second, .val (.long (1 : Int64)), .second, .val (.long (1 : Int64)), .second, .val (.long (0 : Int64)), .second, .val (.long (0 : Int64)), .second, .val (.long (0 : Int64)), .second, .val (.long (((1 : Int64) * (1 : Int64)) * (1 : Int64))), .second, .val (.long (((((0 : Int64) * (1 : Int64)) + (0 : Int64)) * (1 : Int64)) + (0 : Int64))), .second, .val (.long ((((((0 : Int64) * (1 : Int64)) + (0 : Int64)) * (1 : Int64)) + (0 : Int64)) + (1 : Int64))), .second, .val (.int (0 : Int32)), .val (.long (0 : Int64)), .second, .val (.long ((0 : Int64) - ((0 : Int64) / (1 : Int64)) * (1 : Int64))), .second, .unset, .unset, .unset, .unset, .unset, .unset, .unset, .unset]) rfl ?_
            refine Go.lload C X at_230 (n := 232) rfl rfl ?_
            refine Go.lload C X at_232 (n := 234) rfl rfl ?_
            refine Go.ldiv C X at_234 (n := 235) rfl (by decide) ?_
            refine Go.lload C X at_235 (n := 237) rfl rfl ?_
            refine Go.lrem C X at_237 (n := 238) rfl (by decide) ?_
            refine Go.lstore C X at_238 (n := 240) rfl (l' := #[.val (.int p0), .val (.int p1), .val (.int p2), .val (.int p3), .val (.int p4), .val (.int p5), .val (.int (0 : Int32)), .val (.int s0), .val (.int s1), .val (.int s2), .val (.int a0), .val (.int a1), .val (.int a2), .val (.long (1 : Int64)), .second, .val (.long (1 : Int64)), .second, .val (.long (1 : Int64)), .second, .val (.long (0 : Int64)), .second, .val (.long (0 : Int64)), .second, .val (.long (0 : Int64)), .second, .val (.long (((1 : Int64) * (1 : Int64)) * (1 : Int64))), .second, .val (.long (((((0 : Int64) * (1 : Int64)) + (0 : Int64)) * (1 : Int64)) + (0 : Int64))), .second, .val (.long ((((((0 : Int64) * (1 : Int64)) + (0 : Int64)) * (1 : Int64)) + (0 : Int64)) + (1 : Int64))), .second, .val (.int (0 : Int32)), .val (.long (0 : Int64)), .second, .val (.long ((0 : Int64) - ((0 : Int64) / (1 : Int64)) * (1 : Int64))), .second, .val (.long (((0 : Int64) / (1 : Int64)) - (((0 : Int64) / (1 : Int64)) / (1 : Int64)) * (1 : Int64))), .second, .unset, .unset, .unset, .unset, .unset, .unset]) rfl ?_
            refine Go.lload C X at_240 (n := 242) rfl rfl ?_
            refine Go.lload C X at_242 (n := 244) rfl rfl ?_
            refine Go.lload C X at_244 (n := 246) rfl rfl ?_
            refine Go.lmul C X at_246 (n := 247) rfl ?_
            refine Go.ldiv C X at_247 (n := 248) rfl (by decide) ?_
            refine Go.lstore C X at_248 (n := 250) rfl (l' := #[.val (.int p0), .val (.int p1), .val (.int p2), .val (.int p3), .val (.int p4), .val (.int p5), .val (.int (0 : Int32)), .val (.int s0), .val (.int s1), .val (.int s2), .val (.int a0), .val (.int a1), .val (.int a2), .val (.long (1 : Int64)), .second, .val (.long (1 : Int64)), .second, .val (.long (1 : Int64)), .second, .val (.long (0 : Int64)), .second, .val (.long (0 : Int64)), .second, .val (.long (0 : Int64)), .second, .val (.long (((1 : Int64) * (1 : Int64)) * (1 : Int64))), .second, .val (.long (((((0 : Int64) * (1 : Int64)) + (0 : Int64)) * (1 : Int64)) + (0 : Int64))), .second, .val (.long ((((((0 : Int64) * (1 : Int64)) + (0 : Int64)) * (1 : Int64)) + (0 : Int64)) + (1 : Int64))), .second, .val (.int (0 : Int32)), .val (.long (0 : Int64)), .second, .val (.long ((0 : Int64) - ((0 : Int64) / (1 : Int64)) * (1 : Int64))), .second, .val (.long (((0 : Int64) / (1 : Int64)) - (((0 : Int64) / (1 : Int64)) / (1 : Int64)) * (1 : Int64))), .second, .val (.long ((0 : Int64) / ((1 : Int64) * (1 : Int64)))), .second, .unset, .unset, .unset, .unset]) rfl ?_
            refine Go.iload C X at_250 (n := 252) rfl rfl ?_
            refine Go.newL C X eT (wd hw 2 rfl) (i := 0) rfl (cap := 0) (by decide) at_252 (n := 254) rfl (by decide) (by decide) (by decide) ?_
            clear X eT
            intro T h at_ z_at_ X eT E V_at_
            have g_at_ : n0 ≤ at_ := by rw [z_at_]; exact O.le
            replace O := O.ext E
            replace V_at_ : Arl Z h at_ .int [] := V_at_
            refine Go.astore C X at_254 (n := 256) rfl rfl (l' := #[.val (.int p0), .val (.int p1), .val (.int p2), .val (.int p3), .val (.int p4), .val (.int p5), .val (.int (0 : Int32)), .val (.int s0), .val (.int s1), .val (.int s2), .val (.int a0), .val (.int a1), .val (.int a2), .val (.long (1 : Int64)), .second, .val (.long (1 : Int64)), .second, .val (.long (1 : Int64)), .second, .val (.long (0 : Int64)), .second, .val (.long (0 : Int64)), .second, .val (.long (0 : Int64)), .second, .val (.long (((1 : Int64) * (1 : Int64)) * (1 : Int64))), .second, .val (.long (((((0 : Int64) * (1 : Int64)) + (0 : Int64)) * (1 : Int64)) + (0 : Int64))), .second, .val (.long ((((((0 : Int64) * (1 : Int64)) + (0 : Int64)) * (1 : Int64)) + (0 : Int64)) + (1 : Int64))), .second, .val (.int (0 : Int32)), .val (.long (0 : Int64)), .second, .val (.long ((0 : Int64) - ((0 : Int64) / (1 : Int64)) * (1 : Int64))), .second, .val (.long (((0 : Int64) / (1 : Int64)) - (((0 : Int64) / (1 : Int64)) / (1 : Int64)) * (1 : Int64))), .second, .val (.long ((0 : Int64) / ((1 : Int64) * (1 : Int64)))), .second, .val (.ref at_), .unset, .unset, .unset]) rfl ?_
            refine Go.iload C X at_256 (n := 258) rfl rfl ?_
            refine Go.newL C X eT (wd hw 2 rfl) (i := 0) rfl (cap := 0) (by decide) at_258 (n := 260) rfl (by decide) (by decide) (by decide) ?_
            clear X eT
            intro T h sz_ z_sz_ X eT E V_sz_
            have ne_at__sz_ : at_ ≠ sz_ := Nat.ne_of_lt (Nat.lt_of_lt_of_le V_at_.lt (Nat.le_of_eq z_sz_.symm))
            have g_sz_ : n0 ≤ sz_ := by rw [z_sz_]; exact O.le
            replace O := O.ext E
            replace V_at_ := V_at_.ext E
            replace V_sz_ : Arl Z h sz_ .int [] := V_sz_
            refine Go.astore C X at_260 (n := 262) rfl rfl (l' := #[.val (.int p0), .val (.int p1), .val (.int p2), .val (.int p3), .val (.int p4), .val (.int p5), .val (.int (0 : Int32)), .val (.int s0), .val (.int s1), .val (.int s2), .val (.int a0), .val (.int a1), .val (.int a2), .val (.long (1 : Int64)), .second, .val (.long (1 : Int64)), .second, .val (.long (1 : Int64)), .second, .val (.long (0 : Int64)), .second, .val (.long (0 : Int64)), .second, .val (.long (0 : Int64)), .second, .val (.long (((1 : Int64) * (1 : Int64)) * (1 : Int64))), .second, .val (.long (((((0 : Int64) * (1 : Int64)) + (0 : Int64)) * (1 : Int64)) + (0 : Int64))), .second, .val (.long ((((((0 : Int64) * (1 : Int64)) + (0 : Int64)) * (1 : Int64)) + (0 : Int64)) + (1 : Int64))), .second, .val (.int (0 : Int32)), .val (.long (0 : Int64)), .second, .val (.long ((0 : Int64) - ((0 : Int64) / (1 : Int64)) * (1 : Int64))), .second, .val (.long (((0 : Int64) / (1 : Int64)) - (((0 : Int64) / (1 : Int64)) / (1 : Int64)) * (1 : Int64))), .second, .val (.long ((0 : Int64) / ((1 : Int64) * (1 : Int64)))), .second, .val (.ref at_), .val (.ref sz_), .unset, .unset]) rfl ?_
            refine Go.iload C X at_262 (n := 264) rfl rfl ?_
            refine Go.if0_le C X at_264 (n1 := 279) (n2 := 267) (by decide) (by decide) rfl (fun hc264 => ?_) (fun hc264 => ?_)
            · refine Go.iload C X at_279 (n := 281) rfl rfl ?_
              refine Go.iconst C X at_281 (n := 282) rfl (v := (1 : Int32)) rfl ?_
              refine Go.icmp_le C X at_282 (n1 := 297) (n2 := 285) (by decide) (by decide) rfl (fun hc282 => ?_) (fun hc282 => ?_)
              · refine Go.iload C X at_297 (n := 299) rfl rfl ?_
                refine Go.iconst C X at_299 (n := 300) rfl (v := (2 : Int32)) rfl ?_
                refine Go.icmp_le C X at_300 (n1 := 315) (n2 := 303) (by decide) (by decide) rfl (fun hc300 => ?_) (fun hc300 => ?_)
                · refine Go.aload C X at_315 (n := 317) rfl rfl rfl ?_
                  refine Go.aload C X at_317 (n := 319) rfl rfl rfl ?_
                  obtain ⟨r, xs', hq⟩ : ∃ r xs', advK 0 [] [] = (r, xs') := ⟨_, _, rfl⟩
                  refine Go.stat C X eT (argsL := [(.ref at_), (.ref sz_)]) (rest := []) (rm1 l Z a0' hw n0 _ at_ sz_ [] [] (0 : Int32) r xs' g_at_ ne_at__sz_ rfl rfl hq V_at_ V_sz_) (wd hw 3 rfl) (wd hw 4 rfl) (wd hw 5 rfl) (wd hw 6 rfl) (by decide) (lenOf pd_0 rfl) rfl at_319 (n := 322) rfl rfl (by decide) (W := 0) rfl (by decide) (by decide) (by decide) ?_
                  clear X eT
                  intro T h v L X eT hQ
                  obtain ⟨rfl, Nq, KK, V_at_⟩ := hQ
                  replace N := N.app Nq
                  replace O := O.keep KK (allS g_at_ all0)
                  replace V_sz_ := V_sz_.keep KK (ninS (Ne.symm ne_at__sz_) nin0)
                  show Go p e below _ (T.setTop (mkF m 322 #[.val (.int p0), .val (.int p1), .val (.int p2), .val (.int p3), .val (.int p4), .val (.int p5), .val (.int (0 : Int32)), .val (.int s0), .val (.int s1), .val (.int s2), .val (.int a0), .val (.int a1), .val (.int a2), .val (.long (1 : Int64)), .second, .val (.long (1 : Int64)), .second, .val (.long (1 : Int64)), .second, .val (.long (0 : Int64)), .second, .val (.long (0 : Int64)), .second, .val (.long (0 : Int64)), .second, .val (.long (((1 : Int64) * (1 : Int64)) * (1 : Int64))), .second, .val (.long (((((0 : Int64) * (1 : Int64)) + (0 : Int64)) * (1 : Int64)) + (0 : Int64))), .second, .val (.long ((((((0 : Int64) * (1 : Int64)) + (0 : Int64)) * (1 : Int64)) + (0 : Int64)) + (1 : Int64))), .second, .val (.int (0 : Int32)), .val (.long (0 : Int64)), .second, .val (.long ((0 : Int64) - ((0 : Int64) / (1 : Int64)) * (1 : Int64))), .second, .val (.long (((0 : Int64) / (1 : Int64)) - (((0 : Int64) / (1 : Int64)) / (1 : Int64)) * (1 : Int64))), .second, .val (.long ((0 : Int64) / ((1 : Int64) * (1 : Int64)))), .second, .val (.ref at_), .val (.ref sz_), .unset, .unset] [(.int r)]))
                  obtain ⟨hr, hl, he⟩ := plain0n  hq hc200
                  subst hr
                  show Go p e below _ (T.setTop (mkF m 322 #[.val (.int p0), .val (.int p1), .val (.int p2), .val (.int p3), .val (.int p4), .val (.int p5), .val (.int (0 : Int32)), .val (.int s0), .val (.int s1), .val (.int s2), .val (.int a0), .val (.int a1), .val (.int a2), .val (.long (1 : Int64)), .second, .val (.long (1 : Int64)), .second, .val (.long (1 : Int64)), .second, .val (.long (0 : Int64)), .second, .val (.long (0 : Int64)), .second, .val (.long (0 : Int64)), .second, .val (.long (((1 : Int64) * (1 : Int64)) * (1 : Int64))), .second, .val (.long (((((0 : Int64) * (1 : Int64)) + (0 : Int64)) * (1 : Int64)) + (0 : Int64))), .second, .val (.long ((((((0 : Int64) * (1 : Int64)) + (0 : Int64)) * (1 : Int64)) + (0 : Int64)) + (1 : Int64))), .second, .val (.int (0 : Int32)), .val (.long (0 : Int64)), .second, .val (.long ((0 : Int64) - ((0 : Int64) / (1 : Int64)) * (1 : Int64))), .second, .val (.long (((0 : Int64) / (1 : Int64)) - (((0 : Int64) / (1 : Int64)) / (1 : Int64)) * (1 : Int64))), .second, .val (.long ((0 : Int64) / ((1 : Int64) * (1 : Int64)))), .second, .val (.ref at_), .val (.ref sz_), .unset, .unset] [(.int (0 : Int32))]))
                  refine Go.istore C X at_322 (n := 324) rfl (l' := #[.val (.int p0), .val (.int p1), .val (.int p2), .val (.int p3), .val (.int p4), .val (.int p5), .val (.int (0 : Int32)), .val (.int s0), .val (.int s1), .val (.int s2), .val (.int a0), .val (.int a1), .val (.int a2), .val (.long (1 : Int64)), .second, .val (.long (1 : Int64)), .second, .val (.long (1 : Int64)), .second, .val (.long (0 : Int64)), .second, .val (.long (0 : Int64)), .second, .val (.long (0 : Int64)), .second, .val (.long (((1 : Int64) * (1 : Int64)) * (1 : Int64))), .second, .val (.long (((((0 : Int64) * (1 : Int64)) + (0 : Int64)) * (1 : Int64)) + (0 : Int64))), .second, .val (.long ((((((0 : Int64) * (1 : Int64)) + (0 : Int64)) * (1 : Int64)) + (0 : Int64)) + (1 : Int64))), .second, .val (.int (0 : Int32)), .val (.long (0 : Int64)), .second, .val (.long ((0 : Int64) - ((0 : Int64) / (1 : Int64)) * (1 : Int64))), .second, .val (.long (((0 : Int64) / (1 : Int64)) - (((0 : Int64) / (1 : Int64)) / (1 : Int64)) * (1 : Int64))), .second, .val (.long ((0 : Int64) / ((1 : Int64) * (1 : Int64)))), .second, .val (.ref at_), .val (.ref sz_), .val (.int (0 : Int32)), .unset]) rfl ?_
                  refine Go.iload C X at_324 (n := 326) rfl rfl ?_
                  refine Go.iload C X at_326 (n := 328) rfl rfl ?_
                  refine Go.icmp_ne C X at_328 (n1 := 335) (n2 := 331) (by decide) (by decide) rfl (fun hc328 => ?_) (fun hc328 => ?_)
                  · exact absurd hc328 (by decide)
                  · refine Go.iconst C X at_331 (n := 332) rfl (v := (1 : Int32)) rfl ?_
                    refine Go.goto C X at_332 (n := 336) (by decide) (by decide) ?_
                    refine Go.istore C X at_336 (n := 338) rfl (l' := #[.val (.int p0), .val (.int p1), .val (.int p2), .val (.int p3), .val (.int p4), .val (.int p5), .val (.int (0 : Int32)), .val (.int s0), .val (.int s1), .val (.int s2), .val (.int a0), .val (.int a1), .val (.int a2), .val (.long (1 : Int64)), .second, .val (.long (1 : Int64)), .second, .val (.long (1 : Int64)), .second, .val (.long (0 : Int64)), .second, .val (.long (0 : Int64)), .second, .val (.long (0 : Int64)), .second, .val (.long (((1 : Int64) * (1 : Int64)) * (1 : Int64))), .second, .val (.long (((((0 : Int64) * (1 : Int64)) + (0 : Int64)) * (1 : Int64)) + (0 : Int64))), .second, .val (.long ((((((0 : Int64) * (1 : Int64)) + (0 : Int64)) * (1 : Int64)) + (0 : Int64)) + (1 : Int64))), .second, .val (.int (0 : Int32)), .val (.long (0 : Int64)), .second, .val (.long ((0 : Int64) - ((0 : Int64) / (1 : Int64)) * (1 : Int64))), .second, .val (.long (((0 : Int64) / (1 : Int64)) - (((0 : Int64) / (1 : Int64)) / (1 : Int64)) * (1 : Int64))), .second, .val (.long ((0 : Int64) / ((1 : Int64) * (1 : Int64)))), .second, .val (.ref at_), .val (.ref sz_), .val (.int (0 : Int32)), .val (.int (1 : Int32))]) rfl ?_
                    refine Go.iload C X at_338 (n := 340) rfl rfl ?_
                    refine Go.iconst C X at_340 (n := 341) rfl (v := (3 : Int32)) rfl ?_
                    refine Go.icmp_ne C X at_341 (n1 := 431) (n2 := 344) (by decide) (by decide) rfl (fun hc341 => ?_) (fun hc341 => ?_)
                    · refine Go.iload C X at_431 (n := 433) rfl rfl ?_
                      refine Go.iconst C X at_433 (n := 434) rfl (v := (2 : Int32)) rfl ?_
                      refine Go.icmp_ne C X at_434 (n1 := 504) (n2 := 437) (by decide) (by decide) rfl (fun hc434 => ?_) (fun hc434 => ?_)
                      · refine Go.iload C X at_504 (n := 506) rfl rfl ?_
                        refine Go.iconst C X at_506 (n := 507) rfl (v := (1 : Int32)) rfl ?_
                        refine Go.icmp_ne C X at_507 (n1 := 554) (n2 := 510) (by decide) (by decide) rfl (fun hc507 => ?_) (fun hc507 => ?_)
                        · refine Go.iload C X at_554 (n := 556) rfl rfl ?_
                          refine Go.retN C X eT (Or.inl rfl) (w := (1 : Int32)) (by decide) at_556 (by decide) (by decide) ?_
                          exact ⟨rfl, N⟩
                        · exact absurd hc507 (by decide)
                      · exact absurd hc434 (by decide)
                    · exact absurd hc341 (by decide)
                · exact absurd hc300 (by decide)
              · exact absurd hc282 (by decide)
            · exact absurd hc264 (by decide)
          · exact absurd hc212 (by decide)
        · exact absurd hc200 (by decide)
      · exact absurd hc150 (by decide)
    · exact absurd hc121 (by decide)
  · exact absurd hc82 (by decide)
set_option maxRecDepth 65536 in
set_option maxHeartbeats 40000000 in
theorem seg61_1 {p : Program} {l : Launch} {e : Env} {s : State} {m : MethodId} {args : Array Value} {below : List Frame} {meth : Method} {c : Code} {Z : State} {a0' : Array Value} {T : State} {h : Heap} {n0 : Nat} {locs : List Loc} (hw : ∀ d ∈ tables_1, d.before a0' Z = true) (C : Cx p s m meth c Z x.cls code maxLocals ret x.name) (X : Stand p l e room_1 s m args below meth c T locs 0 0) (eT : T.heap = h) (O : Old Z n0 h) (N : Fr n0 locs) {p0 p1 p2 p3 p4 p5 s0 s1 s2 a0 a1 a2 : Int32} (ks0 : 1 ≤ s0.toInt ∧ s0.toInt ≤ 2 ^ 20) (ks1 : 1 ≤ s1.toInt ∧ s1.toInt ≤ 2 ^ 20) (ks2 : 1 ≤ s2.toInt ∧ s2.toInt ≤ 2 ^ 20) (ka0 : 0 ≤ a0.toInt ∧ a0.toInt < s0.toInt) (ka1 : 0 ≤ a1.toInt ∧ a1.toInt < s1.toInt) (ka2 : 0 ≤ a2.toInt ∧ a2.toInt < s2.toInt) :
    Go p e below (EndQ s (fun v h L => v = some (.int 1) ∧ Fr n0 L) room_1.cells room_1.slots) (T.setTop (mkF m 61 #[.val (.int p0), .val (.int p1), .val (.int p2), .val (.int p3), .val (.int p4), .val (.int p5), .val (.int (1 : Int32)), .val (.int s0), .val (.int s1), .val (.int s2), .val (.int a0), .val (.int a1), .val (.int a2), .unset, .unset, .unset, .unset, .unset, .unset, .unset, .unset, .unset, .unset, .unset, .unset, .unset, .unset, .unset, .unset, .unset, .unset, .unset, .unset, .unset, .unset, .unset, .unset, .unset, .unset, .unset, .unset, .unset, .unset, .unset] [])) := by
  have zs0 := own_nz ks0
  have zs1 := own_nz ks1
  have zs2 := own_nz ks2
  show Go p e below _ (T.setTop (mkF m 61 #[.val (.int p0), .val (.int p1), .val (.int p2), .val (.int p3), .val (.int p4), .val (.int p5), .val (.int (1 : Int32)), .val (.int s0), .val (.int s1), .val (.int s2), .val (.int a0), .val (.int a1), .val (.int a2), .unset, .unset, .unset, .unset, .unset, .unset, .unset, .unset, .unset, .unset, .unset, .unset, .unset, .unset, .unset, .unset, .unset, .unset, .unset, .unset, .unset, .unset, .unset, .unset, .unset, .unset, .unset, .unset, .unset, .unset, .unset] []))
  refine Go.lconst C X at_61 (n := 62) rfl (v := (1 : Int64)) rfl ?_
  refine Go.lstore C X at_62 (n := 64) rfl (l' := #[.val (.int p0), .val (.int p1), .val (.int p2), .val (.int p3), .val (.int p4), .val (.int p5), .val (.int (1 : Int32)), .val (.int s0), .val (.int s1), .val (.int s2), .val (.int a0), .val (.int a1), .val (.int a2), .val (.long (1 : Int64)), .second, .unset, .unset, .unset, .unset, .unset, .unset, .unset, .unset, .unset, .unset, .unset, .unset, .unset, .unset, .unset, .unset, .unset, .unset, .unset, .unset, .unset, .unset, .unset, .unset, .unset, .unset, .unset, .unset, .unset]) rfl ?_
  refine Go.lconst C X at_64 (n := 65) rfl (v := (1 : Int64)) rfl ?_
  refine Go.lstore C X at_65 (n := 67) rfl (l' := #[.val (.int p0), .val (.int p1), .val (.int p2), .val (.int p3), .val (.int p4), .val (.int p5), .val (.int (1 : Int32)), .val (.int s0), .val (.int s1), .val (.int s2), .val (.int a0), .val (.int a1), .val (.int a2), .val (.long (1 : Int64)), .second, .val (.long (1 : Int64)), .second, .unset, .unset, .unset, .unset, .unset, .unset, .unset, .unset, .unset, .unset, .unset, .unset, .unset, .unset, .unset, .unset, .unset, .unset, .unset, .unset, .unset, .unset, .unset, .unset, .unset, .unset, .unset]) rfl ?_
  refine Go.lconst C X at_67 (n := 68) rfl (v := (1 : Int64)) rfl ?_
  refine Go.lstore C X at_68 (n := 70) rfl (l' := #[.val (.int p0), .val (.int p1), .val (.int p2), .val (.int p3), .val (.int p4), .val (.int p5), .val (.int (1 : Int32)), .val (.int s0), .val (.int s1), .val (.int s2), .val (.int a0), .val (.int a1), .val (.int a2), .val (.long (1 : Int64)), .second, .val (.long (1 : Int64)), .second, .val (.long (1 : Int64)), .second, .unset, .unset, .unset, .unset, .unset, .unset, .unset, .unset, .unset, .unset, .unset, .unset, .unset, .unset, .unset, .unset, .unset, .unset, .unset, .unset, .unset, .unset, .unset, .unset, .unset]) rfl ?_
  refine Go.lconst C X at_70 (n := 71) rfl (v := (0 : Int64)) rfl ?_
  refine Go.lstore C X at_71 (n := 73) rfl (l' := #[.val (.int p0), .val (.int p1), .val (.int p2), .val (.int p3), .val (.int p4), .val (.int p5), .val (.int (1 : Int32)), .val (.int s0), .val (.int s1), .val (.int s2), .val (.int a0), .val (.int a1), .val (.int a2), .val (.long (1 : Int64)), .second, .val (.long (1 : Int64)), .second, .val (.long (1 : Int64)), .second, .val (.long (0 : Int64)), .second, .unset, .unset, .unset, .unset, .unset, .unset, .unset, .unset, .unset, .unset, .unset, .unset, .unset, .unset, .unset, .unset, .unset, .unset, .unset, .unset, .unset, .unset, .unset]) rfl ?_
  refine Go.lconst C X at_73 (n := 74) rfl (v := (0 : Int64)) rfl ?_
  refine Go.lstore C X at_74 (n := 76) rfl (l' := #[.val (.int p0), .val (.int p1), .val (.int p2), .val (.int p3), .val (.int p4), .val (.int p5), .val (.int (1 : Int32)), .val (.int s0), .val (.int s1), .val (.int s2), .val (.int a0), .val (.int a1), .val (.int a2), .val (.long (1 : Int64)), .second, .val (.long (1 : Int64)), .second, .val (.long (1 : Int64)), .second, .val (.long (0 : Int64)), .second, .val (.long (0 : Int64)), .second, .unset, .unset, .unset, .unset, .unset, .unset, .unset, .unset, .unset, .unset, .unset, .unset, .unset, .unset, .unset, .unset, .unset, .unset, .unset, .unset, .unset]) rfl ?_
  refine Go.lconst C X at_76 (n := 77) rfl (v := (0 : Int64)) rfl ?_
  refine Go.lstore C X at_77 (n := 79) rfl (l' := #[.val (.int p0), .val (.int p1), .val (.int p2), .val (.int p3), .val (.int p4), .val (.int p5), .val (.int (1 : Int32)), .val (.int s0), .val (.int s1), .val (.int s2), .val (.int a0), .val (.int a1), .val (.int a2), .val (.long (1 : Int64)), .second, .val (.long (1 : Int64)), .second, .val (.long (1 : Int64)), .second, .val (.long (0 : Int64)), .second, .val (.long (0 : Int64)), .second, .val (.long (0 : Int64)), .second, .unset, .unset, .unset, .unset, .unset, .unset, .unset, .unset, .unset, .unset, .unset, .unset, .unset, .unset, .unset, .unset, .unset, .unset, .unset]) rfl ?_
  refine Go.iload C X at_79 (n := 81) rfl rfl ?_
  refine Go.iconst C X at_81 (n := 82) rfl (v := (3 : Int32)) rfl ?_
  refine Go.icmp_ne C X at_82 (n1 := 118) (n2 := 85) (by decide) (by decide) rfl (fun hc82 => ?_) (fun hc82 => ?_)
  · refine Go.iload C X at_118 (n := 120) rfl rfl ?_
    refine Go.iconst C X at_120 (n := 121) rfl (v := (2 : Int32)) rfl ?_
    refine Go.icmp_ne C X at_121 (n1 := 147) (n2 := 124) (by decide) (by decide) rfl (fun hc121 => ?_) (fun hc121 => ?_)
    · refine Go.iload C X at_147 (n := 149) rfl rfl ?_
      refine Go.iconst C X at_149 (n := 150) rfl (v := (1 : Int32)) rfl ?_
      refine Go.icmp_ne C X at_150 (n1 := 163) (n2 := 153) (by decide) (by decide) rfl (fun hc150 => ?_) (fun hc150 => ?_)
      · exact absurd hc150 (by decide)
      · refine Go.iload C X at_153 (n := 155) rfl rfl ?_
        refine Go.i2l C X at_155 (n := 156) rfl ?_
        refine Go.lstore C X at_156 (n := 158) rfl (l' := #[.val (.int p0), .val (.int p1), .val (.int p2), .val (.int p3), .val (.int p4), .val (.int p5), .val (.int (1 : Int32)), .val (.int s0), .val (.int s1), .val (.int s2), .val (.int a0), .val (.int a1), .val (.int a2), .val (.long (1 : Int64)), .second, .val (.long (1 : Int64)), .second, .val (.long (s0.toInt64)), .second, .val (.long (0 : Int64)), .second, .val (.long (0 : Int64)), .second, .val (.long (0 : Int64)), .second, .unset, .unset, .unset, .unset, .unset, .unset, .unset, .unset, .unset, .unset, .unset, .unset, .unset, .unset, .unset, .unset, .unset, .unset, .unset]) rfl ?_
        refine Go.iload C X at_158 (n := 160) rfl rfl ?_
        refine Go.i2l C X at_160 (n := 161) rfl ?_
        refine Go.lstore C X at_161 (n := 163) rfl (l' := #[.val (.int p0), .val (.int p1), .val (.int p2), .val (.int p3), .val (.int p4), .val (.int p5), .val (.int (1 : Int32)), .val (.int s0), .val (.int s1), .val (.int s2), .val (.int a0), .val (.int a1), .val (.int a2), .val (.long (1 : Int64)), .second, .val (.long (1 : Int64)), .second, .val (.long (s0.toInt64)), .second, .val (.long (0 : Int64)), .second, .val (.long (0 : Int64)), .second, .val (.long (a0.toInt64)), .second, .unset, .unset, .unset, .unset, .unset, .unset, .unset, .unset, .unset, .unset, .unset, .unset, .unset, .unset, .unset, .unset, .unset, .unset, .unset]) rfl ?_
        refine Go.lload C X at_163 (n := 165) rfl rfl ?_
        refine Go.lload C X at_165 (n := 167) rfl rfl ?_
        refine Go.lmul C X at_167 (n := 168) rfl ?_
        refine Go.lload C X at_168 (n := 170) rfl rfl ?_
        refine Go.lmul C X at_170 (n := 171) rfl ?_
        refine Go.lstore C X at_171 (n := 173) rfl (l' := #[.val (.int p0), .val (.int p1), .val (.int p2), .val (.int p3), .val (.int p4), .val (.int p5), .val (.int (1 : Int32)), .val (.int s0), .val (.int s1), .val (.int s2), .val (.int a0), .val (.int a1), .val (.int a2), .val (.long (1 : Int64)), .second, .val (.long (1 : Int64)), .second, .val (.long (s0.toInt64)), .second, .val (.long (0 : Int64)), .second, .val (.long (0 : Int64)), .second, .val (.long (a0.toInt64)), .second, .val (.long (((1 : Int64) * (1 : Int64)) * (s0.toInt64))), .second, .unset, .unset, .unset, .unset, .unset, .unset, .unset, .unset, .unset, .unset, .unset, .unset, .unset, .unset, .unset, .unset, .unset]) rfl ?_
        refine Go.lload C X at_173 (n := 175) rfl rfl ?_
        refine Go.lload C X at_175 (n := 177) rfl rfl ?_
        refine Go.lmul C X at_177 (n := 178) rfl ?_
        refine Go.lload C X at_178 (n := 180) rfl rfl ?_
        refine Go.ladd C X at_180 (n := 181) rfl ?_
        refine Go.lload C X at_181 (n := 183) rfl rfl ?_
        refine Go.lmul C X at_183 (n := 184) rfl ?_
        refine Go.lload C X at_184 (n := 186) rfl rfl ?_
        refine Go.ladd C X at_186 (n := 187) rfl ?_
        refine Go.lstore C X at_187 (n := 189) rfl (l' := #[.val (.int p0), .val (.int p1), .val (.int p2), .val (.int p3), .val (.int p4), .val (.int p5), .val (.int (1 : Int32)), .val (.int s0), .val (.int s1), .val (.int s2), .val (.int a0), .val (.int a1), .val (.int a2), .val (.long (1 : Int64)), .second, .val (.long (1 : Int64)), .second, .val (.long (s0.toInt64)), .second, .val (.long (0 : Int64)), .second, .val (.long (0 : Int64)), .second, .val (.long (a0.toInt64)), .second, .val (.long (((1 : Int64) * (1 : Int64)) * (s0.toInt64))), .second, .val (.long (((((0 : Int64) * (1 : Int64)) + (0 : Int64)) * (s0.toInt64)) + (a0.toInt64))), .second, .unset, .unset, .unset, .unset, .unset, .unset, .unset, .unset, .unset, .unset, .unset, .unset, .unset, .unset, .unset]) rfl ?_
        refine Go.lload C X at_189 (n := 191) rfl rfl ?_
        refine Go.lconst C X at_191 (n := 192) rfl (v := (1 : Int64)) rfl ?_
        refine Go.ladd C X at_192 (n := 193) rfl ?_
        refine Go.lstore C X at_193 (n := 195) rfl (l' := #[.val (.int p0), .val (.int p1), .val (.int p2), .val (.int p3), .val (.int p4), .val (.int p5), .val (.int (1 : Int32)), .val (.int s0), .val (.int s1), .val (.int s2), .val (.int a0), .val (.int a1), .val (.int a2), .val (.long (1 : Int64)), .second, .val (.long (1 : Int64)), .second, .val (.long (s0.toInt64)), .second, .val (.long (0 : Int64)), .second, .val (.long (0 : Int64)), .second, .val (.long (a0.toInt64)), .second, .val (.long (((1 : Int64) * (1 : Int64)) * (s0.toInt64))), .second, .val (.long (((((0 : Int64) * (1 : Int64)) + (0 : Int64)) * (s0.toInt64)) + (a0.toInt64))), .second, .val (.long ((((((0 : Int64) * (1 : Int64)) + (0 : Int64)) * (s0.toInt64)) + (a0.toInt64)) + (1 : Int64))), .second, .unset, .unset, .unset, .unset, .unset, .unset, .unset, .unset, .unset, .unset, .unset, .unset, .unset]) rfl ?_
        refine Go.lload C X at_195 (n := 197) rfl rfl ?_
        refine Go.lload C X at_197 (n := 199) rfl rfl ?_
        refine Go.lcmp C X at_199 (n := 200) rfl ?_
        refine Go.lcmp_ge C X at_200 (n1 := 207) (n2 := 203) (by decide) (by decide) rfl (fun hc200 => ?_) (fun hc200 => ?_)
        · refine Go.iconst C X at_207 (n := 208) rfl (v := (0 : Int32)) rfl ?_
          refine Go.istore C X at_208 (n := 210) rfl (l' := #[.val (.int p0), .val (.int p1), .val (.int p2), .val (.int p3), .val (.int p4), .val (.int p5), .val (.int (1 : Int32)), .val (.int s0), .val (.int s1), .val (.int s2), .val (.int a0), .val (.int a1), .val (.int a2), .val (.long (1 : Int64)), .second, .val (.long (1 : Int64)), .second, .val (.long (s0.toInt64)), .second, .val (.long (0 : Int64)), .second, .val (.long (0 : Int64)), .second, .val (.long (a0.toInt64)), .second, .val (.long (((1 : Int64) * (1 : Int64)) * (s0.toInt64))), .second, .val (.long (((((0 : Int64) * (1 : Int64)) + (0 : Int64)) * (s0.toInt64)) + (a0.toInt64))), .second, .val (.long ((((((0 : Int64) * (1 : Int64)) + (0 : Int64)) * (s0.toInt64)) + (a0.toInt64)) + (1 : Int64))), .second, .val (.int (0 : Int32)), .unset, .unset, .unset, .unset, .unset, .unset, .unset, .unset, .unset, .unset, .unset, .unset]) rfl ?_
          refine Go.iload C X at_210 (n := 212) rfl rfl ?_
          refine Go.if0_eq C X at_212 (n1 := 220) (n2 := 215) (by decide) (by decide) rfl (fun hc212 => ?_) (fun hc212 => ?_)
          · refine Go.lconst C X at_220 (n := 221) rfl (v := (0 : Int64)) rfl ?_
            refine Go.lstore C X at_221 (n := 223) rfl (l' := #[.val (.int p0), .val (.int p1), .val (.int p2), .val (.int p3), .val (.int p4), .val (.int p5), .val (.int (1 : Int32)), .val (.int s0), .val (.int s1), .val (.int s2), .val (.int a0), .val (.int a1), .val (.int a2), .val (.long (1 : Int64)), .second, .val (.long (1 : Int64)), .second, .val (.long (s0.toInt64)), .second, .val (.long (0 : Int64)), .second, .val (.long (0 : Int64)), .second, .val (.long (a0.toInt64)), .second, .val (.long (((1 : Int64) * (1 : Int64)) * (s0.toInt64))), .second, .val (.long (((((0 : Int64) * (1 : Int64)) + (0 : Int64)) * (s0.toInt64)) + (a0.toInt64))), .second, .val (.long ((((((0 : Int64) * (1 : Int64)) + (0 : Int64)) * (s0.toInt64)) + (a0.toInt64)) + (1 : Int64))), .second, .val (.int (0 : Int32)), .val (.long (0 : Int64)), .second, .unset, .unset, .unset, .unset, .unset, .unset, .unset, .unset, .unset, .unset]) rfl ?_
            refine Go.lload C X at_223 (n := 225) rfl rfl ?_
            refine Go.lload C X at_225 (n := 227) rfl rfl ?_
            refine Go.lrem C X at_227 (n := 228) rfl zs0 ?_
            refine Go.lstore C X at_228 (n := 230) rfl (l' := #[.val (.int p0), .val (.int p1), .val (.int p2), .val (.int p3), .val (.int p4), .val (.int p5), .val (.int (1 : Int32)), .val (.int s0), .val (.int s1), .val (.int s2), .val (.int a0), .val (.int a1), .val (.int a2), .val (.long (1 : Int64)), .second, .val (.long (1 : Int64)), .second, .val (.long (s0.toInt64)), .second, .val (.long (0 : Int64)), .second, .val (.long (0 : Int64)), .second, .val (.long (a0.toInt64)), .second, .val (.long (((1 : Int64) * (1 : Int64)) * (s0.toInt64))), .second, .val (.long (((((0 : Int64) * (1 : Int64)) + (0 : Int64)) * (s0.toInt64)) + (a0.toInt64))), .second, .val (.long ((((((0 : Int64) * (1 : Int64)) + (0 : Int64)) * (s0.toInt64)) + (a0.toInt64)) + (1 : Int64))), .second, .val (.int (0 : Int32)), .val (.long (0 : Int64)), .second, .val (.long ((0 : Int64) - ((0 : Int64) / (s0.toInt64)) * (s0.toInt64))), .second, .unset, .unset, .unset, .unset, .unset, .unset, .unset, .unset]) rfl ?_
            refine Go.lload C X at_230 (n := 232) rfl rfl ?_
            refine Go.lload C X at_232 (n := 234) rfl rfl ?_
            refine Go.ldiv C X at_234 (n := 235) rfl zs0 ?_
            refine Go.lload C X at_235 (n := 237) rfl rfl ?_
            refine Go.lrem C X at_237 (n := 238) rfl (by decide) ?_
            refine Go.lstore C X at_238 (n := 240) rfl (l' := #[.val (.int p0), .val (.int p1), .val (.int p2), .val (.int p3), .val (.int p4), .val (.int p5), .val (.int (1 : Int32)), .val (.int s0), .val (.int s1), .val (.int s2), .val (.int a0), .val (.int a1), .val (.int a2), .val (.long (1 : Int64)), .second, .val (.long (1 : Int64)), .second, .val (.long (s0.toInt64)), .second, .val (.long (0 : Int64)), .second, .val (.long (0 : Int64)), .second, .val (.long (a0.toInt64)), .second, .val (.long (((1 : Int64) * (1 : Int64)) * (s0.toInt64))), .second, .val (.long (((((0 : Int64) * (1 : Int64)) + (0 : Int64)) * (s0.toInt64)) + (a0.toInt64))), .second, .val (.long ((((((0 : Int64) * (1 : Int64)) + (0 : Int64)) * (s0.toInt64)) + (a0.toInt64)) + (1 : Int64))), .second, .val (.int (0 : Int32)), .val (.long (0 : Int64)), .second, .val (.long ((0 : Int64) - ((0 : Int64) / (s0.toInt64)) * (s0.toInt64))), .second, .val (.long (((0 : Int64) / (s0.toInt64)) - (((0 : Int64) / (s0.toInt64)) / (1 : Int64)) * (1 : Int64))), .second, .unset, .unset, .unset, .unset, .unset, .unset]) rfl ?_
            refine Go.lload C X at_240 (n := 242) rfl rfl ?_
            refine Go.lload C X at_242 (n := 244) rfl rfl ?_
            refine Go.lload C X at_244 (n := 246) rfl rfl ?_
            refine Go.lmul C X at_246 (n := 247) rfl ?_
            refine Go.ldiv C X at_247 (n := 248) rfl (own_mulnz1 ks0) ?_
            refine Go.lstore C X at_248 (n := 250) rfl (l' := #[.val (.int p0), .val (.int p1), .val (.int p2), .val (.int p3), .val (.int p4), .val (.int p5), .val (.int (1 : Int32)), .val (.int s0), .val (.int s1), .val (.int s2), .val (.int a0), .val (.int a1), .val (.int a2), .val (.long (1 : Int64)), .second, .val (.long (1 : Int64)), .second, .val (.long (s0.toInt64)), .second, .val (.long (0 : Int64)), .second, .val (.long (0 : Int64)), .second, .val (.long (a0.toInt64)), .second, .val (.long (((1 : Int64) * (1 : Int64)) * (s0.toInt64))), .second, .val (.long (((((0 : Int64) * (1 : Int64)) + (0 : Int64)) * (s0.toInt64)) + (a0.toInt64))), .second, .val (.long ((((((0 : Int64) * (1 : Int64)) + (0 : Int64)) * (s0.toInt64)) + (a0.toInt64)) + (1 : Int64))), .second, .val (.int (0 : Int32)), .val (.long (0 : Int64)), .second, .val (.long ((0 : Int64) - ((0 : Int64) / (s0.toInt64)) * (s0.toInt64))), .second, .val (.long (((0 : Int64) / (s0.toInt64)) - (((0 : Int64) / (s0.toInt64)) / (1 : Int64)) * (1 : Int64))), .second, .val (.long ((0 : Int64) / ((s0.toInt64) * (1 : Int64)))), .second, .unset, .unset, .unset, .unset]) rfl ?_
            refine Go.iload C X at_250 (n := 252) rfl rfl ?_
            refine Go.newL C X eT (wd hw 2 rfl) (i := 1) rfl (cap := 1) (by decide) at_252 (n := 254) rfl (by decide) (by decide) (by decide) ?_
            clear X eT
            intro T h at_ z_at_ X eT E V_at_
            have g_at_ : n0 ≤ at_ := by rw [z_at_]; exact O.le
            replace O := O.ext E
            replace V_at_ : Arl Z h at_ .int [.int (0 : Int32)] := V_at_
            refine Go.astore C X at_254 (n := 256) rfl rfl (l' := #[.val (.int p0), .val (.int p1), .val (.int p2), .val (.int p3), .val (.int p4), .val (.int p5), .val (.int (1 : Int32)), .val (.int s0), .val (.int s1), .val (.int s2), .val (.int a0), .val (.int a1), .val (.int a2), .val (.long (1 : Int64)), .second, .val (.long (1 : Int64)), .second, .val (.long (s0.toInt64)), .second, .val (.long (0 : Int64)), .second, .val (.long (0 : Int64)), .second, .val (.long (a0.toInt64)), .second, .val (.long (((1 : Int64) * (1 : Int64)) * (s0.toInt64))), .second, .val (.long (((((0 : Int64) * (1 : Int64)) + (0 : Int64)) * (s0.toInt64)) + (a0.toInt64))), .second, .val (.long ((((((0 : Int64) * (1 : Int64)) + (0 : Int64)) * (s0.toInt64)) + (a0.toInt64)) + (1 : Int64))), .second, .val (.int (0 : Int32)), .val (.long (0 : Int64)), .second, .val (.long ((0 : Int64) - ((0 : Int64) / (s0.toInt64)) * (s0.toInt64))), .second, .val (.long (((0 : Int64) / (s0.toInt64)) - (((0 : Int64) / (s0.toInt64)) / (1 : Int64)) * (1 : Int64))), .second, .val (.long ((0 : Int64) / ((s0.toInt64) * (1 : Int64)))), .second, .val (.ref at_), .unset, .unset, .unset]) rfl ?_
            refine Go.iload C X at_256 (n := 258) rfl rfl ?_
            refine Go.newL C X eT (wd hw 2 rfl) (i := 1) rfl (cap := 1) (by decide) at_258 (n := 260) rfl (by decide) (by decide) (by decide) ?_
            clear X eT
            intro T h sz_ z_sz_ X eT E V_sz_
            have ne_at__sz_ : at_ ≠ sz_ := Nat.ne_of_lt (Nat.lt_of_lt_of_le V_at_.lt (Nat.le_of_eq z_sz_.symm))
            have g_sz_ : n0 ≤ sz_ := by rw [z_sz_]; exact O.le
            replace O := O.ext E
            replace V_at_ := V_at_.ext E
            replace V_sz_ : Arl Z h sz_ .int [.int (0 : Int32)] := V_sz_
            refine Go.astore C X at_260 (n := 262) rfl rfl (l' := #[.val (.int p0), .val (.int p1), .val (.int p2), .val (.int p3), .val (.int p4), .val (.int p5), .val (.int (1 : Int32)), .val (.int s0), .val (.int s1), .val (.int s2), .val (.int a0), .val (.int a1), .val (.int a2), .val (.long (1 : Int64)), .second, .val (.long (1 : Int64)), .second, .val (.long (s0.toInt64)), .second, .val (.long (0 : Int64)), .second, .val (.long (0 : Int64)), .second, .val (.long (a0.toInt64)), .second, .val (.long (((1 : Int64) * (1 : Int64)) * (s0.toInt64))), .second, .val (.long (((((0 : Int64) * (1 : Int64)) + (0 : Int64)) * (s0.toInt64)) + (a0.toInt64))), .second, .val (.long ((((((0 : Int64) * (1 : Int64)) + (0 : Int64)) * (s0.toInt64)) + (a0.toInt64)) + (1 : Int64))), .second, .val (.int (0 : Int32)), .val (.long (0 : Int64)), .second, .val (.long ((0 : Int64) - ((0 : Int64) / (s0.toInt64)) * (s0.toInt64))), .second, .val (.long (((0 : Int64) / (s0.toInt64)) - (((0 : Int64) / (s0.toInt64)) / (1 : Int64)) * (1 : Int64))), .second, .val (.long ((0 : Int64) / ((s0.toInt64) * (1 : Int64)))), .second, .val (.ref at_), .val (.ref sz_), .unset, .unset]) rfl ?_
            refine Go.iload C X at_262 (n := 264) rfl rfl ?_
            refine Go.if0_le C X at_264 (n1 := 279) (n2 := 267) (by decide) (by decide) rfl (fun hc264 => ?_) (fun hc264 => ?_)
            · exact absurd hc264 (by decide)
            · refine Go.aload C X at_267 (n := 269) rfl rfl rfl ?_
              refine Go.iconst C X at_269 (n := 270) rfl (v := (0 : Int32)) rfl ?_
              refine Go.iload C X at_270 (n := 272) rfl rfl ?_
              refine Go.iastoreL C X eT V_at_ (i := 0) rfl (by simp) at_272 (n := 273) rfl ?_
              clear X eT
              intro T h X eT W V_new
              replace O := O.wr W g_at_
              replace V_sz_ := V_sz_.other W (Ne.symm ne_at__sz_)
              clear V_at_
              have V_at_ : Arl Z h at_ .int [.int a0] := V_new
              clear V_new
              replace N := Fr.snoc X N g_at_
              refine Go.aload C X at_273 (n := 275) rfl rfl rfl ?_
              refine Go.iconst C X at_275 (n := 276) rfl (v := (0 : Int32)) rfl ?_
              refine Go.iload C X at_276 (n := 278) rfl rfl ?_
              refine Go.iastoreL C X eT V_sz_ (i := 0) rfl (by simp) at_278 (n := 279) rfl ?_
              clear X eT
              intro T h X eT W V_new
              replace O := O.wr W g_sz_
              replace V_at_ := V_at_.other W ne_at__sz_
              clear V_sz_
              have V_sz_ : Arl Z h sz_ .int [.int s0] := V_new
              clear V_new
              replace N := Fr.snoc X N g_sz_
              refine Go.iload C X at_279 (n := 281) rfl rfl ?_
              refine Go.iconst C X at_281 (n := 282) rfl (v := (1 : Int32)) rfl ?_
              refine Go.icmp_le C X at_282 (n1 := 297) (n2 := 285) (by decide) (by decide) rfl (fun hc282 => ?_) (fun hc282 => ?_)
              · refine Go.iload C X at_297 (n := 299) rfl rfl ?_
                refine Go.iconst C X at_299 (n := 300) rfl (v := (2 : Int32)) rfl ?_
                refine Go.icmp_le C X at_300 (n1 := 315) (n2 := 303) (by decide) (by decide) rfl (fun hc300 => ?_) (fun hc300 => ?_)
                · refine Go.aload C X at_315 (n := 317) rfl rfl rfl ?_
                  refine Go.aload C X at_317 (n := 319) rfl rfl rfl ?_
                  obtain ⟨r, xs', hq⟩ : ∃ r xs', advK 1 [a0] [s0] = (r, xs') := ⟨_, _, rfl⟩
                  refine Go.stat C X eT (argsL := [(.ref at_), (.ref sz_)]) (rest := []) (rm1 l Z a0' hw n0 _ at_ sz_ [a0] [s0] (1 : Int32) r xs' g_at_ ne_at__sz_ rfl rfl hq V_at_ V_sz_) (wd hw 3 rfl) (wd hw 4 rfl) (wd hw 5 rfl) (wd hw 6 rfl) (by decide) (lenOf pd_0 rfl) rfl at_319 (n := 322) rfl rfl (by decide) (W := 0) rfl (by decide) (by decide) (by decide) ?_
                  clear X eT
                  intro T h v L X eT hQ
                  obtain ⟨rfl, Nq, KK, V_at_⟩ := hQ
                  replace N := N.app Nq
                  replace O := O.keep KK (allS g_at_ all0)
                  replace V_sz_ := V_sz_.keep KK (ninS (Ne.symm ne_at__sz_) nin0)
                  show Go p e below _ (T.setTop (mkF m 322 #[.val (.int p0), .val (.int p1), .val (.int p2), .val (.int p3), .val (.int p4), .val (.int p5), .val (.int (1 : Int32)), .val (.int s0), .val (.int s1), .val (.int s2), .val (.int a0), .val (.int a1), .val (.int a2), .val (.long (1 : Int64)), .second, .val (.long (1 : Int64)), .second, .val (.long (s0.toInt64)), .second, .val (.long (0 : Int64)), .second, .val (.long (0 : Int64)), .second, .val (.long (a0.toInt64)), .second, .val (.long (((1 : Int64) * (1 : Int64)) * (s0.toInt64))), .second, .val (.long (((((0 : Int64) * (1 : Int64)) + (0 : Int64)) * (s0.toInt64)) + (a0.toInt64))), .second, .val (.long ((((((0 : Int64) * (1 : Int64)) + (0 : Int64)) * (s0.toInt64)) + (a0.toInt64)) + (1 : Int64))), .second, .val (.int (0 : Int32)), .val (.long (0 : Int64)), .second, .val (.long ((0 : Int64) - ((0 : Int64) / (s0.toInt64)) * (s0.toInt64))), .second, .val (.long (((0 : Int64) / (s0.toInt64)) - (((0 : Int64) / (s0.toInt64)) / (1 : Int64)) * (1 : Int64))), .second, .val (.long ((0 : Int64) / ((s0.toInt64) * (1 : Int64)))), .second, .val (.ref at_), .val (.ref sz_), .unset, .unset] [(.int r)]))
                  obtain ⟨hr, hl, he⟩ := plain1n ks0 ka0 hq hc200
                  subst hr
                  have e0 := he
                  obtain ⟨x0, rfl⟩ := own_list1 hl
                  simp only [List.getD_cons_zero, List.getD_cons_succ] at e0
                  show Go p e below _ (T.setTop (mkF m 322 #[.val (.int p0), .val (.int p1), .val (.int p2), .val (.int p3), .val (.int p4), .val (.int p5), .val (.int (1 : Int32)), .val (.int s0), .val (.int s1), .val (.int s2), .val (.int a0), .val (.int a1), .val (.int a2), .val (.long (1 : Int64)), .second, .val (.long (1 : Int64)), .second, .val (.long (s0.toInt64)), .second, .val (.long (0 : Int64)), .second, .val (.long (0 : Int64)), .second, .val (.long (a0.toInt64)), .second, .val (.long (((1 : Int64) * (1 : Int64)) * (s0.toInt64))), .second, .val (.long (((((0 : Int64) * (1 : Int64)) + (0 : Int64)) * (s0.toInt64)) + (a0.toInt64))), .second, .val (.long ((((((0 : Int64) * (1 : Int64)) + (0 : Int64)) * (s0.toInt64)) + (a0.toInt64)) + (1 : Int64))), .second, .val (.int (0 : Int32)), .val (.long (0 : Int64)), .second, .val (.long ((0 : Int64) - ((0 : Int64) / (s0.toInt64)) * (s0.toInt64))), .second, .val (.long (((0 : Int64) / (s0.toInt64)) - (((0 : Int64) / (s0.toInt64)) / (1 : Int64)) * (1 : Int64))), .second, .val (.long ((0 : Int64) / ((s0.toInt64) * (1 : Int64)))), .second, .val (.ref at_), .val (.ref sz_), .unset, .unset] [(.int (0 : Int32))]))
                  refine Go.istore C X at_322 (n := 324) rfl (l' := #[.val (.int p0), .val (.int p1), .val (.int p2), .val (.int p3), .val (.int p4), .val (.int p5), .val (.int (1 : Int32)), .val (.int s0), .val (.int s1), .val (.int s2), .val (.int a0), .val (.int a1), .val (.int a2), .val (.long (1 : Int64)), .second, .val (.long (1 : Int64)), .second, .val (.long (s0.toInt64)), .second, .val (.long (0 : Int64)), .second, .val (.long (0 : Int64)), .second, .val (.long (a0.toInt64)), .second, .val (.long (((1 : Int64) * (1 : Int64)) * (s0.toInt64))), .second, .val (.long (((((0 : Int64) * (1 : Int64)) + (0 : Int64)) * (s0.toInt64)) + (a0.toInt64))), .second, .val (.long ((((((0 : Int64) * (1 : Int64)) + (0 : Int64)) * (s0.toInt64)) + (a0.toInt64)) + (1 : Int64))), .second, .val (.int (0 : Int32)), .val (.long (0 : Int64)), .second, .val (.long ((0 : Int64) - ((0 : Int64) / (s0.toInt64)) * (s0.toInt64))), .second, .val (.long (((0 : Int64) / (s0.toInt64)) - (((0 : Int64) / (s0.toInt64)) / (1 : Int64)) * (1 : Int64))), .second, .val (.long ((0 : Int64) / ((s0.toInt64) * (1 : Int64)))), .second, .val (.ref at_), .val (.ref sz_), .val (.int (0 : Int32)), .unset]) rfl ?_
                  refine Go.iload C X at_324 (n := 326) rfl rfl ?_
                  refine Go.iload C X at_326 (n := 328) rfl rfl ?_
                  refine Go.icmp_ne C X at_328 (n1 := 335) (n2 := 331) (by decide) (by decide) rfl (fun hc328 => ?_) (fun hc328 => ?_)
                  · exact absurd hc328 (by decide)
                  · refine Go.iconst C X at_331 (n := 332) rfl (v := (1 : Int32)) rfl ?_
                    refine Go.goto C X at_332 (n := 336) (by decide) (by decide) ?_
                    refine Go.istore C X at_336 (n := 338) rfl (l' := #[.val (.int p0), .val (.int p1), .val (.int p2), .val (.int p3), .val (.int p4), .val (.int p5), .val (.int (1 : Int32)), .val (.int s0), .val (.int s1), .val (.int s2), .val (.int a0), .val (.int a1), .val (.int a2), .val (.long (1 : Int64)), .second, .val (.long (1 : Int64)), .second, .val (.long (s0.toInt64)), .second, .val (.long (0 : Int64)), .second, .val (.long (0 : Int64)), .second, .val (.long (a0.toInt64)), .second, .val (.long (((1 : Int64) * (1 : Int64)) * (s0.toInt64))), .second, .val (.long (((((0 : Int64) * (1 : Int64)) + (0 : Int64)) * (s0.toInt64)) + (a0.toInt64))), .second, .val (.long ((((((0 : Int64) * (1 : Int64)) + (0 : Int64)) * (s0.toInt64)) + (a0.toInt64)) + (1 : Int64))), .second, .val (.int (0 : Int32)), .val (.long (0 : Int64)), .second, .val (.long ((0 : Int64) - ((0 : Int64) / (s0.toInt64)) * (s0.toInt64))), .second, .val (.long (((0 : Int64) / (s0.toInt64)) - (((0 : Int64) / (s0.toInt64)) / (1 : Int64)) * (1 : Int64))), .second, .val (.long ((0 : Int64) / ((s0.toInt64) * (1 : Int64)))), .second, .val (.ref at_), .val (.ref sz_), .val (.int (0 : Int32)), .val (.int (1 : Int32))]) rfl ?_
                    refine Go.iload C X at_338 (n := 340) rfl rfl ?_
                    refine Go.iconst C X at_340 (n := 341) rfl (v := (3 : Int32)) rfl ?_
                    refine Go.icmp_ne C X at_341 (n1 := 431) (n2 := 344) (by decide) (by decide) rfl (fun hc341 => ?_) (fun hc341 => ?_)
                    · refine Go.iload C X at_431 (n := 433) rfl rfl ?_
                      refine Go.iconst C X at_433 (n := 434) rfl (v := (2 : Int32)) rfl ?_
                      refine Go.icmp_ne C X at_434 (n1 := 504) (n2 := 437) (by decide) (by decide) rfl (fun hc434 => ?_) (fun hc434 => ?_)
                      · refine Go.iload C X at_504 (n := 506) rfl rfl ?_
                        refine Go.iconst C X at_506 (n := 507) rfl (v := (1 : Int32)) rfl ?_
                        refine Go.icmp_ne C X at_507 (n1 := 554) (n2 := 510) (by decide) (by decide) rfl (fun hc507 => ?_) (fun hc507 => ?_)
                        · exact absurd hc507 (by decide)
                        · refine Go.iload C X at_510 (n := 512) rfl rfl ?_
                          refine Go.if0_eq C X at_512 (n1 := 530) (n2 := 515) (by decide) (by decide) rfl (fun hc512 => ?_) (fun hc512 => ?_)
                          · exact absurd hc512 (by decide)
                          · refine Go.aload C X at_515 (n := 517) rfl rfl rfl ?_
                            refine Go.iconst C X at_517 (n := 518) rfl (v := (0 : Int32)) rfl ?_
                            refine Go.ialoadL C X eT V_at_ (i := 0) rfl (v := .int x0) rfl at_518 (n := 519) rfl ?_
                            refine Go.i2l C X at_519 (n := 520) rfl ?_
                            refine Go.lload C X at_520 (n := 522) rfl rfl ?_
                            refine Go.lcmp C X at_522 (n := 523) rfl ?_
                            refine Go.lcmp_ne C X at_523 (n1 := 530) (n2 := 526) (by decide) (by decide) rfl (fun hc523 => ?_) (fun hc523 => ?_)
                            · exact absurd e0 hc523
                            · refine Go.iconst C X at_526 (n := 527) rfl (v := (1 : Int32)) rfl ?_
                              refine Go.goto C X at_527 (n := 531) (by decide) (by decide) ?_
                              refine Go.istore C X at_531 (n := 533) rfl (l' := #[.val (.int p0), .val (.int p1), .val (.int p2), .val (.int p3), .val (.int p4), .val (.int p5), .val (.int (1 : Int32)), .val (.int s0), .val (.int s1), .val (.int s2), .val (.int a0), .val (.int a1), .val (.int a2), .val (.long (1 : Int64)), .second, .val (.long (1 : Int64)), .second, .val (.long (s0.toInt64)), .second, .val (.long (0 : Int64)), .second, .val (.long (0 : Int64)), .second, .val (.long (a0.toInt64)), .second, .val (.long (((1 : Int64) * (1 : Int64)) * (s0.toInt64))), .second, .val (.long (((((0 : Int64) * (1 : Int64)) + (0 : Int64)) * (s0.toInt64)) + (a0.toInt64))), .second, .val (.long ((((((0 : Int64) * (1 : Int64)) + (0 : Int64)) * (s0.toInt64)) + (a0.toInt64)) + (1 : Int64))), .second, .val (.int (0 : Int32)), .val (.long (0 : Int64)), .second, .val (.long ((0 : Int64) - ((0 : Int64) / (s0.toInt64)) * (s0.toInt64))), .second, .val (.long (((0 : Int64) / (s0.toInt64)) - (((0 : Int64) / (s0.toInt64)) / (1 : Int64)) * (1 : Int64))), .second, .val (.long ((0 : Int64) / ((s0.toInt64) * (1 : Int64)))), .second, .val (.ref at_), .val (.ref sz_), .val (.int (0 : Int32)), .val (.int (1 : Int32))]) rfl ?_
                              refine Go.iload C X at_533 (n := 535) rfl rfl ?_
                              refine Go.if0_eq C X at_535 (n1 := 551) (n2 := 538) (by decide) (by decide) rfl (fun hc535 => ?_) (fun hc535 => ?_)
                              · exact absurd hc535 (by decide)
                              · refine Go.aload C X at_538 (n := 540) rfl rfl rfl ?_
                                refine Go.iconst C X at_540 (n := 541) rfl (v := (0 : Int32)) rfl ?_
                                refine Go.ialoadL C X eT V_sz_ (i := 0) rfl (v := .int s0) rfl at_541 (n := 542) rfl ?_
                                refine Go.iload C X at_542 (n := 544) rfl rfl ?_
                                refine Go.icmp_ne C X at_544 (n1 := 551) (n2 := 547) (by decide) (by decide) rfl (fun hc544 => ?_) (fun hc544 => ?_)
                                · exact absurd rfl hc544
                                · refine Go.iconst C X at_547 (n := 548) rfl (v := (1 : Int32)) rfl ?_
                                  refine Go.goto C X at_548 (n := 552) (by decide) (by decide) ?_
                                  refine Go.istore C X at_552 (n := 554) rfl (l' := #[.val (.int p0), .val (.int p1), .val (.int p2), .val (.int p3), .val (.int p4), .val (.int p5), .val (.int (1 : Int32)), .val (.int s0), .val (.int s1), .val (.int s2), .val (.int a0), .val (.int a1), .val (.int a2), .val (.long (1 : Int64)), .second, .val (.long (1 : Int64)), .second, .val (.long (s0.toInt64)), .second, .val (.long (0 : Int64)), .second, .val (.long (0 : Int64)), .second, .val (.long (a0.toInt64)), .second, .val (.long (((1 : Int64) * (1 : Int64)) * (s0.toInt64))), .second, .val (.long (((((0 : Int64) * (1 : Int64)) + (0 : Int64)) * (s0.toInt64)) + (a0.toInt64))), .second, .val (.long ((((((0 : Int64) * (1 : Int64)) + (0 : Int64)) * (s0.toInt64)) + (a0.toInt64)) + (1 : Int64))), .second, .val (.int (0 : Int32)), .val (.long (0 : Int64)), .second, .val (.long ((0 : Int64) - ((0 : Int64) / (s0.toInt64)) * (s0.toInt64))), .second, .val (.long (((0 : Int64) / (s0.toInt64)) - (((0 : Int64) / (s0.toInt64)) / (1 : Int64)) * (1 : Int64))), .second, .val (.long ((0 : Int64) / ((s0.toInt64) * (1 : Int64)))), .second, .val (.ref at_), .val (.ref sz_), .val (.int (0 : Int32)), .val (.int (1 : Int32))]) rfl ?_
                                  refine Go.iload C X at_554 (n := 556) rfl rfl ?_
                                  refine Go.retN C X eT (Or.inl rfl) (w := (1 : Int32)) (by decide) at_556 (by decide) (by decide) ?_
                                  exact ⟨rfl, N⟩
                      · exact absurd hc434 (by decide)
                    · exact absurd hc341 (by decide)
                · exact absurd hc300 (by decide)
              · exact absurd hc282 (by decide)
          · exact absurd hc212 (by decide)
        · refine Go.iconst C X at_203 (n := 204) rfl (v := (1 : Int32)) rfl ?_
          refine Go.goto C X at_204 (n := 208) (by decide) (by decide) ?_
          refine Go.istore C X at_208 (n := 210) rfl (l' := #[.val (.int p0), .val (.int p1), .val (.int p2), .val (.int p3), .val (.int p4), .val (.int p5), .val (.int (1 : Int32)), .val (.int s0), .val (.int s1), .val (.int s2), .val (.int a0), .val (.int a1), .val (.int a2), .val (.long (1 : Int64)), .second, .val (.long (1 : Int64)), .second, .val (.long (s0.toInt64)), .second, .val (.long (0 : Int64)), .second, .val (.long (0 : Int64)), .second, .val (.long (a0.toInt64)), .second, .val (.long (((1 : Int64) * (1 : Int64)) * (s0.toInt64))), .second, .val (.long (((((0 : Int64) * (1 : Int64)) + (0 : Int64)) * (s0.toInt64)) + (a0.toInt64))), .second, .val (.long ((((((0 : Int64) * (1 : Int64)) + (0 : Int64)) * (s0.toInt64)) + (a0.toInt64)) + (1 : Int64))), .second, .val (.int (1 : Int32)), .unset, .unset, .unset, .unset, .unset, .unset, .unset, .unset, .unset, .unset, .unset, .unset]) rfl ?_
          refine Go.iload C X at_210 (n := 212) rfl rfl ?_
          refine Go.if0_eq C X at_212 (n1 := 220) (n2 := 215) (by decide) (by decide) rfl (fun hc212 => ?_) (fun hc212 => ?_)
          · exact absurd hc212 (by decide)
          · refine Go.lload C X at_215 (n := 217) rfl rfl ?_
            refine Go.goto C X at_217 (n := 221) (by decide) (by decide) ?_
            refine Go.lstore C X at_221 (n := 223) rfl (l' := #[.val (.int p0), .val (.int p1), .val (.int p2), .val (.int p3), .val (.int p4), .val (.int p5), .val (.int (1 : Int32)), .val (.int s0), .val (.int s1), .val (.int s2), .val (.int a0), .val (.int a1), .val (.int a2), .val (.long (1 : Int64)), .second, .val (.long (1 : Int64)), .second, .val (.long (s0.toInt64)), .second, .val (.long (0 : Int64)), .second, .val (.long (0 : Int64)), .second, .val (.long (a0.toInt64)), .second, .val (.long (((1 : Int64) * (1 : Int64)) * (s0.toInt64))), .second, .val (.long (((((0 : Int64) * (1 : Int64)) + (0 : Int64)) * (s0.toInt64)) + (a0.toInt64))), .second, .val (.long ((((((0 : Int64) * (1 : Int64)) + (0 : Int64)) * (s0.toInt64)) + (a0.toInt64)) + (1 : Int64))), .second, .val (.int (1 : Int32)), .val (.long ((((((0 : Int64) * (1 : Int64)) + (0 : Int64)) * (s0.toInt64)) + (a0.toInt64)) + (1 : Int64))), .second, .unset, .unset, .unset, .unset, .unset, .unset, .unset, .unset, .unset, .unset]) rfl ?_
            refine Go.lload C X at_223 (n := 225) rfl rfl ?_
            refine Go.lload C X at_225 (n := 227) rfl rfl ?_
            refine Go.lrem C X at_227 (n := 228) rfl zs0 ?_
            refine Go.lstore C X at_228 (n := 230) rfl (l' := #[.val (.int p0), .val (.int p1), .val (.int p2), .val (.int p3), .val (.int p4), .val (.int p5), .val (.int (1 : Int32)), .val (.int s0), .val (.int s1), .val (.int s2), .val (.int a0), .val (.int a1), .val (.int a2), .val (.long (1 : Int64)), .second, .val (.long (1 : Int64)), .second, .val (.long (s0.toInt64)), .second, .val (.long (0 : Int64)), .second, .val (.long (0 : Int64)), .second, .val (.long (a0.toInt64)), .second, .val (.long (((1 : Int64) * (1 : Int64)) * (s0.toInt64))), .second, .val (.long (((((0 : Int64) * (1 : Int64)) + (0 : Int64)) * (s0.toInt64)) + (a0.toInt64))), .second, .val (.long ((((((0 : Int64) * (1 : Int64)) + (0 : Int64)) * (s0.toInt64)) + (a0.toInt64)) + (1 : Int64))), .second, .val (.int (1 : Int32)), .val (.long ((((((0 : Int64) * (1 : Int64)) + (0 : Int64)) * (s0.toInt64)) + (a0.toInt64)) + (1 : Int64))), .second, .val (.long (((((((0 : Int64) * (1 : Int64)) + (0 : Int64)) * (s0.toInt64)) + (a0.toInt64)) + (1 : Int64)) - (((((((0 : Int64) * (1 : Int64)) + (0 : Int64)) * (s0.toInt64)) + (a0.toInt64)) + (1 : Int64)) / (s0.toInt64)) * (s0.toInt64))), .second, .unset, .unset, .unset, .unset, .unset, .unset, .unset, .unset]) rfl ?_
            refine Go.lload C X at_230 (n := 232) rfl rfl ?_
            refine Go.lload C X at_232 (n := 234) rfl rfl ?_
            refine Go.ldiv C X at_234 (n := 235) rfl zs0 ?_
            refine Go.lload C X at_235 (n := 237) rfl rfl ?_
            refine Go.lrem C X at_237 (n := 238) rfl (by decide) ?_
            refine Go.lstore C X at_238 (n := 240) rfl (l' := #[.val (.int p0), .val (.int p1), .val (.int p2), .val (.int p3), .val (.int p4), .val (.int p5), .val (.int (1 : Int32)), .val (.int s0), .val (.int s1), .val (.int s2), .val (.int a0), .val (.int a1), .val (.int a2), .val (.long (1 : Int64)), .second, .val (.long (1 : Int64)), .second, .val (.long (s0.toInt64)), .second, .val (.long (0 : Int64)), .second, .val (.long (0 : Int64)), .second, .val (.long (a0.toInt64)), .second, .val (.long (((1 : Int64) * (1 : Int64)) * (s0.toInt64))), .second, .val (.long (((((0 : Int64) * (1 : Int64)) + (0 : Int64)) * (s0.toInt64)) + (a0.toInt64))), .second, .val (.long ((((((0 : Int64) * (1 : Int64)) + (0 : Int64)) * (s0.toInt64)) + (a0.toInt64)) + (1 : Int64))), .second, .val (.int (1 : Int32)), .val (.long ((((((0 : Int64) * (1 : Int64)) + (0 : Int64)) * (s0.toInt64)) + (a0.toInt64)) + (1 : Int64))), .second, .val (.long (((((((0 : Int64) * (1 : Int64)) + (0 : Int64)) * (s0.toInt64)) + (a0.toInt64)) + (1 : Int64)) - (((((((0 : Int64) * (1 : Int64)) + (0 : Int64)) * (s0.toInt64)) + (a0.toInt64)) + (1 : Int64)) / (s0.toInt64)) * (s0.toInt64))), .second, .val (.long ((((((((0 : Int64) * (1 : Int64)) + (0 : Int64)) * (s0.toInt64)) + (a0.toInt64)) + (1 : Int64)) / (s0.toInt64)) - ((((((((0 : Int64) * (1 : Int64)) + (0 : Int64)) * (s0.toInt64)) + (a0.toInt64)) + (1 : Int64)) / (s0.toInt64)) / (1 : Int64)) * (1 : Int64))), .second, .unset, .unset, .unset, .unset, .unset, .unset]) rfl ?_
            refine Go.lload C X at_240 (n := 242) rfl rfl ?_
            refine Go.lload C X at_242 (n := 244) rfl rfl ?_
            refine Go.lload C X at_244 (n := 246) rfl rfl ?_
            refine Go.lmul C X at_246 (n := 247) rfl ?_
            refine Go.ldiv C X at_247 (n := 248) rfl (own_mulnz1 ks0) ?_
            refine Go.lstore C X at_248 (n := 250) rfl (l' := #[.val (.int p0), .val (.int p1), .val (.int p2), .val (.int p3), .val (.int p4), .val (.int p5), .val (.int (1 : Int32)), .val (.int s0), .val (.int s1), .val (.int s2), .val (.int a0), .val (.int a1), .val (.int a2), .val (.long (1 : Int64)), .second, .val (.long (1 : Int64)), .second, .val (.long (s0.toInt64)), .second, .val (.long (0 : Int64)), .second, .val (.long (0 : Int64)), .second, .val (.long (a0.toInt64)), .second, .val (.long (((1 : Int64) * (1 : Int64)) * (s0.toInt64))), .second, .val (.long (((((0 : Int64) * (1 : Int64)) + (0 : Int64)) * (s0.toInt64)) + (a0.toInt64))), .second, .val (.long ((((((0 : Int64) * (1 : Int64)) + (0 : Int64)) * (s0.toInt64)) + (a0.toInt64)) + (1 : Int64))), .second, .val (.int (1 : Int32)), .val (.long ((((((0 : Int64) * (1 : Int64)) + (0 : Int64)) * (s0.toInt64)) + (a0.toInt64)) + (1 : Int64))), .second, .val (.long (((((((0 : Int64) * (1 : Int64)) + (0 : Int64)) * (s0.toInt64)) + (a0.toInt64)) + (1 : Int64)) - (((((((0 : Int64) * (1 : Int64)) + (0 : Int64)) * (s0.toInt64)) + (a0.toInt64)) + (1 : Int64)) / (s0.toInt64)) * (s0.toInt64))), .second, .val (.long ((((((((0 : Int64) * (1 : Int64)) + (0 : Int64)) * (s0.toInt64)) + (a0.toInt64)) + (1 : Int64)) / (s0.toInt64)) - ((((((((0 : Int64) * (1 : Int64)) + (0 : Int64)) * (s0.toInt64)) + (a0.toInt64)) + (1 : Int64)) / (s0.toInt64)) / (1 : Int64)) * (1 : Int64))), .second, .val (.long (((((((0 : Int64) * (1 : Int64)) + (0 : Int64)) * (s0.toInt64)) + (a0.toInt64)) + (1 : Int64)) / ((s0.toInt64) * (1 : Int64)))), .second, .unset, .unset, .unset, .unset]) rfl ?_
            refine Go.iload C X at_250 (n := 252) rfl rfl ?_
            refine Go.newL C X eT (wd hw 2 rfl) (i := 1) rfl (cap := 1) (by decide) at_252 (n := 254) rfl (by decide) (by decide) (by decide) ?_
            clear X eT
            intro T h at_ z_at_ X eT E V_at_
            have g_at_ : n0 ≤ at_ := by rw [z_at_]; exact O.le
            replace O := O.ext E
            replace V_at_ : Arl Z h at_ .int [.int (0 : Int32)] := V_at_
            refine Go.astore C X at_254 (n := 256) rfl rfl (l' := #[.val (.int p0), .val (.int p1), .val (.int p2), .val (.int p3), .val (.int p4), .val (.int p5), .val (.int (1 : Int32)), .val (.int s0), .val (.int s1), .val (.int s2), .val (.int a0), .val (.int a1), .val (.int a2), .val (.long (1 : Int64)), .second, .val (.long (1 : Int64)), .second, .val (.long (s0.toInt64)), .second, .val (.long (0 : Int64)), .second, .val (.long (0 : Int64)), .second, .val (.long (a0.toInt64)), .second, .val (.long (((1 : Int64) * (1 : Int64)) * (s0.toInt64))), .second, .val (.long (((((0 : Int64) * (1 : Int64)) + (0 : Int64)) * (s0.toInt64)) + (a0.toInt64))), .second, .val (.long ((((((0 : Int64) * (1 : Int64)) + (0 : Int64)) * (s0.toInt64)) + (a0.toInt64)) + (1 : Int64))), .second, .val (.int (1 : Int32)), .val (.long ((((((0 : Int64) * (1 : Int64)) + (0 : Int64)) * (s0.toInt64)) + (a0.toInt64)) + (1 : Int64))), .second, .val (.long (((((((0 : Int64) * (1 : Int64)) + (0 : Int64)) * (s0.toInt64)) + (a0.toInt64)) + (1 : Int64)) - (((((((0 : Int64) * (1 : Int64)) + (0 : Int64)) * (s0.toInt64)) + (a0.toInt64)) + (1 : Int64)) / (s0.toInt64)) * (s0.toInt64))), .second, .val (.long ((((((((0 : Int64) * (1 : Int64)) + (0 : Int64)) * (s0.toInt64)) + (a0.toInt64)) + (1 : Int64)) / (s0.toInt64)) - ((((((((0 : Int64) * (1 : Int64)) + (0 : Int64)) * (s0.toInt64)) + (a0.toInt64)) + (1 : Int64)) / (s0.toInt64)) / (1 : Int64)) * (1 : Int64))), .second, .val (.long (((((((0 : Int64) * (1 : Int64)) + (0 : Int64)) * (s0.toInt64)) + (a0.toInt64)) + (1 : Int64)) / ((s0.toInt64) * (1 : Int64)))), .second, .val (.ref at_), .unset, .unset, .unset]) rfl ?_
            refine Go.iload C X at_256 (n := 258) rfl rfl ?_
            refine Go.newL C X eT (wd hw 2 rfl) (i := 1) rfl (cap := 1) (by decide) at_258 (n := 260) rfl (by decide) (by decide) (by decide) ?_
            clear X eT
            intro T h sz_ z_sz_ X eT E V_sz_
            have ne_at__sz_ : at_ ≠ sz_ := Nat.ne_of_lt (Nat.lt_of_lt_of_le V_at_.lt (Nat.le_of_eq z_sz_.symm))
            have g_sz_ : n0 ≤ sz_ := by rw [z_sz_]; exact O.le
            replace O := O.ext E
            replace V_at_ := V_at_.ext E
            replace V_sz_ : Arl Z h sz_ .int [.int (0 : Int32)] := V_sz_
            refine Go.astore C X at_260 (n := 262) rfl rfl (l' := #[.val (.int p0), .val (.int p1), .val (.int p2), .val (.int p3), .val (.int p4), .val (.int p5), .val (.int (1 : Int32)), .val (.int s0), .val (.int s1), .val (.int s2), .val (.int a0), .val (.int a1), .val (.int a2), .val (.long (1 : Int64)), .second, .val (.long (1 : Int64)), .second, .val (.long (s0.toInt64)), .second, .val (.long (0 : Int64)), .second, .val (.long (0 : Int64)), .second, .val (.long (a0.toInt64)), .second, .val (.long (((1 : Int64) * (1 : Int64)) * (s0.toInt64))), .second, .val (.long (((((0 : Int64) * (1 : Int64)) + (0 : Int64)) * (s0.toInt64)) + (a0.toInt64))), .second, .val (.long ((((((0 : Int64) * (1 : Int64)) + (0 : Int64)) * (s0.toInt64)) + (a0.toInt64)) + (1 : Int64))), .second, .val (.int (1 : Int32)), .val (.long ((((((0 : Int64) * (1 : Int64)) + (0 : Int64)) * (s0.toInt64)) + (a0.toInt64)) + (1 : Int64))), .second, .val (.long (((((((0 : Int64) * (1 : Int64)) + (0 : Int64)) * (s0.toInt64)) + (a0.toInt64)) + (1 : Int64)) - (((((((0 : Int64) * (1 : Int64)) + (0 : Int64)) * (s0.toInt64)) + (a0.toInt64)) + (1 : Int64)) / (s0.toInt64)) * (s0.toInt64))), .second, .val (.long ((((((((0 : Int64) * (1 : Int64)) + (0 : Int64)) * (s0.toInt64)) + (a0.toInt64)) + (1 : Int64)) / (s0.toInt64)) - ((((((((0 : Int64) * (1 : Int64)) + (0 : Int64)) * (s0.toInt64)) + (a0.toInt64)) + (1 : Int64)) / (s0.toInt64)) / (1 : Int64)) * (1 : Int64))), .second, .val (.long (((((((0 : Int64) * (1 : Int64)) + (0 : Int64)) * (s0.toInt64)) + (a0.toInt64)) + (1 : Int64)) / ((s0.toInt64) * (1 : Int64)))), .second, .val (.ref at_), .val (.ref sz_), .unset, .unset]) rfl ?_
            refine Go.iload C X at_262 (n := 264) rfl rfl ?_
            refine Go.if0_le C X at_264 (n1 := 279) (n2 := 267) (by decide) (by decide) rfl (fun hc264 => ?_) (fun hc264 => ?_)
            · exact absurd hc264 (by decide)
            · refine Go.aload C X at_267 (n := 269) rfl rfl rfl ?_
              refine Go.iconst C X at_269 (n := 270) rfl (v := (0 : Int32)) rfl ?_
              refine Go.iload C X at_270 (n := 272) rfl rfl ?_
              refine Go.iastoreL C X eT V_at_ (i := 0) rfl (by simp) at_272 (n := 273) rfl ?_
              clear X eT
              intro T h X eT W V_new
              replace O := O.wr W g_at_
              replace V_sz_ := V_sz_.other W (Ne.symm ne_at__sz_)
              clear V_at_
              have V_at_ : Arl Z h at_ .int [.int a0] := V_new
              clear V_new
              replace N := Fr.snoc X N g_at_
              refine Go.aload C X at_273 (n := 275) rfl rfl rfl ?_
              refine Go.iconst C X at_275 (n := 276) rfl (v := (0 : Int32)) rfl ?_
              refine Go.iload C X at_276 (n := 278) rfl rfl ?_
              refine Go.iastoreL C X eT V_sz_ (i := 0) rfl (by simp) at_278 (n := 279) rfl ?_
              clear X eT
              intro T h X eT W V_new
              replace O := O.wr W g_sz_
              replace V_at_ := V_at_.other W ne_at__sz_
              clear V_sz_
              have V_sz_ : Arl Z h sz_ .int [.int s0] := V_new
              clear V_new
              replace N := Fr.snoc X N g_sz_
              refine Go.iload C X at_279 (n := 281) rfl rfl ?_
              refine Go.iconst C X at_281 (n := 282) rfl (v := (1 : Int32)) rfl ?_
              refine Go.icmp_le C X at_282 (n1 := 297) (n2 := 285) (by decide) (by decide) rfl (fun hc282 => ?_) (fun hc282 => ?_)
              · refine Go.iload C X at_297 (n := 299) rfl rfl ?_
                refine Go.iconst C X at_299 (n := 300) rfl (v := (2 : Int32)) rfl ?_
                refine Go.icmp_le C X at_300 (n1 := 315) (n2 := 303) (by decide) (by decide) rfl (fun hc300 => ?_) (fun hc300 => ?_)
                · refine Go.aload C X at_315 (n := 317) rfl rfl rfl ?_
                  refine Go.aload C X at_317 (n := 319) rfl rfl rfl ?_
                  obtain ⟨r, xs', hq⟩ : ∃ r xs', advK 1 [a0] [s0] = (r, xs') := ⟨_, _, rfl⟩
                  refine Go.stat C X eT (argsL := [(.ref at_), (.ref sz_)]) (rest := []) (rm1 l Z a0' hw n0 _ at_ sz_ [a0] [s0] (1 : Int32) r xs' g_at_ ne_at__sz_ rfl rfl hq V_at_ V_sz_) (wd hw 3 rfl) (wd hw 4 rfl) (wd hw 5 rfl) (wd hw 6 rfl) (by decide) (lenOf pd_0 rfl) rfl at_319 (n := 322) rfl rfl (by decide) (W := 0) rfl (by decide) (by decide) (by decide) ?_
                  clear X eT
                  intro T h v L X eT hQ
                  obtain ⟨rfl, Nq, KK, V_at_⟩ := hQ
                  replace N := N.app Nq
                  replace O := O.keep KK (allS g_at_ all0)
                  replace V_sz_ := V_sz_.keep KK (ninS (Ne.symm ne_at__sz_) nin0)
                  show Go p e below _ (T.setTop (mkF m 322 #[.val (.int p0), .val (.int p1), .val (.int p2), .val (.int p3), .val (.int p4), .val (.int p5), .val (.int (1 : Int32)), .val (.int s0), .val (.int s1), .val (.int s2), .val (.int a0), .val (.int a1), .val (.int a2), .val (.long (1 : Int64)), .second, .val (.long (1 : Int64)), .second, .val (.long (s0.toInt64)), .second, .val (.long (0 : Int64)), .second, .val (.long (0 : Int64)), .second, .val (.long (a0.toInt64)), .second, .val (.long (((1 : Int64) * (1 : Int64)) * (s0.toInt64))), .second, .val (.long (((((0 : Int64) * (1 : Int64)) + (0 : Int64)) * (s0.toInt64)) + (a0.toInt64))), .second, .val (.long ((((((0 : Int64) * (1 : Int64)) + (0 : Int64)) * (s0.toInt64)) + (a0.toInt64)) + (1 : Int64))), .second, .val (.int (1 : Int32)), .val (.long ((((((0 : Int64) * (1 : Int64)) + (0 : Int64)) * (s0.toInt64)) + (a0.toInt64)) + (1 : Int64))), .second, .val (.long (((((((0 : Int64) * (1 : Int64)) + (0 : Int64)) * (s0.toInt64)) + (a0.toInt64)) + (1 : Int64)) - (((((((0 : Int64) * (1 : Int64)) + (0 : Int64)) * (s0.toInt64)) + (a0.toInt64)) + (1 : Int64)) / (s0.toInt64)) * (s0.toInt64))), .second, .val (.long ((((((((0 : Int64) * (1 : Int64)) + (0 : Int64)) * (s0.toInt64)) + (a0.toInt64)) + (1 : Int64)) / (s0.toInt64)) - ((((((((0 : Int64) * (1 : Int64)) + (0 : Int64)) * (s0.toInt64)) + (a0.toInt64)) + (1 : Int64)) / (s0.toInt64)) / (1 : Int64)) * (1 : Int64))), .second, .val (.long (((((((0 : Int64) * (1 : Int64)) + (0 : Int64)) * (s0.toInt64)) + (a0.toInt64)) + (1 : Int64)) / ((s0.toInt64) * (1 : Int64)))), .second, .val (.ref at_), .val (.ref sz_), .unset, .unset] [(.int r)]))
                  obtain ⟨hr, hl, he⟩ := plain1m ks0 ka0 hq hc200
                  subst hr
                  have e0 := he
                  obtain ⟨x0, rfl⟩ := own_list1 hl
                  simp only [List.getD_cons_zero, List.getD_cons_succ] at e0
                  show Go p e below _ (T.setTop (mkF m 322 #[.val (.int p0), .val (.int p1), .val (.int p2), .val (.int p3), .val (.int p4), .val (.int p5), .val (.int (1 : Int32)), .val (.int s0), .val (.int s1), .val (.int s2), .val (.int a0), .val (.int a1), .val (.int a2), .val (.long (1 : Int64)), .second, .val (.long (1 : Int64)), .second, .val (.long (s0.toInt64)), .second, .val (.long (0 : Int64)), .second, .val (.long (0 : Int64)), .second, .val (.long (a0.toInt64)), .second, .val (.long (((1 : Int64) * (1 : Int64)) * (s0.toInt64))), .second, .val (.long (((((0 : Int64) * (1 : Int64)) + (0 : Int64)) * (s0.toInt64)) + (a0.toInt64))), .second, .val (.long ((((((0 : Int64) * (1 : Int64)) + (0 : Int64)) * (s0.toInt64)) + (a0.toInt64)) + (1 : Int64))), .second, .val (.int (1 : Int32)), .val (.long ((((((0 : Int64) * (1 : Int64)) + (0 : Int64)) * (s0.toInt64)) + (a0.toInt64)) + (1 : Int64))), .second, .val (.long (((((((0 : Int64) * (1 : Int64)) + (0 : Int64)) * (s0.toInt64)) + (a0.toInt64)) + (1 : Int64)) - (((((((0 : Int64) * (1 : Int64)) + (0 : Int64)) * (s0.toInt64)) + (a0.toInt64)) + (1 : Int64)) / (s0.toInt64)) * (s0.toInt64))), .second, .val (.long ((((((((0 : Int64) * (1 : Int64)) + (0 : Int64)) * (s0.toInt64)) + (a0.toInt64)) + (1 : Int64)) / (s0.toInt64)) - ((((((((0 : Int64) * (1 : Int64)) + (0 : Int64)) * (s0.toInt64)) + (a0.toInt64)) + (1 : Int64)) / (s0.toInt64)) / (1 : Int64)) * (1 : Int64))), .second, .val (.long (((((((0 : Int64) * (1 : Int64)) + (0 : Int64)) * (s0.toInt64)) + (a0.toInt64)) + (1 : Int64)) / ((s0.toInt64) * (1 : Int64)))), .second, .val (.ref at_), .val (.ref sz_), .unset, .unset] [(.int (1 : Int32))]))
                  refine Go.istore C X at_322 (n := 324) rfl (l' := #[.val (.int p0), .val (.int p1), .val (.int p2), .val (.int p3), .val (.int p4), .val (.int p5), .val (.int (1 : Int32)), .val (.int s0), .val (.int s1), .val (.int s2), .val (.int a0), .val (.int a1), .val (.int a2), .val (.long (1 : Int64)), .second, .val (.long (1 : Int64)), .second, .val (.long (s0.toInt64)), .second, .val (.long (0 : Int64)), .second, .val (.long (0 : Int64)), .second, .val (.long (a0.toInt64)), .second, .val (.long (((1 : Int64) * (1 : Int64)) * (s0.toInt64))), .second, .val (.long (((((0 : Int64) * (1 : Int64)) + (0 : Int64)) * (s0.toInt64)) + (a0.toInt64))), .second, .val (.long ((((((0 : Int64) * (1 : Int64)) + (0 : Int64)) * (s0.toInt64)) + (a0.toInt64)) + (1 : Int64))), .second, .val (.int (1 : Int32)), .val (.long ((((((0 : Int64) * (1 : Int64)) + (0 : Int64)) * (s0.toInt64)) + (a0.toInt64)) + (1 : Int64))), .second, .val (.long (((((((0 : Int64) * (1 : Int64)) + (0 : Int64)) * (s0.toInt64)) + (a0.toInt64)) + (1 : Int64)) - (((((((0 : Int64) * (1 : Int64)) + (0 : Int64)) * (s0.toInt64)) + (a0.toInt64)) + (1 : Int64)) / (s0.toInt64)) * (s0.toInt64))), .second, .val (.long ((((((((0 : Int64) * (1 : Int64)) + (0 : Int64)) * (s0.toInt64)) + (a0.toInt64)) + (1 : Int64)) / (s0.toInt64)) - ((((((((0 : Int64) * (1 : Int64)) + (0 : Int64)) * (s0.toInt64)) + (a0.toInt64)) + (1 : Int64)) / (s0.toInt64)) / (1 : Int64)) * (1 : Int64))), .second, .val (.long (((((((0 : Int64) * (1 : Int64)) + (0 : Int64)) * (s0.toInt64)) + (a0.toInt64)) + (1 : Int64)) / ((s0.toInt64) * (1 : Int64)))), .second, .val (.ref at_), .val (.ref sz_), .val (.int (1 : Int32)), .unset]) rfl ?_
                  refine Go.iload C X at_324 (n := 326) rfl rfl ?_
                  refine Go.iload C X at_326 (n := 328) rfl rfl ?_
                  refine Go.icmp_ne C X at_328 (n1 := 335) (n2 := 331) (by decide) (by decide) rfl (fun hc328 => ?_) (fun hc328 => ?_)
                  · exact absurd hc328 (by decide)
                  · refine Go.iconst C X at_331 (n := 332) rfl (v := (1 : Int32)) rfl ?_
                    refine Go.goto C X at_332 (n := 336) (by decide) (by decide) ?_
                    refine Go.istore C X at_336 (n := 338) rfl (l' := #[.val (.int p0), .val (.int p1), .val (.int p2), .val (.int p3), .val (.int p4), .val (.int p5), .val (.int (1 : Int32)), .val (.int s0), .val (.int s1), .val (.int s2), .val (.int a0), .val (.int a1), .val (.int a2), .val (.long (1 : Int64)), .second, .val (.long (1 : Int64)), .second, .val (.long (s0.toInt64)), .second, .val (.long (0 : Int64)), .second, .val (.long (0 : Int64)), .second, .val (.long (a0.toInt64)), .second, .val (.long (((1 : Int64) * (1 : Int64)) * (s0.toInt64))), .second, .val (.long (((((0 : Int64) * (1 : Int64)) + (0 : Int64)) * (s0.toInt64)) + (a0.toInt64))), .second, .val (.long ((((((0 : Int64) * (1 : Int64)) + (0 : Int64)) * (s0.toInt64)) + (a0.toInt64)) + (1 : Int64))), .second, .val (.int (1 : Int32)), .val (.long ((((((0 : Int64) * (1 : Int64)) + (0 : Int64)) * (s0.toInt64)) + (a0.toInt64)) + (1 : Int64))), .second, .val (.long (((((((0 : Int64) * (1 : Int64)) + (0 : Int64)) * (s0.toInt64)) + (a0.toInt64)) + (1 : Int64)) - (((((((0 : Int64) * (1 : Int64)) + (0 : Int64)) * (s0.toInt64)) + (a0.toInt64)) + (1 : Int64)) / (s0.toInt64)) * (s0.toInt64))), .second, .val (.long ((((((((0 : Int64) * (1 : Int64)) + (0 : Int64)) * (s0.toInt64)) + (a0.toInt64)) + (1 : Int64)) / (s0.toInt64)) - ((((((((0 : Int64) * (1 : Int64)) + (0 : Int64)) * (s0.toInt64)) + (a0.toInt64)) + (1 : Int64)) / (s0.toInt64)) / (1 : Int64)) * (1 : Int64))), .second, .val (.long (((((((0 : Int64) * (1 : Int64)) + (0 : Int64)) * (s0.toInt64)) + (a0.toInt64)) + (1 : Int64)) / ((s0.toInt64) * (1 : Int64)))), .second, .val (.ref at_), .val (.ref sz_), .val (.int (1 : Int32)), .val (.int (1 : Int32))]) rfl ?_
                    refine Go.iload C X at_338 (n := 340) rfl rfl ?_
                    refine Go.iconst C X at_340 (n := 341) rfl (v := (3 : Int32)) rfl ?_
                    refine Go.icmp_ne C X at_341 (n1 := 431) (n2 := 344) (by decide) (by decide) rfl (fun hc341 => ?_) (fun hc341 => ?_)
                    · refine Go.iload C X at_431 (n := 433) rfl rfl ?_
                      refine Go.iconst C X at_433 (n := 434) rfl (v := (2 : Int32)) rfl ?_
                      refine Go.icmp_ne C X at_434 (n1 := 504) (n2 := 437) (by decide) (by decide) rfl (fun hc434 => ?_) (fun hc434 => ?_)
                      · refine Go.iload C X at_504 (n := 506) rfl rfl ?_
                        refine Go.iconst C X at_506 (n := 507) rfl (v := (1 : Int32)) rfl ?_
                        refine Go.icmp_ne C X at_507 (n1 := 554) (n2 := 510) (by decide) (by decide) rfl (fun hc507 => ?_) (fun hc507 => ?_)
                        · exact absurd hc507 (by decide)
                        · refine Go.iload C X at_510 (n := 512) rfl rfl ?_
                          refine Go.if0_eq C X at_512 (n1 := 530) (n2 := 515) (by decide) (by decide) rfl (fun hc512 => ?_) (fun hc512 => ?_)
                          · exact absurd hc512 (by decide)
                          · refine Go.aload C X at_515 (n := 517) rfl rfl rfl ?_
                            refine Go.iconst C X at_517 (n := 518) rfl (v := (0 : Int32)) rfl ?_
                            refine Go.ialoadL C X eT V_at_ (i := 0) rfl (v := .int x0) rfl at_518 (n := 519) rfl ?_
                            refine Go.i2l C X at_519 (n := 520) rfl ?_
                            refine Go.lload C X at_520 (n := 522) rfl rfl ?_
                            refine Go.lcmp C X at_522 (n := 523) rfl ?_
                            refine Go.lcmp_ne C X at_523 (n1 := 530) (n2 := 526) (by decide) (by decide) rfl (fun hc523 => ?_) (fun hc523 => ?_)
                            · exact absurd e0 hc523
                            · refine Go.iconst C X at_526 (n := 527) rfl (v := (1 : Int32)) rfl ?_
                              refine Go.goto C X at_527 (n := 531) (by decide) (by decide) ?_
                              refine Go.istore C X at_531 (n := 533) rfl (l' := #[.val (.int p0), .val (.int p1), .val (.int p2), .val (.int p3), .val (.int p4), .val (.int p5), .val (.int (1 : Int32)), .val (.int s0), .val (.int s1), .val (.int s2), .val (.int a0), .val (.int a1), .val (.int a2), .val (.long (1 : Int64)), .second, .val (.long (1 : Int64)), .second, .val (.long (s0.toInt64)), .second, .val (.long (0 : Int64)), .second, .val (.long (0 : Int64)), .second, .val (.long (a0.toInt64)), .second, .val (.long (((1 : Int64) * (1 : Int64)) * (s0.toInt64))), .second, .val (.long (((((0 : Int64) * (1 : Int64)) + (0 : Int64)) * (s0.toInt64)) + (a0.toInt64))), .second, .val (.long ((((((0 : Int64) * (1 : Int64)) + (0 : Int64)) * (s0.toInt64)) + (a0.toInt64)) + (1 : Int64))), .second, .val (.int (1 : Int32)), .val (.long ((((((0 : Int64) * (1 : Int64)) + (0 : Int64)) * (s0.toInt64)) + (a0.toInt64)) + (1 : Int64))), .second, .val (.long (((((((0 : Int64) * (1 : Int64)) + (0 : Int64)) * (s0.toInt64)) + (a0.toInt64)) + (1 : Int64)) - (((((((0 : Int64) * (1 : Int64)) + (0 : Int64)) * (s0.toInt64)) + (a0.toInt64)) + (1 : Int64)) / (s0.toInt64)) * (s0.toInt64))), .second, .val (.long ((((((((0 : Int64) * (1 : Int64)) + (0 : Int64)) * (s0.toInt64)) + (a0.toInt64)) + (1 : Int64)) / (s0.toInt64)) - ((((((((0 : Int64) * (1 : Int64)) + (0 : Int64)) * (s0.toInt64)) + (a0.toInt64)) + (1 : Int64)) / (s0.toInt64)) / (1 : Int64)) * (1 : Int64))), .second, .val (.long (((((((0 : Int64) * (1 : Int64)) + (0 : Int64)) * (s0.toInt64)) + (a0.toInt64)) + (1 : Int64)) / ((s0.toInt64) * (1 : Int64)))), .second, .val (.ref at_), .val (.ref sz_), .val (.int (1 : Int32)), .val (.int (1 : Int32))]) rfl ?_
                              refine Go.iload C X at_533 (n := 535) rfl rfl ?_
                              refine Go.if0_eq C X at_535 (n1 := 551) (n2 := 538) (by decide) (by decide) rfl (fun hc535 => ?_) (fun hc535 => ?_)
                              · exact absurd hc535 (by decide)
                              · refine Go.aload C X at_538 (n := 540) rfl rfl rfl ?_
                                refine Go.iconst C X at_540 (n := 541) rfl (v := (0 : Int32)) rfl ?_
                                refine Go.ialoadL C X eT V_sz_ (i := 0) rfl (v := .int s0) rfl at_541 (n := 542) rfl ?_
                                refine Go.iload C X at_542 (n := 544) rfl rfl ?_
                                refine Go.icmp_ne C X at_544 (n1 := 551) (n2 := 547) (by decide) (by decide) rfl (fun hc544 => ?_) (fun hc544 => ?_)
                                · exact absurd rfl hc544
                                · refine Go.iconst C X at_547 (n := 548) rfl (v := (1 : Int32)) rfl ?_
                                  refine Go.goto C X at_548 (n := 552) (by decide) (by decide) ?_
                                  refine Go.istore C X at_552 (n := 554) rfl (l' := #[.val (.int p0), .val (.int p1), .val (.int p2), .val (.int p3), .val (.int p4), .val (.int p5), .val (.int (1 : Int32)), .val (.int s0), .val (.int s1), .val (.int s2), .val (.int a0), .val (.int a1), .val (.int a2), .val (.long (1 : Int64)), .second, .val (.long (1 : Int64)), .second, .val (.long (s0.toInt64)), .second, .val (.long (0 : Int64)), .second, .val (.long (0 : Int64)), .second, .val (.long (a0.toInt64)), .second, .val (.long (((1 : Int64) * (1 : Int64)) * (s0.toInt64))), .second, .val (.long (((((0 : Int64) * (1 : Int64)) + (0 : Int64)) * (s0.toInt64)) + (a0.toInt64))), .second, .val (.long ((((((0 : Int64) * (1 : Int64)) + (0 : Int64)) * (s0.toInt64)) + (a0.toInt64)) + (1 : Int64))), .second, .val (.int (1 : Int32)), .val (.long ((((((0 : Int64) * (1 : Int64)) + (0 : Int64)) * (s0.toInt64)) + (a0.toInt64)) + (1 : Int64))), .second, .val (.long (((((((0 : Int64) * (1 : Int64)) + (0 : Int64)) * (s0.toInt64)) + (a0.toInt64)) + (1 : Int64)) - (((((((0 : Int64) * (1 : Int64)) + (0 : Int64)) * (s0.toInt64)) + (a0.toInt64)) + (1 : Int64)) / (s0.toInt64)) * (s0.toInt64))), .second, .val (.long ((((((((0 : Int64) * (1 : Int64)) + (0 : Int64)) * (s0.toInt64)) + (a0.toInt64)) + (1 : Int64)) / (s0.toInt64)) - ((((((((0 : Int64) * (1 : Int64)) + (0 : Int64)) * (s0.toInt64)) + (a0.toInt64)) + (1 : Int64)) / (s0.toInt64)) / (1 : Int64)) * (1 : Int64))), .second, .val (.long (((((((0 : Int64) * (1 : Int64)) + (0 : Int64)) * (s0.toInt64)) + (a0.toInt64)) + (1 : Int64)) / ((s0.toInt64) * (1 : Int64)))), .second, .val (.ref at_), .val (.ref sz_), .val (.int (1 : Int32)), .val (.int (1 : Int32))]) rfl ?_
                                  refine Go.iload C X at_554 (n := 556) rfl rfl ?_
                                  refine Go.retN C X eT (Or.inl rfl) (w := (1 : Int32)) (by decide) at_556 (by decide) (by decide) ?_
                                  exact ⟨rfl, N⟩
                      · exact absurd hc434 (by decide)
                    · exact absurd hc341 (by decide)
                · exact absurd hc300 (by decide)
              · exact absurd hc282 (by decide)
    · exact absurd hc121 (by decide)
  · exact absurd hc82 (by decide)
set_option maxRecDepth 65536 in
set_option maxHeartbeats 40000000 in
theorem seg61_2 {p : Program} {l : Launch} {e : Env} {s : State} {m : MethodId} {args : Array Value} {below : List Frame} {meth : Method} {c : Code} {Z : State} {a0' : Array Value} {T : State} {h : Heap} {n0 : Nat} {locs : List Loc} (hw : ∀ d ∈ tables_1, d.before a0' Z = true) (C : Cx p s m meth c Z x.cls code maxLocals ret x.name) (X : Stand p l e room_1 s m args below meth c T locs 0 0) (eT : T.heap = h) (O : Old Z n0 h) (N : Fr n0 locs) {p0 p1 p2 p3 p4 p5 s0 s1 s2 a0 a1 a2 : Int32} (ks0 : 1 ≤ s0.toInt ∧ s0.toInt ≤ 2 ^ 20) (ks1 : 1 ≤ s1.toInt ∧ s1.toInt ≤ 2 ^ 20) (ks2 : 1 ≤ s2.toInt ∧ s2.toInt ≤ 2 ^ 20) (ka0 : 0 ≤ a0.toInt ∧ a0.toInt < s0.toInt) (ka1 : 0 ≤ a1.toInt ∧ a1.toInt < s1.toInt) (ka2 : 0 ≤ a2.toInt ∧ a2.toInt < s2.toInt) :
    Go p e below (EndQ s (fun v h L => v = some (.int 1) ∧ Fr n0 L) room_1.cells room_1.slots) (T.setTop (mkF m 61 #[.val (.int p0), .val (.int p1), .val (.int p2), .val (.int p3), .val (.int p4), .val (.int p5), .val (.int (2 : Int32)), .val (.int s0), .val (.int s1), .val (.int s2), .val (.int a0), .val (.int a1), .val (.int a2), .unset, .unset, .unset, .unset, .unset, .unset, .unset, .unset, .unset, .unset, .unset, .unset, .unset, .unset, .unset, .unset, .unset, .unset, .unset, .unset, .unset, .unset, .unset, .unset, .unset, .unset, .unset, .unset, .unset, .unset, .unset] [])) := by
  have zs0 := own_nz ks0
  have zs1 := own_nz ks1
  have zs2 := own_nz ks2
  show Go p e below _ (T.setTop (mkF m 61 #[.val (.int p0), .val (.int p1), .val (.int p2), .val (.int p3), .val (.int p4), .val (.int p5), .val (.int (2 : Int32)), .val (.int s0), .val (.int s1), .val (.int s2), .val (.int a0), .val (.int a1), .val (.int a2), .unset, .unset, .unset, .unset, .unset, .unset, .unset, .unset, .unset, .unset, .unset, .unset, .unset, .unset, .unset, .unset, .unset, .unset, .unset, .unset, .unset, .unset, .unset, .unset, .unset, .unset, .unset, .unset, .unset, .unset, .unset] []))
  refine Go.lconst C X at_61 (n := 62) rfl (v := (1 : Int64)) rfl ?_
  refine Go.lstore C X at_62 (n := 64) rfl (l' := #[.val (.int p0), .val (.int p1), .val (.int p2), .val (.int p3), .val (.int p4), .val (.int p5), .val (.int (2 : Int32)), .val (.int s0), .val (.int s1), .val (.int s2), .val (.int a0), .val (.int a1), .val (.int a2), .val (.long (1 : Int64)), .second, .unset, .unset, .unset, .unset, .unset, .unset, .unset, .unset, .unset, .unset, .unset, .unset, .unset, .unset, .unset, .unset, .unset, .unset, .unset, .unset, .unset, .unset, .unset, .unset, .unset, .unset, .unset, .unset, .unset]) rfl ?_
  refine Go.lconst C X at_64 (n := 65) rfl (v := (1 : Int64)) rfl ?_
  refine Go.lstore C X at_65 (n := 67) rfl (l' := #[.val (.int p0), .val (.int p1), .val (.int p2), .val (.int p3), .val (.int p4), .val (.int p5), .val (.int (2 : Int32)), .val (.int s0), .val (.int s1), .val (.int s2), .val (.int a0), .val (.int a1), .val (.int a2), .val (.long (1 : Int64)), .second, .val (.long (1 : Int64)), .second, .unset, .unset, .unset, .unset, .unset, .unset, .unset, .unset, .unset, .unset, .unset, .unset, .unset, .unset, .unset, .unset, .unset, .unset, .unset, .unset, .unset, .unset, .unset, .unset, .unset, .unset, .unset]) rfl ?_
  refine Go.lconst C X at_67 (n := 68) rfl (v := (1 : Int64)) rfl ?_
  refine Go.lstore C X at_68 (n := 70) rfl (l' := #[.val (.int p0), .val (.int p1), .val (.int p2), .val (.int p3), .val (.int p4), .val (.int p5), .val (.int (2 : Int32)), .val (.int s0), .val (.int s1), .val (.int s2), .val (.int a0), .val (.int a1), .val (.int a2), .val (.long (1 : Int64)), .second, .val (.long (1 : Int64)), .second, .val (.long (1 : Int64)), .second, .unset, .unset, .unset, .unset, .unset, .unset, .unset, .unset, .unset, .unset, .unset, .unset, .unset, .unset, .unset, .unset, .unset, .unset, .unset, .unset, .unset, .unset, .unset, .unset, .unset]) rfl ?_
  refine Go.lconst C X at_70 (n := 71) rfl (v := (0 : Int64)) rfl ?_
  refine Go.lstore C X at_71 (n := 73) rfl (l' := #[.val (.int p0), .val (.int p1), .val (.int p2), .val (.int p3), .val (.int p4), .val (.int p5), .val (.int (2 : Int32)), .val (.int s0), .val (.int s1), .val (.int s2), .val (.int a0), .val (.int a1), .val (.int a2), .val (.long (1 : Int64)), .second, .val (.long (1 : Int64)), .second, .val (.long (1 : Int64)), .second, .val (.long (0 : Int64)), .second, .unset, .unset, .unset, .unset, .unset, .unset, .unset, .unset, .unset, .unset, .unset, .unset, .unset, .unset, .unset, .unset, .unset, .unset, .unset, .unset, .unset, .unset, .unset]) rfl ?_
  refine Go.lconst C X at_73 (n := 74) rfl (v := (0 : Int64)) rfl ?_
  refine Go.lstore C X at_74 (n := 76) rfl (l' := #[.val (.int p0), .val (.int p1), .val (.int p2), .val (.int p3), .val (.int p4), .val (.int p5), .val (.int (2 : Int32)), .val (.int s0), .val (.int s1), .val (.int s2), .val (.int a0), .val (.int a1), .val (.int a2), .val (.long (1 : Int64)), .second, .val (.long (1 : Int64)), .second, .val (.long (1 : Int64)), .second, .val (.long (0 : Int64)), .second, .val (.long (0 : Int64)), .second, .unset, .unset, .unset, .unset, .unset, .unset, .unset, .unset, .unset, .unset, .unset, .unset, .unset, .unset, .unset, .unset, .unset, .unset, .unset, .unset, .unset]) rfl ?_
  refine Go.lconst C X at_76 (n := 77) rfl (v := (0 : Int64)) rfl ?_
  refine Go.lstore C X at_77 (n := 79) rfl (l' := #[.val (.int p0), .val (.int p1), .val (.int p2), .val (.int p3), .val (.int p4), .val (.int p5), .val (.int (2 : Int32)), .val (.int s0), .val (.int s1), .val (.int s2), .val (.int a0), .val (.int a1), .val (.int a2), .val (.long (1 : Int64)), .second, .val (.long (1 : Int64)), .second, .val (.long (1 : Int64)), .second, .val (.long (0 : Int64)), .second, .val (.long (0 : Int64)), .second, .val (.long (0 : Int64)), .second, .unset, .unset, .unset, .unset, .unset, .unset, .unset, .unset, .unset, .unset, .unset, .unset, .unset, .unset, .unset, .unset, .unset, .unset, .unset]) rfl ?_
  refine Go.iload C X at_79 (n := 81) rfl rfl ?_
  refine Go.iconst C X at_81 (n := 82) rfl (v := (3 : Int32)) rfl ?_
  refine Go.icmp_ne C X at_82 (n1 := 118) (n2 := 85) (by decide) (by decide) rfl (fun hc82 => ?_) (fun hc82 => ?_)
  · refine Go.iload C X at_118 (n := 120) rfl rfl ?_
    refine Go.iconst C X at_120 (n := 121) rfl (v := (2 : Int32)) rfl ?_
    refine Go.icmp_ne C X at_121 (n1 := 147) (n2 := 124) (by decide) (by decide) rfl (fun hc121 => ?_) (fun hc121 => ?_)
    · exact absurd hc121 (by decide)
    · refine Go.iload C X at_124 (n := 126) rfl rfl ?_
      refine Go.i2l C X at_126 (n := 127) rfl ?_
      refine Go.lstore C X at_127 (n := 129) rfl (l' := #[.val (.int p0), .val (.int p1), .val (.int p2), .val (.int p3), .val (.int p4), .val (.int p5), .val (.int (2 : Int32)), .val (.int s0), .val (.int s1), .val (.int s2), .val (.int a0), .val (.int a1), .val (.int a2), .val (.long (1 : Int64)), .second, .val (.long (s0.toInt64)), .second, .val (.long (1 : Int64)), .second, .val (.long (0 : Int64)), .second, .val (.long (0 : Int64)), .second, .val (.long (0 : Int64)), .second, .unset, .unset, .unset, .unset, .unset, .unset, .unset, .unset, .unset, .unset, .unset, .unset, .unset, .unset, .unset, .unset, .unset, .unset, .unset]) rfl ?_
      refine Go.iload C X at_129 (n := 131) rfl rfl ?_
      refine Go.i2l C X at_131 (n := 132) rfl ?_
      refine Go.lstore C X at_132 (n := 134) rfl (l' := #[.val (.int p0), .val (.int p1), .val (.int p2), .val (.int p3), .val (.int p4), .val (.int p5), .val (.int (2 : Int32)), .val (.int s0), .val (.int s1), .val (.int s2), .val (.int a0), .val (.int a1), .val (.int a2), .val (.long (1 : Int64)), .second, .val (.long (s0.toInt64)), .second, .val (.long (s1.toInt64)), .second, .val (.long (0 : Int64)), .second, .val (.long (0 : Int64)), .second, .val (.long (0 : Int64)), .second, .unset, .unset, .unset, .unset, .unset, .unset, .unset, .unset, .unset, .unset, .unset, .unset, .unset, .unset, .unset, .unset, .unset, .unset, .unset]) rfl ?_
      refine Go.iload C X at_134 (n := 136) rfl rfl ?_
      refine Go.i2l C X at_136 (n := 137) rfl ?_
      refine Go.lstore C X at_137 (n := 139) rfl (l' := #[.val (.int p0), .val (.int p1), .val (.int p2), .val (.int p3), .val (.int p4), .val (.int p5), .val (.int (2 : Int32)), .val (.int s0), .val (.int s1), .val (.int s2), .val (.int a0), .val (.int a1), .val (.int a2), .val (.long (1 : Int64)), .second, .val (.long (s0.toInt64)), .second, .val (.long (s1.toInt64)), .second, .val (.long (0 : Int64)), .second, .val (.long (a0.toInt64)), .second, .val (.long (0 : Int64)), .second, .unset, .unset, .unset, .unset, .unset, .unset, .unset, .unset, .unset, .unset, .unset, .unset, .unset, .unset, .unset, .unset, .unset, .unset, .unset]) rfl ?_
      refine Go.iload C X at_139 (n := 141) rfl rfl ?_
      refine Go.i2l C X at_141 (n := 142) rfl ?_
      refine Go.lstore C X at_142 (n := 144) rfl (l' := #[.val (.int p0), .val (.int p1), .val (.int p2), .val (.int p3), .val (.int p4), .val (.int p5), .val (.int (2 : Int32)), .val (.int s0), .val (.int s1), .val (.int s2), .val (.int a0), .val (.int a1), .val (.int a2), .val (.long (1 : Int64)), .second, .val (.long (s0.toInt64)), .second, .val (.long (s1.toInt64)), .second, .val (.long (0 : Int64)), .second, .val (.long (a0.toInt64)), .second, .val (.long (a1.toInt64)), .second, .unset, .unset, .unset, .unset, .unset, .unset, .unset, .unset, .unset, .unset, .unset, .unset, .unset, .unset, .unset, .unset, .unset, .unset, .unset]) rfl ?_
      refine Go.goto C X at_144 (n := 163) (by decide) (by decide) ?_
      refine Go.lload C X at_163 (n := 165) rfl rfl ?_
      refine Go.lload C X at_165 (n := 167) rfl rfl ?_
      refine Go.lmul C X at_167 (n := 168) rfl ?_
      refine Go.lload C X at_168 (n := 170) rfl rfl ?_
      refine Go.lmul C X at_170 (n := 171) rfl ?_
      refine Go.lstore C X at_171 (n := 173) rfl (l' := #[.val (.int p0), .val (.int p1), .val (.int p2), .val (.int p3), .val (.int p4), .val (.int p5), .val (.int (2 : Int32)), .val (.int s0), .val (.int s1), .val (.int s2), .val (.int a0), .val (.int a1), .val (.int a2), .val (.long (1 : Int64)), .second, .val (.long (s0.toInt64)), .second, .val (.long (s1.toInt64)), .second, .val (.long (0 : Int64)), .second, .val (.long (a0.toInt64)), .second, .val (.long (a1.toInt64)), .second, .val (.long (((1 : Int64) * (s0.toInt64)) * (s1.toInt64))), .second, .unset, .unset, .unset, .unset, .unset, .unset, .unset, .unset, .unset, .unset, .unset, .unset, .unset, .unset, .unset, .unset, .unset]) rfl ?_
      refine Go.lload C X at_173 (n := 175) rfl rfl ?_
      refine Go.lload C X at_175 (n := 177) rfl rfl ?_
      refine Go.lmul C X at_177 (n := 178) rfl ?_
      refine Go.lload C X at_178 (n := 180) rfl rfl ?_
      refine Go.ladd C X at_180 (n := 181) rfl ?_
      refine Go.lload C X at_181 (n := 183) rfl rfl ?_
      refine Go.lmul C X at_183 (n := 184) rfl ?_
      refine Go.lload C X at_184 (n := 186) rfl rfl ?_
      refine Go.ladd C X at_186 (n := 187) rfl ?_
      refine Go.lstore C X at_187 (n := 189) rfl (l' := #[.val (.int p0), .val (.int p1), .val (.int p2), .val (.int p3), .val (.int p4), .val (.int p5), .val (.int (2 : Int32)), .val (.int s0), .val (.int s1), .val (.int s2), .val (.int a0), .val (.int a1), .val (.int a2), .val (.long (1 : Int64)), .second, .val (.long (s0.toInt64)), .second, .val (.long (s1.toInt64)), .second, .val (.long (0 : Int64)), .second, .val (.long (a0.toInt64)), .second, .val (.long (a1.toInt64)), .second, .val (.long (((1 : Int64) * (s0.toInt64)) * (s1.toInt64))), .second, .val (.long (((((0 : Int64) * (s0.toInt64)) + (a0.toInt64)) * (s1.toInt64)) + (a1.toInt64))), .second, .unset, .unset, .unset, .unset, .unset, .unset, .unset, .unset, .unset, .unset, .unset, .unset, .unset, .unset, .unset]) rfl ?_
      refine Go.lload C X at_189 (n := 191) rfl rfl ?_
      refine Go.lconst C X at_191 (n := 192) rfl (v := (1 : Int64)) rfl ?_
      refine Go.ladd C X at_192 (n := 193) rfl ?_
      refine Go.lstore C X at_193 (n := 195) rfl (l' := #[.val (.int p0), .val (.int p1), .val (.int p2), .val (.int p3), .val (.int p4), .val (.int p5), .val (.int (2 : Int32)), .val (.int s0), .val (.int s1), .val (.int s2), .val (.int a0), .val (.int a1), .val (.int a2), .val (.long (1 : Int64)), .second, .val (.long (s0.toInt64)), .second, .val (.long (s1.toInt64)), .second, .val (.long (0 : Int64)), .second, .val (.long (a0.toInt64)), .second, .val (.long (a1.toInt64)), .second, .val (.long (((1 : Int64) * (s0.toInt64)) * (s1.toInt64))), .second, .val (.long (((((0 : Int64) * (s0.toInt64)) + (a0.toInt64)) * (s1.toInt64)) + (a1.toInt64))), .second, .val (.long ((((((0 : Int64) * (s0.toInt64)) + (a0.toInt64)) * (s1.toInt64)) + (a1.toInt64)) + (1 : Int64))), .second, .unset, .unset, .unset, .unset, .unset, .unset, .unset, .unset, .unset, .unset, .unset, .unset, .unset]) rfl ?_
      refine Go.lload C X at_195 (n := 197) rfl rfl ?_
      refine Go.lload C X at_197 (n := 199) rfl rfl ?_
      refine Go.lcmp C X at_199 (n := 200) rfl ?_
      refine Go.lcmp_ge C X at_200 (n1 := 207) (n2 := 203) (by decide) (by decide) rfl (fun hc200 => ?_) (fun hc200 => ?_)
      · refine Go.iconst C X at_207 (n := 208) rfl (v := (0 : Int32)) rfl ?_
        refine Go.istore C X at_208 (n := 210) rfl (l' := #[.val (.int p0), .val (.int p1), .val (.int p2), .val (.int p3), .val (.int p4), .val (.int p5), .val (.int (2 : Int32)), .val (.int s0), .val (.int s1), .val (.int s2), .val (.int a0), .val (.int a1), .val (.int a2), .val (.long (1 : Int64)), .second, .val (.long (s0.toInt64)), .second, .val (.long (s1.toInt64)), .second, .val (.long (0 : Int64)), .second, .val (.long (a0.toInt64)), .second, .val (.long (a1.toInt64)), .second, .val (.long (((1 : Int64) * (s0.toInt64)) * (s1.toInt64))), .second, .val (.long (((((0 : Int64) * (s0.toInt64)) + (a0.toInt64)) * (s1.toInt64)) + (a1.toInt64))), .second, .val (.long ((((((0 : Int64) * (s0.toInt64)) + (a0.toInt64)) * (s1.toInt64)) + (a1.toInt64)) + (1 : Int64))), .second, .val (.int (0 : Int32)), .unset, .unset, .unset, .unset, .unset, .unset, .unset, .unset, .unset, .unset, .unset, .unset]) rfl ?_
        refine Go.iload C X at_210 (n := 212) rfl rfl ?_
        refine Go.if0_eq C X at_212 (n1 := 220) (n2 := 215) (by decide) (by decide) rfl (fun hc212 => ?_) (fun hc212 => ?_)
        · refine Go.lconst C X at_220 (n := 221) rfl (v := (0 : Int64)) rfl ?_
          refine Go.lstore C X at_221 (n := 223) rfl (l' := #[.val (.int p0), .val (.int p1), .val (.int p2), .val (.int p3), .val (.int p4), .val (.int p5), .val (.int (2 : Int32)), .val (.int s0), .val (.int s1), .val (.int s2), .val (.int a0), .val (.int a1), .val (.int a2), .val (.long (1 : Int64)), .second, .val (.long (s0.toInt64)), .second, .val (.long (s1.toInt64)), .second, .val (.long (0 : Int64)), .second, .val (.long (a0.toInt64)), .second, .val (.long (a1.toInt64)), .second, .val (.long (((1 : Int64) * (s0.toInt64)) * (s1.toInt64))), .second, .val (.long (((((0 : Int64) * (s0.toInt64)) + (a0.toInt64)) * (s1.toInt64)) + (a1.toInt64))), .second, .val (.long ((((((0 : Int64) * (s0.toInt64)) + (a0.toInt64)) * (s1.toInt64)) + (a1.toInt64)) + (1 : Int64))), .second, .val (.int (0 : Int32)), .val (.long (0 : Int64)), .second, .unset, .unset, .unset, .unset, .unset, .unset, .unset, .unset, .unset, .unset]) rfl ?_
          refine Go.lload C X at_223 (n := 225) rfl rfl ?_
          refine Go.lload C X at_225 (n := 227) rfl rfl ?_
          refine Go.lrem C X at_227 (n := 228) rfl zs1 ?_
          refine Go.lstore C X at_228 (n := 230) rfl (l' := #[.val (.int p0), .val (.int p1), .val (.int p2), .val (.int p3), .val (.int p4), .val (.int p5), .val (.int (2 : Int32)), .val (.int s0), .val (.int s1), .val (.int s2), .val (.int a0), .val (.int a1), .val (.int a2), .val (.long (1 : Int64)), .second, .val (.long (s0.toInt64)), .second, .val (.long (s1.toInt64)), .second, .val (.long (0 : Int64)), .second, .val (.long (a0.toInt64)), .second, .val (.long (a1.toInt64)), .second, .val (.long (((1 : Int64) * (s0.toInt64)) * (s1.toInt64))), .second, .val (.long (((((0 : Int64) * (s0.toInt64)) + (a0.toInt64)) * (s1.toInt64)) + (a1.toInt64))), .second, .val (.long ((((((0 : Int64) * (s0.toInt64)) + (a0.toInt64)) * (s1.toInt64)) + (a1.toInt64)) + (1 : Int64))), .second, .val (.int (0 : Int32)), .val (.long (0 : Int64)), .second, .val (.long ((0 : Int64) - ((0 : Int64) / (s1.toInt64)) * (s1.toInt64))), .second, .unset, .unset, .unset, .unset, .unset, .unset, .unset, .unset]) rfl ?_
          refine Go.lload C X at_230 (n := 232) rfl rfl ?_
          refine Go.lload C X at_232 (n := 234) rfl rfl ?_
          refine Go.ldiv C X at_234 (n := 235) rfl zs1 ?_
          refine Go.lload C X at_235 (n := 237) rfl rfl ?_
          refine Go.lrem C X at_237 (n := 238) rfl zs0 ?_
          refine Go.lstore C X at_238 (n := 240) rfl (l' := #[.val (.int p0), .val (.int p1), .val (.int p2), .val (.int p3), .val (.int p4), .val (.int p5), .val (.int (2 : Int32)), .val (.int s0), .val (.int s1), .val (.int s2), .val (.int a0), .val (.int a1), .val (.int a2), .val (.long (1 : Int64)), .second, .val (.long (s0.toInt64)), .second, .val (.long (s1.toInt64)), .second, .val (.long (0 : Int64)), .second, .val (.long (a0.toInt64)), .second, .val (.long (a1.toInt64)), .second, .val (.long (((1 : Int64) * (s0.toInt64)) * (s1.toInt64))), .second, .val (.long (((((0 : Int64) * (s0.toInt64)) + (a0.toInt64)) * (s1.toInt64)) + (a1.toInt64))), .second, .val (.long ((((((0 : Int64) * (s0.toInt64)) + (a0.toInt64)) * (s1.toInt64)) + (a1.toInt64)) + (1 : Int64))), .second, .val (.int (0 : Int32)), .val (.long (0 : Int64)), .second, .val (.long ((0 : Int64) - ((0 : Int64) / (s1.toInt64)) * (s1.toInt64))), .second, .val (.long (((0 : Int64) / (s1.toInt64)) - (((0 : Int64) / (s1.toInt64)) / (s0.toInt64)) * (s0.toInt64))), .second, .unset, .unset, .unset, .unset, .unset, .unset]) rfl ?_
          refine Go.lload C X at_240 (n := 242) rfl rfl ?_
          refine Go.lload C X at_242 (n := 244) rfl rfl ?_
          refine Go.lload C X at_244 (n := 246) rfl rfl ?_
          refine Go.lmul C X at_246 (n := 247) rfl ?_
          refine Go.ldiv C X at_247 (n := 248) rfl (own_mulnz ks1 ks0) ?_
          refine Go.lstore C X at_248 (n := 250) rfl (l' := #[.val (.int p0), .val (.int p1), .val (.int p2), .val (.int p3), .val (.int p4), .val (.int p5), .val (.int (2 : Int32)), .val (.int s0), .val (.int s1), .val (.int s2), .val (.int a0), .val (.int a1), .val (.int a2), .val (.long (1 : Int64)), .second, .val (.long (s0.toInt64)), .second, .val (.long (s1.toInt64)), .second, .val (.long (0 : Int64)), .second, .val (.long (a0.toInt64)), .second, .val (.long (a1.toInt64)), .second, .val (.long (((1 : Int64) * (s0.toInt64)) * (s1.toInt64))), .second, .val (.long (((((0 : Int64) * (s0.toInt64)) + (a0.toInt64)) * (s1.toInt64)) + (a1.toInt64))), .second, .val (.long ((((((0 : Int64) * (s0.toInt64)) + (a0.toInt64)) * (s1.toInt64)) + (a1.toInt64)) + (1 : Int64))), .second, .val (.int (0 : Int32)), .val (.long (0 : Int64)), .second, .val (.long ((0 : Int64) - ((0 : Int64) / (s1.toInt64)) * (s1.toInt64))), .second, .val (.long (((0 : Int64) / (s1.toInt64)) - (((0 : Int64) / (s1.toInt64)) / (s0.toInt64)) * (s0.toInt64))), .second, .val (.long ((0 : Int64) / ((s1.toInt64) * (s0.toInt64)))), .second, .unset, .unset, .unset, .unset]) rfl ?_
          refine Go.iload C X at_250 (n := 252) rfl rfl ?_
          refine Go.newL C X eT (wd hw 2 rfl) (i := 2) rfl (cap := 2) (by decide) at_252 (n := 254) rfl (by decide) (by decide) (by decide) ?_
          clear X eT
          intro T h at_ z_at_ X eT E V_at_
          have g_at_ : n0 ≤ at_ := by rw [z_at_]; exact O.le
          replace O := O.ext E
          replace V_at_ : Arl Z h at_ .int [.int (0 : Int32), .int (0 : Int32)] := V_at_
          refine Go.astore C X at_254 (n := 256) rfl rfl (l' := #[.val (.int p0), .val (.int p1), .val (.int p2), .val (.int p3), .val (.int p4), .val (.int p5), .val (.int (2 : Int32)), .val (.int s0), .val (.int s1), .val (.int s2), .val (.int a0), .val (.int a1), .val (.int a2), .val (.long (1 : Int64)), .second, .val (.long (s0.toInt64)), .second, .val (.long (s1.toInt64)), .second, .val (.long (0 : Int64)), .second, .val (.long (a0.toInt64)), .second, .val (.long (a1.toInt64)), .second, .val (.long (((1 : Int64) * (s0.toInt64)) * (s1.toInt64))), .second, .val (.long (((((0 : Int64) * (s0.toInt64)) + (a0.toInt64)) * (s1.toInt64)) + (a1.toInt64))), .second, .val (.long ((((((0 : Int64) * (s0.toInt64)) + (a0.toInt64)) * (s1.toInt64)) + (a1.toInt64)) + (1 : Int64))), .second, .val (.int (0 : Int32)), .val (.long (0 : Int64)), .second, .val (.long ((0 : Int64) - ((0 : Int64) / (s1.toInt64)) * (s1.toInt64))), .second, .val (.long (((0 : Int64) / (s1.toInt64)) - (((0 : Int64) / (s1.toInt64)) / (s0.toInt64)) * (s0.toInt64))), .second, .val (.long ((0 : Int64) / ((s1.toInt64) * (s0.toInt64)))), .second, .val (.ref at_), .unset, .unset, .unset]) rfl ?_
          refine Go.iload C X at_256 (n := 258) rfl rfl ?_
          refine Go.newL C X eT (wd hw 2 rfl) (i := 2) rfl (cap := 2) (by decide) at_258 (n := 260) rfl (by decide) (by decide) (by decide) ?_
          clear X eT
          intro T h sz_ z_sz_ X eT E V_sz_
          have ne_at__sz_ : at_ ≠ sz_ := Nat.ne_of_lt (Nat.lt_of_lt_of_le V_at_.lt (Nat.le_of_eq z_sz_.symm))
          have g_sz_ : n0 ≤ sz_ := by rw [z_sz_]; exact O.le
          replace O := O.ext E
          replace V_at_ := V_at_.ext E
          replace V_sz_ : Arl Z h sz_ .int [.int (0 : Int32), .int (0 : Int32)] := V_sz_
          refine Go.astore C X at_260 (n := 262) rfl rfl (l' := #[.val (.int p0), .val (.int p1), .val (.int p2), .val (.int p3), .val (.int p4), .val (.int p5), .val (.int (2 : Int32)), .val (.int s0), .val (.int s1), .val (.int s2), .val (.int a0), .val (.int a1), .val (.int a2), .val (.long (1 : Int64)), .second, .val (.long (s0.toInt64)), .second, .val (.long (s1.toInt64)), .second, .val (.long (0 : Int64)), .second, .val (.long (a0.toInt64)), .second, .val (.long (a1.toInt64)), .second, .val (.long (((1 : Int64) * (s0.toInt64)) * (s1.toInt64))), .second, .val (.long (((((0 : Int64) * (s0.toInt64)) + (a0.toInt64)) * (s1.toInt64)) + (a1.toInt64))), .second, .val (.long ((((((0 : Int64) * (s0.toInt64)) + (a0.toInt64)) * (s1.toInt64)) + (a1.toInt64)) + (1 : Int64))), .second, .val (.int (0 : Int32)), .val (.long (0 : Int64)), .second, .val (.long ((0 : Int64) - ((0 : Int64) / (s1.toInt64)) * (s1.toInt64))), .second, .val (.long (((0 : Int64) / (s1.toInt64)) - (((0 : Int64) / (s1.toInt64)) / (s0.toInt64)) * (s0.toInt64))), .second, .val (.long ((0 : Int64) / ((s1.toInt64) * (s0.toInt64)))), .second, .val (.ref at_), .val (.ref sz_), .unset, .unset]) rfl ?_
          refine Go.iload C X at_262 (n := 264) rfl rfl ?_
          refine Go.if0_le C X at_264 (n1 := 279) (n2 := 267) (by decide) (by decide) rfl (fun hc264 => ?_) (fun hc264 => ?_)
          · exact absurd hc264 (by decide)
          · refine Go.aload C X at_267 (n := 269) rfl rfl rfl ?_
            refine Go.iconst C X at_269 (n := 270) rfl (v := (0 : Int32)) rfl ?_
            refine Go.iload C X at_270 (n := 272) rfl rfl ?_
            refine Go.iastoreL C X eT V_at_ (i := 0) rfl (by simp) at_272 (n := 273) rfl ?_
            clear X eT
            intro T h X eT W V_new
            replace O := O.wr W g_at_
            replace V_sz_ := V_sz_.other W (Ne.symm ne_at__sz_)
            clear V_at_
            have V_at_ : Arl Z h at_ .int [.int a0, .int (0 : Int32)] := V_new
            clear V_new
            replace N := Fr.snoc X N g_at_
            refine Go.aload C X at_273 (n := 275) rfl rfl rfl ?_
            refine Go.iconst C X at_275 (n := 276) rfl (v := (0 : Int32)) rfl ?_
            refine Go.iload C X at_276 (n := 278) rfl rfl ?_
            refine Go.iastoreL C X eT V_sz_ (i := 0) rfl (by simp) at_278 (n := 279) rfl ?_
            clear X eT
            intro T h X eT W V_new
            replace O := O.wr W g_sz_
            replace V_at_ := V_at_.other W ne_at__sz_
            clear V_sz_
            have V_sz_ : Arl Z h sz_ .int [.int s0, .int (0 : Int32)] := V_new
            clear V_new
            replace N := Fr.snoc X N g_sz_
            refine Go.iload C X at_279 (n := 281) rfl rfl ?_
            refine Go.iconst C X at_281 (n := 282) rfl (v := (1 : Int32)) rfl ?_
            refine Go.icmp_le C X at_282 (n1 := 297) (n2 := 285) (by decide) (by decide) rfl (fun hc282 => ?_) (fun hc282 => ?_)
            · exact absurd hc282 (by decide)
            · refine Go.aload C X at_285 (n := 287) rfl rfl rfl ?_
              refine Go.iconst C X at_287 (n := 288) rfl (v := (1 : Int32)) rfl ?_
              refine Go.iload C X at_288 (n := 290) rfl rfl ?_
              refine Go.iastoreL C X eT V_at_ (i := 1) rfl (by simp) at_290 (n := 291) rfl ?_
              clear X eT
              intro T h X eT W V_new
              replace O := O.wr W g_at_
              replace V_sz_ := V_sz_.other W (Ne.symm ne_at__sz_)
              clear V_at_
              have V_at_ : Arl Z h at_ .int [.int a0, .int a1] := V_new
              clear V_new
              replace N := Fr.snoc X N g_at_
              refine Go.aload C X at_291 (n := 293) rfl rfl rfl ?_
              refine Go.iconst C X at_293 (n := 294) rfl (v := (1 : Int32)) rfl ?_
              refine Go.iload C X at_294 (n := 296) rfl rfl ?_
              refine Go.iastoreL C X eT V_sz_ (i := 1) rfl (by simp) at_296 (n := 297) rfl ?_
              clear X eT
              intro T h X eT W V_new
              replace O := O.wr W g_sz_
              replace V_at_ := V_at_.other W ne_at__sz_
              clear V_sz_
              have V_sz_ : Arl Z h sz_ .int [.int s0, .int s1] := V_new
              clear V_new
              replace N := Fr.snoc X N g_sz_
              refine Go.iload C X at_297 (n := 299) rfl rfl ?_
              refine Go.iconst C X at_299 (n := 300) rfl (v := (2 : Int32)) rfl ?_
              refine Go.icmp_le C X at_300 (n1 := 315) (n2 := 303) (by decide) (by decide) rfl (fun hc300 => ?_) (fun hc300 => ?_)
              · refine Go.aload C X at_315 (n := 317) rfl rfl rfl ?_
                refine Go.aload C X at_317 (n := 319) rfl rfl rfl ?_
                obtain ⟨r, xs', hq⟩ : ∃ r xs', advK 2 [a0, a1] [s0, s1] = (r, xs') := ⟨_, _, rfl⟩
                refine Go.stat C X eT (argsL := [(.ref at_), (.ref sz_)]) (rest := []) (rm1 l Z a0' hw n0 _ at_ sz_ [a0, a1] [s0, s1] (2 : Int32) r xs' g_at_ ne_at__sz_ rfl rfl hq V_at_ V_sz_) (wd hw 3 rfl) (wd hw 4 rfl) (wd hw 5 rfl) (wd hw 6 rfl) (by decide) (lenOf pd_0 rfl) rfl at_319 (n := 322) rfl rfl (by decide) (W := 0) rfl (by decide) (by decide) (by decide) ?_
                clear X eT
                intro T h v L X eT hQ
                obtain ⟨rfl, Nq, KK, V_at_⟩ := hQ
                replace N := N.app Nq
                replace O := O.keep KK (allS g_at_ all0)
                replace V_sz_ := V_sz_.keep KK (ninS (Ne.symm ne_at__sz_) nin0)
                show Go p e below _ (T.setTop (mkF m 322 #[.val (.int p0), .val (.int p1), .val (.int p2), .val (.int p3), .val (.int p4), .val (.int p5), .val (.int (2 : Int32)), .val (.int s0), .val (.int s1), .val (.int s2), .val (.int a0), .val (.int a1), .val (.int a2), .val (.long (1 : Int64)), .second, .val (.long (s0.toInt64)), .second, .val (.long (s1.toInt64)), .second, .val (.long (0 : Int64)), .second, .val (.long (a0.toInt64)), .second, .val (.long (a1.toInt64)), .second, .val (.long (((1 : Int64) * (s0.toInt64)) * (s1.toInt64))), .second, .val (.long (((((0 : Int64) * (s0.toInt64)) + (a0.toInt64)) * (s1.toInt64)) + (a1.toInt64))), .second, .val (.long ((((((0 : Int64) * (s0.toInt64)) + (a0.toInt64)) * (s1.toInt64)) + (a1.toInt64)) + (1 : Int64))), .second, .val (.int (0 : Int32)), .val (.long (0 : Int64)), .second, .val (.long ((0 : Int64) - ((0 : Int64) / (s1.toInt64)) * (s1.toInt64))), .second, .val (.long (((0 : Int64) / (s1.toInt64)) - (((0 : Int64) / (s1.toInt64)) / (s0.toInt64)) * (s0.toInt64))), .second, .val (.long ((0 : Int64) / ((s1.toInt64) * (s0.toInt64)))), .second, .val (.ref at_), .val (.ref sz_), .unset, .unset] [(.int r)]))
                obtain ⟨hr, hl, he⟩ := plain2n ks0 ka0 ks1 ka1 hq hc200
                subst hr
                obtain ⟨e0, e1⟩ := he
                obtain ⟨x0, x1, rfl⟩ := own_list2 hl
                simp only [List.getD_cons_zero, List.getD_cons_succ] at e0 e1
                show Go p e below _ (T.setTop (mkF m 322 #[.val (.int p0), .val (.int p1), .val (.int p2), .val (.int p3), .val (.int p4), .val (.int p5), .val (.int (2 : Int32)), .val (.int s0), .val (.int s1), .val (.int s2), .val (.int a0), .val (.int a1), .val (.int a2), .val (.long (1 : Int64)), .second, .val (.long (s0.toInt64)), .second, .val (.long (s1.toInt64)), .second, .val (.long (0 : Int64)), .second, .val (.long (a0.toInt64)), .second, .val (.long (a1.toInt64)), .second, .val (.long (((1 : Int64) * (s0.toInt64)) * (s1.toInt64))), .second, .val (.long (((((0 : Int64) * (s0.toInt64)) + (a0.toInt64)) * (s1.toInt64)) + (a1.toInt64))), .second, .val (.long ((((((0 : Int64) * (s0.toInt64)) + (a0.toInt64)) * (s1.toInt64)) + (a1.toInt64)) + (1 : Int64))), .second, .val (.int (0 : Int32)), .val (.long (0 : Int64)), .second, .val (.long ((0 : Int64) - ((0 : Int64) / (s1.toInt64)) * (s1.toInt64))), .second, .val (.long (((0 : Int64) / (s1.toInt64)) - (((0 : Int64) / (s1.toInt64)) / (s0.toInt64)) * (s0.toInt64))), .second, .val (.long ((0 : Int64) / ((s1.toInt64) * (s0.toInt64)))), .second, .val (.ref at_), .val (.ref sz_), .unset, .unset] [(.int (0 : Int32))]))
                refine Go.istore C X at_322 (n := 324) rfl (l' := #[.val (.int p0), .val (.int p1), .val (.int p2), .val (.int p3), .val (.int p4), .val (.int p5), .val (.int (2 : Int32)), .val (.int s0), .val (.int s1), .val (.int s2), .val (.int a0), .val (.int a1), .val (.int a2), .val (.long (1 : Int64)), .second, .val (.long (s0.toInt64)), .second, .val (.long (s1.toInt64)), .second, .val (.long (0 : Int64)), .second, .val (.long (a0.toInt64)), .second, .val (.long (a1.toInt64)), .second, .val (.long (((1 : Int64) * (s0.toInt64)) * (s1.toInt64))), .second, .val (.long (((((0 : Int64) * (s0.toInt64)) + (a0.toInt64)) * (s1.toInt64)) + (a1.toInt64))), .second, .val (.long ((((((0 : Int64) * (s0.toInt64)) + (a0.toInt64)) * (s1.toInt64)) + (a1.toInt64)) + (1 : Int64))), .second, .val (.int (0 : Int32)), .val (.long (0 : Int64)), .second, .val (.long ((0 : Int64) - ((0 : Int64) / (s1.toInt64)) * (s1.toInt64))), .second, .val (.long (((0 : Int64) / (s1.toInt64)) - (((0 : Int64) / (s1.toInt64)) / (s0.toInt64)) * (s0.toInt64))), .second, .val (.long ((0 : Int64) / ((s1.toInt64) * (s0.toInt64)))), .second, .val (.ref at_), .val (.ref sz_), .val (.int (0 : Int32)), .unset]) rfl ?_
                refine Go.iload C X at_324 (n := 326) rfl rfl ?_
                refine Go.iload C X at_326 (n := 328) rfl rfl ?_
                refine Go.icmp_ne C X at_328 (n1 := 335) (n2 := 331) (by decide) (by decide) rfl (fun hc328 => ?_) (fun hc328 => ?_)
                · exact absurd hc328 (by decide)
                · refine Go.iconst C X at_331 (n := 332) rfl (v := (1 : Int32)) rfl ?_
                  refine Go.goto C X at_332 (n := 336) (by decide) (by decide) ?_
                  refine Go.istore C X at_336 (n := 338) rfl (l' := #[.val (.int p0), .val (.int p1), .val (.int p2), .val (.int p3), .val (.int p4), .val (.int p5), .val (.int (2 : Int32)), .val (.int s0), .val (.int s1), .val (.int s2), .val (.int a0), .val (.int a1), .val (.int a2), .val (.long (1 : Int64)), .second, .val (.long (s0.toInt64)), .second, .val (.long (s1.toInt64)), .second, .val (.long (0 : Int64)), .second, .val (.long (a0.toInt64)), .second, .val (.long (a1.toInt64)), .second, .val (.long (((1 : Int64) * (s0.toInt64)) * (s1.toInt64))), .second, .val (.long (((((0 : Int64) * (s0.toInt64)) + (a0.toInt64)) * (s1.toInt64)) + (a1.toInt64))), .second, .val (.long ((((((0 : Int64) * (s0.toInt64)) + (a0.toInt64)) * (s1.toInt64)) + (a1.toInt64)) + (1 : Int64))), .second, .val (.int (0 : Int32)), .val (.long (0 : Int64)), .second, .val (.long ((0 : Int64) - ((0 : Int64) / (s1.toInt64)) * (s1.toInt64))), .second, .val (.long (((0 : Int64) / (s1.toInt64)) - (((0 : Int64) / (s1.toInt64)) / (s0.toInt64)) * (s0.toInt64))), .second, .val (.long ((0 : Int64) / ((s1.toInt64) * (s0.toInt64)))), .second, .val (.ref at_), .val (.ref sz_), .val (.int (0 : Int32)), .val (.int (1 : Int32))]) rfl ?_
                  refine Go.iload C X at_338 (n := 340) rfl rfl ?_
                  refine Go.iconst C X at_340 (n := 341) rfl (v := (3 : Int32)) rfl ?_
                  refine Go.icmp_ne C X at_341 (n1 := 431) (n2 := 344) (by decide) (by decide) rfl (fun hc341 => ?_) (fun hc341 => ?_)
                  · refine Go.iload C X at_431 (n := 433) rfl rfl ?_
                    refine Go.iconst C X at_433 (n := 434) rfl (v := (2 : Int32)) rfl ?_
                    refine Go.icmp_ne C X at_434 (n1 := 504) (n2 := 437) (by decide) (by decide) rfl (fun hc434 => ?_) (fun hc434 => ?_)
                    · exact absurd hc434 (by decide)
                    · refine Go.iload C X at_437 (n := 439) rfl rfl ?_
                      refine Go.if0_eq C X at_439 (n1 := 468) (n2 := 442) (by decide) (by decide) rfl (fun hc439 => ?_) (fun hc439 => ?_)
                      · exact absurd hc439 (by decide)
                      · refine Go.aload C X at_442 (n := 444) rfl rfl rfl ?_
                        refine Go.iconst C X at_444 (n := 445) rfl (v := (0 : Int32)) rfl ?_
                        refine Go.ialoadL C X eT V_at_ (i := 0) rfl (v := .int x0) rfl at_445 (n := 446) rfl ?_
                        refine Go.i2l C X at_446 (n := 447) rfl ?_
                        refine Go.lload C X at_447 (n := 449) rfl rfl ?_
                        refine Go.lcmp C X at_449 (n := 450) rfl ?_
                        refine Go.lcmp_ne C X at_450 (n1 := 468) (n2 := 453) (by decide) (by decide) rfl (fun hc450 => ?_) (fun hc450 => ?_)
                        · exact absurd e0 hc450
                        · refine Go.aload C X at_453 (n := 455) rfl rfl rfl ?_
                          refine Go.iconst C X at_455 (n := 456) rfl (v := (1 : Int32)) rfl ?_
                          refine Go.ialoadL C X eT V_at_ (i := 1) rfl (v := .int x1) rfl at_456 (n := 457) rfl ?_
                          refine Go.i2l C X at_457 (n := 458) rfl ?_
                          refine Go.lload C X at_458 (n := 460) rfl rfl ?_
                          refine Go.lcmp C X at_460 (n := 461) rfl ?_
                          refine Go.lcmp_ne C X at_461 (n1 := 468) (n2 := 464) (by decide) (by decide) rfl (fun hc461 => ?_) (fun hc461 => ?_)
                          · exact absurd e1 hc461
                          · refine Go.iconst C X at_464 (n := 465) rfl (v := (1 : Int32)) rfl ?_
                            refine Go.goto C X at_465 (n := 469) (by decide) (by decide) ?_
                            refine Go.istore C X at_469 (n := 471) rfl (l' := #[.val (.int p0), .val (.int p1), .val (.int p2), .val (.int p3), .val (.int p4), .val (.int p5), .val (.int (2 : Int32)), .val (.int s0), .val (.int s1), .val (.int s2), .val (.int a0), .val (.int a1), .val (.int a2), .val (.long (1 : Int64)), .second, .val (.long (s0.toInt64)), .second, .val (.long (s1.toInt64)), .second, .val (.long (0 : Int64)), .second, .val (.long (a0.toInt64)), .second, .val (.long (a1.toInt64)), .second, .val (.long (((1 : Int64) * (s0.toInt64)) * (s1.toInt64))), .second, .val (.long (((((0 : Int64) * (s0.toInt64)) + (a0.toInt64)) * (s1.toInt64)) + (a1.toInt64))), .second, .val (.long ((((((0 : Int64) * (s0.toInt64)) + (a0.toInt64)) * (s1.toInt64)) + (a1.toInt64)) + (1 : Int64))), .second, .val (.int (0 : Int32)), .val (.long (0 : Int64)), .second, .val (.long ((0 : Int64) - ((0 : Int64) / (s1.toInt64)) * (s1.toInt64))), .second, .val (.long (((0 : Int64) / (s1.toInt64)) - (((0 : Int64) / (s1.toInt64)) / (s0.toInt64)) * (s0.toInt64))), .second, .val (.long ((0 : Int64) / ((s1.toInt64) * (s0.toInt64)))), .second, .val (.ref at_), .val (.ref sz_), .val (.int (0 : Int32)), .val (.int (1 : Int32))]) rfl ?_
                            refine Go.iload C X at_471 (n := 473) rfl rfl ?_
                            refine Go.if0_eq C X at_473 (n1 := 498) (n2 := 476) (by decide) (by decide) rfl (fun hc473 => ?_) (fun hc473 => ?_)
                            · exact absurd hc473 (by decide)
                            · refine Go.aload C X at_476 (n := 478) rfl rfl rfl ?_
                              refine Go.iconst C X at_478 (n := 479) rfl (v := (0 : Int32)) rfl ?_
                              refine Go.ialoadL C X eT V_sz_ (i := 0) rfl (v := .int s0) rfl at_479 (n := 480) rfl ?_
                              refine Go.iload C X at_480 (n := 482) rfl rfl ?_
                              refine Go.icmp_ne C X at_482 (n1 := 498) (n2 := 485) (by decide) (by decide) rfl (fun hc482 => ?_) (fun hc482 => ?_)
                              · exact absurd rfl hc482
                              · refine Go.aload C X at_485 (n := 487) rfl rfl rfl ?_
                                refine Go.iconst C X at_487 (n := 488) rfl (v := (1 : Int32)) rfl ?_
                                refine Go.ialoadL C X eT V_sz_ (i := 1) rfl (v := .int s1) rfl at_488 (n := 489) rfl ?_
                                refine Go.iload C X at_489 (n := 491) rfl rfl ?_
                                refine Go.icmp_ne C X at_491 (n1 := 498) (n2 := 494) (by decide) (by decide) rfl (fun hc491 => ?_) (fun hc491 => ?_)
                                · exact absurd rfl hc491
                                · refine Go.iconst C X at_494 (n := 495) rfl (v := (1 : Int32)) rfl ?_
                                  refine Go.goto C X at_495 (n := 499) (by decide) (by decide) ?_
                                  refine Go.istore C X at_499 (n := 501) rfl (l' := #[.val (.int p0), .val (.int p1), .val (.int p2), .val (.int p3), .val (.int p4), .val (.int p5), .val (.int (2 : Int32)), .val (.int s0), .val (.int s1), .val (.int s2), .val (.int a0), .val (.int a1), .val (.int a2), .val (.long (1 : Int64)), .second, .val (.long (s0.toInt64)), .second, .val (.long (s1.toInt64)), .second, .val (.long (0 : Int64)), .second, .val (.long (a0.toInt64)), .second, .val (.long (a1.toInt64)), .second, .val (.long (((1 : Int64) * (s0.toInt64)) * (s1.toInt64))), .second, .val (.long (((((0 : Int64) * (s0.toInt64)) + (a0.toInt64)) * (s1.toInt64)) + (a1.toInt64))), .second, .val (.long ((((((0 : Int64) * (s0.toInt64)) + (a0.toInt64)) * (s1.toInt64)) + (a1.toInt64)) + (1 : Int64))), .second, .val (.int (0 : Int32)), .val (.long (0 : Int64)), .second, .val (.long ((0 : Int64) - ((0 : Int64) / (s1.toInt64)) * (s1.toInt64))), .second, .val (.long (((0 : Int64) / (s1.toInt64)) - (((0 : Int64) / (s1.toInt64)) / (s0.toInt64)) * (s0.toInt64))), .second, .val (.long ((0 : Int64) / ((s1.toInt64) * (s0.toInt64)))), .second, .val (.ref at_), .val (.ref sz_), .val (.int (0 : Int32)), .val (.int (1 : Int32))]) rfl ?_
                                  refine Go.goto C X at_501 (n := 554) (by decide) (by decide) ?_
                                  refine Go.iload C X at_554 (n := 556) rfl rfl ?_
                                  refine Go.retN C X eT (Or.inl rfl) (w := (1 : Int32)) (by decide) at_556 (by decide) (by decide) ?_
                                  exact ⟨rfl, N⟩
                  · exact absurd hc341 (by decide)
              · exact absurd hc300 (by decide)
        · exact absurd hc212 (by decide)
      · refine Go.iconst C X at_203 (n := 204) rfl (v := (1 : Int32)) rfl ?_
        refine Go.goto C X at_204 (n := 208) (by decide) (by decide) ?_
        refine Go.istore C X at_208 (n := 210) rfl (l' := #[.val (.int p0), .val (.int p1), .val (.int p2), .val (.int p3), .val (.int p4), .val (.int p5), .val (.int (2 : Int32)), .val (.int s0), .val (.int s1), .val (.int s2), .val (.int a0), .val (.int a1), .val (.int a2), .val (.long (1 : Int64)), .second, .val (.long (s0.toInt64)), .second, .val (.long (s1.toInt64)), .second, .val (.long (0 : Int64)), .second, .val (.long (a0.toInt64)), .second, .val (.long (a1.toInt64)), .second, .val (.long (((1 : Int64) * (s0.toInt64)) * (s1.toInt64))), .second, .val (.long (((((0 : Int64) * (s0.toInt64)) + (a0.toInt64)) * (s1.toInt64)) + (a1.toInt64))), .second, .val (.long ((((((0 : Int64) * (s0.toInt64)) + (a0.toInt64)) * (s1.toInt64)) + (a1.toInt64)) + (1 : Int64))), .second, .val (.int (1 : Int32)), .unset, .unset, .unset, .unset, .unset, .unset, .unset, .unset, .unset, .unset, .unset, .unset]) rfl ?_
        refine Go.iload C X at_210 (n := 212) rfl rfl ?_
        refine Go.if0_eq C X at_212 (n1 := 220) (n2 := 215) (by decide) (by decide) rfl (fun hc212 => ?_) (fun hc212 => ?_)
        · exact absurd hc212 (by decide)
        · refine Go.lload C X at_215 (n := 217) rfl rfl ?_
          refine Go.goto C X at_217 (n := 221) (by decide) (by decide) ?_
          refine Go.lstore C X at_221 (n := 223) rfl (l' := #[.val (.int p0), .val (.int p1), .val (.int p2), .val (.int p3), .val (.int p4), .val (.int p5), .val (.int (2 : Int32)), .val (.int s0), .val (.int s1), .val (.int s2), .val (.int a0), .val (.int a1), .val (.int a2), .val (.long (1 : Int64)), .second, .val (.long (s0.toInt64)), .second, .val (.long (s1.toInt64)), .second, .val (.long (0 : Int64)), .second, .val (.long (a0.toInt64)), .second, .val (.long (a1.toInt64)), .second, .val (.long (((1 : Int64) * (s0.toInt64)) * (s1.toInt64))), .second, .val (.long (((((0 : Int64) * (s0.toInt64)) + (a0.toInt64)) * (s1.toInt64)) + (a1.toInt64))), .second, .val (.long ((((((0 : Int64) * (s0.toInt64)) + (a0.toInt64)) * (s1.toInt64)) + (a1.toInt64)) + (1 : Int64))), .second, .val (.int (1 : Int32)), .val (.long ((((((0 : Int64) * (s0.toInt64)) + (a0.toInt64)) * (s1.toInt64)) + (a1.toInt64)) + (1 : Int64))), .second, .unset, .unset, .unset, .unset, .unset, .unset, .unset, .unset, .unset, .unset]) rfl ?_
          refine Go.lload C X at_223 (n := 225) rfl rfl ?_
          refine Go.lload C X at_225 (n := 227) rfl rfl ?_
          refine Go.lrem C X at_227 (n := 228) rfl zs1 ?_
          refine Go.lstore C X at_228 (n := 230) rfl (l' := #[.val (.int p0), .val (.int p1), .val (.int p2), .val (.int p3), .val (.int p4), .val (.int p5), .val (.int (2 : Int32)), .val (.int s0), .val (.int s1), .val (.int s2), .val (.int a0), .val (.int a1), .val (.int a2), .val (.long (1 : Int64)), .second, .val (.long (s0.toInt64)), .second, .val (.long (s1.toInt64)), .second, .val (.long (0 : Int64)), .second, .val (.long (a0.toInt64)), .second, .val (.long (a1.toInt64)), .second, .val (.long (((1 : Int64) * (s0.toInt64)) * (s1.toInt64))), .second, .val (.long (((((0 : Int64) * (s0.toInt64)) + (a0.toInt64)) * (s1.toInt64)) + (a1.toInt64))), .second, .val (.long ((((((0 : Int64) * (s0.toInt64)) + (a0.toInt64)) * (s1.toInt64)) + (a1.toInt64)) + (1 : Int64))), .second, .val (.int (1 : Int32)), .val (.long ((((((0 : Int64) * (s0.toInt64)) + (a0.toInt64)) * (s1.toInt64)) + (a1.toInt64)) + (1 : Int64))), .second, .val (.long (((((((0 : Int64) * (s0.toInt64)) + (a0.toInt64)) * (s1.toInt64)) + (a1.toInt64)) + (1 : Int64)) - (((((((0 : Int64) * (s0.toInt64)) + (a0.toInt64)) * (s1.toInt64)) + (a1.toInt64)) + (1 : Int64)) / (s1.toInt64)) * (s1.toInt64))), .second, .unset, .unset, .unset, .unset, .unset, .unset, .unset, .unset]) rfl ?_
          refine Go.lload C X at_230 (n := 232) rfl rfl ?_
          refine Go.lload C X at_232 (n := 234) rfl rfl ?_
          refine Go.ldiv C X at_234 (n := 235) rfl zs1 ?_
          refine Go.lload C X at_235 (n := 237) rfl rfl ?_
          refine Go.lrem C X at_237 (n := 238) rfl zs0 ?_
          refine Go.lstore C X at_238 (n := 240) rfl (l' := #[.val (.int p0), .val (.int p1), .val (.int p2), .val (.int p3), .val (.int p4), .val (.int p5), .val (.int (2 : Int32)), .val (.int s0), .val (.int s1), .val (.int s2), .val (.int a0), .val (.int a1), .val (.int a2), .val (.long (1 : Int64)), .second, .val (.long (s0.toInt64)), .second, .val (.long (s1.toInt64)), .second, .val (.long (0 : Int64)), .second, .val (.long (a0.toInt64)), .second, .val (.long (a1.toInt64)), .second, .val (.long (((1 : Int64) * (s0.toInt64)) * (s1.toInt64))), .second, .val (.long (((((0 : Int64) * (s0.toInt64)) + (a0.toInt64)) * (s1.toInt64)) + (a1.toInt64))), .second, .val (.long ((((((0 : Int64) * (s0.toInt64)) + (a0.toInt64)) * (s1.toInt64)) + (a1.toInt64)) + (1 : Int64))), .second, .val (.int (1 : Int32)), .val (.long ((((((0 : Int64) * (s0.toInt64)) + (a0.toInt64)) * (s1.toInt64)) + (a1.toInt64)) + (1 : Int64))), .second, .val (.long (((((((0 : Int64) * (s0.toInt64)) + (a0.toInt64)) * (s1.toInt64)) + (a1.toInt64)) + (1 : Int64)) - (((((((0 : Int64) * (s0.toInt64)) + (a0.toInt64)) * (s1.toInt64)) + (a1.toInt64)) + (1 : Int64)) / (s1.toInt64)) * (s1.toInt64))), .second, .val (.long ((((((((0 : Int64) * (s0.toInt64)) + (a0.toInt64)) * (s1.toInt64)) + (a1.toInt64)) + (1 : Int64)) / (s1.toInt64)) - ((((((((0 : Int64) * (s0.toInt64)) + (a0.toInt64)) * (s1.toInt64)) + (a1.toInt64)) + (1 : Int64)) / (s1.toInt64)) / (s0.toInt64)) * (s0.toInt64))), .second, .unset, .unset, .unset, .unset, .unset, .unset]) rfl ?_
          refine Go.lload C X at_240 (n := 242) rfl rfl ?_
          refine Go.lload C X at_242 (n := 244) rfl rfl ?_
          refine Go.lload C X at_244 (n := 246) rfl rfl ?_
          refine Go.lmul C X at_246 (n := 247) rfl ?_
          refine Go.ldiv C X at_247 (n := 248) rfl (own_mulnz ks1 ks0) ?_
          refine Go.lstore C X at_248 (n := 250) rfl (l' := #[.val (.int p0), .val (.int p1), .val (.int p2), .val (.int p3), .val (.int p4), .val (.int p5), .val (.int (2 : Int32)), .val (.int s0), .val (.int s1), .val (.int s2), .val (.int a0), .val (.int a1), .val (.int a2), .val (.long (1 : Int64)), .second, .val (.long (s0.toInt64)), .second, .val (.long (s1.toInt64)), .second, .val (.long (0 : Int64)), .second, .val (.long (a0.toInt64)), .second, .val (.long (a1.toInt64)), .second, .val (.long (((1 : Int64) * (s0.toInt64)) * (s1.toInt64))), .second, .val (.long (((((0 : Int64) * (s0.toInt64)) + (a0.toInt64)) * (s1.toInt64)) + (a1.toInt64))), .second, .val (.long ((((((0 : Int64) * (s0.toInt64)) + (a0.toInt64)) * (s1.toInt64)) + (a1.toInt64)) + (1 : Int64))), .second, .val (.int (1 : Int32)), .val (.long ((((((0 : Int64) * (s0.toInt64)) + (a0.toInt64)) * (s1.toInt64)) + (a1.toInt64)) + (1 : Int64))), .second, .val (.long (((((((0 : Int64) * (s0.toInt64)) + (a0.toInt64)) * (s1.toInt64)) + (a1.toInt64)) + (1 : Int64)) - (((((((0 : Int64) * (s0.toInt64)) + (a0.toInt64)) * (s1.toInt64)) + (a1.toInt64)) + (1 : Int64)) / (s1.toInt64)) * (s1.toInt64))), .second, .val (.long ((((((((0 : Int64) * (s0.toInt64)) + (a0.toInt64)) * (s1.toInt64)) + (a1.toInt64)) + (1 : Int64)) / (s1.toInt64)) - ((((((((0 : Int64) * (s0.toInt64)) + (a0.toInt64)) * (s1.toInt64)) + (a1.toInt64)) + (1 : Int64)) / (s1.toInt64)) / (s0.toInt64)) * (s0.toInt64))), .second, .val (.long (((((((0 : Int64) * (s0.toInt64)) + (a0.toInt64)) * (s1.toInt64)) + (a1.toInt64)) + (1 : Int64)) / ((s1.toInt64) * (s0.toInt64)))), .second, .unset, .unset, .unset, .unset]) rfl ?_
          refine Go.iload C X at_250 (n := 252) rfl rfl ?_
          refine Go.newL C X eT (wd hw 2 rfl) (i := 2) rfl (cap := 2) (by decide) at_252 (n := 254) rfl (by decide) (by decide) (by decide) ?_
          clear X eT
          intro T h at_ z_at_ X eT E V_at_
          have g_at_ : n0 ≤ at_ := by rw [z_at_]; exact O.le
          replace O := O.ext E
          replace V_at_ : Arl Z h at_ .int [.int (0 : Int32), .int (0 : Int32)] := V_at_
          refine Go.astore C X at_254 (n := 256) rfl rfl (l' := #[.val (.int p0), .val (.int p1), .val (.int p2), .val (.int p3), .val (.int p4), .val (.int p5), .val (.int (2 : Int32)), .val (.int s0), .val (.int s1), .val (.int s2), .val (.int a0), .val (.int a1), .val (.int a2), .val (.long (1 : Int64)), .second, .val (.long (s0.toInt64)), .second, .val (.long (s1.toInt64)), .second, .val (.long (0 : Int64)), .second, .val (.long (a0.toInt64)), .second, .val (.long (a1.toInt64)), .second, .val (.long (((1 : Int64) * (s0.toInt64)) * (s1.toInt64))), .second, .val (.long (((((0 : Int64) * (s0.toInt64)) + (a0.toInt64)) * (s1.toInt64)) + (a1.toInt64))), .second, .val (.long ((((((0 : Int64) * (s0.toInt64)) + (a0.toInt64)) * (s1.toInt64)) + (a1.toInt64)) + (1 : Int64))), .second, .val (.int (1 : Int32)), .val (.long ((((((0 : Int64) * (s0.toInt64)) + (a0.toInt64)) * (s1.toInt64)) + (a1.toInt64)) + (1 : Int64))), .second, .val (.long (((((((0 : Int64) * (s0.toInt64)) + (a0.toInt64)) * (s1.toInt64)) + (a1.toInt64)) + (1 : Int64)) - (((((((0 : Int64) * (s0.toInt64)) + (a0.toInt64)) * (s1.toInt64)) + (a1.toInt64)) + (1 : Int64)) / (s1.toInt64)) * (s1.toInt64))), .second, .val (.long ((((((((0 : Int64) * (s0.toInt64)) + (a0.toInt64)) * (s1.toInt64)) + (a1.toInt64)) + (1 : Int64)) / (s1.toInt64)) - ((((((((0 : Int64) * (s0.toInt64)) + (a0.toInt64)) * (s1.toInt64)) + (a1.toInt64)) + (1 : Int64)) / (s1.toInt64)) / (s0.toInt64)) * (s0.toInt64))), .second, .val (.long (((((((0 : Int64) * (s0.toInt64)) + (a0.toInt64)) * (s1.toInt64)) + (a1.toInt64)) + (1 : Int64)) / ((s1.toInt64) * (s0.toInt64)))), .second, .val (.ref at_), .unset, .unset, .unset]) rfl ?_
          refine Go.iload C X at_256 (n := 258) rfl rfl ?_
          refine Go.newL C X eT (wd hw 2 rfl) (i := 2) rfl (cap := 2) (by decide) at_258 (n := 260) rfl (by decide) (by decide) (by decide) ?_
          clear X eT
          intro T h sz_ z_sz_ X eT E V_sz_
          have ne_at__sz_ : at_ ≠ sz_ := Nat.ne_of_lt (Nat.lt_of_lt_of_le V_at_.lt (Nat.le_of_eq z_sz_.symm))
          have g_sz_ : n0 ≤ sz_ := by rw [z_sz_]; exact O.le
          replace O := O.ext E
          replace V_at_ := V_at_.ext E
          replace V_sz_ : Arl Z h sz_ .int [.int (0 : Int32), .int (0 : Int32)] := V_sz_
          refine Go.astore C X at_260 (n := 262) rfl rfl (l' := #[.val (.int p0), .val (.int p1), .val (.int p2), .val (.int p3), .val (.int p4), .val (.int p5), .val (.int (2 : Int32)), .val (.int s0), .val (.int s1), .val (.int s2), .val (.int a0), .val (.int a1), .val (.int a2), .val (.long (1 : Int64)), .second, .val (.long (s0.toInt64)), .second, .val (.long (s1.toInt64)), .second, .val (.long (0 : Int64)), .second, .val (.long (a0.toInt64)), .second, .val (.long (a1.toInt64)), .second, .val (.long (((1 : Int64) * (s0.toInt64)) * (s1.toInt64))), .second, .val (.long (((((0 : Int64) * (s0.toInt64)) + (a0.toInt64)) * (s1.toInt64)) + (a1.toInt64))), .second, .val (.long ((((((0 : Int64) * (s0.toInt64)) + (a0.toInt64)) * (s1.toInt64)) + (a1.toInt64)) + (1 : Int64))), .second, .val (.int (1 : Int32)), .val (.long ((((((0 : Int64) * (s0.toInt64)) + (a0.toInt64)) * (s1.toInt64)) + (a1.toInt64)) + (1 : Int64))), .second, .val (.long (((((((0 : Int64) * (s0.toInt64)) + (a0.toInt64)) * (s1.toInt64)) + (a1.toInt64)) + (1 : Int64)) - (((((((0 : Int64) * (s0.toInt64)) + (a0.toInt64)) * (s1.toInt64)) + (a1.toInt64)) + (1 : Int64)) / (s1.toInt64)) * (s1.toInt64))), .second, .val (.long ((((((((0 : Int64) * (s0.toInt64)) + (a0.toInt64)) * (s1.toInt64)) + (a1.toInt64)) + (1 : Int64)) / (s1.toInt64)) - ((((((((0 : Int64) * (s0.toInt64)) + (a0.toInt64)) * (s1.toInt64)) + (a1.toInt64)) + (1 : Int64)) / (s1.toInt64)) / (s0.toInt64)) * (s0.toInt64))), .second, .val (.long (((((((0 : Int64) * (s0.toInt64)) + (a0.toInt64)) * (s1.toInt64)) + (a1.toInt64)) + (1 : Int64)) / ((s1.toInt64) * (s0.toInt64)))), .second, .val (.ref at_), .val (.ref sz_), .unset, .unset]) rfl ?_
          refine Go.iload C X at_262 (n := 264) rfl rfl ?_
          refine Go.if0_le C X at_264 (n1 := 279) (n2 := 267) (by decide) (by decide) rfl (fun hc264 => ?_) (fun hc264 => ?_)
          · exact absurd hc264 (by decide)
          · refine Go.aload C X at_267 (n := 269) rfl rfl rfl ?_
            refine Go.iconst C X at_269 (n := 270) rfl (v := (0 : Int32)) rfl ?_
            refine Go.iload C X at_270 (n := 272) rfl rfl ?_
            refine Go.iastoreL C X eT V_at_ (i := 0) rfl (by simp) at_272 (n := 273) rfl ?_
            clear X eT
            intro T h X eT W V_new
            replace O := O.wr W g_at_
            replace V_sz_ := V_sz_.other W (Ne.symm ne_at__sz_)
            clear V_at_
            have V_at_ : Arl Z h at_ .int [.int a0, .int (0 : Int32)] := V_new
            clear V_new
            replace N := Fr.snoc X N g_at_
            refine Go.aload C X at_273 (n := 275) rfl rfl rfl ?_
            refine Go.iconst C X at_275 (n := 276) rfl (v := (0 : Int32)) rfl ?_
            refine Go.iload C X at_276 (n := 278) rfl rfl ?_
            refine Go.iastoreL C X eT V_sz_ (i := 0) rfl (by simp) at_278 (n := 279) rfl ?_
            clear X eT
            intro T h X eT W V_new
            replace O := O.wr W g_sz_
            replace V_at_ := V_at_.other W ne_at__sz_
            clear V_sz_
            have V_sz_ : Arl Z h sz_ .int [.int s0, .int (0 : Int32)] := V_new
            clear V_new
            replace N := Fr.snoc X N g_sz_
            refine Go.iload C X at_279 (n := 281) rfl rfl ?_
            refine Go.iconst C X at_281 (n := 282) rfl (v := (1 : Int32)) rfl ?_
            refine Go.icmp_le C X at_282 (n1 := 297) (n2 := 285) (by decide) (by decide) rfl (fun hc282 => ?_) (fun hc282 => ?_)
            · exact absurd hc282 (by decide)
            · refine Go.aload C X at_285 (n := 287) rfl rfl rfl ?_
              refine Go.iconst C X at_287 (n := 288) rfl (v := (1 : Int32)) rfl ?_
              refine Go.iload C X at_288 (n := 290) rfl rfl ?_
              refine Go.iastoreL C X eT V_at_ (i := 1) rfl (by simp) at_290 (n := 291) rfl ?_
              clear X eT
              intro T h X eT W V_new
              replace O := O.wr W g_at_
              replace V_sz_ := V_sz_.other W (Ne.symm ne_at__sz_)
              clear V_at_
              have V_at_ : Arl Z h at_ .int [.int a0, .int a1] := V_new
              clear V_new
              replace N := Fr.snoc X N g_at_
              refine Go.aload C X at_291 (n := 293) rfl rfl rfl ?_
              refine Go.iconst C X at_293 (n := 294) rfl (v := (1 : Int32)) rfl ?_
              refine Go.iload C X at_294 (n := 296) rfl rfl ?_
              refine Go.iastoreL C X eT V_sz_ (i := 1) rfl (by simp) at_296 (n := 297) rfl ?_
              clear X eT
              intro T h X eT W V_new
              replace O := O.wr W g_sz_
              replace V_at_ := V_at_.other W ne_at__sz_
              clear V_sz_
              have V_sz_ : Arl Z h sz_ .int [.int s0, .int s1] := V_new
              clear V_new
              replace N := Fr.snoc X N g_sz_
              refine Go.iload C X at_297 (n := 299) rfl rfl ?_
              refine Go.iconst C X at_299 (n := 300) rfl (v := (2 : Int32)) rfl ?_
              refine Go.icmp_le C X at_300 (n1 := 315) (n2 := 303) (by decide) (by decide) rfl (fun hc300 => ?_) (fun hc300 => ?_)
              · refine Go.aload C X at_315 (n := 317) rfl rfl rfl ?_
                refine Go.aload C X at_317 (n := 319) rfl rfl rfl ?_
                obtain ⟨r, xs', hq⟩ : ∃ r xs', advK 2 [a0, a1] [s0, s1] = (r, xs') := ⟨_, _, rfl⟩
                refine Go.stat C X eT (argsL := [(.ref at_), (.ref sz_)]) (rest := []) (rm1 l Z a0' hw n0 _ at_ sz_ [a0, a1] [s0, s1] (2 : Int32) r xs' g_at_ ne_at__sz_ rfl rfl hq V_at_ V_sz_) (wd hw 3 rfl) (wd hw 4 rfl) (wd hw 5 rfl) (wd hw 6 rfl) (by decide) (lenOf pd_0 rfl) rfl at_319 (n := 322) rfl rfl (by decide) (W := 0) rfl (by decide) (by decide) (by decide) ?_
                clear X eT
                intro T h v L X eT hQ
                obtain ⟨rfl, Nq, KK, V_at_⟩ := hQ
                replace N := N.app Nq
                replace O := O.keep KK (allS g_at_ all0)
                replace V_sz_ := V_sz_.keep KK (ninS (Ne.symm ne_at__sz_) nin0)
                show Go p e below _ (T.setTop (mkF m 322 #[.val (.int p0), .val (.int p1), .val (.int p2), .val (.int p3), .val (.int p4), .val (.int p5), .val (.int (2 : Int32)), .val (.int s0), .val (.int s1), .val (.int s2), .val (.int a0), .val (.int a1), .val (.int a2), .val (.long (1 : Int64)), .second, .val (.long (s0.toInt64)), .second, .val (.long (s1.toInt64)), .second, .val (.long (0 : Int64)), .second, .val (.long (a0.toInt64)), .second, .val (.long (a1.toInt64)), .second, .val (.long (((1 : Int64) * (s0.toInt64)) * (s1.toInt64))), .second, .val (.long (((((0 : Int64) * (s0.toInt64)) + (a0.toInt64)) * (s1.toInt64)) + (a1.toInt64))), .second, .val (.long ((((((0 : Int64) * (s0.toInt64)) + (a0.toInt64)) * (s1.toInt64)) + (a1.toInt64)) + (1 : Int64))), .second, .val (.int (1 : Int32)), .val (.long ((((((0 : Int64) * (s0.toInt64)) + (a0.toInt64)) * (s1.toInt64)) + (a1.toInt64)) + (1 : Int64))), .second, .val (.long (((((((0 : Int64) * (s0.toInt64)) + (a0.toInt64)) * (s1.toInt64)) + (a1.toInt64)) + (1 : Int64)) - (((((((0 : Int64) * (s0.toInt64)) + (a0.toInt64)) * (s1.toInt64)) + (a1.toInt64)) + (1 : Int64)) / (s1.toInt64)) * (s1.toInt64))), .second, .val (.long ((((((((0 : Int64) * (s0.toInt64)) + (a0.toInt64)) * (s1.toInt64)) + (a1.toInt64)) + (1 : Int64)) / (s1.toInt64)) - ((((((((0 : Int64) * (s0.toInt64)) + (a0.toInt64)) * (s1.toInt64)) + (a1.toInt64)) + (1 : Int64)) / (s1.toInt64)) / (s0.toInt64)) * (s0.toInt64))), .second, .val (.long (((((((0 : Int64) * (s0.toInt64)) + (a0.toInt64)) * (s1.toInt64)) + (a1.toInt64)) + (1 : Int64)) / ((s1.toInt64) * (s0.toInt64)))), .second, .val (.ref at_), .val (.ref sz_), .unset, .unset] [(.int r)]))
                obtain ⟨hr, hl, he⟩ := plain2m ks0 ka0 ks1 ka1 hq hc200
                subst hr
                obtain ⟨e0, e1⟩ := he
                obtain ⟨x0, x1, rfl⟩ := own_list2 hl
                simp only [List.getD_cons_zero, List.getD_cons_succ] at e0 e1
                show Go p e below _ (T.setTop (mkF m 322 #[.val (.int p0), .val (.int p1), .val (.int p2), .val (.int p3), .val (.int p4), .val (.int p5), .val (.int (2 : Int32)), .val (.int s0), .val (.int s1), .val (.int s2), .val (.int a0), .val (.int a1), .val (.int a2), .val (.long (1 : Int64)), .second, .val (.long (s0.toInt64)), .second, .val (.long (s1.toInt64)), .second, .val (.long (0 : Int64)), .second, .val (.long (a0.toInt64)), .second, .val (.long (a1.toInt64)), .second, .val (.long (((1 : Int64) * (s0.toInt64)) * (s1.toInt64))), .second, .val (.long (((((0 : Int64) * (s0.toInt64)) + (a0.toInt64)) * (s1.toInt64)) + (a1.toInt64))), .second, .val (.long ((((((0 : Int64) * (s0.toInt64)) + (a0.toInt64)) * (s1.toInt64)) + (a1.toInt64)) + (1 : Int64))), .second, .val (.int (1 : Int32)), .val (.long ((((((0 : Int64) * (s0.toInt64)) + (a0.toInt64)) * (s1.toInt64)) + (a1.toInt64)) + (1 : Int64))), .second, .val (.long (((((((0 : Int64) * (s0.toInt64)) + (a0.toInt64)) * (s1.toInt64)) + (a1.toInt64)) + (1 : Int64)) - (((((((0 : Int64) * (s0.toInt64)) + (a0.toInt64)) * (s1.toInt64)) + (a1.toInt64)) + (1 : Int64)) / (s1.toInt64)) * (s1.toInt64))), .second, .val (.long ((((((((0 : Int64) * (s0.toInt64)) + (a0.toInt64)) * (s1.toInt64)) + (a1.toInt64)) + (1 : Int64)) / (s1.toInt64)) - ((((((((0 : Int64) * (s0.toInt64)) + (a0.toInt64)) * (s1.toInt64)) + (a1.toInt64)) + (1 : Int64)) / (s1.toInt64)) / (s0.toInt64)) * (s0.toInt64))), .second, .val (.long (((((((0 : Int64) * (s0.toInt64)) + (a0.toInt64)) * (s1.toInt64)) + (a1.toInt64)) + (1 : Int64)) / ((s1.toInt64) * (s0.toInt64)))), .second, .val (.ref at_), .val (.ref sz_), .unset, .unset] [(.int (1 : Int32))]))
                refine Go.istore C X at_322 (n := 324) rfl (l' := #[.val (.int p0), .val (.int p1), .val (.int p2), .val (.int p3), .val (.int p4), .val (.int p5), .val (.int (2 : Int32)), .val (.int s0), .val (.int s1), .val (.int s2), .val (.int a0), .val (.int a1), .val (.int a2), .val (.long (1 : Int64)), .second, .val (.long (s0.toInt64)), .second, .val (.long (s1.toInt64)), .second, .val (.long (0 : Int64)), .second, .val (.long (a0.toInt64)), .second, .val (.long (a1.toInt64)), .second, .val (.long (((1 : Int64) * (s0.toInt64)) * (s1.toInt64))), .second, .val (.long (((((0 : Int64) * (s0.toInt64)) + (a0.toInt64)) * (s1.toInt64)) + (a1.toInt64))), .second, .val (.long ((((((0 : Int64) * (s0.toInt64)) + (a0.toInt64)) * (s1.toInt64)) + (a1.toInt64)) + (1 : Int64))), .second, .val (.int (1 : Int32)), .val (.long ((((((0 : Int64) * (s0.toInt64)) + (a0.toInt64)) * (s1.toInt64)) + (a1.toInt64)) + (1 : Int64))), .second, .val (.long (((((((0 : Int64) * (s0.toInt64)) + (a0.toInt64)) * (s1.toInt64)) + (a1.toInt64)) + (1 : Int64)) - (((((((0 : Int64) * (s0.toInt64)) + (a0.toInt64)) * (s1.toInt64)) + (a1.toInt64)) + (1 : Int64)) / (s1.toInt64)) * (s1.toInt64))), .second, .val (.long ((((((((0 : Int64) * (s0.toInt64)) + (a0.toInt64)) * (s1.toInt64)) + (a1.toInt64)) + (1 : Int64)) / (s1.toInt64)) - ((((((((0 : Int64) * (s0.toInt64)) + (a0.toInt64)) * (s1.toInt64)) + (a1.toInt64)) + (1 : Int64)) / (s1.toInt64)) / (s0.toInt64)) * (s0.toInt64))), .second, .val (.long (((((((0 : Int64) * (s0.toInt64)) + (a0.toInt64)) * (s1.toInt64)) + (a1.toInt64)) + (1 : Int64)) / ((s1.toInt64) * (s0.toInt64)))), .second, .val (.ref at_), .val (.ref sz_), .val (.int (1 : Int32)), .unset]) rfl ?_
                refine Go.iload C X at_324 (n := 326) rfl rfl ?_
                refine Go.iload C X at_326 (n := 328) rfl rfl ?_
                refine Go.icmp_ne C X at_328 (n1 := 335) (n2 := 331) (by decide) (by decide) rfl (fun hc328 => ?_) (fun hc328 => ?_)
                · exact absurd hc328 (by decide)
                · refine Go.iconst C X at_331 (n := 332) rfl (v := (1 : Int32)) rfl ?_
                  refine Go.goto C X at_332 (n := 336) (by decide) (by decide) ?_
                  refine Go.istore C X at_336 (n := 338) rfl (l' := #[.val (.int p0), .val (.int p1), .val (.int p2), .val (.int p3), .val (.int p4), .val (.int p5), .val (.int (2 : Int32)), .val (.int s0), .val (.int s1), .val (.int s2), .val (.int a0), .val (.int a1), .val (.int a2), .val (.long (1 : Int64)), .second, .val (.long (s0.toInt64)), .second, .val (.long (s1.toInt64)), .second, .val (.long (0 : Int64)), .second, .val (.long (a0.toInt64)), .second, .val (.long (a1.toInt64)), .second, .val (.long (((1 : Int64) * (s0.toInt64)) * (s1.toInt64))), .second, .val (.long (((((0 : Int64) * (s0.toInt64)) + (a0.toInt64)) * (s1.toInt64)) + (a1.toInt64))), .second, .val (.long ((((((0 : Int64) * (s0.toInt64)) + (a0.toInt64)) * (s1.toInt64)) + (a1.toInt64)) + (1 : Int64))), .second, .val (.int (1 : Int32)), .val (.long ((((((0 : Int64) * (s0.toInt64)) + (a0.toInt64)) * (s1.toInt64)) + (a1.toInt64)) + (1 : Int64))), .second, .val (.long (((((((0 : Int64) * (s0.toInt64)) + (a0.toInt64)) * (s1.toInt64)) + (a1.toInt64)) + (1 : Int64)) - (((((((0 : Int64) * (s0.toInt64)) + (a0.toInt64)) * (s1.toInt64)) + (a1.toInt64)) + (1 : Int64)) / (s1.toInt64)) * (s1.toInt64))), .second, .val (.long ((((((((0 : Int64) * (s0.toInt64)) + (a0.toInt64)) * (s1.toInt64)) + (a1.toInt64)) + (1 : Int64)) / (s1.toInt64)) - ((((((((0 : Int64) * (s0.toInt64)) + (a0.toInt64)) * (s1.toInt64)) + (a1.toInt64)) + (1 : Int64)) / (s1.toInt64)) / (s0.toInt64)) * (s0.toInt64))), .second, .val (.long (((((((0 : Int64) * (s0.toInt64)) + (a0.toInt64)) * (s1.toInt64)) + (a1.toInt64)) + (1 : Int64)) / ((s1.toInt64) * (s0.toInt64)))), .second, .val (.ref at_), .val (.ref sz_), .val (.int (1 : Int32)), .val (.int (1 : Int32))]) rfl ?_
                  refine Go.iload C X at_338 (n := 340) rfl rfl ?_
                  refine Go.iconst C X at_340 (n := 341) rfl (v := (3 : Int32)) rfl ?_
                  refine Go.icmp_ne C X at_341 (n1 := 431) (n2 := 344) (by decide) (by decide) rfl (fun hc341 => ?_) (fun hc341 => ?_)
                  · refine Go.iload C X at_431 (n := 433) rfl rfl ?_
                    refine Go.iconst C X at_433 (n := 434) rfl (v := (2 : Int32)) rfl ?_
                    refine Go.icmp_ne C X at_434 (n1 := 504) (n2 := 437) (by decide) (by decide) rfl (fun hc434 => ?_) (fun hc434 => ?_)
                    · exact absurd hc434 (by decide)
                    · refine Go.iload C X at_437 (n := 439) rfl rfl ?_
                      refine Go.if0_eq C X at_439 (n1 := 468) (n2 := 442) (by decide) (by decide) rfl (fun hc439 => ?_) (fun hc439 => ?_)
                      · exact absurd hc439 (by decide)
                      · refine Go.aload C X at_442 (n := 444) rfl rfl rfl ?_
                        refine Go.iconst C X at_444 (n := 445) rfl (v := (0 : Int32)) rfl ?_
                        refine Go.ialoadL C X eT V_at_ (i := 0) rfl (v := .int x0) rfl at_445 (n := 446) rfl ?_
                        refine Go.i2l C X at_446 (n := 447) rfl ?_
                        refine Go.lload C X at_447 (n := 449) rfl rfl ?_
                        refine Go.lcmp C X at_449 (n := 450) rfl ?_
                        refine Go.lcmp_ne C X at_450 (n1 := 468) (n2 := 453) (by decide) (by decide) rfl (fun hc450 => ?_) (fun hc450 => ?_)
                        · exact absurd e0 hc450
                        · refine Go.aload C X at_453 (n := 455) rfl rfl rfl ?_
                          refine Go.iconst C X at_455 (n := 456) rfl (v := (1 : Int32)) rfl ?_
                          refine Go.ialoadL C X eT V_at_ (i := 1) rfl (v := .int x1) rfl at_456 (n := 457) rfl ?_
                          refine Go.i2l C X at_457 (n := 458) rfl ?_
                          refine Go.lload C X at_458 (n := 460) rfl rfl ?_
                          refine Go.lcmp C X at_460 (n := 461) rfl ?_
                          refine Go.lcmp_ne C X at_461 (n1 := 468) (n2 := 464) (by decide) (by decide) rfl (fun hc461 => ?_) (fun hc461 => ?_)
                          · exact absurd e1 hc461
                          · refine Go.iconst C X at_464 (n := 465) rfl (v := (1 : Int32)) rfl ?_
                            refine Go.goto C X at_465 (n := 469) (by decide) (by decide) ?_
                            refine Go.istore C X at_469 (n := 471) rfl (l' := #[.val (.int p0), .val (.int p1), .val (.int p2), .val (.int p3), .val (.int p4), .val (.int p5), .val (.int (2 : Int32)), .val (.int s0), .val (.int s1), .val (.int s2), .val (.int a0), .val (.int a1), .val (.int a2), .val (.long (1 : Int64)), .second, .val (.long (s0.toInt64)), .second, .val (.long (s1.toInt64)), .second, .val (.long (0 : Int64)), .second, .val (.long (a0.toInt64)), .second, .val (.long (a1.toInt64)), .second, .val (.long (((1 : Int64) * (s0.toInt64)) * (s1.toInt64))), .second, .val (.long (((((0 : Int64) * (s0.toInt64)) + (a0.toInt64)) * (s1.toInt64)) + (a1.toInt64))), .second, .val (.long ((((((0 : Int64) * (s0.toInt64)) + (a0.toInt64)) * (s1.toInt64)) + (a1.toInt64)) + (1 : Int64))), .second, .val (.int (1 : Int32)), .val (.long ((((((0 : Int64) * (s0.toInt64)) + (a0.toInt64)) * (s1.toInt64)) + (a1.toInt64)) + (1 : Int64))), .second, .val (.long (((((((0 : Int64) * (s0.toInt64)) + (a0.toInt64)) * (s1.toInt64)) + (a1.toInt64)) + (1 : Int64)) - (((((((0 : Int64) * (s0.toInt64)) + (a0.toInt64)) * (s1.toInt64)) + (a1.toInt64)) + (1 : Int64)) / (s1.toInt64)) * (s1.toInt64))), .second, .val (.long ((((((((0 : Int64) * (s0.toInt64)) + (a0.toInt64)) * (s1.toInt64)) + (a1.toInt64)) + (1 : Int64)) / (s1.toInt64)) - ((((((((0 : Int64) * (s0.toInt64)) + (a0.toInt64)) * (s1.toInt64)) + (a1.toInt64)) + (1 : Int64)) / (s1.toInt64)) / (s0.toInt64)) * (s0.toInt64))), .second, .val (.long (((((((0 : Int64) * (s0.toInt64)) + (a0.toInt64)) * (s1.toInt64)) + (a1.toInt64)) + (1 : Int64)) / ((s1.toInt64) * (s0.toInt64)))), .second, .val (.ref at_), .val (.ref sz_), .val (.int (1 : Int32)), .val (.int (1 : Int32))]) rfl ?_
                            refine Go.iload C X at_471 (n := 473) rfl rfl ?_
                            refine Go.if0_eq C X at_473 (n1 := 498) (n2 := 476) (by decide) (by decide) rfl (fun hc473 => ?_) (fun hc473 => ?_)
                            · exact absurd hc473 (by decide)
                            · refine Go.aload C X at_476 (n := 478) rfl rfl rfl ?_
                              refine Go.iconst C X at_478 (n := 479) rfl (v := (0 : Int32)) rfl ?_
                              refine Go.ialoadL C X eT V_sz_ (i := 0) rfl (v := .int s0) rfl at_479 (n := 480) rfl ?_
                              refine Go.iload C X at_480 (n := 482) rfl rfl ?_
                              refine Go.icmp_ne C X at_482 (n1 := 498) (n2 := 485) (by decide) (by decide) rfl (fun hc482 => ?_) (fun hc482 => ?_)
                              · exact absurd rfl hc482
                              · refine Go.aload C X at_485 (n := 487) rfl rfl rfl ?_
                                refine Go.iconst C X at_487 (n := 488) rfl (v := (1 : Int32)) rfl ?_
                                refine Go.ialoadL C X eT V_sz_ (i := 1) rfl (v := .int s1) rfl at_488 (n := 489) rfl ?_
                                refine Go.iload C X at_489 (n := 491) rfl rfl ?_
                                refine Go.icmp_ne C X at_491 (n1 := 498) (n2 := 494) (by decide) (by decide) rfl (fun hc491 => ?_) (fun hc491 => ?_)
                                · exact absurd rfl hc491
                                · refine Go.iconst C X at_494 (n := 495) rfl (v := (1 : Int32)) rfl ?_
                                  refine Go.goto C X at_495 (n := 499) (by decide) (by decide) ?_
                                  refine Go.istore C X at_499 (n := 501) rfl (l' := #[.val (.int p0), .val (.int p1), .val (.int p2), .val (.int p3), .val (.int p4), .val (.int p5), .val (.int (2 : Int32)), .val (.int s0), .val (.int s1), .val (.int s2), .val (.int a0), .val (.int a1), .val (.int a2), .val (.long (1 : Int64)), .second, .val (.long (s0.toInt64)), .second, .val (.long (s1.toInt64)), .second, .val (.long (0 : Int64)), .second, .val (.long (a0.toInt64)), .second, .val (.long (a1.toInt64)), .second, .val (.long (((1 : Int64) * (s0.toInt64)) * (s1.toInt64))), .second, .val (.long (((((0 : Int64) * (s0.toInt64)) + (a0.toInt64)) * (s1.toInt64)) + (a1.toInt64))), .second, .val (.long ((((((0 : Int64) * (s0.toInt64)) + (a0.toInt64)) * (s1.toInt64)) + (a1.toInt64)) + (1 : Int64))), .second, .val (.int (1 : Int32)), .val (.long ((((((0 : Int64) * (s0.toInt64)) + (a0.toInt64)) * (s1.toInt64)) + (a1.toInt64)) + (1 : Int64))), .second, .val (.long (((((((0 : Int64) * (s0.toInt64)) + (a0.toInt64)) * (s1.toInt64)) + (a1.toInt64)) + (1 : Int64)) - (((((((0 : Int64) * (s0.toInt64)) + (a0.toInt64)) * (s1.toInt64)) + (a1.toInt64)) + (1 : Int64)) / (s1.toInt64)) * (s1.toInt64))), .second, .val (.long ((((((((0 : Int64) * (s0.toInt64)) + (a0.toInt64)) * (s1.toInt64)) + (a1.toInt64)) + (1 : Int64)) / (s1.toInt64)) - ((((((((0 : Int64) * (s0.toInt64)) + (a0.toInt64)) * (s1.toInt64)) + (a1.toInt64)) + (1 : Int64)) / (s1.toInt64)) / (s0.toInt64)) * (s0.toInt64))), .second, .val (.long (((((((0 : Int64) * (s0.toInt64)) + (a0.toInt64)) * (s1.toInt64)) + (a1.toInt64)) + (1 : Int64)) / ((s1.toInt64) * (s0.toInt64)))), .second, .val (.ref at_), .val (.ref sz_), .val (.int (1 : Int32)), .val (.int (1 : Int32))]) rfl ?_
                                  refine Go.goto C X at_501 (n := 554) (by decide) (by decide) ?_
                                  refine Go.iload C X at_554 (n := 556) rfl rfl ?_
                                  refine Go.retN C X eT (Or.inl rfl) (w := (1 : Int32)) (by decide) at_556 (by decide) (by decide) ?_
                                  exact ⟨rfl, N⟩
                  · exact absurd hc341 (by decide)
              · exact absurd hc300 (by decide)
  · exact absurd hc82 (by decide)
set_option maxRecDepth 65536 in
set_option maxHeartbeats 40000000 in
theorem seg61_3 {p : Program} {l : Launch} {e : Env} {s : State} {m : MethodId} {args : Array Value} {below : List Frame} {meth : Method} {c : Code} {Z : State} {a0' : Array Value} {T : State} {h : Heap} {n0 : Nat} {locs : List Loc} (hw : ∀ d ∈ tables_1, d.before a0' Z = true) (C : Cx p s m meth c Z x.cls code maxLocals ret x.name) (X : Stand p l e room_1 s m args below meth c T locs 0 0) (eT : T.heap = h) (O : Old Z n0 h) (N : Fr n0 locs) {p0 p1 p2 p3 p4 p5 s0 s1 s2 a0 a1 a2 : Int32} (ks0 : 1 ≤ s0.toInt ∧ s0.toInt ≤ 2 ^ 20) (ks1 : 1 ≤ s1.toInt ∧ s1.toInt ≤ 2 ^ 20) (ks2 : 1 ≤ s2.toInt ∧ s2.toInt ≤ 2 ^ 20) (ka0 : 0 ≤ a0.toInt ∧ a0.toInt < s0.toInt) (ka1 : 0 ≤ a1.toInt ∧ a1.toInt < s1.toInt) (ka2 : 0 ≤ a2.toInt ∧ a2.toInt < s2.toInt) :
    Go p e below (EndQ s (fun v h L => v = some (.int 1) ∧ Fr n0 L) room_1.cells room_1.slots) (T.setTop (mkF m 61 #[.val (.int p0), .val (.int p1), .val (.int p2), .val (.int p3), .val (.int p4), .val (.int p5), .val (.int (3 : Int32)), .val (.int s0), .val (.int s1), .val (.int s2), .val (.int a0), .val (.int a1), .val (.int a2), .unset, .unset, .unset, .unset, .unset, .unset, .unset, .unset, .unset, .unset, .unset, .unset, .unset, .unset, .unset, .unset, .unset, .unset, .unset, .unset, .unset, .unset, .unset, .unset, .unset, .unset, .unset, .unset, .unset, .unset, .unset] [])) := by
  have zs0 := own_nz ks0
  have zs1 := own_nz ks1
  have zs2 := own_nz ks2
  show Go p e below _ (T.setTop (mkF m 61 #[.val (.int p0), .val (.int p1), .val (.int p2), .val (.int p3), .val (.int p4), .val (.int p5), .val (.int (3 : Int32)), .val (.int s0), .val (.int s1), .val (.int s2), .val (.int a0), .val (.int a1), .val (.int a2), .unset, .unset, .unset, .unset, .unset, .unset, .unset, .unset, .unset, .unset, .unset, .unset, .unset, .unset, .unset, .unset, .unset, .unset, .unset, .unset, .unset, .unset, .unset, .unset, .unset, .unset, .unset, .unset, .unset, .unset, .unset] []))
  refine Go.lconst C X at_61 (n := 62) rfl (v := (1 : Int64)) rfl ?_
  refine Go.lstore C X at_62 (n := 64) rfl (l' := #[.val (.int p0), .val (.int p1), .val (.int p2), .val (.int p3), .val (.int p4), .val (.int p5), .val (.int (3 : Int32)), .val (.int s0), .val (.int s1), .val (.int s2), .val (.int a0), .val (.int a1), .val (.int a2), .val (.long (1 : Int64)), .second, .unset, .unset, .unset, .unset, .unset, .unset, .unset, .unset, .unset, .unset, .unset, .unset, .unset, .unset, .unset, .unset, .unset, .unset, .unset, .unset, .unset, .unset, .unset, .unset, .unset, .unset, .unset, .unset, .unset]) rfl ?_
  refine Go.lconst C X at_64 (n := 65) rfl (v := (1 : Int64)) rfl ?_
  refine Go.lstore C X at_65 (n := 67) rfl (l' := #[.val (.int p0), .val (.int p1), .val (.int p2), .val (.int p3), .val (.int p4), .val (.int p5), .val (.int (3 : Int32)), .val (.int s0), .val (.int s1), .val (.int s2), .val (.int a0), .val (.int a1), .val (.int a2), .val (.long (1 : Int64)), .second, .val (.long (1 : Int64)), .second, .unset, .unset, .unset, .unset, .unset, .unset, .unset, .unset, .unset, .unset, .unset, .unset, .unset, .unset, .unset, .unset, .unset, .unset, .unset, .unset, .unset, .unset, .unset, .unset, .unset, .unset, .unset]) rfl ?_
  refine Go.lconst C X at_67 (n := 68) rfl (v := (1 : Int64)) rfl ?_
  refine Go.lstore C X at_68 (n := 70) rfl (l' := #[.val (.int p0), .val (.int p1), .val (.int p2), .val (.int p3), .val (.int p4), .val (.int p5), .val (.int (3 : Int32)), .val (.int s0), .val (.int s1), .val (.int s2), .val (.int a0), .val (.int a1), .val (.int a2), .val (.long (1 : Int64)), .second, .val (.long (1 : Int64)), .second, .val (.long (1 : Int64)), .second, .unset, .unset, .unset, .unset, .unset, .unset, .unset, .unset, .unset, .unset, .unset, .unset, .unset, .unset, .unset, .unset, .unset, .unset, .unset, .unset, .unset, .unset, .unset, .unset, .unset]) rfl ?_
  refine Go.lconst C X at_70 (n := 71) rfl (v := (0 : Int64)) rfl ?_
  refine Go.lstore C X at_71 (n := 73) rfl (l' := #[.val (.int p0), .val (.int p1), .val (.int p2), .val (.int p3), .val (.int p4), .val (.int p5), .val (.int (3 : Int32)), .val (.int s0), .val (.int s1), .val (.int s2), .val (.int a0), .val (.int a1), .val (.int a2), .val (.long (1 : Int64)), .second, .val (.long (1 : Int64)), .second, .val (.long (1 : Int64)), .second, .val (.long (0 : Int64)), .second, .unset, .unset, .unset, .unset, .unset, .unset, .unset, .unset, .unset, .unset, .unset, .unset, .unset, .unset, .unset, .unset, .unset, .unset, .unset, .unset, .unset, .unset, .unset]) rfl ?_
  refine Go.lconst C X at_73 (n := 74) rfl (v := (0 : Int64)) rfl ?_
  refine Go.lstore C X at_74 (n := 76) rfl (l' := #[.val (.int p0), .val (.int p1), .val (.int p2), .val (.int p3), .val (.int p4), .val (.int p5), .val (.int (3 : Int32)), .val (.int s0), .val (.int s1), .val (.int s2), .val (.int a0), .val (.int a1), .val (.int a2), .val (.long (1 : Int64)), .second, .val (.long (1 : Int64)), .second, .val (.long (1 : Int64)), .second, .val (.long (0 : Int64)), .second, .val (.long (0 : Int64)), .second, .unset, .unset, .unset, .unset, .unset, .unset, .unset, .unset, .unset, .unset, .unset, .unset, .unset, .unset, .unset, .unset, .unset, .unset, .unset, .unset, .unset]) rfl ?_
  refine Go.lconst C X at_76 (n := 77) rfl (v := (0 : Int64)) rfl ?_
  refine Go.lstore C X at_77 (n := 79) rfl (l' := #[.val (.int p0), .val (.int p1), .val (.int p2), .val (.int p3), .val (.int p4), .val (.int p5), .val (.int (3 : Int32)), .val (.int s0), .val (.int s1), .val (.int s2), .val (.int a0), .val (.int a1), .val (.int a2), .val (.long (1 : Int64)), .second, .val (.long (1 : Int64)), .second, .val (.long (1 : Int64)), .second, .val (.long (0 : Int64)), .second, .val (.long (0 : Int64)), .second, .val (.long (0 : Int64)), .second, .unset, .unset, .unset, .unset, .unset, .unset, .unset, .unset, .unset, .unset, .unset, .unset, .unset, .unset, .unset, .unset, .unset, .unset, .unset]) rfl ?_
  refine Go.iload C X at_79 (n := 81) rfl rfl ?_
  refine Go.iconst C X at_81 (n := 82) rfl (v := (3 : Int32)) rfl ?_
  refine Go.icmp_ne C X at_82 (n1 := 118) (n2 := 85) (by decide) (by decide) rfl (fun hc82 => ?_) (fun hc82 => ?_)
  · exact absurd hc82 (by decide)
  · refine Go.iload C X at_85 (n := 87) rfl rfl ?_
    refine Go.i2l C X at_87 (n := 88) rfl ?_
    refine Go.lstore C X at_88 (n := 90) rfl (l' := #[.val (.int p0), .val (.int p1), .val (.int p2), .val (.int p3), .val (.int p4), .val (.int p5), .val (.int (3 : Int32)), .val (.int s0), .val (.int s1), .val (.int s2), .val (.int a0), .val (.int a1), .val (.int a2), .val (.long (s0.toInt64)), .second, .val (.long (1 : Int64)), .second, .val (.long (1 : Int64)), .second, .val (.long (0 : Int64)), .second, .val (.long (0 : Int64)), .second, .val (.long (0 : Int64)), .second, .unset, .unset, .unset, .unset, .unset, .unset, .unset, .unset, .unset, .unset, .unset, .unset, .unset, .unset, .unset, .unset, .unset, .unset, .unset]) rfl ?_
    refine Go.iload C X at_90 (n := 92) rfl rfl ?_
    refine Go.i2l C X at_92 (n := 93) rfl ?_
    refine Go.lstore C X at_93 (n := 95) rfl (l' := #[.val (.int p0), .val (.int p1), .val (.int p2), .val (.int p3), .val (.int p4), .val (.int p5), .val (.int (3 : Int32)), .val (.int s0), .val (.int s1), .val (.int s2), .val (.int a0), .val (.int a1), .val (.int a2), .val (.long (s0.toInt64)), .second, .val (.long (s1.toInt64)), .second, .val (.long (1 : Int64)), .second, .val (.long (0 : Int64)), .second, .val (.long (0 : Int64)), .second, .val (.long (0 : Int64)), .second, .unset, .unset, .unset, .unset, .unset, .unset, .unset, .unset, .unset, .unset, .unset, .unset, .unset, .unset, .unset, .unset, .unset, .unset, .unset]) rfl ?_
    refine Go.iload C X at_95 (n := 97) rfl rfl ?_
    refine Go.i2l C X at_97 (n := 98) rfl ?_
    refine Go.lstore C X at_98 (n := 100) rfl (l' := #[.val (.int p0), .val (.int p1), .val (.int p2), .val (.int p3), .val (.int p4), .val (.int p5), .val (.int (3 : Int32)), .val (.int s0), .val (.int s1), .val (.int s2), .val (.int a0), .val (.int a1), .val (.int a2), .val (.long (s0.toInt64)), .second, .val (.long (s1.toInt64)), .second, .val (.long (s2.toInt64)), .second, .val (.long (0 : Int64)), .second, .val (.long (0 : Int64)), .second, .val (.long (0 : Int64)), .second, .unset, .unset, .unset, .unset, .unset, .unset, .unset, .unset, .unset, .unset, .unset, .unset, .unset, .unset, .unset, .unset, .unset, .unset, .unset]) rfl ?_
    refine Go.iload C X at_100 (n := 102) rfl rfl ?_
    refine Go.i2l C X at_102 (n := 103) rfl ?_
    refine Go.lstore C X at_103 (n := 105) rfl (l' := #[.val (.int p0), .val (.int p1), .val (.int p2), .val (.int p3), .val (.int p4), .val (.int p5), .val (.int (3 : Int32)), .val (.int s0), .val (.int s1), .val (.int s2), .val (.int a0), .val (.int a1), .val (.int a2), .val (.long (s0.toInt64)), .second, .val (.long (s1.toInt64)), .second, .val (.long (s2.toInt64)), .second, .val (.long (a0.toInt64)), .second, .val (.long (0 : Int64)), .second, .val (.long (0 : Int64)), .second, .unset, .unset, .unset, .unset, .unset, .unset, .unset, .unset, .unset, .unset, .unset, .unset, .unset, .unset, .unset, .unset, .unset, .unset, .unset]) rfl ?_
    refine Go.iload C X at_105 (n := 107) rfl rfl ?_
    refine Go.i2l C X at_107 (n := 108) rfl ?_
    refine Go.lstore C X at_108 (n := 110) rfl (l' := #[.val (.int p0), .val (.int p1), .val (.int p2), .val (.int p3), .val (.int p4), .val (.int p5), .val (.int (3 : Int32)), .val (.int s0), .val (.int s1), .val (.int s2), .val (.int a0), .val (.int a1), .val (.int a2), .val (.long (s0.toInt64)), .second, .val (.long (s1.toInt64)), .second, .val (.long (s2.toInt64)), .second, .val (.long (a0.toInt64)), .second, .val (.long (a1.toInt64)), .second, .val (.long (0 : Int64)), .second, .unset, .unset, .unset, .unset, .unset, .unset, .unset, .unset, .unset, .unset, .unset, .unset, .unset, .unset, .unset, .unset, .unset, .unset, .unset]) rfl ?_
    refine Go.iload C X at_110 (n := 112) rfl rfl ?_
    refine Go.i2l C X at_112 (n := 113) rfl ?_
    refine Go.lstore C X at_113 (n := 115) rfl (l' := #[.val (.int p0), .val (.int p1), .val (.int p2), .val (.int p3), .val (.int p4), .val (.int p5), .val (.int (3 : Int32)), .val (.int s0), .val (.int s1), .val (.int s2), .val (.int a0), .val (.int a1), .val (.int a2), .val (.long (s0.toInt64)), .second, .val (.long (s1.toInt64)), .second, .val (.long (s2.toInt64)), .second, .val (.long (a0.toInt64)), .second, .val (.long (a1.toInt64)), .second, .val (.long (a2.toInt64)), .second, .unset, .unset, .unset, .unset, .unset, .unset, .unset, .unset, .unset, .unset, .unset, .unset, .unset, .unset, .unset, .unset, .unset, .unset, .unset]) rfl ?_
    refine Go.goto C X at_115 (n := 163) (by decide) (by decide) ?_
    refine Go.lload C X at_163 (n := 165) rfl rfl ?_
    refine Go.lload C X at_165 (n := 167) rfl rfl ?_
    refine Go.lmul C X at_167 (n := 168) rfl ?_
    refine Go.lload C X at_168 (n := 170) rfl rfl ?_
    refine Go.lmul C X at_170 (n := 171) rfl ?_
    refine Go.lstore C X at_171 (n := 173) rfl (l' := #[.val (.int p0), .val (.int p1), .val (.int p2), .val (.int p3), .val (.int p4), .val (.int p5), .val (.int (3 : Int32)), .val (.int s0), .val (.int s1), .val (.int s2), .val (.int a0), .val (.int a1), .val (.int a2), .val (.long (s0.toInt64)), .second, .val (.long (s1.toInt64)), .second, .val (.long (s2.toInt64)), .second, .val (.long (a0.toInt64)), .second, .val (.long (a1.toInt64)), .second, .val (.long (a2.toInt64)), .second, .val (.long (((s0.toInt64) * (s1.toInt64)) * (s2.toInt64))), .second, .unset, .unset, .unset, .unset, .unset, .unset, .unset, .unset, .unset, .unset, .unset, .unset, .unset, .unset, .unset, .unset, .unset]) rfl ?_
    refine Go.lload C X at_173 (n := 175) rfl rfl ?_
    refine Go.lload C X at_175 (n := 177) rfl rfl ?_
    refine Go.lmul C X at_177 (n := 178) rfl ?_
    refine Go.lload C X at_178 (n := 180) rfl rfl ?_
    refine Go.ladd C X at_180 (n := 181) rfl ?_
    refine Go.lload C X at_181 (n := 183) rfl rfl ?_
    refine Go.lmul C X at_183 (n := 184) rfl ?_
    refine Go.lload C X at_184 (n := 186) rfl rfl ?_
    refine Go.ladd C X at_186 (n := 187) rfl ?_
    refine Go.lstore C X at_187 (n := 189) rfl (l' := #[.val (.int p0), .val (.int p1), .val (.int p2), .val (.int p3), .val (.int p4), .val (.int p5), .val (.int (3 : Int32)), .val (.int s0), .val (.int s1), .val (.int s2), .val (.int a0), .val (.int a1), .val (.int a2), .val (.long (s0.toInt64)), .second, .val (.long (s1.toInt64)), .second, .val (.long (s2.toInt64)), .second, .val (.long (a0.toInt64)), .second, .val (.long (a1.toInt64)), .second, .val (.long (a2.toInt64)), .second, .val (.long (((s0.toInt64) * (s1.toInt64)) * (s2.toInt64))), .second, .val (.long (((((a0.toInt64) * (s1.toInt64)) + (a1.toInt64)) * (s2.toInt64)) + (a2.toInt64))), .second, .unset, .unset, .unset, .unset, .unset, .unset, .unset, .unset, .unset, .unset, .unset, .unset, .unset, .unset, .unset]) rfl ?_
    refine Go.lload C X at_189 (n := 191) rfl rfl ?_
    refine Go.lconst C X at_191 (n := 192) rfl (v := (1 : Int64)) rfl ?_
    refine Go.ladd C X at_192 (n := 193) rfl ?_
    refine Go.lstore C X at_193 (n := 195) rfl (l' := #[.val (.int p0), .val (.int p1), .val (.int p2), .val (.int p3), .val (.int p4), .val (.int p5), .val (.int (3 : Int32)), .val (.int s0), .val (.int s1), .val (.int s2), .val (.int a0), .val (.int a1), .val (.int a2), .val (.long (s0.toInt64)), .second, .val (.long (s1.toInt64)), .second, .val (.long (s2.toInt64)), .second, .val (.long (a0.toInt64)), .second, .val (.long (a1.toInt64)), .second, .val (.long (a2.toInt64)), .second, .val (.long (((s0.toInt64) * (s1.toInt64)) * (s2.toInt64))), .second, .val (.long (((((a0.toInt64) * (s1.toInt64)) + (a1.toInt64)) * (s2.toInt64)) + (a2.toInt64))), .second, .val (.long ((((((a0.toInt64) * (s1.toInt64)) + (a1.toInt64)) * (s2.toInt64)) + (a2.toInt64)) + (1 : Int64))), .second, .unset, .unset, .unset, .unset, .unset, .unset, .unset, .unset, .unset, .unset, .unset, .unset, .unset]) rfl ?_
    refine Go.lload C X at_195 (n := 197) rfl rfl ?_
    refine Go.lload C X at_197 (n := 199) rfl rfl ?_
    refine Go.lcmp C X at_199 (n := 200) rfl ?_
    refine Go.lcmp_ge C X at_200 (n1 := 207) (n2 := 203) (by decide) (by decide) rfl (fun hc200 => ?_) (fun hc200 => ?_)
    · refine Go.iconst C X at_207 (n := 208) rfl (v := (0 : Int32)) rfl ?_
      refine Go.istore C X at_208 (n := 210) rfl (l' := #[.val (.int p0), .val (.int p1), .val (.int p2), .val (.int p3), .val (.int p4), .val (.int p5), .val (.int (3 : Int32)), .val (.int s0), .val (.int s1), .val (.int s2), .val (.int a0), .val (.int a1), .val (.int a2), .val (.long (s0.toInt64)), .second, .val (.long (s1.toInt64)), .second, .val (.long (s2.toInt64)), .second, .val (.long (a0.toInt64)), .second, .val (.long (a1.toInt64)), .second, .val (.long (a2.toInt64)), .second, .val (.long (((s0.toInt64) * (s1.toInt64)) * (s2.toInt64))), .second, .val (.long (((((a0.toInt64) * (s1.toInt64)) + (a1.toInt64)) * (s2.toInt64)) + (a2.toInt64))), .second, .val (.long ((((((a0.toInt64) * (s1.toInt64)) + (a1.toInt64)) * (s2.toInt64)) + (a2.toInt64)) + (1 : Int64))), .second, .val (.int (0 : Int32)), .unset, .unset, .unset, .unset, .unset, .unset, .unset, .unset, .unset, .unset, .unset, .unset]) rfl ?_
      refine Go.iload C X at_210 (n := 212) rfl rfl ?_
      refine Go.if0_eq C X at_212 (n1 := 220) (n2 := 215) (by decide) (by decide) rfl (fun hc212 => ?_) (fun hc212 => ?_)
      · refine Go.lconst C X at_220 (n := 221) rfl (v := (0 : Int64)) rfl ?_
        refine Go.lstore C X at_221 (n := 223) rfl (l' := #[.val (.int p0), .val (.int p1), .val (.int p2), .val (.int p3), .val (.int p4), .val (.int p5), .val (.int (3 : Int32)), .val (.int s0), .val (.int s1), .val (.int s2), .val (.int a0), .val (.int a1), .val (.int a2), .val (.long (s0.toInt64)), .second, .val (.long (s1.toInt64)), .second, .val (.long (s2.toInt64)), .second, .val (.long (a0.toInt64)), .second, .val (.long (a1.toInt64)), .second, .val (.long (a2.toInt64)), .second, .val (.long (((s0.toInt64) * (s1.toInt64)) * (s2.toInt64))), .second, .val (.long (((((a0.toInt64) * (s1.toInt64)) + (a1.toInt64)) * (s2.toInt64)) + (a2.toInt64))), .second, .val (.long ((((((a0.toInt64) * (s1.toInt64)) + (a1.toInt64)) * (s2.toInt64)) + (a2.toInt64)) + (1 : Int64))), .second, .val (.int (0 : Int32)), .val (.long (0 : Int64)), .second, .unset, .unset, .unset, .unset, .unset, .unset, .unset, .unset, .unset, .unset]) rfl ?_
        refine Go.lload C X at_223 (n := 225) rfl rfl ?_
        refine Go.lload C X at_225 (n := 227) rfl rfl ?_
        refine Go.lrem C X at_227 (n := 228) rfl zs2 ?_
        refine Go.lstore C X at_228 (n := 230) rfl (l' := #[.val (.int p0), .val (.int p1), .val (.int p2), .val (.int p3), .val (.int p4), .val (.int p5), .val (.int (3 : Int32)), .val (.int s0), .val (.int s1), .val (.int s2), .val (.int a0), .val (.int a1), .val (.int a2), .val (.long (s0.toInt64)), .second, .val (.long (s1.toInt64)), .second, .val (.long (s2.toInt64)), .second, .val (.long (a0.toInt64)), .second, .val (.long (a1.toInt64)), .second, .val (.long (a2.toInt64)), .second, .val (.long (((s0.toInt64) * (s1.toInt64)) * (s2.toInt64))), .second, .val (.long (((((a0.toInt64) * (s1.toInt64)) + (a1.toInt64)) * (s2.toInt64)) + (a2.toInt64))), .second, .val (.long ((((((a0.toInt64) * (s1.toInt64)) + (a1.toInt64)) * (s2.toInt64)) + (a2.toInt64)) + (1 : Int64))), .second, .val (.int (0 : Int32)), .val (.long (0 : Int64)), .second, .val (.long ((0 : Int64) - ((0 : Int64) / (s2.toInt64)) * (s2.toInt64))), .second, .unset, .unset, .unset, .unset, .unset, .unset, .unset, .unset]) rfl ?_
        refine Go.lload C X at_230 (n := 232) rfl rfl ?_
        refine Go.lload C X at_232 (n := 234) rfl rfl ?_
        refine Go.ldiv C X at_234 (n := 235) rfl zs2 ?_
        refine Go.lload C X at_235 (n := 237) rfl rfl ?_
        refine Go.lrem C X at_237 (n := 238) rfl zs1 ?_
        refine Go.lstore C X at_238 (n := 240) rfl (l' := #[.val (.int p0), .val (.int p1), .val (.int p2), .val (.int p3), .val (.int p4), .val (.int p5), .val (.int (3 : Int32)), .val (.int s0), .val (.int s1), .val (.int s2), .val (.int a0), .val (.int a1), .val (.int a2), .val (.long (s0.toInt64)), .second, .val (.long (s1.toInt64)), .second, .val (.long (s2.toInt64)), .second, .val (.long (a0.toInt64)), .second, .val (.long (a1.toInt64)), .second, .val (.long (a2.toInt64)), .second, .val (.long (((s0.toInt64) * (s1.toInt64)) * (s2.toInt64))), .second, .val (.long (((((a0.toInt64) * (s1.toInt64)) + (a1.toInt64)) * (s2.toInt64)) + (a2.toInt64))), .second, .val (.long ((((((a0.toInt64) * (s1.toInt64)) + (a1.toInt64)) * (s2.toInt64)) + (a2.toInt64)) + (1 : Int64))), .second, .val (.int (0 : Int32)), .val (.long (0 : Int64)), .second, .val (.long ((0 : Int64) - ((0 : Int64) / (s2.toInt64)) * (s2.toInt64))), .second, .val (.long (((0 : Int64) / (s2.toInt64)) - (((0 : Int64) / (s2.toInt64)) / (s1.toInt64)) * (s1.toInt64))), .second, .unset, .unset, .unset, .unset, .unset, .unset]) rfl ?_
        refine Go.lload C X at_240 (n := 242) rfl rfl ?_
        refine Go.lload C X at_242 (n := 244) rfl rfl ?_
        refine Go.lload C X at_244 (n := 246) rfl rfl ?_
        refine Go.lmul C X at_246 (n := 247) rfl ?_
        refine Go.ldiv C X at_247 (n := 248) rfl (own_mulnz ks2 ks1) ?_
        refine Go.lstore C X at_248 (n := 250) rfl (l' := #[.val (.int p0), .val (.int p1), .val (.int p2), .val (.int p3), .val (.int p4), .val (.int p5), .val (.int (3 : Int32)), .val (.int s0), .val (.int s1), .val (.int s2), .val (.int a0), .val (.int a1), .val (.int a2), .val (.long (s0.toInt64)), .second, .val (.long (s1.toInt64)), .second, .val (.long (s2.toInt64)), .second, .val (.long (a0.toInt64)), .second, .val (.long (a1.toInt64)), .second, .val (.long (a2.toInt64)), .second, .val (.long (((s0.toInt64) * (s1.toInt64)) * (s2.toInt64))), .second, .val (.long (((((a0.toInt64) * (s1.toInt64)) + (a1.toInt64)) * (s2.toInt64)) + (a2.toInt64))), .second, .val (.long ((((((a0.toInt64) * (s1.toInt64)) + (a1.toInt64)) * (s2.toInt64)) + (a2.toInt64)) + (1 : Int64))), .second, .val (.int (0 : Int32)), .val (.long (0 : Int64)), .second, .val (.long ((0 : Int64) - ((0 : Int64) / (s2.toInt64)) * (s2.toInt64))), .second, .val (.long (((0 : Int64) / (s2.toInt64)) - (((0 : Int64) / (s2.toInt64)) / (s1.toInt64)) * (s1.toInt64))), .second, .val (.long ((0 : Int64) / ((s2.toInt64) * (s1.toInt64)))), .second, .unset, .unset, .unset, .unset]) rfl ?_
        refine Go.iload C X at_250 (n := 252) rfl rfl ?_
        refine Go.newL C X eT (wd hw 2 rfl) (i := 3) rfl (cap := 3) (by decide) at_252 (n := 254) rfl (by decide) (by decide) (by decide) ?_
        clear X eT
        intro T h at_ z_at_ X eT E V_at_
        have g_at_ : n0 ≤ at_ := by rw [z_at_]; exact O.le
        replace O := O.ext E
        replace V_at_ : Arl Z h at_ .int [.int (0 : Int32), .int (0 : Int32), .int (0 : Int32)] := V_at_
        refine Go.astore C X at_254 (n := 256) rfl rfl (l' := #[.val (.int p0), .val (.int p1), .val (.int p2), .val (.int p3), .val (.int p4), .val (.int p5), .val (.int (3 : Int32)), .val (.int s0), .val (.int s1), .val (.int s2), .val (.int a0), .val (.int a1), .val (.int a2), .val (.long (s0.toInt64)), .second, .val (.long (s1.toInt64)), .second, .val (.long (s2.toInt64)), .second, .val (.long (a0.toInt64)), .second, .val (.long (a1.toInt64)), .second, .val (.long (a2.toInt64)), .second, .val (.long (((s0.toInt64) * (s1.toInt64)) * (s2.toInt64))), .second, .val (.long (((((a0.toInt64) * (s1.toInt64)) + (a1.toInt64)) * (s2.toInt64)) + (a2.toInt64))), .second, .val (.long ((((((a0.toInt64) * (s1.toInt64)) + (a1.toInt64)) * (s2.toInt64)) + (a2.toInt64)) + (1 : Int64))), .second, .val (.int (0 : Int32)), .val (.long (0 : Int64)), .second, .val (.long ((0 : Int64) - ((0 : Int64) / (s2.toInt64)) * (s2.toInt64))), .second, .val (.long (((0 : Int64) / (s2.toInt64)) - (((0 : Int64) / (s2.toInt64)) / (s1.toInt64)) * (s1.toInt64))), .second, .val (.long ((0 : Int64) / ((s2.toInt64) * (s1.toInt64)))), .second, .val (.ref at_), .unset, .unset, .unset]) rfl ?_
        refine Go.iload C X at_256 (n := 258) rfl rfl ?_
        refine Go.newL C X eT (wd hw 2 rfl) (i := 3) rfl (cap := 3) (by decide) at_258 (n := 260) rfl (by decide) (by decide) (by decide) ?_
        clear X eT
        intro T h sz_ z_sz_ X eT E V_sz_
        have ne_at__sz_ : at_ ≠ sz_ := Nat.ne_of_lt (Nat.lt_of_lt_of_le V_at_.lt (Nat.le_of_eq z_sz_.symm))
        have g_sz_ : n0 ≤ sz_ := by rw [z_sz_]; exact O.le
        replace O := O.ext E
        replace V_at_ := V_at_.ext E
        replace V_sz_ : Arl Z h sz_ .int [.int (0 : Int32), .int (0 : Int32), .int (0 : Int32)] := V_sz_
        refine Go.astore C X at_260 (n := 262) rfl rfl (l' := #[.val (.int p0), .val (.int p1), .val (.int p2), .val (.int p3), .val (.int p4), .val (.int p5), .val (.int (3 : Int32)), .val (.int s0), .val (.int s1), .val (.int s2), .val (.int a0), .val (.int a1), .val (.int a2), .val (.long (s0.toInt64)), .second, .val (.long (s1.toInt64)), .second, .val (.long (s2.toInt64)), .second, .val (.long (a0.toInt64)), .second, .val (.long (a1.toInt64)), .second, .val (.long (a2.toInt64)), .second, .val (.long (((s0.toInt64) * (s1.toInt64)) * (s2.toInt64))), .second, .val (.long (((((a0.toInt64) * (s1.toInt64)) + (a1.toInt64)) * (s2.toInt64)) + (a2.toInt64))), .second, .val (.long ((((((a0.toInt64) * (s1.toInt64)) + (a1.toInt64)) * (s2.toInt64)) + (a2.toInt64)) + (1 : Int64))), .second, .val (.int (0 : Int32)), .val (.long (0 : Int64)), .second, .val (.long ((0 : Int64) - ((0 : Int64) / (s2.toInt64)) * (s2.toInt64))), .second, .val (.long (((0 : Int64) / (s2.toInt64)) - (((0 : Int64) / (s2.toInt64)) / (s1.toInt64)) * (s1.toInt64))), .second, .val (.long ((0 : Int64) / ((s2.toInt64) * (s1.toInt64)))), .second, .val (.ref at_), .val (.ref sz_), .unset, .unset]) rfl ?_
        refine Go.iload C X at_262 (n := 264) rfl rfl ?_
        refine Go.if0_le C X at_264 (n1 := 279) (n2 := 267) (by decide) (by decide) rfl (fun hc264 => ?_) (fun hc264 => ?_)
        · exact absurd hc264 (by decide)
        · refine Go.aload C X at_267 (n := 269) rfl rfl rfl ?_
          refine Go.iconst C X at_269 (n := 270) rfl (v := (0 : Int32)) rfl ?_
          refine Go.iload C X at_270 (n := 272) rfl rfl ?_
          refine Go.iastoreL C X eT V_at_ (i := 0) rfl (by simp) at_272 (n := 273) rfl ?_
          clear X eT
          intro T h X eT W V_new
          replace O := O.wr W g_at_
          replace V_sz_ := V_sz_.other W (Ne.symm ne_at__sz_)
          clear V_at_
          have V_at_ : Arl Z h at_ .int [.int a0, .int (0 : Int32), .int (0 : Int32)] := V_new
          clear V_new
          replace N := Fr.snoc X N g_at_
          refine Go.aload C X at_273 (n := 275) rfl rfl rfl ?_
          refine Go.iconst C X at_275 (n := 276) rfl (v := (0 : Int32)) rfl ?_
          refine Go.iload C X at_276 (n := 278) rfl rfl ?_
          refine Go.iastoreL C X eT V_sz_ (i := 0) rfl (by simp) at_278 (n := 279) rfl ?_
          clear X eT
          intro T h X eT W V_new
          replace O := O.wr W g_sz_
          replace V_at_ := V_at_.other W ne_at__sz_
          clear V_sz_
          have V_sz_ : Arl Z h sz_ .int [.int s0, .int (0 : Int32), .int (0 : Int32)] := V_new
          clear V_new
          replace N := Fr.snoc X N g_sz_
          refine Go.iload C X at_279 (n := 281) rfl rfl ?_
          refine Go.iconst C X at_281 (n := 282) rfl (v := (1 : Int32)) rfl ?_
          refine Go.icmp_le C X at_282 (n1 := 297) (n2 := 285) (by decide) (by decide) rfl (fun hc282 => ?_) (fun hc282 => ?_)
          · exact absurd hc282 (by decide)
          · refine Go.aload C X at_285 (n := 287) rfl rfl rfl ?_
            refine Go.iconst C X at_287 (n := 288) rfl (v := (1 : Int32)) rfl ?_
            refine Go.iload C X at_288 (n := 290) rfl rfl ?_
            refine Go.iastoreL C X eT V_at_ (i := 1) rfl (by simp) at_290 (n := 291) rfl ?_
            clear X eT
            intro T h X eT W V_new
            replace O := O.wr W g_at_
            replace V_sz_ := V_sz_.other W (Ne.symm ne_at__sz_)
            clear V_at_
            have V_at_ : Arl Z h at_ .int [.int a0, .int a1, .int (0 : Int32)] := V_new
            clear V_new
            replace N := Fr.snoc X N g_at_
            refine Go.aload C X at_291 (n := 293) rfl rfl rfl ?_
            refine Go.iconst C X at_293 (n := 294) rfl (v := (1 : Int32)) rfl ?_
            refine Go.iload C X at_294 (n := 296) rfl rfl ?_
            refine Go.iastoreL C X eT V_sz_ (i := 1) rfl (by simp) at_296 (n := 297) rfl ?_
            clear X eT
            intro T h X eT W V_new
            replace O := O.wr W g_sz_
            replace V_at_ := V_at_.other W ne_at__sz_
            clear V_sz_
            have V_sz_ : Arl Z h sz_ .int [.int s0, .int s1, .int (0 : Int32)] := V_new
            clear V_new
            replace N := Fr.snoc X N g_sz_
            refine Go.iload C X at_297 (n := 299) rfl rfl ?_
            refine Go.iconst C X at_299 (n := 300) rfl (v := (2 : Int32)) rfl ?_
            refine Go.icmp_le C X at_300 (n1 := 315) (n2 := 303) (by decide) (by decide) rfl (fun hc300 => ?_) (fun hc300 => ?_)
            · exact absurd hc300 (by decide)
            · refine Go.aload C X at_303 (n := 305) rfl rfl rfl ?_
              refine Go.iconst C X at_305 (n := 306) rfl (v := (2 : Int32)) rfl ?_
              refine Go.iload C X at_306 (n := 308) rfl rfl ?_
              refine Go.iastoreL C X eT V_at_ (i := 2) rfl (by simp) at_308 (n := 309) rfl ?_
              clear X eT
              intro T h X eT W V_new
              replace O := O.wr W g_at_
              replace V_sz_ := V_sz_.other W (Ne.symm ne_at__sz_)
              clear V_at_
              have V_at_ : Arl Z h at_ .int [.int a0, .int a1, .int a2] := V_new
              clear V_new
              replace N := Fr.snoc X N g_at_
              refine Go.aload C X at_309 (n := 311) rfl rfl rfl ?_
              refine Go.iconst C X at_311 (n := 312) rfl (v := (2 : Int32)) rfl ?_
              refine Go.iload C X at_312 (n := 314) rfl rfl ?_
              refine Go.iastoreL C X eT V_sz_ (i := 2) rfl (by simp) at_314 (n := 315) rfl ?_
              clear X eT
              intro T h X eT W V_new
              replace O := O.wr W g_sz_
              replace V_at_ := V_at_.other W ne_at__sz_
              clear V_sz_
              have V_sz_ : Arl Z h sz_ .int [.int s0, .int s1, .int s2] := V_new
              clear V_new
              replace N := Fr.snoc X N g_sz_
              refine Go.aload C X at_315 (n := 317) rfl rfl rfl ?_
              refine Go.aload C X at_317 (n := 319) rfl rfl rfl ?_
              obtain ⟨r, xs', hq⟩ : ∃ r xs', advK 3 [a0, a1, a2] [s0, s1, s2] = (r, xs') := ⟨_, _, rfl⟩
              refine Go.stat C X eT (argsL := [(.ref at_), (.ref sz_)]) (rest := []) (rm1 l Z a0' hw n0 _ at_ sz_ [a0, a1, a2] [s0, s1, s2] (3 : Int32) r xs' g_at_ ne_at__sz_ rfl rfl hq V_at_ V_sz_) (wd hw 3 rfl) (wd hw 4 rfl) (wd hw 5 rfl) (wd hw 6 rfl) (by decide) (lenOf pd_0 rfl) rfl at_319 (n := 322) rfl rfl (by decide) (W := 0) rfl (by decide) (by decide) (by decide) ?_
              clear X eT
              intro T h v L X eT hQ
              obtain ⟨rfl, Nq, KK, V_at_⟩ := hQ
              replace N := N.app Nq
              replace O := O.keep KK (allS g_at_ all0)
              replace V_sz_ := V_sz_.keep KK (ninS (Ne.symm ne_at__sz_) nin0)
              show Go p e below _ (T.setTop (mkF m 322 #[.val (.int p0), .val (.int p1), .val (.int p2), .val (.int p3), .val (.int p4), .val (.int p5), .val (.int (3 : Int32)), .val (.int s0), .val (.int s1), .val (.int s2), .val (.int a0), .val (.int a1), .val (.int a2), .val (.long (s0.toInt64)), .second, .val (.long (s1.toInt64)), .second, .val (.long (s2.toInt64)), .second, .val (.long (a0.toInt64)), .second, .val (.long (a1.toInt64)), .second, .val (.long (a2.toInt64)), .second, .val (.long (((s0.toInt64) * (s1.toInt64)) * (s2.toInt64))), .second, .val (.long (((((a0.toInt64) * (s1.toInt64)) + (a1.toInt64)) * (s2.toInt64)) + (a2.toInt64))), .second, .val (.long ((((((a0.toInt64) * (s1.toInt64)) + (a1.toInt64)) * (s2.toInt64)) + (a2.toInt64)) + (1 : Int64))), .second, .val (.int (0 : Int32)), .val (.long (0 : Int64)), .second, .val (.long ((0 : Int64) - ((0 : Int64) / (s2.toInt64)) * (s2.toInt64))), .second, .val (.long (((0 : Int64) / (s2.toInt64)) - (((0 : Int64) / (s2.toInt64)) / (s1.toInt64)) * (s1.toInt64))), .second, .val (.long ((0 : Int64) / ((s2.toInt64) * (s1.toInt64)))), .second, .val (.ref at_), .val (.ref sz_), .unset, .unset] [(.int r)]))
              obtain ⟨hr, hl, he⟩ := plain3n ks0 ka0 ks1 ka1 ks2 ka2 hq hc200
              subst hr
              obtain ⟨e0, e1, e2⟩ := he
              obtain ⟨x0, x1, x2, rfl⟩ := own_list3 hl
              simp only [List.getD_cons_zero, List.getD_cons_succ] at e0 e1 e2
              show Go p e below _ (T.setTop (mkF m 322 #[.val (.int p0), .val (.int p1), .val (.int p2), .val (.int p3), .val (.int p4), .val (.int p5), .val (.int (3 : Int32)), .val (.int s0), .val (.int s1), .val (.int s2), .val (.int a0), .val (.int a1), .val (.int a2), .val (.long (s0.toInt64)), .second, .val (.long (s1.toInt64)), .second, .val (.long (s2.toInt64)), .second, .val (.long (a0.toInt64)), .second, .val (.long (a1.toInt64)), .second, .val (.long (a2.toInt64)), .second, .val (.long (((s0.toInt64) * (s1.toInt64)) * (s2.toInt64))), .second, .val (.long (((((a0.toInt64) * (s1.toInt64)) + (a1.toInt64)) * (s2.toInt64)) + (a2.toInt64))), .second, .val (.long ((((((a0.toInt64) * (s1.toInt64)) + (a1.toInt64)) * (s2.toInt64)) + (a2.toInt64)) + (1 : Int64))), .second, .val (.int (0 : Int32)), .val (.long (0 : Int64)), .second, .val (.long ((0 : Int64) - ((0 : Int64) / (s2.toInt64)) * (s2.toInt64))), .second, .val (.long (((0 : Int64) / (s2.toInt64)) - (((0 : Int64) / (s2.toInt64)) / (s1.toInt64)) * (s1.toInt64))), .second, .val (.long ((0 : Int64) / ((s2.toInt64) * (s1.toInt64)))), .second, .val (.ref at_), .val (.ref sz_), .unset, .unset] [(.int (0 : Int32))]))
              refine Go.istore C X at_322 (n := 324) rfl (l' := #[.val (.int p0), .val (.int p1), .val (.int p2), .val (.int p3), .val (.int p4), .val (.int p5), .val (.int (3 : Int32)), .val (.int s0), .val (.int s1), .val (.int s2), .val (.int a0), .val (.int a1), .val (.int a2), .val (.long (s0.toInt64)), .second, .val (.long (s1.toInt64)), .second, .val (.long (s2.toInt64)), .second, .val (.long (a0.toInt64)), .second, .val (.long (a1.toInt64)), .second, .val (.long (a2.toInt64)), .second, .val (.long (((s0.toInt64) * (s1.toInt64)) * (s2.toInt64))), .second, .val (.long (((((a0.toInt64) * (s1.toInt64)) + (a1.toInt64)) * (s2.toInt64)) + (a2.toInt64))), .second, .val (.long ((((((a0.toInt64) * (s1.toInt64)) + (a1.toInt64)) * (s2.toInt64)) + (a2.toInt64)) + (1 : Int64))), .second, .val (.int (0 : Int32)), .val (.long (0 : Int64)), .second, .val (.long ((0 : Int64) - ((0 : Int64) / (s2.toInt64)) * (s2.toInt64))), .second, .val (.long (((0 : Int64) / (s2.toInt64)) - (((0 : Int64) / (s2.toInt64)) / (s1.toInt64)) * (s1.toInt64))), .second, .val (.long ((0 : Int64) / ((s2.toInt64) * (s1.toInt64)))), .second, .val (.ref at_), .val (.ref sz_), .val (.int (0 : Int32)), .unset]) rfl ?_
              refine Go.iload C X at_324 (n := 326) rfl rfl ?_
              refine Go.iload C X at_326 (n := 328) rfl rfl ?_
              refine Go.icmp_ne C X at_328 (n1 := 335) (n2 := 331) (by decide) (by decide) rfl (fun hc328 => ?_) (fun hc328 => ?_)
              · exact absurd hc328 (by decide)
              · refine Go.iconst C X at_331 (n := 332) rfl (v := (1 : Int32)) rfl ?_
                refine Go.goto C X at_332 (n := 336) (by decide) (by decide) ?_
                refine Go.istore C X at_336 (n := 338) rfl (l' := #[.val (.int p0), .val (.int p1), .val (.int p2), .val (.int p3), .val (.int p4), .val (.int p5), .val (.int (3 : Int32)), .val (.int s0), .val (.int s1), .val (.int s2), .val (.int a0), .val (.int a1), .val (.int a2), .val (.long (s0.toInt64)), .second, .val (.long (s1.toInt64)), .second, .val (.long (s2.toInt64)), .second, .val (.long (a0.toInt64)), .second, .val (.long (a1.toInt64)), .second, .val (.long (a2.toInt64)), .second, .val (.long (((s0.toInt64) * (s1.toInt64)) * (s2.toInt64))), .second, .val (.long (((((a0.toInt64) * (s1.toInt64)) + (a1.toInt64)) * (s2.toInt64)) + (a2.toInt64))), .second, .val (.long ((((((a0.toInt64) * (s1.toInt64)) + (a1.toInt64)) * (s2.toInt64)) + (a2.toInt64)) + (1 : Int64))), .second, .val (.int (0 : Int32)), .val (.long (0 : Int64)), .second, .val (.long ((0 : Int64) - ((0 : Int64) / (s2.toInt64)) * (s2.toInt64))), .second, .val (.long (((0 : Int64) / (s2.toInt64)) - (((0 : Int64) / (s2.toInt64)) / (s1.toInt64)) * (s1.toInt64))), .second, .val (.long ((0 : Int64) / ((s2.toInt64) * (s1.toInt64)))), .second, .val (.ref at_), .val (.ref sz_), .val (.int (0 : Int32)), .val (.int (1 : Int32))]) rfl ?_
                refine Go.iload C X at_338 (n := 340) rfl rfl ?_
                refine Go.iconst C X at_340 (n := 341) rfl (v := (3 : Int32)) rfl ?_
                refine Go.icmp_ne C X at_341 (n1 := 431) (n2 := 344) (by decide) (by decide) rfl (fun hc341 => ?_) (fun hc341 => ?_)
                · exact absurd hc341 (by decide)
                · refine Go.iload C X at_344 (n := 346) rfl rfl ?_
                  refine Go.if0_eq C X at_346 (n1 := 386) (n2 := 349) (by decide) (by decide) rfl (fun hc346 => ?_) (fun hc346 => ?_)
                  · exact absurd hc346 (by decide)
                  · refine Go.aload C X at_349 (n := 351) rfl rfl rfl ?_
                    refine Go.iconst C X at_351 (n := 352) rfl (v := (0 : Int32)) rfl ?_
                    refine Go.ialoadL C X eT V_at_ (i := 0) rfl (v := .int x0) rfl at_352 (n := 353) rfl ?_
                    refine Go.i2l C X at_353 (n := 354) rfl ?_
                    refine Go.lload C X at_354 (n := 356) rfl rfl ?_
                    refine Go.lcmp C X at_356 (n := 357) rfl ?_
                    refine Go.lcmp_ne C X at_357 (n1 := 386) (n2 := 360) (by decide) (by decide) rfl (fun hc357 => ?_) (fun hc357 => ?_)
                    · exact absurd e0 hc357
                    · refine Go.aload C X at_360 (n := 362) rfl rfl rfl ?_
                      refine Go.iconst C X at_362 (n := 363) rfl (v := (1 : Int32)) rfl ?_
                      refine Go.ialoadL C X eT V_at_ (i := 1) rfl (v := .int x1) rfl at_363 (n := 364) rfl ?_
                      refine Go.i2l C X at_364 (n := 365) rfl ?_
                      refine Go.lload C X at_365 (n := 367) rfl rfl ?_
                      refine Go.lcmp C X at_367 (n := 368) rfl ?_
                      refine Go.lcmp_ne C X at_368 (n1 := 386) (n2 := 371) (by decide) (by decide) rfl (fun hc368 => ?_) (fun hc368 => ?_)
                      · exact absurd e1 hc368
                      · refine Go.aload C X at_371 (n := 373) rfl rfl rfl ?_
                        refine Go.iconst C X at_373 (n := 374) rfl (v := (2 : Int32)) rfl ?_
                        refine Go.ialoadL C X eT V_at_ (i := 2) rfl (v := .int x2) rfl at_374 (n := 375) rfl ?_
                        refine Go.i2l C X at_375 (n := 376) rfl ?_
                        refine Go.lload C X at_376 (n := 378) rfl rfl ?_
                        refine Go.lcmp C X at_378 (n := 379) rfl ?_
                        refine Go.lcmp_ne C X at_379 (n1 := 386) (n2 := 382) (by decide) (by decide) rfl (fun hc379 => ?_) (fun hc379 => ?_)
                        · exact absurd e2 hc379
                        · refine Go.iconst C X at_382 (n := 383) rfl (v := (1 : Int32)) rfl ?_
                          refine Go.goto C X at_383 (n := 387) (by decide) (by decide) ?_
                          refine Go.istore C X at_387 (n := 389) rfl (l' := #[.val (.int p0), .val (.int p1), .val (.int p2), .val (.int p3), .val (.int p4), .val (.int p5), .val (.int (3 : Int32)), .val (.int s0), .val (.int s1), .val (.int s2), .val (.int a0), .val (.int a1), .val (.int a2), .val (.long (s0.toInt64)), .second, .val (.long (s1.toInt64)), .second, .val (.long (s2.toInt64)), .second, .val (.long (a0.toInt64)), .second, .val (.long (a1.toInt64)), .second, .val (.long (a2.toInt64)), .second, .val (.long (((s0.toInt64) * (s1.toInt64)) * (s2.toInt64))), .second, .val (.long (((((a0.toInt64) * (s1.toInt64)) + (a1.toInt64)) * (s2.toInt64)) + (a2.toInt64))), .second, .val (.long ((((((a0.toInt64) * (s1.toInt64)) + (a1.toInt64)) * (s2.toInt64)) + (a2.toInt64)) + (1 : Int64))), .second, .val (.int (0 : Int32)), .val (.long (0 : Int64)), .second, .val (.long ((0 : Int64) - ((0 : Int64) / (s2.toInt64)) * (s2.toInt64))), .second, .val (.long (((0 : Int64) / (s2.toInt64)) - (((0 : Int64) / (s2.toInt64)) / (s1.toInt64)) * (s1.toInt64))), .second, .val (.long ((0 : Int64) / ((s2.toInt64) * (s1.toInt64)))), .second, .val (.ref at_), .val (.ref sz_), .val (.int (0 : Int32)), .val (.int (1 : Int32))]) rfl ?_
                          refine Go.iload C X at_389 (n := 391) rfl rfl ?_
                          refine Go.if0_eq C X at_391 (n1 := 425) (n2 := 394) (by decide) (by decide) rfl (fun hc391 => ?_) (fun hc391 => ?_)
                          · exact absurd hc391 (by decide)
                          · refine Go.aload C X at_394 (n := 396) rfl rfl rfl ?_
                            refine Go.iconst C X at_396 (n := 397) rfl (v := (0 : Int32)) rfl ?_
                            refine Go.ialoadL C X eT V_sz_ (i := 0) rfl (v := .int s0) rfl at_397 (n := 398) rfl ?_
                            refine Go.iload C X at_398 (n := 400) rfl rfl ?_
                            refine Go.icmp_ne C X at_400 (n1 := 425) (n2 := 403) (by decide) (by decide) rfl (fun hc400 => ?_) (fun hc400 => ?_)
                            · exact absurd rfl hc400
                            · refine Go.aload C X at_403 (n := 405) rfl rfl rfl ?_
                              refine Go.iconst C X at_405 (n := 406) rfl (v := (1 : Int32)) rfl ?_
                              refine Go.ialoadL C X eT V_sz_ (i := 1) rfl (v := .int s1) rfl at_406 (n := 407) rfl ?_
                              refine Go.iload C X at_407 (n := 409) rfl rfl ?_
                              refine Go.icmp_ne C X at_409 (n1 := 425) (n2 := 412) (by decide) (by decide) rfl (fun hc409 => ?_) (fun hc409 => ?_)
                              · exact absurd rfl hc409
                              · refine Go.aload C X at_412 (n := 414) rfl rfl rfl ?_
                                refine Go.iconst C X at_414 (n := 415) rfl (v := (2 : Int32)) rfl ?_
                                refine Go.ialoadL C X eT V_sz_ (i := 2) rfl (v := .int s2) rfl at_415 (n := 416) rfl ?_
                                refine Go.iload C X at_416 (n := 418) rfl rfl ?_
                                refine Go.icmp_ne C X at_418 (n1 := 425) (n2 := 421) (by decide) (by decide) rfl (fun hc418 => ?_) (fun hc418 => ?_)
                                · exact absurd rfl hc418
                                · refine Go.iconst C X at_421 (n := 422) rfl (v := (1 : Int32)) rfl ?_
                                  refine Go.goto C X at_422 (n := 426) (by decide) (by decide) ?_
                                  refine Go.istore C X at_426 (n := 428) rfl (l' := #[.val (.int p0), .val (.int p1), .val (.int p2), .val (.int p3), .val (.int p4), .val (.int p5), .val (.int (3 : Int32)), .val (.int s0), .val (.int s1), .val (.int s2), .val (.int a0), .val (.int a1), .val (.int a2), .val (.long (s0.toInt64)), .second, .val (.long (s1.toInt64)), .second, .val (.long (s2.toInt64)), .second, .val (.long (a0.toInt64)), .second, .val (.long (a1.toInt64)), .second, .val (.long (a2.toInt64)), .second, .val (.long (((s0.toInt64) * (s1.toInt64)) * (s2.toInt64))), .second, .val (.long (((((a0.toInt64) * (s1.toInt64)) + (a1.toInt64)) * (s2.toInt64)) + (a2.toInt64))), .second, .val (.long ((((((a0.toInt64) * (s1.toInt64)) + (a1.toInt64)) * (s2.toInt64)) + (a2.toInt64)) + (1 : Int64))), .second, .val (.int (0 : Int32)), .val (.long (0 : Int64)), .second, .val (.long ((0 : Int64) - ((0 : Int64) / (s2.toInt64)) * (s2.toInt64))), .second, .val (.long (((0 : Int64) / (s2.toInt64)) - (((0 : Int64) / (s2.toInt64)) / (s1.toInt64)) * (s1.toInt64))), .second, .val (.long ((0 : Int64) / ((s2.toInt64) * (s1.toInt64)))), .second, .val (.ref at_), .val (.ref sz_), .val (.int (0 : Int32)), .val (.int (1 : Int32))]) rfl ?_
                                  refine Go.goto C X at_428 (n := 554) (by decide) (by decide) ?_
                                  refine Go.iload C X at_554 (n := 556) rfl rfl ?_
                                  refine Go.retN C X eT (Or.inl rfl) (w := (1 : Int32)) (by decide) at_556 (by decide) (by decide) ?_
                                  exact ⟨rfl, N⟩
      · exact absurd hc212 (by decide)
    · refine Go.iconst C X at_203 (n := 204) rfl (v := (1 : Int32)) rfl ?_
      refine Go.goto C X at_204 (n := 208) (by decide) (by decide) ?_
      refine Go.istore C X at_208 (n := 210) rfl (l' := #[.val (.int p0), .val (.int p1), .val (.int p2), .val (.int p3), .val (.int p4), .val (.int p5), .val (.int (3 : Int32)), .val (.int s0), .val (.int s1), .val (.int s2), .val (.int a0), .val (.int a1), .val (.int a2), .val (.long (s0.toInt64)), .second, .val (.long (s1.toInt64)), .second, .val (.long (s2.toInt64)), .second, .val (.long (a0.toInt64)), .second, .val (.long (a1.toInt64)), .second, .val (.long (a2.toInt64)), .second, .val (.long (((s0.toInt64) * (s1.toInt64)) * (s2.toInt64))), .second, .val (.long (((((a0.toInt64) * (s1.toInt64)) + (a1.toInt64)) * (s2.toInt64)) + (a2.toInt64))), .second, .val (.long ((((((a0.toInt64) * (s1.toInt64)) + (a1.toInt64)) * (s2.toInt64)) + (a2.toInt64)) + (1 : Int64))), .second, .val (.int (1 : Int32)), .unset, .unset, .unset, .unset, .unset, .unset, .unset, .unset, .unset, .unset, .unset, .unset]) rfl ?_
      refine Go.iload C X at_210 (n := 212) rfl rfl ?_
      refine Go.if0_eq C X at_212 (n1 := 220) (n2 := 215) (by decide) (by decide) rfl (fun hc212 => ?_) (fun hc212 => ?_)
      · exact absurd hc212 (by decide)
      · refine Go.lload C X at_215 (n := 217) rfl rfl ?_
        refine Go.goto C X at_217 (n := 221) (by decide) (by decide) ?_
        refine Go.lstore C X at_221 (n := 223) rfl (l' := #[.val (.int p0), .val (.int p1), .val (.int p2), .val (.int p3), .val (.int p4), .val (.int p5), .val (.int (3 : Int32)), .val (.int s0), .val (.int s1), .val (.int s2), .val (.int a0), .val (.int a1), .val (.int a2), .val (.long (s0.toInt64)), .second, .val (.long (s1.toInt64)), .second, .val (.long (s2.toInt64)), .second, .val (.long (a0.toInt64)), .second, .val (.long (a1.toInt64)), .second, .val (.long (a2.toInt64)), .second, .val (.long (((s0.toInt64) * (s1.toInt64)) * (s2.toInt64))), .second, .val (.long (((((a0.toInt64) * (s1.toInt64)) + (a1.toInt64)) * (s2.toInt64)) + (a2.toInt64))), .second, .val (.long ((((((a0.toInt64) * (s1.toInt64)) + (a1.toInt64)) * (s2.toInt64)) + (a2.toInt64)) + (1 : Int64))), .second, .val (.int (1 : Int32)), .val (.long ((((((a0.toInt64) * (s1.toInt64)) + (a1.toInt64)) * (s2.toInt64)) + (a2.toInt64)) + (1 : Int64))), .second, .unset, .unset, .unset, .unset, .unset, .unset, .unset, .unset, .unset, .unset]) rfl ?_
        refine Go.lload C X at_223 (n := 225) rfl rfl ?_
        refine Go.lload C X at_225 (n := 227) rfl rfl ?_
        refine Go.lrem C X at_227 (n := 228) rfl zs2 ?_
        refine Go.lstore C X at_228 (n := 230) rfl (l' := #[.val (.int p0), .val (.int p1), .val (.int p2), .val (.int p3), .val (.int p4), .val (.int p5), .val (.int (3 : Int32)), .val (.int s0), .val (.int s1), .val (.int s2), .val (.int a0), .val (.int a1), .val (.int a2), .val (.long (s0.toInt64)), .second, .val (.long (s1.toInt64)), .second, .val (.long (s2.toInt64)), .second, .val (.long (a0.toInt64)), .second, .val (.long (a1.toInt64)), .second, .val (.long (a2.toInt64)), .second, .val (.long (((s0.toInt64) * (s1.toInt64)) * (s2.toInt64))), .second, .val (.long (((((a0.toInt64) * (s1.toInt64)) + (a1.toInt64)) * (s2.toInt64)) + (a2.toInt64))), .second, .val (.long ((((((a0.toInt64) * (s1.toInt64)) + (a1.toInt64)) * (s2.toInt64)) + (a2.toInt64)) + (1 : Int64))), .second, .val (.int (1 : Int32)), .val (.long ((((((a0.toInt64) * (s1.toInt64)) + (a1.toInt64)) * (s2.toInt64)) + (a2.toInt64)) + (1 : Int64))), .second, .val (.long (((((((a0.toInt64) * (s1.toInt64)) + (a1.toInt64)) * (s2.toInt64)) + (a2.toInt64)) + (1 : Int64)) - (((((((a0.toInt64) * (s1.toInt64)) + (a1.toInt64)) * (s2.toInt64)) + (a2.toInt64)) + (1 : Int64)) / (s2.toInt64)) * (s2.toInt64))), .second, .unset, .unset, .unset, .unset, .unset, .unset, .unset, .unset]) rfl ?_
        refine Go.lload C X at_230 (n := 232) rfl rfl ?_
        refine Go.lload C X at_232 (n := 234) rfl rfl ?_
        refine Go.ldiv C X at_234 (n := 235) rfl zs2 ?_
        refine Go.lload C X at_235 (n := 237) rfl rfl ?_
        refine Go.lrem C X at_237 (n := 238) rfl zs1 ?_
        refine Go.lstore C X at_238 (n := 240) rfl (l' := #[.val (.int p0), .val (.int p1), .val (.int p2), .val (.int p3), .val (.int p4), .val (.int p5), .val (.int (3 : Int32)), .val (.int s0), .val (.int s1), .val (.int s2), .val (.int a0), .val (.int a1), .val (.int a2), .val (.long (s0.toInt64)), .second, .val (.long (s1.toInt64)), .second, .val (.long (s2.toInt64)), .second, .val (.long (a0.toInt64)), .second, .val (.long (a1.toInt64)), .second, .val (.long (a2.toInt64)), .second, .val (.long (((s0.toInt64) * (s1.toInt64)) * (s2.toInt64))), .second, .val (.long (((((a0.toInt64) * (s1.toInt64)) + (a1.toInt64)) * (s2.toInt64)) + (a2.toInt64))), .second, .val (.long ((((((a0.toInt64) * (s1.toInt64)) + (a1.toInt64)) * (s2.toInt64)) + (a2.toInt64)) + (1 : Int64))), .second, .val (.int (1 : Int32)), .val (.long ((((((a0.toInt64) * (s1.toInt64)) + (a1.toInt64)) * (s2.toInt64)) + (a2.toInt64)) + (1 : Int64))), .second, .val (.long (((((((a0.toInt64) * (s1.toInt64)) + (a1.toInt64)) * (s2.toInt64)) + (a2.toInt64)) + (1 : Int64)) - (((((((a0.toInt64) * (s1.toInt64)) + (a1.toInt64)) * (s2.toInt64)) + (a2.toInt64)) + (1 : Int64)) / (s2.toInt64)) * (s2.toInt64))), .second, .val (.long ((((((((a0.toInt64) * (s1.toInt64)) + (a1.toInt64)) * (s2.toInt64)) + (a2.toInt64)) + (1 : Int64)) / (s2.toInt64)) - ((((((((a0.toInt64) * (s1.toInt64)) + (a1.toInt64)) * (s2.toInt64)) + (a2.toInt64)) + (1 : Int64)) / (s2.toInt64)) / (s1.toInt64)) * (s1.toInt64))), .second, .unset, .unset, .unset, .unset, .unset, .unset]) rfl ?_
        refine Go.lload C X at_240 (n := 242) rfl rfl ?_
        refine Go.lload C X at_242 (n := 244) rfl rfl ?_
        refine Go.lload C X at_244 (n := 246) rfl rfl ?_
        refine Go.lmul C X at_246 (n := 247) rfl ?_
        refine Go.ldiv C X at_247 (n := 248) rfl (own_mulnz ks2 ks1) ?_
        refine Go.lstore C X at_248 (n := 250) rfl (l' := #[.val (.int p0), .val (.int p1), .val (.int p2), .val (.int p3), .val (.int p4), .val (.int p5), .val (.int (3 : Int32)), .val (.int s0), .val (.int s1), .val (.int s2), .val (.int a0), .val (.int a1), .val (.int a2), .val (.long (s0.toInt64)), .second, .val (.long (s1.toInt64)), .second, .val (.long (s2.toInt64)), .second, .val (.long (a0.toInt64)), .second, .val (.long (a1.toInt64)), .second, .val (.long (a2.toInt64)), .second, .val (.long (((s0.toInt64) * (s1.toInt64)) * (s2.toInt64))), .second, .val (.long (((((a0.toInt64) * (s1.toInt64)) + (a1.toInt64)) * (s2.toInt64)) + (a2.toInt64))), .second, .val (.long ((((((a0.toInt64) * (s1.toInt64)) + (a1.toInt64)) * (s2.toInt64)) + (a2.toInt64)) + (1 : Int64))), .second, .val (.int (1 : Int32)), .val (.long ((((((a0.toInt64) * (s1.toInt64)) + (a1.toInt64)) * (s2.toInt64)) + (a2.toInt64)) + (1 : Int64))), .second, .val (.long (((((((a0.toInt64) * (s1.toInt64)) + (a1.toInt64)) * (s2.toInt64)) + (a2.toInt64)) + (1 : Int64)) - (((((((a0.toInt64) * (s1.toInt64)) + (a1.toInt64)) * (s2.toInt64)) + (a2.toInt64)) + (1 : Int64)) / (s2.toInt64)) * (s2.toInt64))), .second, .val (.long ((((((((a0.toInt64) * (s1.toInt64)) + (a1.toInt64)) * (s2.toInt64)) + (a2.toInt64)) + (1 : Int64)) / (s2.toInt64)) - ((((((((a0.toInt64) * (s1.toInt64)) + (a1.toInt64)) * (s2.toInt64)) + (a2.toInt64)) + (1 : Int64)) / (s2.toInt64)) / (s1.toInt64)) * (s1.toInt64))), .second, .val (.long (((((((a0.toInt64) * (s1.toInt64)) + (a1.toInt64)) * (s2.toInt64)) + (a2.toInt64)) + (1 : Int64)) / ((s2.toInt64) * (s1.toInt64)))), .second, .unset, .unset, .unset, .unset]) rfl ?_
        refine Go.iload C X at_250 (n := 252) rfl rfl ?_
        refine Go.newL C X eT (wd hw 2 rfl) (i := 3) rfl (cap := 3) (by decide) at_252 (n := 254) rfl (by decide) (by decide) (by decide) ?_
        clear X eT
        intro T h at_ z_at_ X eT E V_at_
        have g_at_ : n0 ≤ at_ := by rw [z_at_]; exact O.le
        replace O := O.ext E
        replace V_at_ : Arl Z h at_ .int [.int (0 : Int32), .int (0 : Int32), .int (0 : Int32)] := V_at_
        refine Go.astore C X at_254 (n := 256) rfl rfl (l' := #[.val (.int p0), .val (.int p1), .val (.int p2), .val (.int p3), .val (.int p4), .val (.int p5), .val (.int (3 : Int32)), .val (.int s0), .val (.int s1), .val (.int s2), .val (.int a0), .val (.int a1), .val (.int a2), .val (.long (s0.toInt64)), .second, .val (.long (s1.toInt64)), .second, .val (.long (s2.toInt64)), .second, .val (.long (a0.toInt64)), .second, .val (.long (a1.toInt64)), .second, .val (.long (a2.toInt64)), .second, .val (.long (((s0.toInt64) * (s1.toInt64)) * (s2.toInt64))), .second, .val (.long (((((a0.toInt64) * (s1.toInt64)) + (a1.toInt64)) * (s2.toInt64)) + (a2.toInt64))), .second, .val (.long ((((((a0.toInt64) * (s1.toInt64)) + (a1.toInt64)) * (s2.toInt64)) + (a2.toInt64)) + (1 : Int64))), .second, .val (.int (1 : Int32)), .val (.long ((((((a0.toInt64) * (s1.toInt64)) + (a1.toInt64)) * (s2.toInt64)) + (a2.toInt64)) + (1 : Int64))), .second, .val (.long (((((((a0.toInt64) * (s1.toInt64)) + (a1.toInt64)) * (s2.toInt64)) + (a2.toInt64)) + (1 : Int64)) - (((((((a0.toInt64) * (s1.toInt64)) + (a1.toInt64)) * (s2.toInt64)) + (a2.toInt64)) + (1 : Int64)) / (s2.toInt64)) * (s2.toInt64))), .second, .val (.long ((((((((a0.toInt64) * (s1.toInt64)) + (a1.toInt64)) * (s2.toInt64)) + (a2.toInt64)) + (1 : Int64)) / (s2.toInt64)) - ((((((((a0.toInt64) * (s1.toInt64)) + (a1.toInt64)) * (s2.toInt64)) + (a2.toInt64)) + (1 : Int64)) / (s2.toInt64)) / (s1.toInt64)) * (s1.toInt64))), .second, .val (.long (((((((a0.toInt64) * (s1.toInt64)) + (a1.toInt64)) * (s2.toInt64)) + (a2.toInt64)) + (1 : Int64)) / ((s2.toInt64) * (s1.toInt64)))), .second, .val (.ref at_), .unset, .unset, .unset]) rfl ?_
        refine Go.iload C X at_256 (n := 258) rfl rfl ?_
        refine Go.newL C X eT (wd hw 2 rfl) (i := 3) rfl (cap := 3) (by decide) at_258 (n := 260) rfl (by decide) (by decide) (by decide) ?_
        clear X eT
        intro T h sz_ z_sz_ X eT E V_sz_
        have ne_at__sz_ : at_ ≠ sz_ := Nat.ne_of_lt (Nat.lt_of_lt_of_le V_at_.lt (Nat.le_of_eq z_sz_.symm))
        have g_sz_ : n0 ≤ sz_ := by rw [z_sz_]; exact O.le
        replace O := O.ext E
        replace V_at_ := V_at_.ext E
        replace V_sz_ : Arl Z h sz_ .int [.int (0 : Int32), .int (0 : Int32), .int (0 : Int32)] := V_sz_
        refine Go.astore C X at_260 (n := 262) rfl rfl (l' := #[.val (.int p0), .val (.int p1), .val (.int p2), .val (.int p3), .val (.int p4), .val (.int p5), .val (.int (3 : Int32)), .val (.int s0), .val (.int s1), .val (.int s2), .val (.int a0), .val (.int a1), .val (.int a2), .val (.long (s0.toInt64)), .second, .val (.long (s1.toInt64)), .second, .val (.long (s2.toInt64)), .second, .val (.long (a0.toInt64)), .second, .val (.long (a1.toInt64)), .second, .val (.long (a2.toInt64)), .second, .val (.long (((s0.toInt64) * (s1.toInt64)) * (s2.toInt64))), .second, .val (.long (((((a0.toInt64) * (s1.toInt64)) + (a1.toInt64)) * (s2.toInt64)) + (a2.toInt64))), .second, .val (.long ((((((a0.toInt64) * (s1.toInt64)) + (a1.toInt64)) * (s2.toInt64)) + (a2.toInt64)) + (1 : Int64))), .second, .val (.int (1 : Int32)), .val (.long ((((((a0.toInt64) * (s1.toInt64)) + (a1.toInt64)) * (s2.toInt64)) + (a2.toInt64)) + (1 : Int64))), .second, .val (.long (((((((a0.toInt64) * (s1.toInt64)) + (a1.toInt64)) * (s2.toInt64)) + (a2.toInt64)) + (1 : Int64)) - (((((((a0.toInt64) * (s1.toInt64)) + (a1.toInt64)) * (s2.toInt64)) + (a2.toInt64)) + (1 : Int64)) / (s2.toInt64)) * (s2.toInt64))), .second, .val (.long ((((((((a0.toInt64) * (s1.toInt64)) + (a1.toInt64)) * (s2.toInt64)) + (a2.toInt64)) + (1 : Int64)) / (s2.toInt64)) - ((((((((a0.toInt64) * (s1.toInt64)) + (a1.toInt64)) * (s2.toInt64)) + (a2.toInt64)) + (1 : Int64)) / (s2.toInt64)) / (s1.toInt64)) * (s1.toInt64))), .second, .val (.long (((((((a0.toInt64) * (s1.toInt64)) + (a1.toInt64)) * (s2.toInt64)) + (a2.toInt64)) + (1 : Int64)) / ((s2.toInt64) * (s1.toInt64)))), .second, .val (.ref at_), .val (.ref sz_), .unset, .unset]) rfl ?_
        refine Go.iload C X at_262 (n := 264) rfl rfl ?_
        refine Go.if0_le C X at_264 (n1 := 279) (n2 := 267) (by decide) (by decide) rfl (fun hc264 => ?_) (fun hc264 => ?_)
        · exact absurd hc264 (by decide)
        · refine Go.aload C X at_267 (n := 269) rfl rfl rfl ?_
          refine Go.iconst C X at_269 (n := 270) rfl (v := (0 : Int32)) rfl ?_
          refine Go.iload C X at_270 (n := 272) rfl rfl ?_
          refine Go.iastoreL C X eT V_at_ (i := 0) rfl (by simp) at_272 (n := 273) rfl ?_
          clear X eT
          intro T h X eT W V_new
          replace O := O.wr W g_at_
          replace V_sz_ := V_sz_.other W (Ne.symm ne_at__sz_)
          clear V_at_
          have V_at_ : Arl Z h at_ .int [.int a0, .int (0 : Int32), .int (0 : Int32)] := V_new
          clear V_new
          replace N := Fr.snoc X N g_at_
          refine Go.aload C X at_273 (n := 275) rfl rfl rfl ?_
          refine Go.iconst C X at_275 (n := 276) rfl (v := (0 : Int32)) rfl ?_
          refine Go.iload C X at_276 (n := 278) rfl rfl ?_
          refine Go.iastoreL C X eT V_sz_ (i := 0) rfl (by simp) at_278 (n := 279) rfl ?_
          clear X eT
          intro T h X eT W V_new
          replace O := O.wr W g_sz_
          replace V_at_ := V_at_.other W ne_at__sz_
          clear V_sz_
          have V_sz_ : Arl Z h sz_ .int [.int s0, .int (0 : Int32), .int (0 : Int32)] := V_new
          clear V_new
          replace N := Fr.snoc X N g_sz_
          refine Go.iload C X at_279 (n := 281) rfl rfl ?_
          refine Go.iconst C X at_281 (n := 282) rfl (v := (1 : Int32)) rfl ?_
          refine Go.icmp_le C X at_282 (n1 := 297) (n2 := 285) (by decide) (by decide) rfl (fun hc282 => ?_) (fun hc282 => ?_)
          · exact absurd hc282 (by decide)
          · refine Go.aload C X at_285 (n := 287) rfl rfl rfl ?_
            refine Go.iconst C X at_287 (n := 288) rfl (v := (1 : Int32)) rfl ?_
            refine Go.iload C X at_288 (n := 290) rfl rfl ?_
            refine Go.iastoreL C X eT V_at_ (i := 1) rfl (by simp) at_290 (n := 291) rfl ?_
            clear X eT
            intro T h X eT W V_new
            replace O := O.wr W g_at_
            replace V_sz_ := V_sz_.other W (Ne.symm ne_at__sz_)
            clear V_at_
            have V_at_ : Arl Z h at_ .int [.int a0, .int a1, .int (0 : Int32)] := V_new
            clear V_new
            replace N := Fr.snoc X N g_at_
            refine Go.aload C X at_291 (n := 293) rfl rfl rfl ?_
            refine Go.iconst C X at_293 (n := 294) rfl (v := (1 : Int32)) rfl ?_
            refine Go.iload C X at_294 (n := 296) rfl rfl ?_
            refine Go.iastoreL C X eT V_sz_ (i := 1) rfl (by simp) at_296 (n := 297) rfl ?_
            clear X eT
            intro T h X eT W V_new
            replace O := O.wr W g_sz_
            replace V_at_ := V_at_.other W ne_at__sz_
            clear V_sz_
            have V_sz_ : Arl Z h sz_ .int [.int s0, .int s1, .int (0 : Int32)] := V_new
            clear V_new
            replace N := Fr.snoc X N g_sz_
            refine Go.iload C X at_297 (n := 299) rfl rfl ?_
            refine Go.iconst C X at_299 (n := 300) rfl (v := (2 : Int32)) rfl ?_
            refine Go.icmp_le C X at_300 (n1 := 315) (n2 := 303) (by decide) (by decide) rfl (fun hc300 => ?_) (fun hc300 => ?_)
            · exact absurd hc300 (by decide)
            · refine Go.aload C X at_303 (n := 305) rfl rfl rfl ?_
              refine Go.iconst C X at_305 (n := 306) rfl (v := (2 : Int32)) rfl ?_
              refine Go.iload C X at_306 (n := 308) rfl rfl ?_
              refine Go.iastoreL C X eT V_at_ (i := 2) rfl (by simp) at_308 (n := 309) rfl ?_
              clear X eT
              intro T h X eT W V_new
              replace O := O.wr W g_at_
              replace V_sz_ := V_sz_.other W (Ne.symm ne_at__sz_)
              clear V_at_
              have V_at_ : Arl Z h at_ .int [.int a0, .int a1, .int a2] := V_new
              clear V_new
              replace N := Fr.snoc X N g_at_
              refine Go.aload C X at_309 (n := 311) rfl rfl rfl ?_
              refine Go.iconst C X at_311 (n := 312) rfl (v := (2 : Int32)) rfl ?_
              refine Go.iload C X at_312 (n := 314) rfl rfl ?_
              refine Go.iastoreL C X eT V_sz_ (i := 2) rfl (by simp) at_314 (n := 315) rfl ?_
              clear X eT
              intro T h X eT W V_new
              replace O := O.wr W g_sz_
              replace V_at_ := V_at_.other W ne_at__sz_
              clear V_sz_
              have V_sz_ : Arl Z h sz_ .int [.int s0, .int s1, .int s2] := V_new
              clear V_new
              replace N := Fr.snoc X N g_sz_
              refine Go.aload C X at_315 (n := 317) rfl rfl rfl ?_
              refine Go.aload C X at_317 (n := 319) rfl rfl rfl ?_
              obtain ⟨r, xs', hq⟩ : ∃ r xs', advK 3 [a0, a1, a2] [s0, s1, s2] = (r, xs') := ⟨_, _, rfl⟩
              refine Go.stat C X eT (argsL := [(.ref at_), (.ref sz_)]) (rest := []) (rm1 l Z a0' hw n0 _ at_ sz_ [a0, a1, a2] [s0, s1, s2] (3 : Int32) r xs' g_at_ ne_at__sz_ rfl rfl hq V_at_ V_sz_) (wd hw 3 rfl) (wd hw 4 rfl) (wd hw 5 rfl) (wd hw 6 rfl) (by decide) (lenOf pd_0 rfl) rfl at_319 (n := 322) rfl rfl (by decide) (W := 0) rfl (by decide) (by decide) (by decide) ?_
              clear X eT
              intro T h v L X eT hQ
              obtain ⟨rfl, Nq, KK, V_at_⟩ := hQ
              replace N := N.app Nq
              replace O := O.keep KK (allS g_at_ all0)
              replace V_sz_ := V_sz_.keep KK (ninS (Ne.symm ne_at__sz_) nin0)
              show Go p e below _ (T.setTop (mkF m 322 #[.val (.int p0), .val (.int p1), .val (.int p2), .val (.int p3), .val (.int p4), .val (.int p5), .val (.int (3 : Int32)), .val (.int s0), .val (.int s1), .val (.int s2), .val (.int a0), .val (.int a1), .val (.int a2), .val (.long (s0.toInt64)), .second, .val (.long (s1.toInt64)), .second, .val (.long (s2.toInt64)), .second, .val (.long (a0.toInt64)), .second, .val (.long (a1.toInt64)), .second, .val (.long (a2.toInt64)), .second, .val (.long (((s0.toInt64) * (s1.toInt64)) * (s2.toInt64))), .second, .val (.long (((((a0.toInt64) * (s1.toInt64)) + (a1.toInt64)) * (s2.toInt64)) + (a2.toInt64))), .second, .val (.long ((((((a0.toInt64) * (s1.toInt64)) + (a1.toInt64)) * (s2.toInt64)) + (a2.toInt64)) + (1 : Int64))), .second, .val (.int (1 : Int32)), .val (.long ((((((a0.toInt64) * (s1.toInt64)) + (a1.toInt64)) * (s2.toInt64)) + (a2.toInt64)) + (1 : Int64))), .second, .val (.long (((((((a0.toInt64) * (s1.toInt64)) + (a1.toInt64)) * (s2.toInt64)) + (a2.toInt64)) + (1 : Int64)) - (((((((a0.toInt64) * (s1.toInt64)) + (a1.toInt64)) * (s2.toInt64)) + (a2.toInt64)) + (1 : Int64)) / (s2.toInt64)) * (s2.toInt64))), .second, .val (.long ((((((((a0.toInt64) * (s1.toInt64)) + (a1.toInt64)) * (s2.toInt64)) + (a2.toInt64)) + (1 : Int64)) / (s2.toInt64)) - ((((((((a0.toInt64) * (s1.toInt64)) + (a1.toInt64)) * (s2.toInt64)) + (a2.toInt64)) + (1 : Int64)) / (s2.toInt64)) / (s1.toInt64)) * (s1.toInt64))), .second, .val (.long (((((((a0.toInt64) * (s1.toInt64)) + (a1.toInt64)) * (s2.toInt64)) + (a2.toInt64)) + (1 : Int64)) / ((s2.toInt64) * (s1.toInt64)))), .second, .val (.ref at_), .val (.ref sz_), .unset, .unset] [(.int r)]))
              obtain ⟨hr, hl, he⟩ := plain3m ks0 ka0 ks1 ka1 ks2 ka2 hq hc200
              subst hr
              obtain ⟨e0, e1, e2⟩ := he
              obtain ⟨x0, x1, x2, rfl⟩ := own_list3 hl
              simp only [List.getD_cons_zero, List.getD_cons_succ] at e0 e1 e2
              show Go p e below _ (T.setTop (mkF m 322 #[.val (.int p0), .val (.int p1), .val (.int p2), .val (.int p3), .val (.int p4), .val (.int p5), .val (.int (3 : Int32)), .val (.int s0), .val (.int s1), .val (.int s2), .val (.int a0), .val (.int a1), .val (.int a2), .val (.long (s0.toInt64)), .second, .val (.long (s1.toInt64)), .second, .val (.long (s2.toInt64)), .second, .val (.long (a0.toInt64)), .second, .val (.long (a1.toInt64)), .second, .val (.long (a2.toInt64)), .second, .val (.long (((s0.toInt64) * (s1.toInt64)) * (s2.toInt64))), .second, .val (.long (((((a0.toInt64) * (s1.toInt64)) + (a1.toInt64)) * (s2.toInt64)) + (a2.toInt64))), .second, .val (.long ((((((a0.toInt64) * (s1.toInt64)) + (a1.toInt64)) * (s2.toInt64)) + (a2.toInt64)) + (1 : Int64))), .second, .val (.int (1 : Int32)), .val (.long ((((((a0.toInt64) * (s1.toInt64)) + (a1.toInt64)) * (s2.toInt64)) + (a2.toInt64)) + (1 : Int64))), .second, .val (.long (((((((a0.toInt64) * (s1.toInt64)) + (a1.toInt64)) * (s2.toInt64)) + (a2.toInt64)) + (1 : Int64)) - (((((((a0.toInt64) * (s1.toInt64)) + (a1.toInt64)) * (s2.toInt64)) + (a2.toInt64)) + (1 : Int64)) / (s2.toInt64)) * (s2.toInt64))), .second, .val (.long ((((((((a0.toInt64) * (s1.toInt64)) + (a1.toInt64)) * (s2.toInt64)) + (a2.toInt64)) + (1 : Int64)) / (s2.toInt64)) - ((((((((a0.toInt64) * (s1.toInt64)) + (a1.toInt64)) * (s2.toInt64)) + (a2.toInt64)) + (1 : Int64)) / (s2.toInt64)) / (s1.toInt64)) * (s1.toInt64))), .second, .val (.long (((((((a0.toInt64) * (s1.toInt64)) + (a1.toInt64)) * (s2.toInt64)) + (a2.toInt64)) + (1 : Int64)) / ((s2.toInt64) * (s1.toInt64)))), .second, .val (.ref at_), .val (.ref sz_), .unset, .unset] [(.int (1 : Int32))]))
              refine Go.istore C X at_322 (n := 324) rfl (l' := #[.val (.int p0), .val (.int p1), .val (.int p2), .val (.int p3), .val (.int p4), .val (.int p5), .val (.int (3 : Int32)), .val (.int s0), .val (.int s1), .val (.int s2), .val (.int a0), .val (.int a1), .val (.int a2), .val (.long (s0.toInt64)), .second, .val (.long (s1.toInt64)), .second, .val (.long (s2.toInt64)), .second, .val (.long (a0.toInt64)), .second, .val (.long (a1.toInt64)), .second, .val (.long (a2.toInt64)), .second, .val (.long (((s0.toInt64) * (s1.toInt64)) * (s2.toInt64))), .second, .val (.long (((((a0.toInt64) * (s1.toInt64)) + (a1.toInt64)) * (s2.toInt64)) + (a2.toInt64))), .second, .val (.long ((((((a0.toInt64) * (s1.toInt64)) + (a1.toInt64)) * (s2.toInt64)) + (a2.toInt64)) + (1 : Int64))), .second, .val (.int (1 : Int32)), .val (.long ((((((a0.toInt64) * (s1.toInt64)) + (a1.toInt64)) * (s2.toInt64)) + (a2.toInt64)) + (1 : Int64))), .second, .val (.long (((((((a0.toInt64) * (s1.toInt64)) + (a1.toInt64)) * (s2.toInt64)) + (a2.toInt64)) + (1 : Int64)) - (((((((a0.toInt64) * (s1.toInt64)) + (a1.toInt64)) * (s2.toInt64)) + (a2.toInt64)) + (1 : Int64)) / (s2.toInt64)) * (s2.toInt64))), .second, .val (.long ((((((((a0.toInt64) * (s1.toInt64)) + (a1.toInt64)) * (s2.toInt64)) + (a2.toInt64)) + (1 : Int64)) / (s2.toInt64)) - ((((((((a0.toInt64) * (s1.toInt64)) + (a1.toInt64)) * (s2.toInt64)) + (a2.toInt64)) + (1 : Int64)) / (s2.toInt64)) / (s1.toInt64)) * (s1.toInt64))), .second, .val (.long (((((((a0.toInt64) * (s1.toInt64)) + (a1.toInt64)) * (s2.toInt64)) + (a2.toInt64)) + (1 : Int64)) / ((s2.toInt64) * (s1.toInt64)))), .second, .val (.ref at_), .val (.ref sz_), .val (.int (1 : Int32)), .unset]) rfl ?_
              refine Go.iload C X at_324 (n := 326) rfl rfl ?_
              refine Go.iload C X at_326 (n := 328) rfl rfl ?_
              refine Go.icmp_ne C X at_328 (n1 := 335) (n2 := 331) (by decide) (by decide) rfl (fun hc328 => ?_) (fun hc328 => ?_)
              · exact absurd hc328 (by decide)
              · refine Go.iconst C X at_331 (n := 332) rfl (v := (1 : Int32)) rfl ?_
                refine Go.goto C X at_332 (n := 336) (by decide) (by decide) ?_
                refine Go.istore C X at_336 (n := 338) rfl (l' := #[.val (.int p0), .val (.int p1), .val (.int p2), .val (.int p3), .val (.int p4), .val (.int p5), .val (.int (3 : Int32)), .val (.int s0), .val (.int s1), .val (.int s2), .val (.int a0), .val (.int a1), .val (.int a2), .val (.long (s0.toInt64)), .second, .val (.long (s1.toInt64)), .second, .val (.long (s2.toInt64)), .second, .val (.long (a0.toInt64)), .second, .val (.long (a1.toInt64)), .second, .val (.long (a2.toInt64)), .second, .val (.long (((s0.toInt64) * (s1.toInt64)) * (s2.toInt64))), .second, .val (.long (((((a0.toInt64) * (s1.toInt64)) + (a1.toInt64)) * (s2.toInt64)) + (a2.toInt64))), .second, .val (.long ((((((a0.toInt64) * (s1.toInt64)) + (a1.toInt64)) * (s2.toInt64)) + (a2.toInt64)) + (1 : Int64))), .second, .val (.int (1 : Int32)), .val (.long ((((((a0.toInt64) * (s1.toInt64)) + (a1.toInt64)) * (s2.toInt64)) + (a2.toInt64)) + (1 : Int64))), .second, .val (.long (((((((a0.toInt64) * (s1.toInt64)) + (a1.toInt64)) * (s2.toInt64)) + (a2.toInt64)) + (1 : Int64)) - (((((((a0.toInt64) * (s1.toInt64)) + (a1.toInt64)) * (s2.toInt64)) + (a2.toInt64)) + (1 : Int64)) / (s2.toInt64)) * (s2.toInt64))), .second, .val (.long ((((((((a0.toInt64) * (s1.toInt64)) + (a1.toInt64)) * (s2.toInt64)) + (a2.toInt64)) + (1 : Int64)) / (s2.toInt64)) - ((((((((a0.toInt64) * (s1.toInt64)) + (a1.toInt64)) * (s2.toInt64)) + (a2.toInt64)) + (1 : Int64)) / (s2.toInt64)) / (s1.toInt64)) * (s1.toInt64))), .second, .val (.long (((((((a0.toInt64) * (s1.toInt64)) + (a1.toInt64)) * (s2.toInt64)) + (a2.toInt64)) + (1 : Int64)) / ((s2.toInt64) * (s1.toInt64)))), .second, .val (.ref at_), .val (.ref sz_), .val (.int (1 : Int32)), .val (.int (1 : Int32))]) rfl ?_
                refine Go.iload C X at_338 (n := 340) rfl rfl ?_
                refine Go.iconst C X at_340 (n := 341) rfl (v := (3 : Int32)) rfl ?_
                refine Go.icmp_ne C X at_341 (n1 := 431) (n2 := 344) (by decide) (by decide) rfl (fun hc341 => ?_) (fun hc341 => ?_)
                · exact absurd hc341 (by decide)
                · refine Go.iload C X at_344 (n := 346) rfl rfl ?_
                  refine Go.if0_eq C X at_346 (n1 := 386) (n2 := 349) (by decide) (by decide) rfl (fun hc346 => ?_) (fun hc346 => ?_)
                  · exact absurd hc346 (by decide)
                  · refine Go.aload C X at_349 (n := 351) rfl rfl rfl ?_
                    refine Go.iconst C X at_351 (n := 352) rfl (v := (0 : Int32)) rfl ?_
                    refine Go.ialoadL C X eT V_at_ (i := 0) rfl (v := .int x0) rfl at_352 (n := 353) rfl ?_
                    refine Go.i2l C X at_353 (n := 354) rfl ?_
                    refine Go.lload C X at_354 (n := 356) rfl rfl ?_
                    refine Go.lcmp C X at_356 (n := 357) rfl ?_
                    refine Go.lcmp_ne C X at_357 (n1 := 386) (n2 := 360) (by decide) (by decide) rfl (fun hc357 => ?_) (fun hc357 => ?_)
                    · exact absurd e0 hc357
                    · refine Go.aload C X at_360 (n := 362) rfl rfl rfl ?_
                      refine Go.iconst C X at_362 (n := 363) rfl (v := (1 : Int32)) rfl ?_
                      refine Go.ialoadL C X eT V_at_ (i := 1) rfl (v := .int x1) rfl at_363 (n := 364) rfl ?_
                      refine Go.i2l C X at_364 (n := 365) rfl ?_
                      refine Go.lload C X at_365 (n := 367) rfl rfl ?_
                      refine Go.lcmp C X at_367 (n := 368) rfl ?_
                      refine Go.lcmp_ne C X at_368 (n1 := 386) (n2 := 371) (by decide) (by decide) rfl (fun hc368 => ?_) (fun hc368 => ?_)
                      · exact absurd e1 hc368
                      · refine Go.aload C X at_371 (n := 373) rfl rfl rfl ?_
                        refine Go.iconst C X at_373 (n := 374) rfl (v := (2 : Int32)) rfl ?_
                        refine Go.ialoadL C X eT V_at_ (i := 2) rfl (v := .int x2) rfl at_374 (n := 375) rfl ?_
                        refine Go.i2l C X at_375 (n := 376) rfl ?_
                        refine Go.lload C X at_376 (n := 378) rfl rfl ?_
                        refine Go.lcmp C X at_378 (n := 379) rfl ?_
                        refine Go.lcmp_ne C X at_379 (n1 := 386) (n2 := 382) (by decide) (by decide) rfl (fun hc379 => ?_) (fun hc379 => ?_)
                        · exact absurd e2 hc379
                        · refine Go.iconst C X at_382 (n := 383) rfl (v := (1 : Int32)) rfl ?_
                          refine Go.goto C X at_383 (n := 387) (by decide) (by decide) ?_
                          refine Go.istore C X at_387 (n := 389) rfl (l' := #[.val (.int p0), .val (.int p1), .val (.int p2), .val (.int p3), .val (.int p4), .val (.int p5), .val (.int (3 : Int32)), .val (.int s0), .val (.int s1), .val (.int s2), .val (.int a0), .val (.int a1), .val (.int a2), .val (.long (s0.toInt64)), .second, .val (.long (s1.toInt64)), .second, .val (.long (s2.toInt64)), .second, .val (.long (a0.toInt64)), .second, .val (.long (a1.toInt64)), .second, .val (.long (a2.toInt64)), .second, .val (.long (((s0.toInt64) * (s1.toInt64)) * (s2.toInt64))), .second, .val (.long (((((a0.toInt64) * (s1.toInt64)) + (a1.toInt64)) * (s2.toInt64)) + (a2.toInt64))), .second, .val (.long ((((((a0.toInt64) * (s1.toInt64)) + (a1.toInt64)) * (s2.toInt64)) + (a2.toInt64)) + (1 : Int64))), .second, .val (.int (1 : Int32)), .val (.long ((((((a0.toInt64) * (s1.toInt64)) + (a1.toInt64)) * (s2.toInt64)) + (a2.toInt64)) + (1 : Int64))), .second, .val (.long (((((((a0.toInt64) * (s1.toInt64)) + (a1.toInt64)) * (s2.toInt64)) + (a2.toInt64)) + (1 : Int64)) - (((((((a0.toInt64) * (s1.toInt64)) + (a1.toInt64)) * (s2.toInt64)) + (a2.toInt64)) + (1 : Int64)) / (s2.toInt64)) * (s2.toInt64))), .second, .val (.long ((((((((a0.toInt64) * (s1.toInt64)) + (a1.toInt64)) * (s2.toInt64)) + (a2.toInt64)) + (1 : Int64)) / (s2.toInt64)) - ((((((((a0.toInt64) * (s1.toInt64)) + (a1.toInt64)) * (s2.toInt64)) + (a2.toInt64)) + (1 : Int64)) / (s2.toInt64)) / (s1.toInt64)) * (s1.toInt64))), .second, .val (.long (((((((a0.toInt64) * (s1.toInt64)) + (a1.toInt64)) * (s2.toInt64)) + (a2.toInt64)) + (1 : Int64)) / ((s2.toInt64) * (s1.toInt64)))), .second, .val (.ref at_), .val (.ref sz_), .val (.int (1 : Int32)), .val (.int (1 : Int32))]) rfl ?_
                          refine Go.iload C X at_389 (n := 391) rfl rfl ?_
                          refine Go.if0_eq C X at_391 (n1 := 425) (n2 := 394) (by decide) (by decide) rfl (fun hc391 => ?_) (fun hc391 => ?_)
                          · exact absurd hc391 (by decide)
                          · refine Go.aload C X at_394 (n := 396) rfl rfl rfl ?_
                            refine Go.iconst C X at_396 (n := 397) rfl (v := (0 : Int32)) rfl ?_
                            refine Go.ialoadL C X eT V_sz_ (i := 0) rfl (v := .int s0) rfl at_397 (n := 398) rfl ?_
                            refine Go.iload C X at_398 (n := 400) rfl rfl ?_
                            refine Go.icmp_ne C X at_400 (n1 := 425) (n2 := 403) (by decide) (by decide) rfl (fun hc400 => ?_) (fun hc400 => ?_)
                            · exact absurd rfl hc400
                            · refine Go.aload C X at_403 (n := 405) rfl rfl rfl ?_
                              refine Go.iconst C X at_405 (n := 406) rfl (v := (1 : Int32)) rfl ?_
                              refine Go.ialoadL C X eT V_sz_ (i := 1) rfl (v := .int s1) rfl at_406 (n := 407) rfl ?_
                              refine Go.iload C X at_407 (n := 409) rfl rfl ?_
                              refine Go.icmp_ne C X at_409 (n1 := 425) (n2 := 412) (by decide) (by decide) rfl (fun hc409 => ?_) (fun hc409 => ?_)
                              · exact absurd rfl hc409
                              · refine Go.aload C X at_412 (n := 414) rfl rfl rfl ?_
                                refine Go.iconst C X at_414 (n := 415) rfl (v := (2 : Int32)) rfl ?_
                                refine Go.ialoadL C X eT V_sz_ (i := 2) rfl (v := .int s2) rfl at_415 (n := 416) rfl ?_
                                refine Go.iload C X at_416 (n := 418) rfl rfl ?_
                                refine Go.icmp_ne C X at_418 (n1 := 425) (n2 := 421) (by decide) (by decide) rfl (fun hc418 => ?_) (fun hc418 => ?_)
                                · exact absurd rfl hc418
                                · refine Go.iconst C X at_421 (n := 422) rfl (v := (1 : Int32)) rfl ?_
                                  refine Go.goto C X at_422 (n := 426) (by decide) (by decide) ?_
                                  refine Go.istore C X at_426 (n := 428) rfl (l' := #[.val (.int p0), .val (.int p1), .val (.int p2), .val (.int p3), .val (.int p4), .val (.int p5), .val (.int (3 : Int32)), .val (.int s0), .val (.int s1), .val (.int s2), .val (.int a0), .val (.int a1), .val (.int a2), .val (.long (s0.toInt64)), .second, .val (.long (s1.toInt64)), .second, .val (.long (s2.toInt64)), .second, .val (.long (a0.toInt64)), .second, .val (.long (a1.toInt64)), .second, .val (.long (a2.toInt64)), .second, .val (.long (((s0.toInt64) * (s1.toInt64)) * (s2.toInt64))), .second, .val (.long (((((a0.toInt64) * (s1.toInt64)) + (a1.toInt64)) * (s2.toInt64)) + (a2.toInt64))), .second, .val (.long ((((((a0.toInt64) * (s1.toInt64)) + (a1.toInt64)) * (s2.toInt64)) + (a2.toInt64)) + (1 : Int64))), .second, .val (.int (1 : Int32)), .val (.long ((((((a0.toInt64) * (s1.toInt64)) + (a1.toInt64)) * (s2.toInt64)) + (a2.toInt64)) + (1 : Int64))), .second, .val (.long (((((((a0.toInt64) * (s1.toInt64)) + (a1.toInt64)) * (s2.toInt64)) + (a2.toInt64)) + (1 : Int64)) - (((((((a0.toInt64) * (s1.toInt64)) + (a1.toInt64)) * (s2.toInt64)) + (a2.toInt64)) + (1 : Int64)) / (s2.toInt64)) * (s2.toInt64))), .second, .val (.long ((((((((a0.toInt64) * (s1.toInt64)) + (a1.toInt64)) * (s2.toInt64)) + (a2.toInt64)) + (1 : Int64)) / (s2.toInt64)) - ((((((((a0.toInt64) * (s1.toInt64)) + (a1.toInt64)) * (s2.toInt64)) + (a2.toInt64)) + (1 : Int64)) / (s2.toInt64)) / (s1.toInt64)) * (s1.toInt64))), .second, .val (.long (((((((a0.toInt64) * (s1.toInt64)) + (a1.toInt64)) * (s2.toInt64)) + (a2.toInt64)) + (1 : Int64)) / ((s2.toInt64) * (s1.toInt64)))), .second, .val (.ref at_), .val (.ref sz_), .val (.int (1 : Int32)), .val (.int (1 : Int32))]) rfl ?_
                                  refine Go.goto C X at_428 (n := 554) (by decide) (by decide) ?_
                                  refine Go.iload C X at_554 (n := 556) rfl rfl ?_
                                  refine Go.retN C X eT (Or.inl rfl) (w := (1 : Int32)) (by decide) at_556 (by decide) (by decide) ?_
                                  exact ⟨rfl, N⟩
theorem pn_1 : plainName "com/example/libsymtree/libsymtree/OdometerAdvancePinLaw" = true := by first | (simp [plainName, overriddenIn]; done) | decide +kernel
set_option maxRecDepth 65536 in
set_option maxHeartbeats 40000000 in
theorem rm0 (l : Launch) (Z : State) (a0 : Array Value) (hw : ∀ d ∈ tables_1, d.before a0 Z = true) (n0 : Nat) (h0 : Heap) (p0 p1 p2 p3 p4 p5 : Int32) (O : Old Z n0 h0) :
    Ctr l Z x code maxLocals ret room_1 #[(.int p0), (.int p1), (.int p2), (.int p3), (.int p4), (.int p5)] h0 (fun v h L => v = some (.int 1) ∧ Fr n0 L) := by
  refine Ctr.mk (plainFor_of_name pn_1) (ls := #[.val (.int p0), .val (.int p1), .val (.int p2), .val (.int p3), .val (.int p4), .val (.int p5), .unset, .unset, .unset, .unset, .unset, .unset, .unset, .unset, .unset, .unset, .unset, .unset, .unset, .unset, .unset, .unset, .unset, .unset, .unset, .unset, .unset, .unset, .unset, .unset, .unset, .unset, .unset, .unset, .unset, .unset, .unset, .unset, .unset, .unset, .unset, .unset, .unset, .unset]) (fun m => by first | (simp [entryFrame, mkF, argsToLocals, Value.category, maxLocals]; done) | rfl) ?_
  intro p e s m below meth c T C X eT hs0
  have N := Fr.nil n0
  show Go p e below _ (T.setTop (mkF m 0 #[.val (.int p0), .val (.int p1), .val (.int p2), .val (.int p3), .val (.int p4), .val (.int p5), .unset, .unset, .unset, .unset, .unset, .unset, .unset, .unset, .unset, .unset, .unset, .unset, .unset, .unset, .unset, .unset, .unset, .unset, .unset, .unset, .unset, .unset, .unset, .unset, .unset, .unset, .unset, .unset, .unset, .unset, .unset, .unset, .unset, .unset, .unset, .unset, .unset, .unset] []))
  refine Go.iloadN C X at_0 (n := 1) rfl rfl ?_
  refine Go.bipush C X at_1 (n := 3) rfl (v := (29 : Int32)) rfl ?_
  refine Go.iushr C X at_3 (n := 4) rfl ?_
  refine Go.iconst C X at_4 (n := 5) rfl (v := (3 : Int32)) rfl ?_
  refine Go.iand C X at_5 (n := 6) rfl ?_
  obtain ⟨nn, qnn⟩ : ∃ z, z = ((XT.ushr p0 (29 : Int32)) &&& (3 : Int32)) := ⟨_, rfl⟩
  rw [← qnn]
  show Go p e below _ (T.setTop (mkF m 6 #[.val (.int p0), .val (.int p1), .val (.int p2), .val (.int p3), .val (.int p4), .val (.int p5), .unset, .unset, .unset, .unset, .unset, .unset, .unset, .unset, .unset, .unset, .unset, .unset, .unset, .unset, .unset, .unset, .unset, .unset, .unset, .unset, .unset, .unset, .unset, .unset, .unset, .unset, .unset, .unset, .unset, .unset, .unset, .unset, .unset, .unset, .unset, .unset, .unset, .unset] [(.int nn)]))
  have knn : 0 ≤ nn.toInt ∧ nn.toInt < 4 := by rw [qnn, Jvm.Kit.i32_mask _ _ (k := 2) (by decide) (by decide)]; omega
  refine Go.istore C X at_6 (n := 8) rfl (l' := #[.val (.int p0), .val (.int p1), .val (.int p2), .val (.int p3), .val (.int p4), .val (.int p5), .val (.int nn), .unset, .unset, .unset, .unset, .unset, .unset, .unset, .unset, .unset, .unset, .unset, .unset, .unset, .unset, .unset, .unset, .unset, .unset, .unset, .unset, .unset, .unset, .unset, .unset, .unset, .unset, .unset, .unset, .unset, .unset, .unset, .unset, .unset, .unset, .unset, .unset, .unset]) rfl ?_
  refine Go.iconst C X at_8 (n := 9) rfl (v := (1 : Int32)) rfl ?_
  refine Go.iloadN C X at_9 (n := 10) rfl rfl ?_
  refine Go.ldcI C X (wd hw 0 rfl) at_10 (n := 12) rfl ?_
  refine Go.iand C X at_12 (n := 13) rfl ?_
  refine Go.iadd C X at_13 (n := 14) rfl ?_
  obtain ⟨s0, qs0⟩ : ∃ z, z = ((1 : Int32) + (p0 &&& (1048575 : Int32))) := ⟨_, rfl⟩
  rw [← qs0]
  show Go p e below _ (T.setTop (mkF m 14 #[.val (.int p0), .val (.int p1), .val (.int p2), .val (.int p3), .val (.int p4), .val (.int p5), .val (.int nn), .unset, .unset, .unset, .unset, .unset, .unset, .unset, .unset, .unset, .unset, .unset, .unset, .unset, .unset, .unset, .unset, .unset, .unset, .unset, .unset, .unset, .unset, .unset, .unset, .unset, .unset, .unset, .unset, .unset, .unset, .unset, .unset, .unset, .unset, .unset, .unset, .unset] [(.int s0)]))
  have ks0 := own_size p0
  rw [← qs0] at ks0
  have zs0 : s0 ≠ 0 := own_nz32 ks0
  refine Go.istore C X at_14 (n := 16) rfl (l' := #[.val (.int p0), .val (.int p1), .val (.int p2), .val (.int p3), .val (.int p4), .val (.int p5), .val (.int nn), .val (.int s0), .unset, .unset, .unset, .unset, .unset, .unset, .unset, .unset, .unset, .unset, .unset, .unset, .unset, .unset, .unset, .unset, .unset, .unset, .unset, .unset, .unset, .unset, .unset, .unset, .unset, .unset, .unset, .unset, .unset, .unset, .unset, .unset, .unset, .unset, .unset, .unset]) rfl ?_
  refine Go.iconst C X at_16 (n := 17) rfl (v := (1 : Int32)) rfl ?_
  refine Go.iloadN C X at_17 (n := 18) rfl rfl ?_
  refine Go.ldcI C X (wd hw 0 rfl) at_18 (n := 20) rfl ?_
  refine Go.iand C X at_20 (n := 21) rfl ?_
  refine Go.iadd C X at_21 (n := 22) rfl ?_
  obtain ⟨s1, qs1⟩ : ∃ z, z = ((1 : Int32) + (p1 &&& (1048575 : Int32))) := ⟨_, rfl⟩
  rw [← qs1]
  show Go p e below _ (T.setTop (mkF m 22 #[.val (.int p0), .val (.int p1), .val (.int p2), .val (.int p3), .val (.int p4), .val (.int p5), .val (.int nn), .val (.int s0), .unset, .unset, .unset, .unset, .unset, .unset, .unset, .unset, .unset, .unset, .unset, .unset, .unset, .unset, .unset, .unset, .unset, .unset, .unset, .unset, .unset, .unset, .unset, .unset, .unset, .unset, .unset, .unset, .unset, .unset, .unset, .unset, .unset, .unset, .unset, .unset] [(.int s1)]))
  have ks1 := own_size p1
  rw [← qs1] at ks1
  have zs1 : s1 ≠ 0 := own_nz32 ks1
  refine Go.istore C X at_22 (n := 24) rfl (l' := #[.val (.int p0), .val (.int p1), .val (.int p2), .val (.int p3), .val (.int p4), .val (.int p5), .val (.int nn), .val (.int s0), .val (.int s1), .unset, .unset, .unset, .unset, .unset, .unset, .unset, .unset, .unset, .unset, .unset, .unset, .unset, .unset, .unset, .unset, .unset, .unset, .unset, .unset, .unset, .unset, .unset, .unset, .unset, .unset, .unset, .unset, .unset, .unset, .unset, .unset, .unset, .unset, .unset]) rfl ?_
  refine Go.iconst C X at_24 (n := 25) rfl (v := (1 : Int32)) rfl ?_
  refine Go.iloadN C X at_25 (n := 26) rfl rfl ?_
  refine Go.ldcI C X (wd hw 0 rfl) at_26 (n := 28) rfl ?_
  refine Go.iand C X at_28 (n := 29) rfl ?_
  refine Go.iadd C X at_29 (n := 30) rfl ?_
  obtain ⟨s2, qs2⟩ : ∃ z, z = ((1 : Int32) + (p2 &&& (1048575 : Int32))) := ⟨_, rfl⟩
  rw [← qs2]
  show Go p e below _ (T.setTop (mkF m 30 #[.val (.int p0), .val (.int p1), .val (.int p2), .val (.int p3), .val (.int p4), .val (.int p5), .val (.int nn), .val (.int s0), .val (.int s1), .unset, .unset, .unset, .unset, .unset, .unset, .unset, .unset, .unset, .unset, .unset, .unset, .unset, .unset, .unset, .unset, .unset, .unset, .unset, .unset, .unset, .unset, .unset, .unset, .unset, .unset, .unset, .unset, .unset, .unset, .unset, .unset, .unset, .unset, .unset] [(.int s2)]))
  have ks2 := own_size p2
  rw [← qs2] at ks2
  have zs2 : s2 ≠ 0 := own_nz32 ks2
  refine Go.istore C X at_30 (n := 32) rfl (l' := #[.val (.int p0), .val (.int p1), .val (.int p2), .val (.int p3), .val (.int p4), .val (.int p5), .val (.int nn), .val (.int s0), .val (.int s1), .val (.int s2), .unset, .unset, .unset, .unset, .unset, .unset, .unset, .unset, .unset, .unset, .unset, .unset, .unset, .unset, .unset, .unset, .unset, .unset, .unset, .unset, .unset, .unset, .unset, .unset, .unset, .unset, .unset, .unset, .unset, .unset, .unset, .unset, .unset, .unset]) rfl ?_
  refine Go.iloadN C X at_32 (n := 33) rfl rfl ?_
  refine Go.ldcI C X (wd hw 1 rfl) at_33 (n := 35) rfl ?_
  refine Go.iand C X at_35 (n := 36) rfl ?_
  refine Go.iload C X at_36 (n := 38) rfl rfl ?_
  refine Go.irem C X at_38 (n := 39) rfl zs0 ?_
  obtain ⟨b0, qb0⟩ : ∃ z, z = ((p3 &&& (2147483647 : Int32)) % s0) := ⟨_, rfl⟩
  rw [← qb0]
  show Go p e below _ (T.setTop (mkF m 39 #[.val (.int p0), .val (.int p1), .val (.int p2), .val (.int p3), .val (.int p4), .val (.int p5), .val (.int nn), .val (.int s0), .val (.int s1), .val (.int s2), .unset, .unset, .unset, .unset, .unset, .unset, .unset, .unset, .unset, .unset, .unset, .unset, .unset, .unset, .unset, .unset, .unset, .unset, .unset, .unset, .unset, .unset, .unset, .unset, .unset, .unset, .unset, .unset, .unset, .unset, .unset, .unset, .unset, .unset] [(.int b0)]))
  have ka0 := own_rem p3 ks0
  rw [← qb0] at ka0
  refine Go.istore C X at_39 (n := 41) rfl (l' := #[.val (.int p0), .val (.int p1), .val (.int p2), .val (.int p3), .val (.int p4), .val (.int p5), .val (.int nn), .val (.int s0), .val (.int s1), .val (.int s2), .val (.int b0), .unset, .unset, .unset, .unset, .unset, .unset, .unset, .unset, .unset, .unset, .unset, .unset, .unset, .unset, .unset, .unset, .unset, .unset, .unset, .unset, .unset, .unset, .unset, .unset, .unset, .unset, .unset, .unset, .unset, .unset, .unset, .unset, .unset]) rfl ?_
  refine Go.iload C X at_41 (n := 43) rfl rfl ?_
  refine Go.ldcI C X (wd hw 1 rfl) at_43 (n := 45) rfl ?_
  refine Go.iand C X at_45 (n := 46) rfl ?_
  refine Go.iload C X at_46 (n := 48) rfl rfl ?_
  refine Go.irem C X at_48 (n := 49) rfl zs1 ?_
  obtain ⟨b1, qb1⟩ : ∃ z, z = ((p4 &&& (2147483647 : Int32)) % s1) := ⟨_, rfl⟩
  rw [← qb1]
  show Go p e below _ (T.setTop (mkF m 49 #[.val (.int p0), .val (.int p1), .val (.int p2), .val (.int p3), .val (.int p4), .val (.int p5), .val (.int nn), .val (.int s0), .val (.int s1), .val (.int s2), .val (.int b0), .unset, .unset, .unset, .unset, .unset, .unset, .unset, .unset, .unset, .unset, .unset, .unset, .unset, .unset, .unset, .unset, .unset, .unset, .unset, .unset, .unset, .unset, .unset, .unset, .unset, .unset, .unset, .unset, .unset, .unset, .unset, .unset, .unset] [(.int b1)]))
  have ka1 := own_rem p4 ks1
  rw [← qb1] at ka1
  refine Go.istore C X at_49 (n := 51) rfl (l' := #[.val (.int p0), .val (.int p1), .val (.int p2), .val (.int p3), .val (.int p4), .val (.int p5), .val (.int nn), .val (.int s0), .val (.int s1), .val (.int s2), .val (.int b0), .val (.int b1), .unset, .unset, .unset, .unset, .unset, .unset, .unset, .unset, .unset, .unset, .unset, .unset, .unset, .unset, .unset, .unset, .unset, .unset, .unset, .unset, .unset, .unset, .unset, .unset, .unset, .unset, .unset, .unset, .unset, .unset, .unset, .unset]) rfl ?_
  refine Go.iload C X at_51 (n := 53) rfl rfl ?_
  refine Go.ldcI C X (wd hw 1 rfl) at_53 (n := 55) rfl ?_
  refine Go.iand C X at_55 (n := 56) rfl ?_
  refine Go.iload C X at_56 (n := 58) rfl rfl ?_
  refine Go.irem C X at_58 (n := 59) rfl zs2 ?_
  obtain ⟨b2, qb2⟩ : ∃ z, z = ((p5 &&& (2147483647 : Int32)) % s2) := ⟨_, rfl⟩
  rw [← qb2]
  show Go p e below _ (T.setTop (mkF m 59 #[.val (.int p0), .val (.int p1), .val (.int p2), .val (.int p3), .val (.int p4), .val (.int p5), .val (.int nn), .val (.int s0), .val (.int s1), .val (.int s2), .val (.int b0), .val (.int b1), .unset, .unset, .unset, .unset, .unset, .unset, .unset, .unset, .unset, .unset, .unset, .unset, .unset, .unset, .unset, .unset, .unset, .unset, .unset, .unset, .unset, .unset, .unset, .unset, .unset, .unset, .unset, .unset, .unset, .unset, .unset, .unset] [(.int b2)]))
  have ka2 := own_rem p5 ks2
  rw [← qb2] at ka2
  refine Go.istore C X at_59 (n := 61) rfl (l' := #[.val (.int p0), .val (.int p1), .val (.int p2), .val (.int p3), .val (.int p4), .val (.int p5), .val (.int nn), .val (.int s0), .val (.int s1), .val (.int s2), .val (.int b0), .val (.int b1), .val (.int b2), .unset, .unset, .unset, .unset, .unset, .unset, .unset, .unset, .unset, .unset, .unset, .unset, .unset, .unset, .unset, .unset, .unset, .unset, .unset, .unset, .unset, .unset, .unset, .unset, .unset, .unset, .unset, .unset, .unset, .unset, .unset]) rfl ?_
  obtain rfl | rfl | rfl | rfl := own_four knn
  · exact seg61_0 hw C X eT O N ks0 ks1 ks2 ka0 ka1 ka2
  · exact seg61_1 hw C X eT O N ks0 ks1 ks2 ka0 ka1 ka2
  · exact seg61_2 hw C X eT O N ks0 ks1 ks2 ka0 ka1 ka2
  · exact seg61_3 hw C X eT O N ks0 ks1 ks2 ka0 ka1 ka2
set_option maxRecDepth 65536 in
set_option maxHeartbeats 40000000 in
theorem comes_1 {Post : Tables → Env → Array Value → State → Outcome → State → Prop} (hpost : ∀ tb e args s v u, (limb_1_1.after args s (.returned v) u = true ∧ limb_1_2.after args s (.returned v) u = true ∧ True) → FrameEnd s (.returned v) u (Jvm.fieldLocs frame_1_writes args s ++ Jvm.arrayLocs frame_1_arrays args s ++ Jvm.staticLocs frame_1_statics s) 16 128 → Post tb e args s (.returned v) u) :
    ArmFor flags0 classFile x code maxLocals ret World_1 tables_1 room_1 Calls_1 rest_1 Pre_1 Post := by
  intro l hfl _ _ p e ha hc hk s m args below hf hA hF happ hP
  obtain ⟨hcalls, hrest, hpre⟩ := hP
  obtain ⟨-, -, -, hnamed, -, -, -, hat⟩ := (Spec.applies_iff hf).mp happ
  obtain ⟨hg, hn⟩ := and_e (Cond.before_iff.mp (show (Jvm.Cond.and given_1 narrow_1).before args s = true from hpre))
  obtain ⟨hcnt, hq0⟩ := and_e hg
  obtain ⟨w0, w1, w2, w3, w4, w5, rfl⟩ : ∃ w0 w1 w2 w3 w4 w5 : Value, args = #[w0, w1, w2, w3, w4, w5] := by
    have hs : args.size = 6 := by simpa [Cond.value, given_1] using hcnt
    obtain ⟨L⟩ := args
    match L, hs with
    | [w0, w1, w2, w3, w4, w5], _ => exact ⟨w0, w1, w2, w3, w4, w5, rfl⟩
  have hw := fun d (hd : d ∈ tables_1) => atoms_spec (ws := Jvm.Cond.code x code maxLocals ret :: tables_1) hat d (List.mem_cons_of_mem _ hd)
  have hfit : Fit s := fun {y c} hc i hi => by
    obtain ⟨ha, rfl⟩ := Array.getElem?_eq_some_iff.mp hc
    have q := List.all_eq_true.mp ((Array.all_eq_true_iff_forall_mem.mp hF) _ (Array.getElem_mem ha)) i (List.mem_range.mpr hi)
    simpa [Array.getElem?_eq_getElem hi] using q
  obtain ⟨ha0, hq1⟩ := and_e hq0
  obtain ⟨i0, e0⟩ := is_v ha0
  obtain rfl : w0 = (.int i0) := Option.some.inj e0
  obtain ⟨ha1, hq2⟩ := and_e hq1
  obtain ⟨i1, e1⟩ := is_v ha1
  obtain rfl : w1 = (.int i1) := Option.some.inj e1
  obtain ⟨ha2, hq3⟩ := and_e hq2
  obtain ⟨i2, e2⟩ := is_v ha2
  obtain rfl : w2 = (.int i2) := Option.some.inj e2
  obtain ⟨ha3, hq4⟩ := and_e hq3
  obtain ⟨i3, e3⟩ := is_v ha3
  obtain rfl : w3 = (.int i3) := Option.some.inj e3
  obtain ⟨ha4, hq5⟩ := and_e hq4
  obtain ⟨i4, e4⟩ := is_v ha4
  obtain rfl : w4 = (.int i4) := Option.some.inj e4
  obtain ⟨i5, e5⟩ := is_v hq5
  obtain rfl : w5 = (.int i5) := Option.some.inj e5
  obtain ⟨n, o, g1, g2, g3, _, L, rfl, ⟨rfl, N⟩, hq⟩ := rm0 l s _ hw s.heap.size s.heap i0 i1 i2 i3 i4 i5 (Old.start s) tables_1 p e ha hc hk s m _ below hf ((Spec.applies_iff_loose hf).mp happ).1 ⟨rfl, State.Warmed39.refl s, rfl⟩ trivial
  refine ⟨n, _, g1, g2, g3, hpost _ _ _ _ _ _ ⟨Cond.after_iff.mpr rfl, Cond.after_iff.mpr (eq_i res_at (Term.int_eval (1)) rfl), trivial⟩ ⟨hq.1, hq.2.1, (hq.2.2.sift fun y hy => Or.inr (N y hy)).mono (by decide) (by decide)⟩⟩
theorem main_1_1 : Claimed_1_1 := comes_1 fun _ _ _ _ _ _ h hF => ⟨h.1, hF⟩
theorem main_1_2 : Claimed_1_2 := comes_1 fun _ _ _ _ _ _ h hF => ⟨h.2.1, hF⟩

end Jvm.Pilot.@@N@@
namespace Jvm.Pilot.@@N@@
open Jvm Jvm.ClassFile Sem Op Lib Jvm.Free Jvm.Stand Jvm.Pilot.@@N@@.Jvm.D
/-! MADE BY PROGRAM (witnessworld.py) out of the Statement's table words and the real class files: 9 classes; the members and pool entries that the words name. The judged class is class 1, her method 1. -/
namespace start1
open Jvm.ClassFile
def u (s : String) : CpInfo := .utf8 (stringToUtf16 s)
/-- a pool by its gaps: so many unusable entries, then the entry; so many at the end -/
def gap : Nat → List CpInfo → List CpInfo
  | 0, r => r
  | n + 1, r => .unusable :: gap n r
def poolList (es : List (Nat × CpInfo)) (last : Nat) : List CpInfo := es.foldr (fun e r => gap e.1 (e.2 :: r)) (gap last [])
def pool (es : List (Nat × CpInfo)) (last : Nat) : Array CpInfo := ⟨poolList es last⟩
def fileOf (pool : Array CpInfo) (this : Nat) (attrs : Array Attribute := #[]) (ms : Array MethodInfo := #[]) (fl : Nat := 33) (sup : Nat := 0) (ifs : Array Nat := #[]) (fds : Array FieldInfo := #[]) : ClassFile where
  minorVersion := 0
  majorVersion := 65
  constantPool := pool
  accessFlags := fl
  thisClass := this
  superClass := sup
  interfaces := ifs
  fields := fds
  methods := ms
  attributes := attrs
def plain (name : String) (sup : Option ClassId) : Class where
  name := name
  kind := .ordinary
  loader := none
  accessFlags := 33
  super := sup
  interfaces := #[]
  cf := none
  fields := #[]
  methods := #[]
  instanceTypes := #[]
  staticTypes := #[]
  resolved := #[]
  callSites := []
  init := .initialized
  statics := none
  mirror := none

def pool0 : Array CpInfo := pool [(5, u "<init>"), (0, u "()V"), (1, .class_ 10), (1, u "java/lang/Object")] 113

def k0m0 : Method := { name := "<init>", desc := "()V", sig := { parameters := [], returnType := none }, accessFlags := 1, code := none }
/-- java/lang/Object -/
def k0 : Class := { plain "java/lang/Object" none with
  accessFlags := 33
  interfaces := #[]
  cf := some (fileOf pool0 8 #[] #[{ accessFlags := 1, nameIndex := 5, descriptorIndex := 6, attributes := #[] }] 33 0 #[] #[])
  fields := #[]
  methods := #[k0m0]
  instanceTypes := #[]
  staticTypes := #[]
  resolved := Array.replicate 124 none
  statics := none }

def pool1 : Array CpInfo := pool [(2, .class_ 4), (1, u "java/lang/Object"), (0, u "<init>"), (0, u "()V"), (0, .integer 1048575), (0, .integer 2147483647), (0, .methodref 10 11), (0, .class_ 12), (0, .nameAndType 13 14), (0, u "com/example/libsymtree/libsymtree/Odometer"), (0, u "advance"), (0, u "([I[I)Z"), (0, .class_ 16), (0, u "com/example/libsymtree/libsymtree/OdometerAdvancePinLaw"), (2, u "law"), (0, u "(IIIIII)Z")] 5

def k1m0 : Method := { name := "<init>", desc := "()V", sig := { parameters := [], returnType := none }, accessFlags := 1, code := none }
def k1c1 : Code := { maxStack := 6, maxLocals := 44, code := code, exceptionTable := #[], attributes := #[] }
def k1m1 : Method := { name := "law", desc := "(IIIIII)Z", sig := { parameters := [.int, .int, .int, .int, .int, .int], returnType := some .boolean }, accessFlags := 9, code := some k1c1 }
/-- com/example/libsymtree/libsymtree/OdometerAdvancePinLaw -/
def k1 : Class := { plain "com/example/libsymtree/libsymtree/OdometerAdvancePinLaw" (some 0) with
  accessFlags := 49
  interfaces := #[]
  cf := some (fileOf pool1 15 #[] #[{ accessFlags := 1, nameIndex := 5, descriptorIndex := 6, attributes := #[] }, { accessFlags := 9, nameIndex := 19, descriptorIndex := 20, attributes := #[] }] 49 2 #[] #[])
  fields := #[]
  methods := #[k1m0, k1m1]
  instanceTypes := #[]
  staticTypes := #[]
  resolved := Array.replicate 26 none
  statics := none }

def pool2 : Array CpInfo := pool [(2, .class_ 4), (1, u "java/lang/Object"), (0, u "<init>"), (0, u "()V"), (10, .class_ 18), (0, u "com/example/libsymtree/libsymtree/Odometer"), (9, u "advance"), (0, u "([I[I)Z")] 2

def k2m0 : Method := { name := "<init>", desc := "()V", sig := { parameters := [], returnType := none }, accessFlags := 2, code := none }
def k2c1 : Code := { maxStack := 4, maxLocals := 3, code := prog_45_method_3_code, exceptionTable := #[], attributes := #[] }
def k2m1 : Method := { name := "advance", desc := "([I[I)Z", sig := { parameters := [(.array .int), (.array .int)], returnType := some .boolean }, accessFlags := 8, code := some k2c1 }
/-- com/example/libsymtree/libsymtree/Odometer -/
def k2 : Class := { plain "com/example/libsymtree/libsymtree/Odometer" (some 0) with
  accessFlags := 48
  interfaces := #[]
  cf := some (fileOf pool2 17 #[] #[{ accessFlags := 2, nameIndex := 5, descriptorIndex := 6, attributes := #[] }, { accessFlags := 8, nameIndex := 28, descriptorIndex := 29, attributes := #[] }] 48 2 #[] #[])
  fields := #[]
  methods := #[k2m0, k2m1]
  instanceTypes := #[]
  staticTypes := #[]
  resolved := Array.replicate 32 none
  statics := none }

def pool3 : Array CpInfo := pool [(1, u "java/lang/Cloneable"), (0, .class_ 1), (0, u "java/lang/Object"), (0, .class_ 3)] 3

/-- java/lang/Cloneable -/
def k3 : Class := { plain "java/lang/Cloneable" (some 0) with
  accessFlags := 1537
  interfaces := #[]
  cf := some (fileOf pool3 2 #[] #[] 1537 4 #[] #[])
  fields := #[]
  methods := #[]
  instanceTypes := #[]
  staticTypes := #[]
  resolved := Array.replicate 8 none
  statics := none }

def pool4 : Array CpInfo := pool [(1, u "java/io/Serializable"), (0, .class_ 1), (0, u "java/lang/Object"), (0, .class_ 3)] 3

/-- java/io/Serializable -/
def k4 : Class := { plain "java/io/Serializable" (some 0) with
  accessFlags := 1537
  interfaces := #[]
  cf := some (fileOf pool4 2 #[] #[] 1537 4 #[] #[])
  fields := #[]
  methods := #[]
  instanceTypes := #[]
  staticTypes := #[]
  resolved := Array.replicate 8 none
  statics := none }

/-- the primitive byte -/
def k5 : Class := { plain "byte" none with kind := .primitive 'B', accessFlags := 0x411 }
/-- [B -/
def k6 : Class := { plain "[B" (some 0) with kind := .array 5 .byte, interfaces := #[3, 4], accessFlags := 1041 }

/-- the primitive int -/
def k7 : Class := { plain "int" none with kind := .primitive 'I', accessFlags := 0x411 }
/-- [I -/
def k8 : Class := { plain "[I" (some 0) with kind := .array 7 .int, interfaces := #[3, 4], accessFlags := 1041 }

def heap : Heap := #[]
def classes : Array Class := #[k0, k1, k2, k3, k4, k5, k6, k7, k8]
def interned : List (Array UInt16 × Addr) := []
def slotsUsed : Nat := 0
def theMethod : MethodId := ⟨1, 1⟩
def args0 : Array Value := #[.int 5, .int 7, .int 3, .int 4, .int 5, .int 6]
def aboutOver (below : List Frame) : State where
  vm := { classes := classes, interned := interned.toArray }
  heap := heap
  slotsUsed := slotsUsed
  threads := #[{ frames := .invoking theMethod args0 :: below }]
def below0 : List Frame := [.native { method := ⟨0, 0⟩, args := #[] }]
def about1 : State := aboutOver below0
def p0 : Program := .bare "" "" ""
def e0 : Env := launch0.env 0 0 0
theorem w_frames : about1.frames = Frame.invoking theMethod args0 :: below0 := rfl
set_option maxRecDepth 65536 in
theorem w_args : argsFit about1.vm theMethod args0 = true := by decide +kernel
set_option maxRecDepth 65536 in
theorem w_heap : heapFits about1 = true := by decide +kernel
set_option maxRecDepth 65536 in
theorem w_runnable : about1.curStatus? = some .runnable := by decide +kernel
set_option maxRecDepth 65536 in
theorem w_alone : about1.alone = true := by decide +kernel
set_option maxRecDepth 65536 in
theorem w_named : about1.methodNamed? x = some theMethod := by decide +kernel
set_option maxRecDepth 65536 in
theorem w_hears : about1.hears theMethod below0 = true := by decide +kernel
set_option maxRecDepth 65536 in
theorem w_ripe : about1.ripe theMethod args0 below0 = true := by decide +kernel
theorem w_running : about1.status = .running := rfl
set_option maxRecDepth 65536 in
theorem w_room : about1.hasRoom e0.platform room_1 = true :=
  launch0.hasRoom_least _ room_1 (by decide +kernel) (by decide +kernel) (by decide +kernel) (by decide +kernel) (by decide +kernel) (by decide +kernel)
theorem allAtoms_all (ts : List Jvm.Cond) (a : Array Jvm.Value) (st : Jvm.State) : (allAtoms ts).before a st = ts.all (fun c => c.before a st) := by
  induction ts with
  | nil => rfl
  | cons c t ih =>
    show (Jvm.Cond.and c (allAtoms t)).before a st = _
    rw [Jvm.Cond.before_and, ih, List.all_cons]
def words1 : List Jvm.Cond := Jvm.Cond.code x code maxLocals ret :: tables_1
/-- a 'code' word, met by the world's own term for the bytes: nothing is compared byte by byte -/
theorem code_word {y : MethodName} {bytes : ByteArray} {mx : Nat} {rt : Option FieldType} {a : Array Value} {s : State} {m : MethodId} {meth : Method} {c : Code} (h1 : s.methodNamed? y = some m) (h2 : s.vm.method? m = some meth) (h3 : meth.code = some c) (h4 : c.code = bytes)
    (h5 : (c.maxLocals == mx && c.exceptionTable.isEmpty && decide (c.maxStack ≤ mostOperands) && decide (meth.sig.returnType = rt) && !meth.locks && decide (parseMethodDescriptor y.desc = some meth.sig)) = true) : (Jvm.Cond.code y bytes mx rt).before a s = true := by
  simp only [Bool.and_eq_true, beq_iff_eq, Bool.not_eq_true', decide_eq_true_eq] at h5
  obtain ⟨⟨⟨⟨⟨g1, g2⟩, g3⟩, g4⟩, g5⟩, g6⟩ := h5
  simp [Cond.before, Cond.holds, Cond.value, h1, h2, h3, h4, g1, g2, g3, g4, g5, g6]
def isCode : Jvm.Cond → Bool
  | .code _ _ _ _ => true
  | _ => false
theorem all_split {L : List Jvm.Cond} {P : Jvm.Cond → Bool} (h1 : L.all (fun c => isCode c || P c) = true) (h2 : ∀ c ∈ L.filter isCode, P c = true) : L.all P = true := by
  refine List.all_eq_true.mpr fun c hc => ?_
  have h := List.all_eq_true.mp h1 c hc
  rcases Bool.eq_false_or_eq_true (isCode c) with hi | hi
  · exact h2 c (List.mem_filter.mpr ⟨hc, hi⟩)
  · simpa [hi] using h
set_option maxRecDepth 65536 in
theorem w_c0 : (Jvm.Cond.code x code maxLocals ret).before args0 about1 = true := code_word (m := ⟨1, 1⟩) (meth := k1m1) (c := k1c1) (by decide +kernel) rfl rfl rfl (by decide +kernel)
set_option maxRecDepth 65536 in
theorem w_c1 : (Jvm.Cond.code ({ cls := "com/example/libsymtree/libsymtree/Odometer", name := "advance", desc := "([I[I)Z" } : Jvm.MethodName) prog_45_method_3_code (3 : Nat) (Option.some Jvm.ClassFile.FieldType.boolean)).before args0 about1 = true := code_word (m := ⟨2, 1⟩) (meth := k2m1) (c := k2c1) (by decide +kernel) rfl rfl rfl (by decide +kernel)
def codes1 : List Jvm.Cond := [Jvm.Cond.code x code maxLocals ret, Jvm.Cond.code ({ cls := "com/example/libsymtree/libsymtree/Odometer", name := "advance", desc := "([I[I)Z" } : Jvm.MethodName) prog_45_method_3_code (3 : Nat) (Option.some Jvm.ClassFile.FieldType.boolean)]
set_option maxRecDepth 65536 in
theorem codes_eq : words1.filter isCode = codes1 := rfl
theorem w_codes : ∀ c ∈ words1.filter isCode, c.before args0 about1 = true := by
  rw [codes_eq]
  intro c hc
  simp only [codes1, List.mem_cons, List.not_mem_nil, or_false] at hc
  rcases hc with rfl | rfl
  · exact w_c0
  · exact w_c1
set_option maxRecDepth 65536 in
theorem w_t1 : words1.all (fun c => isCode c || c.before args0 about1) = true := by decide +kernel
theorem w_tables : (allAtoms (Jvm.Cond.code x code maxLocals ret :: tables_1)).before args0 about1 = true := by
  rw [allAtoms_all]
  show words1.all (fun c => c.before args0 about1) = true
  refine all_split ?_ w_codes
  rw [w_t1]
set_option maxRecDepth 65536 in
theorem w_case : (Jvm.Cond.and given_1 narrow_1).before args0 about1 = true := by decide +kernel
theorem w_applies : (headSpec (Jvm.Cond.code x code maxLocals ret :: tables_1) room_1).applies x e0.platform about1 = true :=
  (Spec.applies_iff w_frames).mpr ⟨w_running, w_runnable, w_alone, w_named, w_hears, w_ripe, w_room, w_tables⟩
theorem atStart : AtStart classFile x code maxLocals ret World_1 tables_1 room_1 Calls_1 rest_1 Pre_1 launch0 p0 e0 about1 theMethod args0 below0 :=
  ⟨lists_1, trivial, launch0.admits_env _ _ _, launch0.least_env, fairChoices_fair.cas, fairChoices_fair.clock, w_frames, w_args, w_heap, w_applies, trivial, trivial, w_case⟩
end start1
theorem witness_1 : WitnessClaimed_1 := ⟨start1.p0, start1.e0, start1.about1, start1.theMethod, start1.args0, start1.below0, start1.atStart⟩
end Jvm.Pilot.@@N@@
