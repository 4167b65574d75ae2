import JvmDerived
import JvmDerived.Pilot.@@N@@Statement
import JvmDerived.Pilot.@@N@@Code
set_option linter.unusedVariables false
set_option linter.unusedSimpArgs false
namespace Jvm.RoadKit
open Sem ClassFile Op Lib Jvm.Stand Jvm.Free Jvm.LawKit
section OwnA
variable {p : Program} {l : Launch} {e : Env} {R : Room} {s : State} {m : MethodId} {args : Array Value} {below : List Frame} {meth : Method} {c : Code} {T : State} {locs : List Loc} {cells slots : Nat} {Z : State} {a0 : Array Value} {h : Heap}
/-- from T the run comes to an end of which K speaks -/
def Go (p : Program) (e : Env) (below : List Frame) (K : Outcome → State → Prop) (T : State) : Prop :=
  ∃ s₂ o, Steps p.tables e below T s₂ ∧ s₂.status = .running ∧ Ended s₂ below o ∧ K o s₂
theorem Go.of {K : Outcome → State → Prop} {T T' : State} (st : ∀ t, Steps p.tables e below T' t → Steps p.tables e below T t) (k : Go p e below K T') : Go p e below K T := by
  obtain ⟨t, o, h1, h2⟩ := k
  exact ⟨t, o, st t h1, h2⟩
/-- what stands through a whole body -/
def Cx (p : Program) (s : State) (m : MethodId) (meth : Method) (c : Code) (Z : State) (own : String) (bytes : ByteArray) (maxL : Nat) (ret : Option FieldType) (nm : String) : Prop :=
  p.tables.exec = Jvm.exec ∧ Z.Warmed39 s.vm ∧ c.code = bytes ∧ c.maxLocals = maxL ∧ s.vm.findClass own = some m.cls ∧ meth.sig.returnType = ret ∧ meth.name = nm ∧ meth.locks = false
variable {own nm : String} {bytes : ByteArray} {maxL : Nat} {ret : Option FieldType} {K : Outcome → State → Prop}
theorem Cx.hx (C : Cx p s m meth c Z own bytes maxL ret nm) : p.tables.exec = Jvm.exec := C.1
theorem Cx.hZ (C : Cx p s m meth c Z own bytes maxL ret nm) : Z.Warmed39 s.vm := C.2.1
theorem Cx.hby (C : Cx p s m meth c Z own bytes maxL ret nm) : c.code = bytes := C.2.2.1
theorem Cx.hml (C : Cx p s m meth c Z own bytes maxL ret nm) : c.maxLocals = maxL := C.2.2.2.1
theorem Cx.hown (C : Cx p s m meth c Z own bytes maxL ret nm) : s.vm.findClass own = some m.cls := C.2.2.2.2.1
theorem Cx.hret (C : Cx p s m meth c Z own bytes maxL ret nm) : meth.sig.returnType = ret := C.2.2.2.2.2.1
theorem Cx.hnm (C : Cx p s m meth c Z own bytes maxL ret nm) : meth.name = nm := C.2.2.2.2.2.2.1
theorem Cx.hlk (C : Cx p s m meth c Z own bytes maxL ret nm) : meth.locks = false := C.2.2.2.2.2.2.2
/-- the end of a body: what it returned, the heap, the places written -/
def EndQ (s : State) (Q : Option Value → Heap → List Loc → Prop) (k n : Nat) (o : Outcome) (t : State) : Prop := ∃ v L, o = .returned v ∧ Q v t.heap L ∧ FrameEnd s o t L k n
/-- a body's contract -/
def Ctr (l : Launch) (Z : State) (y : MethodName) (bytes : ByteArray) (maxL : Nat) (ret : Option FieldType) (rm : Room) (as' : Array Value) (h : Heap) (Q : Option Value → Heap → List Loc → Prop) : Prop :=
  ∀ ws, MetFree l y (head1 (Cond.code y bytes maxL ret :: ws) rm) (fun a U => a = as' ∧ Z.Warmed39 U.vm ∧ U.heap = h) (fun _ _ _ _ _ => True) (fun _ U o U' => EndQ U Q rm.cells rm.slots o U')
theorem Ctr.mk {y : MethodName} {rm : Room} {as' : Array Value} {Q : Option Value → Heap → List Loc → Prop} (hp : plainFor y = true) {ls : Array Slot} (hE : ∀ m : MethodId, entryFrame m as' maxL = mkF m 0 ls [])
    (body : ∀ (p : Program) (e : Env) (s : State) (m : MethodId) (below : List Frame) (meth : Method) (c : Code) (T : State), Cx p s m meth c Z y.cls bytes maxL ret y.name → Stand p l e rm s m as' below meth c T [] 0 0 → T.heap = h → s.heap = h → Go p e below (EndQ s Q rm.cells rm.slots) (T.setTop (mkF m 0 ls []))) :
    Ctr l Z y bytes maxL ret rm as' h Q := by
  intro ws
  refine MetFree.of_bodySF hp hisR ?_
  intro p e s m args below meth c s₁ Bd hml0 hP hK
  obtain ⟨rfl, hZ, hh⟩ := hP
  have q := body p e s m below meth c s₁ ⟨Bd.exec, hZ, Bd.bytes, hml0, findClass_of_methodNamed Bd.named, Bd.returns, (name_of_methodNamed Bd.named Bd.method).1, BodyLoose.notSynchronized Bd⟩ (Stand.of_body Bd) (by rw [← hh, Bd.state]; rfl) hh
  rw [← hE m] at q
  exact q
theorem Ctr.mono {y : MethodName} {rm : Room} {as' : Array Value} {Q Q' : Option Value → Heap → List Loc → Prop} (h1 : Ctr l Z y bytes maxL ret rm as' h Q) (h2 : ∀ v h' L, Q v h' L → Q' v h' L) : Ctr l Z y bytes maxL ret rm as' h Q' :=
  fun ws p e ha hc hk s m args below hf happ hP hK => by
    obtain ⟨n, o, g1, g2, g3, v, L, g4, g5, g6⟩ := h1 ws p e ha hc hk s m args below hf happ hP hK
    exact ⟨n, o, g1, g2, g3, v, L, g4, h2 _ _ _ g5, g6⟩
theorem Go.fin (C : Cx p s m meth c Z own bytes maxL ret nm) (X : Stand p l e R s m args below meth c T locs cells slots) (eT : T.heap = h) {v : Option Value} (hv : ret = none → v = none) {Q : Option Value → Heap → List Loc → Prop} {k n : Nat} (hQ : Q v h locs) (hc : cells ≤ k) (hn : slots ≤ n) {g : JFrame}
    (st : ∀ fs, (∀ (f : JFrame) (acts : List Action), f.method = m → f.locked = none → f.entered = [] → (doReturn e (T.setTop f) acts v).1 = T.setFrames fs) → Steps p.tables e below (T.setTop g) (T.setFrames fs)) : Go p e below (EndQ s Q k n) (T.setTop g) := by
  obtain ⟨fs, hr, hrun, hended, hW, hsame⟩ := X.leave (v := v) (fun h => hv (C.hret ▸ h)) C.hlk
  subst eT
  exact ⟨_, _, st fs hr, hrun, hended, _, _, rfl, hQ, ⟨_, rfl⟩, hW, hsame.mono hc hn⟩
theorem Go.ret0 (C : Cx p s m meth c Z own bytes maxL none nm) (X : Stand p l e R s m args below meth c T locs cells slots) (eT : T.heap = h) {pc : Nat} {ls : Array Slot} {Q : Option Value → Heap → List Loc → Prop} {k n : Nat} (hd : decode bytes pc = .ok (.return_, 1)) (hc : cells ≤ k) (hn : slots ≤ n) (hQ : Q none h locs) : Go p e below (EndQ s Q k n) (T.setTop (mkF m pc ls [])) :=
  Go.fin C X eT (v := none) (fun _ => rfl) hQ hc hn fun fs hr => X.returnOut C.hx C.hret (hb C.hby hd) hr
theorem Go.retI (C : Cx p s m meth c Z own bytes maxL (some .int) nm) (X : Stand p l e R s m args below meth c T locs cells slots) (eT : T.heap = h) {pc : Nat} {ls : Array Slot} {z : Int32} {rest : List Value} {Q : Option Value → Heap → List Loc → Prop} {k n : Nat} (hd : decode bytes pc = .ok (.ireturn, 1)) (hc : cells ≤ k) (hn : slots ≤ n) (hQ : Q (some (.int z)) h locs) : Go p e below (EndQ s Q k n) (T.setTop (mkF m pc ls (.int z :: rest))) :=
  Go.fin C X eT (v := some (.int z)) (fun h => nomatch h) hQ hc hn fun fs hr => retOut X C.hx C.hret rfl (Or.inl ⟨rfl, Or.inl rfl, z, rfl⟩) (hb C.hby hd) hr
theorem Go.retJ (C : Cx p s m meth c Z own bytes maxL (some .long) nm) (X : Stand p l e R s m args below meth c T locs cells slots) (eT : T.heap = h) {pc : Nat} {ls : Array Slot} {z : Int64} {rest : List Value} {Q : Option Value → Heap → List Loc → Prop} {k n : Nat} (hd : decode bytes pc = .ok (.lreturn, 1)) (hc : cells ≤ k) (hn : slots ≤ n) (hQ : Q (some (.long z)) h locs) : Go p e below (EndQ s Q k n) (T.setTop (mkF m pc ls (.long z :: rest))) :=
  Go.fin C X eT (v := some (.long z)) (fun h => nomatch h) hQ hc hn fun fs hr => retOut X C.hx C.hret rfl (Or.inr (Or.inl ⟨rfl, rfl, z, rfl⟩)) (hb C.hby hd) hr
theorem Go.retA {t : FieldType} (C : Cx p s m meth c Z own bytes maxL (some t) nm) (X : Stand p l e R s m args below meth c T locs cells slots) (eT : T.heap = h) {pc : Nat} {ls : Array Slot} {w : Value} {rest : List Value} {Q : Option Value → Heap → List Loc → Prop} {k n : Nat} (ht : t.isReference = true) (hn0 : narrow t w = w) (hw : w.isRef = true) (hd : decode bytes pc = .ok (.areturn, 1)) (hc : cells ≤ k) (hn : slots ≤ n) (hQ : Q (some w) h locs) : Go p e below (EndQ s Q k n) (T.setTop (mkF m pc ls (w :: rest))) :=
  Go.fin C X eT (v := some w) (fun h => nomatch h) hQ hc hn fun fs hr => retOut X C.hx C.hret hn0 (Or.inr (Or.inr (Or.inr (Or.inr ⟨rfl, ht, hw⟩)))) (hb C.hby hd) hr
theorem Go.retN {t : FieldType} (C : Cx p s m meth c Z own bytes maxL (some t) nm) (X : Stand p l e R s m args below meth c T locs cells slots) (eT : T.heap = h) {pc : Nat} {ls : Array Slot} {z w : Int32} {rest : List Value} {Q : Option Value → Heap → List Loc → Prop} {k n : Nat} (ht : t = .boolean ∨ t = .byte ∨ t = .char ∨ t = .short) (hw : nar t z = w) (hd : decode bytes pc = .ok (.ireturn, 1)) (hc : cells ≤ k) (hn : slots ≤ n) (hQ : Q (some (.int w)) h locs) : Go p e below (EndQ s Q k n) (T.setTop (mkF m pc ls (.int z :: rest))) := by
  subst hw
  exact Go.fin C X eT (v := some (.int (nar t z))) (fun h => nomatch h) hQ hc hn fun fs hr => Jvm.RoadKit.retN X C.hx C.hret ht (hb C.hby hd) hr
theorem Go.iloadN (C : Cx p s m meth c Z own bytes maxL ret nm) (X : Stand p l e R s m args below meth c T locs cells slots) {pc n : Nat} {ls : Array Slot} {rest : List Value} {k : Fin 4} {v : Int32} (hd : decode bytes pc = .ok (.iload_n k, 1)) (hn : pc + 1 = n) (hl : ls[k.val]? = some (.val (.int v))) (k : Go p e below K (T.setTop (mkF m n ls (.int v :: rest)))) : Go p e below K (T.setTop (mkF m pc ls (rest))) := by
  subst hn
  exact Go.of (fun t q => XS.iloadN X.here C.hx rfl (hb C.hby hd) hl q) k
theorem Go.iload (C : Cx p s m meth c Z own bytes maxL ret nm) (X : Stand p l e R s m args below meth c T locs cells slots) {pc n : Nat} {ls : Array Slot} {rest : List Value} {k : Nat} {v : Int32} (hd : decode bytes pc = .ok (.iload k, 2)) (hn : pc + 2 = n) (hl : ls[k]? = some (.val (.int v))) (k : Go p e below K (T.setTop (mkF m n ls (.int v :: rest)))) : Go p e below K (T.setTop (mkF m pc ls (rest))) := by
  subst hn
  exact Go.of (fun t q => XS.iload X.here C.hx rfl (hb C.hby hd) hl q) k
theorem Go.istoreN (C : Cx p s m meth c Z own bytes maxL ret nm) (X : Stand p l e R s m args below meth c T locs cells slots) {pc n : Nat} {ls : Array Slot} {rest : List Value} {k : Fin 4} {v : Int32} {l' : Array Slot} (hd : decode bytes pc = .ok (.istore_n k, 1)) (hn : pc + 1 = n) (hl : storeLocals ls k.val (.int v) = some l') (k : Go p e below K (T.setTop (mkF m n l' (rest)))) : Go p e below K (T.setTop (mkF m pc ls (.int v :: rest))) := by
  subst hn
  exact Go.of (fun t q => XS.istoreN X.here C.hx rfl (hb C.hby hd) rfl hl q) k
theorem Go.istore (C : Cx p s m meth c Z own bytes maxL ret nm) (X : Stand p l e R s m args below meth c T locs cells slots) {pc n : Nat} {ls : Array Slot} {rest : List Value} {k : Nat} {v : Int32} {l' : Array Slot} (hd : decode bytes pc = .ok (.istore k, 2)) (hn : pc + 2 = n) (hl : storeLocals ls k (.int v) = some l') (k : Go p e below K (T.setTop (mkF m n l' (rest)))) : Go p e below K (T.setTop (mkF m pc ls (.int v :: rest))) := by
  subst hn
  exact Go.of (fun t q => XS.istore X.here C.hx rfl (hb C.hby hd) rfl hl q) k
theorem Go.lloadN (C : Cx p s m meth c Z own bytes maxL ret nm) (X : Stand p l e R s m args below meth c T locs cells slots) {pc n : Nat} {ls : Array Slot} {rest : List Value} {k : Fin 4} {v : Int64} (hd : decode bytes pc = .ok (.lload_n k, 1)) (hn : pc + 1 = n) (hl : ls[k.val]? = some (.val (.long v))) (k : Go p e below K (T.setTop (mkF m n ls (.long v :: rest)))) : Go p e below K (T.setTop (mkF m pc ls (rest))) := by
  subst hn
  exact Go.of (fun t q => XT.lloadN X.here C.hx rfl (hb C.hby hd) hl q) k
theorem Go.lload (C : Cx p s m meth c Z own bytes maxL ret nm) (X : Stand p l e R s m args below meth c T locs cells slots) {pc n : Nat} {ls : Array Slot} {rest : List Value} {k : Nat} {v : Int64} (hd : decode bytes pc = .ok (.lload k, 2)) (hn : pc + 2 = n) (hl : ls[k]? = some (.val (.long v))) (k : Go p e below K (T.setTop (mkF m n ls (.long v :: rest)))) : Go p e below K (T.setTop (mkF m pc ls (rest))) := by
  subst hn
  exact Go.of (fun t q => XT.lload X.here C.hx rfl (hb C.hby hd) hl q) k
theorem Go.lstoreN (C : Cx p s m meth c Z own bytes maxL ret nm) (X : Stand p l e R s m args below meth c T locs cells slots) {pc n : Nat} {ls : Array Slot} {rest : List Value} {k : Fin 4} {v : Int64} {l' : Array Slot} (hd : decode bytes pc = .ok (.lstore_n k, 1)) (hn : pc + 1 = n) (hl : storeLocals ls k.val (.long v) = some l') (k : Go p e below K (T.setTop (mkF m n l' (rest)))) : Go p e below K (T.setTop (mkF m pc ls (.long v :: rest))) := by
  subst hn
  exact Go.of (fun t q => XT.lstoreN X.here C.hx rfl (hb C.hby hd) rfl hl q) k
theorem Go.lstore (C : Cx p s m meth c Z own bytes maxL ret nm) (X : Stand p l e R s m args below meth c T locs cells slots) {pc n : Nat} {ls : Array Slot} {rest : List Value} {k : Nat} {v : Int64} {l' : Array Slot} (hd : decode bytes pc = .ok (.lstore k, 2)) (hn : pc + 2 = n) (hl : storeLocals ls k (.long v) = some l') (k : Go p e below K (T.setTop (mkF m n l' (rest)))) : Go p e below K (T.setTop (mkF m pc ls (.long v :: rest))) := by
  subst hn
  exact Go.of (fun t q => XT.lstore X.here C.hx rfl (hb C.hby hd) rfl hl q) k
theorem Go.aloadN (C : Cx p s m meth c Z own bytes maxL ret nm) (X : Stand p l e R s m args below meth c T locs cells slots) {pc n : Nat} {ls : Array Slot} {rest : List Value} {k : Fin 4} {v : Value} (hd : decode bytes pc = .ok (.aload_n k, 1)) (hn : pc + 1 = n) (hl : ls[k.val]? = some (.val v)) (hv : v.isRef = true) (k : Go p e below K (T.setTop (mkF m n ls (v :: rest)))) : Go p e below K (T.setTop (mkF m pc ls (rest))) := by
  subst hn
  exact Go.of (fun t q => XS.aloadN X.here C.hx rfl (hb C.hby hd) hl hv q) k
theorem Go.aload (C : Cx p s m meth c Z own bytes maxL ret nm) (X : Stand p l e R s m args below meth c T locs cells slots) {pc n : Nat} {ls : Array Slot} {rest : List Value} {k : Nat} {v : Value} (hd : decode bytes pc = .ok (.aload k, 2)) (hn : pc + 2 = n) (hl : ls[k]? = some (.val v)) (hv : v.isRef = true) (k : Go p e below K (T.setTop (mkF m n ls (v :: rest)))) : Go p e below K (T.setTop (mkF m pc ls (rest))) := by
  subst hn
  exact Go.of (fun t q => XS.aload X.here C.hx rfl (hb C.hby hd) hl hv q) k
theorem Go.astoreN (C : Cx p s m meth c Z own bytes maxL ret nm) (X : Stand p l e R s m args below meth c T locs cells slots) {pc n : Nat} {ls : Array Slot} {rest : List Value} {k : Fin 4} {v : Value} {l' : Array Slot} (hd : decode bytes pc = .ok (.astore_n k, 1)) (hn : pc + 1 = n) (hv : v.isRef = true) (hl : storeLocals ls k.val v = some l') (k : Go p e below K (T.setTop (mkF m n l' (rest)))) : Go p e below K (T.setTop (mkF m pc ls (v :: rest))) := by
  subst hn
  exact Go.of (fun t q => XS.astoreN X.here C.hx rfl (hb C.hby hd) rfl hv hl q) k
theorem Go.astore (C : Cx p s m meth c Z own bytes maxL ret nm) (X : Stand p l e R s m args below meth c T locs cells slots) {pc n : Nat} {ls : Array Slot} {rest : List Value} {k : Nat} {v : Value} {l' : Array Slot} (hd : decode bytes pc = .ok (.astore k, 2)) (hn : pc + 2 = n) (hv : v.isRef = true) (hl : storeLocals ls k v = some l') (k : Go p e below K (T.setTop (mkF m n l' (rest)))) : Go p e below K (T.setTop (mkF m pc ls (v :: rest))) := by
  subst hn
  exact Go.of (fun t q => XS.astore X.here C.hx rfl (hb C.hby hd) rfl hv hl q) k
theorem Go.iconst (C : Cx p s m meth c Z own bytes maxL ret nm) (X : Stand p l e R s m args below meth c T locs cells slots) {pc n : Nat} {ls : Array Slot} {rest : List Value} {i : Int} {v : Int32} (hd : decode bytes pc = .ok (.iconst i, 1)) (hn : pc + 1 = n) (hv : Int32.ofInt i = v) (k : Go p e below K (T.setTop (mkF m n ls (.int v :: rest)))) : Go p e below K (T.setTop (mkF m pc ls (rest))) := by
  subst hn
  exact Go.of (fun t q => XT.iconstV X.here C.hx rfl v (hb C.hby hd) hv q) k
theorem Go.bipush (C : Cx p s m meth c Z own bytes maxL ret nm) (X : Stand p l e R s m args below meth c T locs cells slots) {pc n : Nat} {ls : Array Slot} {rest : List Value} {i : Int} {v : Int32} (hd : decode bytes pc = .ok (.bipush i, 2)) (hn : pc + 2 = n) (hv : (Int8.ofInt i).toInt32 = v) (k : Go p e below K (T.setTop (mkF m n ls (.int v :: rest)))) : Go p e below K (T.setTop (mkF m pc ls (rest))) := by
  subst hn
  exact Go.of (fun t q => XT.bipushV X.here C.hx rfl v (hb C.hby hd) hv q) k
theorem Go.sipush (C : Cx p s m meth c Z own bytes maxL ret nm) (X : Stand p l e R s m args below meth c T locs cells slots) {pc n : Nat} {ls : Array Slot} {rest : List Value} {i : Int} {v : Int32} (hd : decode bytes pc = .ok (.sipush i, 3)) (hn : pc + 3 = n) (hv : (Int16.ofInt i).toInt32 = v) (k : Go p e below K (T.setTop (mkF m n ls (.int v :: rest)))) : Go p e below K (T.setTop (mkF m pc ls (rest))) := by
  subst hn
  exact Go.of (fun t q => XT.sipushV X.here C.hx rfl v (hb C.hby hd) hv q) k
theorem Go.lconst (C : Cx p s m meth c Z own bytes maxL ret nm) (X : Stand p l e R s m args below meth c T locs cells slots) {pc n : Nat} {ls : Array Slot} {rest : List Value} {i : Fin 2} {v : Int64} (hd : decode bytes pc = .ok (.lconst i, 1)) (hn : pc + 1 = n) (hv : Int64.ofNat i = v) (k : Go p e below K (T.setTop (mkF m n ls (.long v :: rest)))) : Go p e below K (T.setTop (mkF m pc ls (rest))) := by
  subst hn
  exact Go.of (fun t q => XT.lconstV X.here C.hx rfl v (hb C.hby hd) hv q) k
theorem Go.aconstNull (C : Cx p s m meth c Z own bytes maxL ret nm) (X : Stand p l e R s m args below meth c T locs cells slots) {pc n : Nat} {ls : Array Slot} {rest : List Value}  (hd : decode bytes pc = .ok (.aconst_null, 1)) (hn : pc + 1 = n) (k : Go p e below K (T.setTop (mkF m n ls (.null :: rest)))) : Go p e below K (T.setTop (mkF m pc ls (rest))) := by
  subst hn
  exact Go.of (fun t q => XS.aconstNull X.here C.hx rfl (hb C.hby hd) q) k
theorem Go.iadd (C : Cx p s m meth c Z own bytes maxL ret nm) (X : Stand p l e R s m args below meth c T locs cells slots) {pc n : Nat} {ls : Array Slot} {rest : List Value} {x y : Int32} (hd : decode bytes pc = .ok (.iadd, 1)) (hn : pc + 1 = n) (k : Go p e below K (T.setTop (mkF m n ls (.int (x + y) :: rest)))) : Go p e below K (T.setTop (mkF m pc ls (.int y :: .int x :: rest))) := by
  subst hn
  exact Go.of (fun t q => XS.iadd X.here C.hx rfl (hb C.hby hd) rfl q) k
theorem Go.ladd (C : Cx p s m meth c Z own bytes maxL ret nm) (X : Stand p l e R s m args below meth c T locs cells slots) {pc n : Nat} {ls : Array Slot} {rest : List Value} {x y : Int64} (hd : decode bytes pc = .ok (.ladd, 1)) (hn : pc + 1 = n) (k : Go p e below K (T.setTop (mkF m n ls (.long (x + y) :: rest)))) : Go p e below K (T.setTop (mkF m pc ls (.long y :: .long x :: rest))) := by
  subst hn
  exact Go.of (fun t q => XT.ladd X.here C.hx rfl (hb C.hby hd) rfl q) k
theorem Go.isub (C : Cx p s m meth c Z own bytes maxL ret nm) (X : Stand p l e R s m args below meth c T locs cells slots) {pc n : Nat} {ls : Array Slot} {rest : List Value} {x y : Int32} (hd : decode bytes pc = .ok (.isub, 1)) (hn : pc + 1 = n) (k : Go p e below K (T.setTop (mkF m n ls (.int (x - y) :: rest)))) : Go p e below K (T.setTop (mkF m pc ls (.int y :: .int x :: rest))) := by
  subst hn
  exact Go.of (fun t q => XS.isub X.here C.hx rfl (hb C.hby hd) rfl q) k
theorem Go.lsub (C : Cx p s m meth c Z own bytes maxL ret nm) (X : Stand p l e R s m args below meth c T locs cells slots) {pc n : Nat} {ls : Array Slot} {rest : List Value} {x y : Int64} (hd : decode bytes pc = .ok (.lsub, 1)) (hn : pc + 1 = n) (k : Go p e below K (T.setTop (mkF m n ls (.long (x - y) :: rest)))) : Go p e below K (T.setTop (mkF m pc ls (.long y :: .long x :: rest))) := by
  subst hn
  exact Go.of (fun t q => XT.lsub X.here C.hx rfl (hb C.hby hd) rfl q) k
theorem Go.imul (C : Cx p s m meth c Z own bytes maxL ret nm) (X : Stand p l e R s m args below meth c T locs cells slots) {pc n : Nat} {ls : Array Slot} {rest : List Value} {x y : Int32} (hd : decode bytes pc = .ok (.imul, 1)) (hn : pc + 1 = n) (k : Go p e below K (T.setTop (mkF m n ls (.int (x * y) :: rest)))) : Go p e below K (T.setTop (mkF m pc ls (.int y :: .int x :: rest))) := by
  subst hn
  exact Go.of (fun t q => XS.imul X.here C.hx rfl (hb C.hby hd) rfl q) k
theorem Go.lmul (C : Cx p s m meth c Z own bytes maxL ret nm) (X : Stand p l e R s m args below meth c T locs cells slots) {pc n : Nat} {ls : Array Slot} {rest : List Value} {x y : Int64} (hd : decode bytes pc = .ok (.lmul, 1)) (hn : pc + 1 = n) (k : Go p e below K (T.setTop (mkF m n ls (.long (x * y) :: rest)))) : Go p e below K (T.setTop (mkF m pc ls (.long y :: .long x :: rest))) := by
  subst hn
  exact Go.of (fun t q => XT.lmul X.here C.hx rfl (hb C.hby hd) rfl q) k
theorem Go.iand (C : Cx p s m meth c Z own bytes maxL ret nm) (X : Stand p l e R s m args below meth c T locs cells slots) {pc n : Nat} {ls : Array Slot} {rest : List Value} {x y : Int32} (hd : decode bytes pc = .ok (.iand, 1)) (hn : pc + 1 = n) (k : Go p e below K (T.setTop (mkF m n ls (.int (x &&& y) :: rest)))) : Go p e below K (T.setTop (mkF m pc ls (.int y :: .int x :: rest))) := by
  subst hn
  exact Go.of (fun t q => XS.iand X.here C.hx rfl (hb C.hby hd) rfl q) k
theorem Go.land (C : Cx p s m meth c Z own bytes maxL ret nm) (X : Stand p l e R s m args below meth c T locs cells slots) {pc n : Nat} {ls : Array Slot} {rest : List Value} {x y : Int64} (hd : decode bytes pc = .ok (.land, 1)) (hn : pc + 1 = n) (k : Go p e below K (T.setTop (mkF m n ls (.long (x &&& y) :: rest)))) : Go p e below K (T.setTop (mkF m pc ls (.long y :: .long x :: rest))) := by
  subst hn
  exact Go.of (fun t q => XT.land X.here C.hx rfl (hb C.hby hd) rfl q) k
theorem Go.ior (C : Cx p s m meth c Z own bytes maxL ret nm) (X : Stand p l e R s m args below meth c T locs cells slots) {pc n : Nat} {ls : Array Slot} {rest : List Value} {x y : Int32} (hd : decode bytes pc = .ok (.ior, 1)) (hn : pc + 1 = n) (k : Go p e below K (T.setTop (mkF m n ls (.int (x ||| y) :: rest)))) : Go p e below K (T.setTop (mkF m pc ls (.int y :: .int x :: rest))) := by
  subst hn
  exact Go.of (fun t q => XT.ior X.here C.hx rfl (hb C.hby hd) rfl q) k
theorem Go.lor (C : Cx p s m meth c Z own bytes maxL ret nm) (X : Stand p l e R s m args below meth c T locs cells slots) {pc n : Nat} {ls : Array Slot} {rest : List Value} {x y : Int64} (hd : decode bytes pc = .ok (.lor, 1)) (hn : pc + 1 = n) (k : Go p e below K (T.setTop (mkF m n ls (.long (x ||| y) :: rest)))) : Go p e below K (T.setTop (mkF m pc ls (.long y :: .long x :: rest))) := by
  subst hn
  exact Go.of (fun t q => XT.lor X.here C.hx rfl (hb C.hby hd) rfl q) k
theorem Go.ixor (C : Cx p s m meth c Z own bytes maxL ret nm) (X : Stand p l e R s m args below meth c T locs cells slots) {pc n : Nat} {ls : Array Slot} {rest : List Value} {x y : Int32} (hd : decode bytes pc = .ok (.ixor, 1)) (hn : pc + 1 = n) (k : Go p e below K (T.setTop (mkF m n ls (.int (x ^^^ y) :: rest)))) : Go p e below K (T.setTop (mkF m pc ls (.int y :: .int x :: rest))) := by
  subst hn
  exact Go.of (fun t q => XT.ixor X.here C.hx rfl (hb C.hby hd) rfl q) k
theorem Go.lxor (C : Cx p s m meth c Z own bytes maxL ret nm) (X : Stand p l e R s m args below meth c T locs cells slots) {pc n : Nat} {ls : Array Slot} {rest : List Value} {x y : Int64} (hd : decode bytes pc = .ok (.lxor, 1)) (hn : pc + 1 = n) (k : Go p e below K (T.setTop (mkF m n ls (.long (x ^^^ y) :: rest)))) : Go p e below K (T.setTop (mkF m pc ls (.long y :: .long x :: rest))) := by
  subst hn
  exact Go.of (fun t q => XT.lxor X.here C.hx rfl (hb C.hby hd) rfl q) k
theorem Go.ishl (C : Cx p s m meth c Z own bytes maxL ret nm) (X : Stand p l e R s m args below meth c T locs cells slots) {pc n : Nat} {ls : Array Slot} {rest : List Value} {x y : Int32} (hd : decode bytes pc = .ok (.ishl, 1)) (hn : pc + 1 = n) (k : Go p e below K (T.setTop (mkF m n ls (.int (x <<< (y &&& 31)) :: rest)))) : Go p e below K (T.setTop (mkF m pc ls (.int y :: .int x :: rest))) := by
  subst hn
  exact Go.of (fun t q => XT.ishl X.here C.hx rfl (hb C.hby hd) rfl q) k
theorem Go.ishr (C : Cx p s m meth c Z own bytes maxL ret nm) (X : Stand p l e R s m args below meth c T locs cells slots) {pc n : Nat} {ls : Array Slot} {rest : List Value} {x y : Int32} (hd : decode bytes pc = .ok (.ishr, 1)) (hn : pc + 1 = n) (k : Go p e below K (T.setTop (mkF m n ls (.int (x >>> (y &&& 31)) :: rest)))) : Go p e below K (T.setTop (mkF m pc ls (.int y :: .int x :: rest))) := by
  subst hn
  exact Go.of (fun t q => XT.ishr X.here C.hx rfl (hb C.hby hd) rfl q) k
theorem Go.iushr (C : Cx p s m meth c Z own bytes maxL ret nm) (X : Stand p l e R s m args below meth c T locs cells slots) {pc n : Nat} {ls : Array Slot} {rest : List Value} {x y : Int32} (hd : decode bytes pc = .ok (.iushr, 1)) (hn : pc + 1 = n) (k : Go p e below K (T.setTop (mkF m n ls (.int (XT.ushr x y) :: rest)))) : Go p e below K (T.setTop (mkF m pc ls (.int y :: .int x :: rest))) := by
  subst hn
  exact Go.of (fun t q => XT.iushr X.here C.hx rfl (hb C.hby hd) rfl q) k
theorem Go.idiv (C : Cx p s m meth c Z own bytes maxL ret nm) (X : Stand p l e R s m args below meth c T locs cells slots) {pc n : Nat} {ls : Array Slot} {rest : List Value} {x y : Int32} (hd : decode bytes pc = .ok (.idiv, 1)) (hn : pc + 1 = n) (hy : y ≠ 0) (k : Go p e below K (T.setTop (mkF m n ls (.int (x / y) :: rest)))) : Go p e below K (T.setTop (mkF m pc ls (.int y :: .int x :: rest))) := by
  subst hn
  exact Go.of (fun t q => XS.idiv X.here C.hx rfl (hb C.hby hd) rfl hy q) k
theorem Go.irem (C : Cx p s m meth c Z own bytes maxL ret nm) (X : Stand p l e R s m args below meth c T locs cells slots) {pc n : Nat} {ls : Array Slot} {rest : List Value} {x y : Int32} (hd : decode bytes pc = .ok (.irem, 1)) (hn : pc + 1 = n) (hy : y ≠ 0) (k : Go p e below K (T.setTop (mkF m n ls (.int (x % y) :: rest)))) : Go p e below K (T.setTop (mkF m pc ls (.int y :: .int x :: rest))) := by
  subst hn
  exact Go.of (fun t q => iremM X C.hx rfl (hb C.hby hd) rfl hy q) k
theorem Go.ldiv (C : Cx p s m meth c Z own bytes maxL ret nm) (X : Stand p l e R s m args below meth c T locs cells slots) {pc n : Nat} {ls : Array Slot} {rest : List Value} {x y : Int64} (hd : decode bytes pc = .ok (.ldiv, 1)) (hn : pc + 1 = n) (hy : y ≠ 0) (k : Go p e below K (T.setTop (mkF m n ls (.long (x / y) :: rest)))) : Go p e below K (T.setTop (mkF m pc ls (.long y :: .long x :: rest))) := by
  subst hn
  exact Go.of (fun t q => XT.ldiv X.here C.hx rfl (hb C.hby hd) rfl hy q) k
theorem Go.lrem (C : Cx p s m meth c Z own bytes maxL ret nm) (X : Stand p l e R s m args below meth c T locs cells slots) {pc n : Nat} {ls : Array Slot} {rest : List Value} {x y : Int64} (hd : decode bytes pc = .ok (.lrem, 1)) (hn : pc + 1 = n) (hy : y ≠ 0) (k : Go p e below K (T.setTop (mkF m n ls (.long (x - (x / y) * y) :: rest)))) : Go p e below K (T.setTop (mkF m pc ls (.long y :: .long x :: rest))) := by
  subst hn
  exact Go.of (fun t q => XT.lrem X.here C.hx rfl (hb C.hby hd) rfl hy q) k
theorem Go.ineg (C : Cx p s m meth c Z own bytes maxL ret nm) (X : Stand p l e R s m args below meth c T locs cells slots) {pc n : Nat} {ls : Array Slot} {rest : List Value} {x : Int32} (hd : decode bytes pc = .ok (.ineg, 1)) (hn : pc + 1 = n) (k : Go p e below K (T.setTop (mkF m n ls (.int (-x) :: rest)))) : Go p e below K (T.setTop (mkF m pc ls (.int x :: rest))) := by
  subst hn
  exact Go.of (fun t q => XS.ineg X.here C.hx rfl (hb C.hby hd) rfl q) k
theorem Go.i2l (C : Cx p s m meth c Z own bytes maxL ret nm) (X : Stand p l e R s m args below meth c T locs cells slots) {pc n : Nat} {ls : Array Slot} {rest : List Value} {x : Int32} (hd : decode bytes pc = .ok (.i2l, 1)) (hn : pc + 1 = n) (k : Go p e below K (T.setTop (mkF m n ls (.long (x.toInt64) :: rest)))) : Go p e below K (T.setTop (mkF m pc ls (.int x :: rest))) := by
  subst hn
  exact Go.of (fun t q => XT.i2l X.here C.hx rfl (hb C.hby hd) rfl q) k
theorem Go.i2b (C : Cx p s m meth c Z own bytes maxL ret nm) (X : Stand p l e R s m args below meth c T locs cells slots) {pc n : Nat} {ls : Array Slot} {rest : List Value} {x : Int32} (hd : decode bytes pc = .ok (.i2b, 1)) (hn : pc + 1 = n) (k : Go p e below K (T.setTop (mkF m n ls (.int (x.toInt8.toInt32) :: rest)))) : Go p e below K (T.setTop (mkF m pc ls (.int x :: rest))) := by
  subst hn
  exact Go.of (fun t q => XT.i2b X.here C.hx rfl (hb C.hby hd) rfl q) k
theorem Go.i2c (C : Cx p s m meth c Z own bytes maxL ret nm) (X : Stand p l e R s m args below meth c T locs cells slots) {pc n : Nat} {ls : Array Slot} {rest : List Value} {x : Int32} (hd : decode bytes pc = .ok (.i2c, 1)) (hn : pc + 1 = n) (k : Go p e below K (T.setTop (mkF m n ls (.int (x.toUInt32.toUInt16.toUInt32.toInt32) :: rest)))) : Go p e below K (T.setTop (mkF m pc ls (.int x :: rest))) := by
  subst hn
  exact Go.of (fun t q => XT.i2c X.here C.hx rfl (hb C.hby hd) rfl q) k
theorem Go.i2s (C : Cx p s m meth c Z own bytes maxL ret nm) (X : Stand p l e R s m args below meth c T locs cells slots) {pc n : Nat} {ls : Array Slot} {rest : List Value} {x : Int32} (hd : decode bytes pc = .ok (.i2s, 1)) (hn : pc + 1 = n) (k : Go p e below K (T.setTop (mkF m n ls (.int (x.toInt16.toInt32) :: rest)))) : Go p e below K (T.setTop (mkF m pc ls (.int x :: rest))) := by
  subst hn
  exact Go.of (fun t q => XT.i2s X.here C.hx rfl (hb C.hby hd) rfl q) k
theorem Go.l2i (C : Cx p s m meth c Z own bytes maxL ret nm) (X : Stand p l e R s m args below meth c T locs cells slots) {pc n : Nat} {ls : Array Slot} {rest : List Value} {x : Int64} (hd : decode bytes pc = .ok (.l2i, 1)) (hn : pc + 1 = n) (k : Go p e below K (T.setTop (mkF m n ls (.int (x.toInt32) :: rest)))) : Go p e below K (T.setTop (mkF m pc ls (.long x :: rest))) := by
  subst hn
  exact Go.of (fun t q => XT.l2i X.here C.hx rfl (hb C.hby hd) rfl q) k
theorem Go.lcmp (C : Cx p s m meth c Z own bytes maxL ret nm) (X : Stand p l e R s m args below meth c T locs cells slots) {pc n : Nat} {ls : Array Slot} {rest : List Value} {x y : Int64} (hd : decode bytes pc = .ok (.lcmp, 1)) (hn : pc + 1 = n) (k : Go p e below K (T.setTop (mkF m n ls (.int (XT.cmpL x y) :: rest)))) : Go p e below K (T.setTop (mkF m pc ls (.long y :: .long x :: rest))) := by
  subst hn
  exact Go.of (fun t q => XT.lcmp X.here C.hx rfl (hb C.hby hd) rfl q) k
theorem Go.iinc (C : Cx p s m meth c Z own bytes maxL ret nm) (X : Stand p l e R s m args below meth c T locs cells slots) {pc n : Nat} {ls : Array Slot} {rest : List Value} {k : Nat} {cst : Int} {x v : Int32} {l' : Array Slot} (hd : decode bytes pc = .ok (.iinc k cst, 3)) (hn : pc + 3 = n) (hv : Int32.ofInt cst = v) (hl : ls[k]? = some (.val (.int x))) (hl' : storeLocals ls k (.int (x + v)) = some l') (k : Go p e below K (T.setTop (mkF m n l' (rest)))) : Go p e below K (T.setTop (mkF m pc ls (rest))) := by
  subst hn
  exact Go.of (fun t q => XT.iincV X.here C.hx rfl v (hb C.hby hd) hv hl hl' q) k
theorem Go.dup (C : Cx p s m meth c Z own bytes maxL ret nm) (X : Stand p l e R s m args below meth c T locs cells slots) {pc n : Nat} {ls : Array Slot} {rest : List Value} {x : Value} (hd : decode bytes pc = .ok (.dup, 1)) (hn : pc + 1 = n) (hc : x.category = 1) (k : Go p e below K (T.setTop (mkF m n ls (x :: x :: rest)))) : Go p e below K (T.setTop (mkF m pc ls (x :: rest))) := by
  subst hn
  exact Go.of (fun t q => XS.dup X.here C.hx rfl (hb C.hby hd) rfl hc q) k
theorem Go.dupX1 (C : Cx p s m meth c Z own bytes maxL ret nm) (X : Stand p l e R s m args below meth c T locs cells slots) {pc n : Nat} {ls : Array Slot} {rest : List Value} {x y : Value} (hd : decode bytes pc = .ok (.dup_x1, 1)) (hn : pc + 1 = n) (hc : x.category = 1) (hc' : y.category = 1) (k : Go p e below K (T.setTop (mkF m n ls (x :: y :: x :: rest)))) : Go p e below K (T.setTop (mkF m pc ls (x :: y :: rest))) := by
  subst hn
  exact Go.of (fun t q => XT.dupX1 X.here C.hx rfl (hb C.hby hd) rfl hc hc' q) k
theorem Go.dup2 (C : Cx p s m meth c Z own bytes maxL ret nm) (X : Stand p l e R s m args below meth c T locs cells slots) {pc n : Nat} {ls : Array Slot} {rest : List Value} {x y : Value} (hd : decode bytes pc = .ok (.dup2, 1)) (hn : pc + 1 = n) (hc : x.category = 1) (hc' : y.category = 1) (k : Go p e below K (T.setTop (mkF m n ls (x :: y :: x :: y :: rest)))) : Go p e below K (T.setTop (mkF m pc ls (x :: y :: rest))) := by
  subst hn
  exact Go.of (fun t q => XT.dup2 X.here C.hx rfl (hb C.hby hd) rfl hc hc' q) k
theorem Go.pop (C : Cx p s m meth c Z own bytes maxL ret nm) (X : Stand p l e R s m args below meth c T locs cells slots) {pc n : Nat} {ls : Array Slot} {rest : List Value} {x : Value} (hd : decode bytes pc = .ok (.pop, 1)) (hn : pc + 1 = n) (hc : x.category = 1) (k : Go p e below K (T.setTop (mkF m n ls (rest)))) : Go p e below K (T.setTop (mkF m pc ls (x :: rest))) := by
  subst hn
  exact Go.of (fun t q => XT.pop X.here C.hx rfl (hb C.hby hd) rfl hc q) k
theorem Go.dupX2 (C : Cx p s m meth c Z own bytes maxL ret nm) (X : Stand p l e R s m args below meth c T locs cells slots) {pc n : Nat} {ls : Array Slot} {rest : List Value} {x y z : Value} (hd : decode bytes pc = .ok (.dup_x2, 1)) (hn : pc + 1 = n) (hc : x.category = 1) (hc' : y.category = 1) (hc'' : z.category = 1) (k : Go p e below K (T.setTop (mkF m n ls (x :: y :: z :: x :: rest)))) : Go p e below K (T.setTop (mkF m pc ls (x :: y :: z :: rest))) := by
  subst hn
  exact Go.of (fun t q => by jvm_step X.here [X.here.top, C.hx, (hb C.hby hd), hc, hc', hc'']; exact q) k
theorem Go.goto (C : Cx p s m meth c Z own bytes maxL ret nm) (X : Stand p l e R s m args below meth c T locs cells slots) {pc n : Nat} {ls : Array Slot} {rest : List Value} {o : Int} (hd : decode bytes pc = .ok (.goto o, 3)) (ho : 0 ≤ (pc : Int) + o) (hn : ((pc : Int) + o).toNat = n) (k : Go p e below K (T.setTop (mkF m n ls rest))) : Go p e below K (T.setTop (mkF m pc ls rest)) :=
  Go.of (fun t q => XS.goto X.here C.hx rfl rfl (hb C.hby hd) ho hn q) k
theorem Go.ldcI (C : Cx p s m meth c Z own bytes maxL ret nm) (X : Stand p l e R s m args below meth c T locs cells slots) {pc n : Nat} {ls : Array Slot} {rest : List Value} {index : Nat} {v : Int32} (w : (Cond.constant own index v).before a0 Z = true) (hd : decode bytes pc = .ok (.ldc index, 2)) (hn : pc + 2 = n) (k : Go p e below K (T.setTop (mkF m n ls (.int v :: rest)))) : Go p e below K (T.setTop (mkF m pc ls rest)) := by
  subst hn
  exact Go.of (fun t q => Jvm.Stand.ldcI X C.hx C.hown (mv C.hZ w) rfl (hb C.hby hd) q) k
theorem Go.icmp_eq (C : Cx p s m meth c Z own bytes maxL ret nm) (X : Stand p l e R s m args below meth c T locs cells slots) {pc n1 n2 : Nat} {ls : Array Slot} {rest : List Value} {x y : Int32} {o : Int} (hd : decode bytes pc = .ok (.if_icmp .eq o, 3)) (ho : 0 ≤ (pc : Int) + o) (h1 : ((pc : Int) + o).toNat = n1) (h2 : pc + 3 = n2)
    (ky : x = y → Go p e below K (T.setTop (mkF m n1 ls rest))) (kn : ¬ x = y → Go p e below K (T.setTop (mkF m n2 ls rest))) : Go p e below K (T.setTop (mkF m pc ls (.int y :: .int x :: rest))) := by
  subst h2
  by_cases q : x = y
  · exact Go.of (fun t z => XS.icmpYes X.here C.hx rfl rfl (hb C.hby hd) rfl (XT.ii_eq_t q) ho h1 z) (ky q)
  · exact Go.of (fun t z => XS.icmpNo X.here C.hx rfl (hb C.hby hd) rfl (XT.ii_eq_f q) z) (kn q)
theorem Go.if0_eq (C : Cx p s m meth c Z own bytes maxL ret nm) (X : Stand p l e R s m args below meth c T locs cells slots) {pc n1 n2 : Nat} {ls : Array Slot} {rest : List Value} {x : Int32} {o : Int} (hd : decode bytes pc = .ok (.ifCond .eq o, 3)) (ho : 0 ≤ (pc : Int) + o) (h1 : ((pc : Int) + o).toNat = n1) (h2 : pc + 3 = n2)
    (ky : x = 0 → Go p e below K (T.setTop (mkF m n1 ls rest))) (kn : ¬ x = 0 → Go p e below K (T.setTop (mkF m n2 ls rest))) : Go p e below K (T.setTop (mkF m pc ls (.int x :: rest))) := by
  subst h2
  by_cases q : x = 0
  · exact Go.of (fun t z => XS.ifYes X.here C.hx rfl rfl (hb C.hby hd) rfl (XT.i0_eq_t q) ho h1 z) (ky q)
  · exact Go.of (fun t z => XS.ifNo X.here C.hx rfl (hb C.hby hd) rfl (XT.i0_eq_f q) z) (kn q)
theorem Go.lcmp_eq (C : Cx p s m meth c Z own bytes maxL ret nm) (X : Stand p l e R s m args below meth c T locs cells slots) {pc n1 n2 : Nat} {ls : Array Slot} {rest : List Value} {x y : Int64} {o : Int} (hd : decode bytes pc = .ok (.ifCond .eq o, 3)) (ho : 0 ≤ (pc : Int) + o) (h1 : ((pc : Int) + o).toNat = n1) (h2 : pc + 3 = n2)
    (ky : x = y → Go p e below K (T.setTop (mkF m n1 ls rest))) (kn : ¬ x = y → Go p e below K (T.setTop (mkF m n2 ls rest))) : Go p e below K (T.setTop (mkF m pc ls (.int (XT.cmpL x y) :: rest))) := by
  subst h2
  by_cases q : x = y
  · exact Go.of (fun t z => XS.ifYes X.here C.hx rfl rfl (hb C.hby hd) rfl (XT.ll_eq_t q) ho h1 z) (ky q)
  · exact Go.of (fun t z => XS.ifNo X.here C.hx rfl (hb C.hby hd) rfl (XT.ll_eq_f q) z) (kn q)
theorem Go.icmp_ne (C : Cx p s m meth c Z own bytes maxL ret nm) (X : Stand p l e R s m args below meth c T locs cells slots) {pc n1 n2 : Nat} {ls : Array Slot} {rest : List Value} {x y : Int32} {o : Int} (hd : decode bytes pc = .ok (.if_icmp .ne o, 3)) (ho : 0 ≤ (pc : Int) + o) (h1 : ((pc : Int) + o).toNat = n1) (h2 : pc + 3 = n2)
    (ky : ¬ x = y → Go p e below K (T.setTop (mkF m n1 ls rest))) (kn : x = y → Go p e below K (T.setTop (mkF m n2 ls rest))) : Go p e below K (T.setTop (mkF m pc ls (.int y :: .int x :: rest))) := by
  subst h2
  by_cases q : x = y
  · exact Go.of (fun t z => XS.icmpNo X.here C.hx rfl (hb C.hby hd) rfl (XT.ii_ne_f q) z) (kn q)
  · exact Go.of (fun t z => XS.icmpYes X.here C.hx rfl rfl (hb C.hby hd) rfl (XT.ii_ne_t q) ho h1 z) (ky q)
theorem Go.if0_ne (C : Cx p s m meth c Z own bytes maxL ret nm) (X : Stand p l e R s m args below meth c T locs cells slots) {pc n1 n2 : Nat} {ls : Array Slot} {rest : List Value} {x : Int32} {o : Int} (hd : decode bytes pc = .ok (.ifCond .ne o, 3)) (ho : 0 ≤ (pc : Int) + o) (h1 : ((pc : Int) + o).toNat = n1) (h2 : pc + 3 = n2)
    (ky : ¬ x = 0 → Go p e below K (T.setTop (mkF m n1 ls rest))) (kn : x = 0 → Go p e below K (T.setTop (mkF m n2 ls rest))) : Go p e below K (T.setTop (mkF m pc ls (.int x :: rest))) := by
  subst h2
  by_cases q : x = 0
  · exact Go.of (fun t z => XS.ifNo X.here C.hx rfl (hb C.hby hd) rfl (XT.i0_ne_f q) z) (kn q)
  · exact Go.of (fun t z => XS.ifYes X.here C.hx rfl rfl (hb C.hby hd) rfl (XT.i0_ne_t q) ho h1 z) (ky q)
theorem Go.lcmp_ne (C : Cx p s m meth c Z own bytes maxL ret nm) (X : Stand p l e R s m args below meth c T locs cells slots) {pc n1 n2 : Nat} {ls : Array Slot} {rest : List Value} {x y : Int64} {o : Int} (hd : decode bytes pc = .ok (.ifCond .ne o, 3)) (ho : 0 ≤ (pc : Int) + o) (h1 : ((pc : Int) + o).toNat = n1) (h2 : pc + 3 = n2)
    (ky : ¬ x = y → Go p e below K (T.setTop (mkF m n1 ls rest))) (kn : x = y → Go p e below K (T.setTop (mkF m n2 ls rest))) : Go p e below K (T.setTop (mkF m pc ls (.int (XT.cmpL x y) :: rest))) := by
  subst h2
  by_cases q : x = y
  · exact Go.of (fun t z => XS.ifNo X.here C.hx rfl (hb C.hby hd) rfl (XT.ll_ne_f q) z) (kn q)
  · exact Go.of (fun t z => XS.ifYes X.here C.hx rfl rfl (hb C.hby hd) rfl (XT.ll_ne_t q) ho h1 z) (ky q)
theorem Go.icmp_lt (C : Cx p s m meth c Z own bytes maxL ret nm) (X : Stand p l e R s m args below meth c T locs cells slots) {pc n1 n2 : Nat} {ls : Array Slot} {rest : List Value} {x y : Int32} {o : Int} (hd : decode bytes pc = .ok (.if_icmp .lt o, 3)) (ho : 0 ≤ (pc : Int) + o) (h1 : ((pc : Int) + o).toNat = n1) (h2 : pc + 3 = n2)
    (ky : x < y → Go p e below K (T.setTop (mkF m n1 ls rest))) (kn : ¬ x < y → Go p e below K (T.setTop (mkF m n2 ls rest))) : Go p e below K (T.setTop (mkF m pc ls (.int y :: .int x :: rest))) := by
  subst h2
  by_cases q : x < y
  · exact Go.of (fun t z => XS.icmpYes X.here C.hx rfl rfl (hb C.hby hd) rfl (XT.ii_lt_t q) ho h1 z) (ky q)
  · exact Go.of (fun t z => XS.icmpNo X.here C.hx rfl (hb C.hby hd) rfl (XT.ii_lt_f q) z) (kn q)
theorem Go.if0_lt (C : Cx p s m meth c Z own bytes maxL ret nm) (X : Stand p l e R s m args below meth c T locs cells slots) {pc n1 n2 : Nat} {ls : Array Slot} {rest : List Value} {x : Int32} {o : Int} (hd : decode bytes pc = .ok (.ifCond .lt o, 3)) (ho : 0 ≤ (pc : Int) + o) (h1 : ((pc : Int) + o).toNat = n1) (h2 : pc + 3 = n2)
    (ky : x < 0 → Go p e below K (T.setTop (mkF m n1 ls rest))) (kn : ¬ x < 0 → Go p e below K (T.setTop (mkF m n2 ls rest))) : Go p e below K (T.setTop (mkF m pc ls (.int x :: rest))) := by
  subst h2
  by_cases q : x < 0
  · exact Go.of (fun t z => XS.ifYes X.here C.hx rfl rfl (hb C.hby hd) rfl (XT.i0_lt_t q) ho h1 z) (ky q)
  · exact Go.of (fun t z => XS.ifNo X.here C.hx rfl (hb C.hby hd) rfl (XT.i0_lt_f q) z) (kn q)
theorem Go.lcmp_lt (C : Cx p s m meth c Z own bytes maxL ret nm) (X : Stand p l e R s m args below meth c T locs cells slots) {pc n1 n2 : Nat} {ls : Array Slot} {rest : List Value} {x y : Int64} {o : Int} (hd : decode bytes pc = .ok (.ifCond .lt o, 3)) (ho : 0 ≤ (pc : Int) + o) (h1 : ((pc : Int) + o).toNat = n1) (h2 : pc + 3 = n2)
    (ky : x < y → Go p e below K (T.setTop (mkF m n1 ls rest))) (kn : ¬ x < y → Go p e below K (T.setTop (mkF m n2 ls rest))) : Go p e below K (T.setTop (mkF m pc ls (.int (XT.cmpL x y) :: rest))) := by
  subst h2
  by_cases q : x < y
  · exact Go.of (fun t z => XS.ifYes X.here C.hx rfl rfl (hb C.hby hd) rfl (XT.ll_lt_t q) ho h1 z) (ky q)
  · exact Go.of (fun t z => XS.ifNo X.here C.hx rfl (hb C.hby hd) rfl (XT.ll_lt_f q) z) (kn q)
theorem Go.icmp_ge (C : Cx p s m meth c Z own bytes maxL ret nm) (X : Stand p l e R s m args below meth c T locs cells slots) {pc n1 n2 : Nat} {ls : Array Slot} {rest : List Value} {x y : Int32} {o : Int} (hd : decode bytes pc = .ok (.if_icmp .ge o, 3)) (ho : 0 ≤ (pc : Int) + o) (h1 : ((pc : Int) + o).toNat = n1) (h2 : pc + 3 = n2)
    (ky : ¬ x < y → Go p e below K (T.setTop (mkF m n1 ls rest))) (kn : x < y → Go p e below K (T.setTop (mkF m n2 ls rest))) : Go p e below K (T.setTop (mkF m pc ls (.int y :: .int x :: rest))) := by
  subst h2
  by_cases q : x < y
  · exact Go.of (fun t z => XS.icmpNo X.here C.hx rfl (hb C.hby hd) rfl (XT.ii_ge_f q) z) (kn q)
  · exact Go.of (fun t z => XS.icmpYes X.here C.hx rfl rfl (hb C.hby hd) rfl (XT.ii_ge_t q) ho h1 z) (ky q)
theorem Go.if0_ge (C : Cx p s m meth c Z own bytes maxL ret nm) (X : Stand p l e R s m args below meth c T locs cells slots) {pc n1 n2 : Nat} {ls : Array Slot} {rest : List Value} {x : Int32} {o : Int} (hd : decode bytes pc = .ok (.ifCond .ge o, 3)) (ho : 0 ≤ (pc : Int) + o) (h1 : ((pc : Int) + o).toNat = n1) (h2 : pc + 3 = n2)
    (ky : ¬ x < 0 → Go p e below K (T.setTop (mkF m n1 ls rest))) (kn : x < 0 → Go p e below K (T.setTop (mkF m n2 ls rest))) : Go p e below K (T.setTop (mkF m pc ls (.int x :: rest))) := by
  subst h2
  by_cases q : x < 0
  · exact Go.of (fun t z => XS.ifNo X.here C.hx rfl (hb C.hby hd) rfl (XT.i0_ge_f q) z) (kn q)
  · exact Go.of (fun t z => XS.ifYes X.here C.hx rfl rfl (hb C.hby hd) rfl (XT.i0_ge_t q) ho h1 z) (ky q)
theorem Go.lcmp_ge (C : Cx p s m meth c Z own bytes maxL ret nm) (X : Stand p l e R s m args below meth c T locs cells slots) {pc n1 n2 : Nat} {ls : Array Slot} {rest : List Value} {x y : Int64} {o : Int} (hd : decode bytes pc = .ok (.ifCond .ge o, 3)) (ho : 0 ≤ (pc : Int) + o) (h1 : ((pc : Int) + o).toNat = n1) (h2 : pc + 3 = n2)
    (ky : ¬ x < y → Go p e below K (T.setTop (mkF m n1 ls rest))) (kn : x < y → Go p e below K (T.setTop (mkF m n2 ls rest))) : Go p e below K (T.setTop (mkF m pc ls (.int (XT.cmpL x y) :: rest))) := by
  subst h2
  by_cases q : x < y
  · exact Go.of (fun t z => XS.ifNo X.here C.hx rfl (hb C.hby hd) rfl (XT.ll_ge_f q) z) (kn q)
  · exact Go.of (fun t z => XS.ifYes X.here C.hx rfl rfl (hb C.hby hd) rfl (XT.ll_ge_t q) ho h1 z) (ky q)
theorem Go.icmp_gt (C : Cx p s m meth c Z own bytes maxL ret nm) (X : Stand p l e R s m args below meth c T locs cells slots) {pc n1 n2 : Nat} {ls : Array Slot} {rest : List Value} {x y : Int32} {o : Int} (hd : decode bytes pc = .ok (.if_icmp .gt o, 3)) (ho : 0 ≤ (pc : Int) + o) (h1 : ((pc : Int) + o).toNat = n1) (h2 : pc + 3 = n2)
    (ky : y < x → Go p e below K (T.setTop (mkF m n1 ls rest))) (kn : ¬ y < x → Go p e below K (T.setTop (mkF m n2 ls rest))) : Go p e below K (T.setTop (mkF m pc ls (.int y :: .int x :: rest))) := by
  subst h2
  by_cases q : y < x
  · exact Go.of (fun t z => XS.icmpYes X.here C.hx rfl rfl (hb C.hby hd) rfl (XT.ii_gt_t q) ho h1 z) (ky q)
  · exact Go.of (fun t z => XS.icmpNo X.here C.hx rfl (hb C.hby hd) rfl (XT.ii_gt_f q) z) (kn q)
theorem Go.if0_gt (C : Cx p s m meth c Z own bytes maxL ret nm) (X : Stand p l e R s m args below meth c T locs cells slots) {pc n1 n2 : Nat} {ls : Array Slot} {rest : List Value} {x : Int32} {o : Int} (hd : decode bytes pc = .ok (.ifCond .gt o, 3)) (ho : 0 ≤ (pc : Int) + o) (h1 : ((pc : Int) + o).toNat = n1) (h2 : pc + 3 = n2)
    (ky : 0 < x → Go p e below K (T.setTop (mkF m n1 ls rest))) (kn : ¬ 0 < x → Go p e below K (T.setTop (mkF m n2 ls rest))) : Go p e below K (T.setTop (mkF m pc ls (.int x :: rest))) := by
  subst h2
  by_cases q : 0 < x
  · exact Go.of (fun t z => XS.ifYes X.here C.hx rfl rfl (hb C.hby hd) rfl (XT.i0_gt_t q) ho h1 z) (ky q)
  · exact Go.of (fun t z => XS.ifNo X.here C.hx rfl (hb C.hby hd) rfl (XT.i0_gt_f q) z) (kn q)
theorem Go.lcmp_gt (C : Cx p s m meth c Z own bytes maxL ret nm) (X : Stand p l e R s m args below meth c T locs cells slots) {pc n1 n2 : Nat} {ls : Array Slot} {rest : List Value} {x y : Int64} {o : Int} (hd : decode bytes pc = .ok (.ifCond .gt o, 3)) (ho : 0 ≤ (pc : Int) + o) (h1 : ((pc : Int) + o).toNat = n1) (h2 : pc + 3 = n2)
    (ky : y < x → Go p e below K (T.setTop (mkF m n1 ls rest))) (kn : ¬ y < x → Go p e below K (T.setTop (mkF m n2 ls rest))) : Go p e below K (T.setTop (mkF m pc ls (.int (XT.cmpL x y) :: rest))) := by
  subst h2
  by_cases q : y < x
  · exact Go.of (fun t z => XS.ifYes X.here C.hx rfl rfl (hb C.hby hd) rfl (XT.ll_gt_t q) ho h1 z) (ky q)
  · exact Go.of (fun t z => XS.ifNo X.here C.hx rfl (hb C.hby hd) rfl (XT.ll_gt_f q) z) (kn q)
theorem Go.icmp_le (C : Cx p s m meth c Z own bytes maxL ret nm) (X : Stand p l e R s m args below meth c T locs cells slots) {pc n1 n2 : Nat} {ls : Array Slot} {rest : List Value} {x y : Int32} {o : Int} (hd : decode bytes pc = .ok (.if_icmp .le o, 3)) (ho : 0 ≤ (pc : Int) + o) (h1 : ((pc : Int) + o).toNat = n1) (h2 : pc + 3 = n2)
    (ky : ¬ y < x → Go p e below K (T.setTop (mkF m n1 ls rest))) (kn : y < x → Go p e below K (T.setTop (mkF m n2 ls rest))) : Go p e below K (T.setTop (mkF m pc ls (.int y :: .int x :: rest))) := by
  subst h2
  by_cases q : y < x
  · exact Go.of (fun t z => XS.icmpNo X.here C.hx rfl (hb C.hby hd) rfl (XT.ii_le_f q) z) (kn q)
  · exact Go.of (fun t z => XS.icmpYes X.here C.hx rfl rfl (hb C.hby hd) rfl (XT.ii_le_t q) ho h1 z) (ky q)
theorem Go.if0_le (C : Cx p s m meth c Z own bytes maxL ret nm) (X : Stand p l e R s m args below meth c T locs cells slots) {pc n1 n2 : Nat} {ls : Array Slot} {rest : List Value} {x : Int32} {o : Int} (hd : decode bytes pc = .ok (.ifCond .le o, 3)) (ho : 0 ≤ (pc : Int) + o) (h1 : ((pc : Int) + o).toNat = n1) (h2 : pc + 3 = n2)
    (ky : ¬ 0 < x → Go p e below K (T.setTop (mkF m n1 ls rest))) (kn : 0 < x → Go p e below K (T.setTop (mkF m n2 ls rest))) : Go p e below K (T.setTop (mkF m pc ls (.int x :: rest))) := by
  subst h2
  by_cases q : 0 < x
  · exact Go.of (fun t z => XS.ifNo X.here C.hx rfl (hb C.hby hd) rfl (XT.i0_le_f q) z) (kn q)
  · exact Go.of (fun t z => XS.ifYes X.here C.hx rfl rfl (hb C.hby hd) rfl (XT.i0_le_t q) ho h1 z) (ky q)
theorem Go.lcmp_le (C : Cx p s m meth c Z own bytes maxL ret nm) (X : Stand p l e R s m args below meth c T locs cells slots) {pc n1 n2 : Nat} {ls : Array Slot} {rest : List Value} {x y : Int64} {o : Int} (hd : decode bytes pc = .ok (.ifCond .le o, 3)) (ho : 0 ≤ (pc : Int) + o) (h1 : ((pc : Int) + o).toNat = n1) (h2 : pc + 3 = n2)
    (ky : ¬ y < x → Go p e below K (T.setTop (mkF m n1 ls rest))) (kn : y < x → Go p e below K (T.setTop (mkF m n2 ls rest))) : Go p e below K (T.setTop (mkF m pc ls (.int (XT.cmpL x y) :: rest))) := by
  subst h2
  by_cases q : y < x
  · exact Go.of (fun t z => XS.ifNo X.here C.hx rfl (hb C.hby hd) rfl (XT.ll_le_f q) z) (kn q)
  · exact Go.of (fun t z => XS.ifYes X.here C.hx rfl rfl (hb C.hby hd) rfl (XT.ll_le_t q) ho h1 z) (ky q)
theorem Go.ifnullN (C : Cx p s m meth c Z own bytes maxL ret nm) (X : Stand p l e R s m args below meth c T locs cells slots) {pc n : Nat} {ls : Array Slot} {rest : List Value} {o : Int} (hd : decode bytes pc = .ok (.ifnull o, 3)) (ho : 0 ≤ (pc : Int) + o) (hn : ((pc : Int) + o).toNat = n) (k : Go p e below K (T.setTop (mkF m n ls rest))) : Go p e below K (T.setTop (mkF m pc ls (.null :: rest))) :=
  Go.of (fun t q => XS.ifnullYes X.here C.hx rfl rfl (hb C.hby hd) rfl ho hn q) k
theorem Go.ifnullR (C : Cx p s m meth c Z own bytes maxL ret nm) (X : Stand p l e R s m args below meth c T locs cells slots) {pc n : Nat} {ls : Array Slot} {rest : List Value} {o : Int} {b : Addr} (hd : decode bytes pc = .ok (.ifnull o, 3)) (hn : pc + 3 = n) (k : Go p e below K (T.setTop (mkF m n ls rest))) : Go p e below K (T.setTop (mkF m pc ls (.ref b :: rest))) := by
  subst hn
  exact Go.of (fun t q => XS.ifnullNo X.here C.hx rfl (hb C.hby hd) rfl q) k
theorem Go.ifnonnullN (C : Cx p s m meth c Z own bytes maxL ret nm) (X : Stand p l e R s m args below meth c T locs cells slots) {pc n : Nat} {ls : Array Slot} {rest : List Value} {o : Int} (hd : decode bytes pc = .ok (.ifnonnull o, 3)) (hn : pc + 3 = n) (k : Go p e below K (T.setTop (mkF m n ls rest))) : Go p e below K (T.setTop (mkF m pc ls (.null :: rest))) := by
  subst hn
  exact Go.of (fun t q => XT.ifnonnullNo X.here C.hx rfl (hb C.hby hd) rfl q) k
theorem Go.ifnonnullR (C : Cx p s m meth c Z own bytes maxL ret nm) (X : Stand p l e R s m args below meth c T locs cells slots) {pc n : Nat} {ls : Array Slot} {rest : List Value} {o : Int} {b : Addr} (hd : decode bytes pc = .ok (.ifnonnull o, 3)) (ho : 0 ≤ (pc : Int) + o) (hn : ((pc : Int) + o).toNat = n) (k : Go p e below K (T.setTop (mkF m n ls rest))) : Go p e below K (T.setTop (mkF m pc ls (.ref b :: rest))) :=
  Go.of (fun t q => XT.ifnonnullYes X.here C.hx rfl rfl (hb C.hby hd) rfl ho hn q) k
theorem Go.acmp_eq (C : Cx p s m meth c Z own bytes maxL ret nm) (X : Stand p l e R s m args below meth c T locs cells slots) {pc n1 n2 : Nat} {ls : Array Slot} {rest : List Value} {x y : Value} {o : Int} (hx' : x.isRef = true) (hy' : y.isRef = true) (hd : decode bytes pc = .ok (.if_acmp .eq o, 3)) (ho : 0 ≤ (pc : Int) + o) (h1 : ((pc : Int) + o).toNat = n1) (h2 : pc + 3 = n2)
    (ky : x = y → Go p e below K (T.setTop (mkF m n1 ls rest))) (kn : ¬ x = y → Go p e below K (T.setTop (mkF m n2 ls rest))) : Go p e below K (T.setTop (mkF m pc ls (y :: x :: rest))) := by
  subst h2
  by_cases q : x = y
  · exact Go.of (fun t z => XT.acmpYes X.here C.hx rfl rfl (hb C.hby hd) rfl hx' hy' (XT.aa_eq_t q) ho h1 z) (ky q)
  · exact Go.of (fun t z => XT.acmpNo X.here C.hx rfl (hb C.hby hd) rfl hx' hy' (XT.aa_eq_f q) z) (kn q)
theorem Go.acmp_ne (C : Cx p s m meth c Z own bytes maxL ret nm) (X : Stand p l e R s m args below meth c T locs cells slots) {pc n1 n2 : Nat} {ls : Array Slot} {rest : List Value} {x y : Value} {o : Int} (hx' : x.isRef = true) (hy' : y.isRef = true) (hd : decode bytes pc = .ok (.if_acmp .ne o, 3)) (ho : 0 ≤ (pc : Int) + o) (h1 : ((pc : Int) + o).toNat = n1) (h2 : pc + 3 = n2)
    (ky : ¬ x = y → Go p e below K (T.setTop (mkF m n1 ls rest))) (kn : x = y → Go p e below K (T.setTop (mkF m n2 ls rest))) : Go p e below K (T.setTop (mkF m pc ls (y :: x :: rest))) := by
  subst h2
  by_cases q : x = y
  · exact Go.of (fun t z => XT.acmpNo X.here C.hx rfl (hb C.hby hd) rfl hx' hy' (XT.aa_ne_f q) z) (kn q)
  · exact Go.of (fun t z => XT.acmpYes X.here C.hx rfl rfl (hb C.hby hd) rfl hx' hy' (XT.aa_ne_t q) ho h1 z) (ky q)
theorem Go.iaload (C : Cx p s m meth c Z own bytes maxL ret nm) (X : Stand p l e R s m args below meth c T locs cells slots) {pc n : Nat} {ls : Array Slot} {rest : List Value} (eT : T.heap = h) {a : Addr} {cl : Cell} {j : Int32} {v : Value} (A : Arr Z h a cl .int) (hj : ¬ (j < 0 ∨ cl.slots.size ≤ j.toNatClampNeg)) (hv : cl.slots[j.toNatClampNeg]? = some v) (hd : decode bytes pc = .ok (.iaload, 1)) (hn : pc + 1 = n) (k : Go p e below K (T.setTop (mkF m n ls (v :: rest)))) : Go p e below K (T.setTop (mkF m pc ls (.int j :: .ref a :: rest))) := by
  subst hn
  have hc : T.heap[a]? = some cl := by rw [eT]; exact A.1
  have ha := State.isArrayOf_alike (T := s) C.hZ.alike A.2.1
  exact Go.of (fun t q => X.iaload C.hx hc ha A.2.2 hj hv (g := mkF m pc ls (.int j :: .ref a :: rest)) rfl rfl (hb C.hby hd) t q) k
theorem Go.caload (C : Cx p s m meth c Z own bytes maxL ret nm) (X : Stand p l e R s m args below meth c T locs cells slots) {pc n : Nat} {ls : Array Slot} {rest : List Value} (eT : T.heap = h) {a : Addr} {cl : Cell} {j : Int32} {v : Value} (A : Arr Z h a cl .char) (hj : ¬ (j < 0 ∨ cl.slots.size ≤ j.toNatClampNeg)) (hv : cl.slots[j.toNatClampNeg]? = some v) (hd : decode bytes pc = .ok (.caload, 1)) (hn : pc + 1 = n) (k : Go p e below K (T.setTop (mkF m n ls (v :: rest)))) : Go p e below K (T.setTop (mkF m pc ls (.int j :: .ref a :: rest))) := by
  subst hn
  have hc : T.heap[a]? = some cl := by rw [eT]; exact A.1
  have ha := State.isArrayOf_alike (T := s) C.hZ.alike A.2.1
  exact Go.of (fun t q => X.caload C.hx hc ha A.2.2 hj hv (g := mkF m pc ls (.int j :: .ref a :: rest)) rfl rfl (hb C.hby hd) t q) k
theorem Go.baloadB (C : Cx p s m meth c Z own bytes maxL ret nm) (X : Stand p l e R s m args below meth c T locs cells slots) {pc n : Nat} {ls : Array Slot} {rest : List Value} (eT : T.heap = h) {a : Addr} {cl : Cell} {j : Int32} {v : Value} (A : Arr Z h a cl .byte) (hj : ¬ (j < 0 ∨ cl.slots.size ≤ j.toNatClampNeg)) (hv : cl.slots[j.toNatClampNeg]? = some v) (hd : decode bytes pc = .ok (.baload, 1)) (hn : pc + 1 = n) (k : Go p e below K (T.setTop (mkF m n ls (v :: rest)))) : Go p e below K (T.setTop (mkF m pc ls (.int j :: .ref a :: rest))) := by
  subst hn
  have hc : T.heap[a]? = some cl := by rw [eT]; exact A.1
  have ha := State.isArrayOf_alike (T := s) C.hZ.alike A.2.1
  exact Go.of (fun t q => X.baloadBytes C.hx hc ha A.2.2 hj hv (g := mkF m pc ls (.int j :: .ref a :: rest)) rfl rfl (hb C.hby hd) t q) k
theorem Go.aaload (C : Cx p s m meth c Z own bytes maxL ret nm) (X : Stand p l e R s m args below meth c T locs cells slots) {pc n : Nat} {ls : Array Slot} {rest : List Value} (eT : T.heap = h) {a : Addr} {cl : Cell} {j : Int32} {v : Value} {ty : FieldType} (hty : ty.isReference = true) (A : Arr Z h a cl ty) (hj : ¬ (j < 0 ∨ cl.slots.size ≤ j.toNatClampNeg)) (hv : cl.slots[j.toNatClampNeg]? = some v) (hd : decode bytes pc = .ok (.aaload, 1)) (hn : pc + 1 = n) (k : Go p e below K (T.setTop (mkF m n ls (v :: rest)))) : Go p e below K (T.setTop (mkF m pc ls (.int j :: .ref a :: rest))) := by
  subst hn
  have hc : T.heap[a]? = some cl := by rw [eT]; exact A.1
  have ha := State.isArrayOf_alike (T := s) C.hZ.alike A.2.1
  exact Go.of (fun t q => X.aaload C.hx hc ha hty A.2.2 hj hv (g := mkF m pc ls (.int j :: .ref a :: rest)) rfl rfl (hb C.hby hd) t q) k
theorem Go.arraylength (C : Cx p s m meth c Z own bytes maxL ret nm) (X : Stand p l e R s m args below meth c T locs cells slots) {pc n : Nat} {ls : Array Slot} {rest : List Value} (eT : T.heap = h) {a : Addr} {cl : Cell} {ty : FieldType} {z : Int32} (A : Arr Z h a cl ty) (hz : cl.slots.size.toInt32 = z) (hd : decode bytes pc = .ok (.arraylength, 1)) (hn : pc + 1 = n) (k : Go p e below K (T.setTop (mkF m n ls (.int z :: rest)))) : Go p e below K (T.setTop (mkF m pc ls (.ref a :: rest))) := by
  subst hn hz
  have hc : T.heap[a]? = some cl := by rw [eT]; exact A.1
  have ha := State.isArrayOf_alike (T := s) C.hZ.alike A.2.1
  exact Go.of (fun t q => X.arraylength C.hx hc ha (g := mkF m pc ls (.ref a :: rest)) rfl rfl (hb C.hby hd) t q) k
theorem Go.iastore (C : Cx p s m meth c Z own bytes maxL ret nm) (X : Stand p l e R s m args below meth c T locs cells slots) {pc n : Nat} {ls : Array Slot} {rest : List Value} (eT : T.heap = h) {a : Addr} {cl : Cell} {j : Int32} {x : Int32} (A : Arr Z h a cl .int) (hj : ¬ (j < 0 ∨ cl.slots.size ≤ j.toNatClampNeg)) (hd : decode bytes pc = .ok (.iastore, 1)) (hn : pc + 1 = n) (k : ∀ T' h', Stand p l e R s m args below meth c T' (locs ++ [⟨a, j.toNatClampNeg⟩]) cells slots → T'.heap = h' → Wr h h' a j.toNatClampNeg (.int x) → Go p e below K (T'.setTop (mkF m n ls rest))) : Go p e below K (T.setTop (mkF m pc ls (.int x :: .int j :: .ref a :: rest))) := by
  subst hn
  obtain ⟨T', h', X', e', W, st⟩ := stI X C.hx C.hZ eT A hj (g := mkF m pc ls (.int x :: .int j :: .ref a :: rest)) rfl rfl (hb C.hby hd)
  exact Go.of st (k T' h' X' e' W)
theorem Go.castore (C : Cx p s m meth c Z own bytes maxL ret nm) (X : Stand p l e R s m args below meth c T locs cells slots) {pc n : Nat} {ls : Array Slot} {rest : List Value} (eT : T.heap = h) {a : Addr} {cl : Cell} {j : Int32} {x : Int32} (A : Arr Z h a cl .char) (hj : ¬ (j < 0 ∨ cl.slots.size ≤ j.toNatClampNeg)) (hd : decode bytes pc = .ok (.castore, 1)) (hn : pc + 1 = n) (k : ∀ T' h', Stand p l e R s m args below meth c T' (locs ++ [⟨a, j.toNatClampNeg⟩]) cells slots → T'.heap = h' → Wr h h' a j.toNatClampNeg (.int (nar .char x)) → Go p e below K (T'.setTop (mkF m n ls rest))) : Go p e below K (T.setTop (mkF m pc ls (.int x :: .int j :: .ref a :: rest))) := by
  subst hn
  obtain ⟨T', h', X', e', W, st⟩ := stC X C.hx C.hZ eT A hj (g := mkF m pc ls (.int x :: .int j :: .ref a :: rest)) rfl rfl (hb C.hby hd)
  exact Go.of st (k T' h' X' e' W)
theorem Go.bastoreB (C : Cx p s m meth c Z own bytes maxL ret nm) (X : Stand p l e R s m args below meth c T locs cells slots) {pc n : Nat} {ls : Array Slot} {rest : List Value} (eT : T.heap = h) {a : Addr} {cl : Cell} {j : Int32} {x : Int32} (A : Arr Z h a cl .byte) (hj : ¬ (j < 0 ∨ cl.slots.size ≤ j.toNatClampNeg)) (hd : decode bytes pc = .ok (.bastore, 1)) (hn : pc + 1 = n) (k : ∀ T' h', Stand p l e R s m args below meth c T' (locs ++ [⟨a, j.toNatClampNeg⟩]) cells slots → T'.heap = h' → Wr h h' a j.toNatClampNeg (.int (nar .byte x)) → Go p e below K (T'.setTop (mkF m n ls rest))) : Go p e below K (T.setTop (mkF m pc ls (.int x :: .int j :: .ref a :: rest))) := by
  subst hn
  obtain ⟨T', h', X', e', W, st⟩ := stB X C.hx C.hZ eT A hj (g := mkF m pc ls (.int x :: .int j :: .ref a :: rest)) rfl rfl (hb C.hby hd)
  exact Go.of st (k T' h' X' e' W)
theorem Go.aastore (C : Cx p s m meth c Z own bytes maxL ret nm) (X : Stand p l e R s m args below meth c T locs cells slots) {pc n : Nat} {ls : Array Slot} {rest : List Value} (eT : T.heap = h) {a : Addr} {cl : Cell} {j : Int32} {v : Value} {ty : FieldType} (A : Arr Z h a cl ty) (hj : ¬ (j < 0 ∨ cl.slots.size ≤ j.toNatClampNeg)) (hty : ty.isReference = true) (F : Sto Z h a v) (hd : decode bytes pc = .ok (.aastore, 1)) (hn : pc + 1 = n) (k : ∀ T' h', Stand p l e R s m args below meth c T' (locs ++ [⟨a, j.toNatClampNeg⟩]) cells slots → T'.heap = h' → Wr h h' a j.toNatClampNeg v → Go p e below K (T'.setTop (mkF m n ls rest))) : Go p e below K (T.setTop (mkF m pc ls (v :: .int j :: .ref a :: rest))) := by
  subst hn
  obtain ⟨T', h', X', e', W, st⟩ := stR X C.hx C.hZ eT A hj hty F (g := mkF m pc ls (v :: .int j :: .ref a :: rest)) rfl rfl (hb C.hby hd)
  exact Go.of st (k T' h' X' e' W)
theorem Go.getF (C : Cx p s m meth c Z own bytes maxL ret nm) (X : Stand p l e R s m args below meth c T locs cells slots) {pc n : Nat} {ls : Array Slot} {rest : List Value} (eT : T.heap = h) {R0 O n0 d : String} {index : Nat} {a : Addr} {v : Value} (w : (Cond.fieldLink own index R0 n0 d).before a0 Z = true) (via : Via Z R0 O n0 d) (F : Fld Z h a O n0 d v) (hd : decode bytes pc = .ok (.getfield index, 3)) (hn : pc + 3 = n) (k : ∀ T', Stand p l e R s m args below meth c T' locs cells slots → T'.heap = h → Go p e below K (T'.setTop (mkF m n ls (v :: rest)))) : Go p e below K (T.setTop (mkF m pc ls (.ref a :: rest))) := by
  subst hn
  obtain ⟨T', X', e', st⟩ := Jvm.RoadKit.getF X C.hx C.hZ C.hown (host := "") (Or.inl w) via eT F (g := mkF m pc ls (.ref a :: rest)) rfl rfl (hb C.hby hd)
  exact Go.of st (k T' X' e')
theorem Go.putF (C : Cx p s m meth c Z own bytes maxL ret nm) (X : Stand p l e R s m args below meth c T locs cells slots) {pc n : Nat} {ls : Array Slot} {rest : List Value} (eT : T.heap = h) {R0 O n0 d C0 : String} {index kk : Nat} {ty : FieldType} {a : Addr} {v v' old : Value} (w : (Cond.fieldLink own index R0 n0 d).before a0 Z = true) (via : Via Z R0 O n0 d) (F : Fld Z h a O n0 d old) (E : Exa Z h a C0) (L : (Cond.lays C0 O n0 d).before a0 Z = true ∨ ((Cond.laysFinal C0 O n0 d).before a0 Z = true ∧ own = O ∧ nm = "<init>")) (wi : (Cond.instantiable C0 kk).before a0 Z = true) (hty : parseFieldDescriptor d = some ty) (hnv : narrow ty v = v') (hf : fits ty v' = true) (hd : decode bytes pc = .ok (.putfield index, 3)) (hn : pc + 3 = n)
    (k : ∀ T' h', Stand p l e R s m args below meth c T' (locs ++ [⟨a, slotOf Z O n0 d⟩]) cells slots → T'.heap = h' → Wr h h' a (slotOf Z O n0 d) v' → Go p e below K (T'.setTop (mkF m n ls rest))) : Go p e below K (T.setTop (mkF m pc ls (v :: .ref a :: rest))) := by
  subst hn
  obtain ⟨T', h', X', e', W, st⟩ := Jvm.RoadKit.putFN X C.hx C.hZ C.hown w via eT F E (L.imp id fun z => ⟨z.1, z.2.1, C.hnm.trans z.2.2⟩) wi hty hnv hf (g := mkF m pc ls (v :: .ref a :: rest)) rfl rfl (hb C.hby hd)
  exact Go.of st (k T' h' X' e' W)
theorem Go.getS (C : Cx p s m meth c Z own bytes maxL ret nm) (X : Stand p l e R s m args below meth c T locs cells slots) {pc n : Nat} {ls : Array Slot} {rest : List Value} (eT : T.heap = h) {R0 O n0 d : String} {index : Nat} {v : Value} (w : (Cond.fieldLink own index R0 n0 d).before a0 Z = true) (via : Via Z R0 O n0 d) (F : Sta Z h O n0 d v) (hd : decode bytes pc = .ok (.getstatic index, 3)) (hn : pc + 3 = n) (k : ∀ T', Stand p l e R s m args below meth c T' locs cells slots → T'.heap = h → Go p e below K (T'.setTop (mkF m n ls (v :: rest)))) : Go p e below K (T.setTop (mkF m pc ls rest)) := by
  subst hn
  obtain ⟨T', X', e', st⟩ := Jvm.RoadKit.getS X C.hx C.hZ C.hown (host := "") w via eT F (g := mkF m pc ls rest) rfl (hb C.hby hd)
  exact Go.of st (k T' X' e')
theorem Go.newO (C : Cx p s m meth c Z own bytes maxL ret nm) (X : Stand p l e R s m args below meth c T locs cells slots) {pc n : Nat} {ls : Array Slot} {rest : List Value} (eT : T.heap = h) {C0 : String} {index n0 : Nat} (w : (Cond.classLink own index C0).before a0 Z = true) (wi : (Cond.instantiable C0 n0).before a0 Z = true) (wz : (Cond.initialized C0).before a0 Z = true) (hd : decode bytes pc = .ok (.new index, 3)) (hn : pc + 3 = n) (hc : cells + 1 ≤ R.cells) (hl : slots + n0 ≤ R.slots)
    (k : ∀ T' h' a, a = h.size → Stand p l e R s m args below meth c T' locs (cells + 1) (slots + n0) → T'.heap = h' → Ext h h' → Exa Z h' a C0 → (∀ {O nm d : String} {ty : FieldType}, Laid Z a0 C0 O nm d → parseFieldDescriptor d = some ty → Fld Z h' a O nm d (defaultValue ty)) → Go p e below K (T'.setTop (mkF m n ls (.ref a :: rest)))) : Go p e below K (T.setTop (mkF m pc ls rest)) := by
  subst hn
  obtain ⟨T', h', X', e', E', A', D', -, st⟩ := Jvm.RoadKit.newO X C.hx C.hZ C.hown w wi wz eT (g := mkF m pc ls rest) rfl (hb C.hby hd) hc hl
  exact Go.of st (k T' h' _ rfl X' e' E' A' D')
theorem Go.newP (C : Cx p s m meth c Z own bytes maxL ret nm) (X : Stand p l e R s m args below meth c T locs cells slots) {pc n : Nat} {ls : Array Slot} {rest : List Value} (eT : T.heap = h) {aty : ArrayType} (w : (Cond.arrayClass (newarray.typeOf aty)).before a0 Z = true) {z : Int32} (hd : decode bytes pc = .ok (.newarray aty, 2)) (hn : pc + 2 = n) (hz : ¬ z < 0) (cap : Nat) (hcap : z.toNatClampNeg ≤ cap) (hb8 : cap * 8 ≤ 536870912) (hc : cells + 1 ≤ R.cells) (hl : slots + cap ≤ R.slots)
    (k : ∀ T' h' a cA, a = h.size → Stand p l e R s m args below meth c T' locs (cells + 1) (slots + cap) → T'.heap = h' → Ext h h' → Arr Z h' a (newA cA (newarray.typeOf aty) z) (newarray.typeOf aty) → Go p e below K (T'.setTop (mkF m n ls (.ref a :: rest)))) : Go p e below K (T.setTop (mkF m pc ls (.int z :: rest))) := by
  subst hn
  obtain ⟨T', h', cA, X', e', E', A', st⟩ := Jvm.RoadKit.newP X C.hx C.hZ w eT (g := mkF m pc ls (.int z :: rest)) rfl (hb C.hby hd) rfl hz hcap hb8 hc hl
  exact Go.of st (k T' h' _ cA rfl X' e' E' A')
theorem Go.newR (C : Cx p s m meth c Z own bytes maxL ret nm) (X : Stand p l e R s m args below meth c T locs cells slots) {pc n : Nat} {ls : Array Slot} {rest : List Value} (eT : T.heap = h) {C0 : String} {index : Nat} (w1 : (Cond.classLink own index C0).before a0 Z = true) (w2 : (Cond.arrayOver (.object C0)).before a0 Z = true) {z : Int32} (hd : decode bytes pc = .ok (.anewarray index, 3)) (hn : pc + 3 = n) (hz : ¬ z < 0) (cap : Nat) (hcap : z.toNatClampNeg ≤ cap) (hb8 : cap * 8 ≤ 536870912) (hc : cells + 1 ≤ R.cells) (hl : slots + cap ≤ R.slots)
    (k : ∀ T' h' a cA, a = h.size → Stand p l e R s m args below meth c T' locs (cells + 1) (slots + cap) → T'.heap = h' → Ext h h' → Arr Z h' a (newA cA (.object C0) z) (.object C0) → Ovr Z cA C0 → Go p e below K (T'.setTop (mkF m n ls (.ref a :: rest)))) : Go p e below K (T.setTop (mkF m pc ls (.int z :: rest))) := by
  subst hn
  obtain ⟨T', h', cA, X', e', E', A', O', st⟩ := Jvm.RoadKit.newR X C.hx C.hZ C.hown w1 w2 eT (g := mkF m pc ls (.int z :: rest)) rfl (hb C.hby hd) rfl hz hcap hb8 hc hl
  exact Go.of st (k T' h' _ cA rfl X' e' E' A' O')
theorem Go.initO (C : Cx p s m meth c Z own bytes maxL ret nm) (X : Stand p l e R s m args below meth c T locs cells slots) {pc n : Nat} {ls : Array Slot} {rest : List Value} (eT : T.heap = h) {index : Nat} {a : Addr} (w1 : (Cond.methodLink own index Lib.objectInit).before a0 Z = true) (w2 : (Cond.instanceMethod Lib.objectInit).before a0 Z = true) (w3 : (Cond.code Lib.objectInit ⟨#[0xb1]⟩ 1 none).before a0 Z = true) (hd : decode bytes pc = .ok (.invokespecial index, 3)) (hn : pc + 3 = n) (hsz : ls.size = maxL) (hf : 1 ≤ R.frames) {W : Nat} (hW : (rest.map fun v => v.category).sum = W) (hl : W + 12 ≤ R.locals)
    (k : ∀ T', Stand p l e R s m args below meth c T' locs cells slots → T'.heap = h → Go p e below K (T'.setTop (mkF m n ls rest))) : Go p e below K (T.setTop (mkF m pc ls (.ref a :: rest))) := by
  subst hn
  obtain ⟨T', X', e', st⟩ := Jvm.RoadKit.initO X C.hx C.hZ C.hown w1 w2 w3 eT (g := mkF m pc ls (.ref a :: rest)) rfl (hsz.trans C.hml.symm) rfl (hb C.hby hd) hf (W := W) (by show 2 * 0 + _ ≤ _; omega) hl
  exact Go.of st (k T' X' e')
theorem Go.castY (C : Cx p s m meth c Z own bytes maxL ret nm) (X : Stand p l e R s m args below meth c T locs cells slots) {pc n : Nat} {ls : Array Slot} {rest : List Value} (eT : T.heap = h) {K0 : String} {index : Nat} {a : Addr} (w : (Cond.classLink own index K0).before a0 Z = true) (F : Ins Z h a K0 true) (hd : decode bytes pc = .ok (.checkcast index, 3)) (hn : pc + 3 = n) (k : ∀ T', Stand p l e R s m args below meth c T' locs cells slots → T'.heap = h → Go p e below K (T'.setTop (mkF m n ls (.ref a :: rest)))) : Go p e below K (T.setTop (mkF m pc ls (.ref a :: rest))) := by
  subst hn
  obtain ⟨T', X', e', st⟩ := Jvm.RoadKit.castY X C.hx C.hZ C.hown w eT F (g := mkF m pc ls (.ref a :: rest)) rfl rfl (hb C.hby hd)
  exact Go.of st (k T' X' e')
theorem Go.instY (C : Cx p s m meth c Z own bytes maxL ret nm) (X : Stand p l e R s m args below meth c T locs cells slots) {pc n : Nat} {ls : Array Slot} {rest : List Value} (eT : T.heap = h) {K0 : String} {index : Nat} {a : Addr} (w : (Cond.classLink own index K0).before a0 Z = true) (F : Ins Z h a K0 true) (hd : decode bytes pc = .ok (.instanceof index, 3)) (hn : pc + 3 = n) (k : ∀ T', Stand p l e R s m args below meth c T' locs cells slots → T'.heap = h → Go p e below K (T'.setTop (mkF m n ls (.int 1 :: rest)))) : Go p e below K (T.setTop (mkF m pc ls (.ref a :: rest))) := by
  subst hn
  obtain ⟨T', X', e', st⟩ := Jvm.RoadKit.instY X C.hx C.hZ C.hown w eT F (g := mkF m pc ls (.ref a :: rest)) rfl rfl (hb C.hby hd)
  exact Go.of st (k T' X' e')
theorem Go.newPE (C : Cx p s m meth c Z own bytes maxL ret nm) (X : Stand p l e R s m args below meth c T locs cells slots) {pc n : Nat} {ls : Array Slot} {rest : List Value} (eT : T.heap = h) {aty : ArrayType} (w : (Cond.arrayClass (newarray.typeOf aty)).before a0 Z = true) {z : Int32} (hd : decode bytes pc = .ok (.newarray aty, 2)) (hn : pc + 2 = n) (hz : ¬ z < 0) (cap : Nat) (hcap : z.toNatClampNeg ≤ cap) (hb8 : cap * 8 ≤ 536870912) (hc : cells + 1 ≤ R.cells) (hl : slots + cap ≤ R.slots) {ad : String} (had : "[" ++ (newarray.typeOf aty).toString = ad)
    (k : ∀ T' h' a cA, a = h.size → Stand p l e R s m args below meth c T' locs (cells + 1) (slots + cap) → T'.heap = h' → Ext h h' → Arr Z h' a (newA cA (newarray.typeOf aty) z) (newarray.typeOf aty) → Exa Z h' a ad → Go p e below K (T'.setTop (mkF m n ls (.ref a :: rest)))) : Go p e below K (T.setTop (mkF m pc ls (.int z :: rest))) := by
  subst hn
  obtain ⟨T', h', cA, X', e', E', A', x', st⟩ := Jvm.RoadKit.newPE X C.hx C.hZ w eT (g := mkF m pc ls (.int z :: rest)) rfl (hb C.hby hd) rfl hz hcap hb8 hc hl had
  exact Go.of st (k T' h' _ cA rfl X' e' E' A' x')
theorem Go.cloneA (C : Cx p s m meth c Z own bytes maxL ret nm) (X : Stand p l e R s m args below meth c T locs cells slots) {pc n : Nat} {ls : Array Slot} {rest : List Value} (eT : T.heap = h) {index : Nat} {a : Addr} {ad : String} {cl : Cell} {ty : FieldType} (w1 : (Cond.methodLink own index ⟨ad, "clone", "()Ljava/lang/Object;"⟩).before a0 Z = true) (w2 : (Cond.sameMethod ad "java/lang/Object" "clone" "()Ljava/lang/Object;").before a0 Z = true) (w3 : (Cond.native ⟨"java/lang/Object", "clone", "()Ljava/lang/Object;"⟩).before a0 Z = true) (w4 : (Cond.instanceMethod ⟨"java/lang/Object", "clone", "()Ljava/lang/Object;"⟩).before a0 Z = true) (w5 : (Cond.selects ad ⟨ad, "clone", "()Ljava/lang/Object;"⟩ ⟨"java/lang/Object", "clone", "()Ljava/lang/Object;"⟩).before a0 Z = true) (w6 : (Cond.castable ad "java/lang/Cloneable").before a0 Z = true)
    (A : Arr Z h a cl ty) (E : Exa Z h a ad) (F : FitC Z cl) (hd : decode bytes pc = .ok (.invokevirtual index, 3)) (hn : pc + 3 = n) (hsz : ls.size = maxL) (hf : 1 ≤ R.frames) {W : Nat} (hW : (rest.map fun v => v.category).sum = W) (hl : W + 14 ≤ R.locals) (cap : Nat) (hcap : cl.slots.size ≤ cap) (hc : cells + 1 ≤ R.cells) (hsl : slots + cap ≤ R.slots)
    (k : ∀ T' h' b, b = h.size → Stand p l e R s m args below meth c T' locs (cells + 1) (slots + cap) → T'.heap = h' → Ext h h' → Arr Z h' b (cloneOf cl) ty → Exa Z h' b ad → Go p e below K (T'.setTop (mkF m n ls (.ref b :: rest)))) : Go p e below K (T.setTop (mkF m pc ls (.ref a :: rest))) := by
  subst hn
  obtain ⟨T', h', X', e', E', A', x', st⟩ := Jvm.RoadKit.cloneA X C.hx C.hZ C.hown w1 w2 w3 w4 w5 w6 eT A E F (g := mkF m pc ls (.ref a :: rest)) rfl (hsz.trans C.hml.symm) rfl (hb C.hby hd) hf (W := W) (by show 2 * 0 + _ ≤ _; omega) hl hcap hc hsl
  exact Go.of st (k T' h' _ rfl X' e' E' A' x')
theorem Go.stat (C : Cx p s m meth c Z own bytes maxL ret nm) (X : Stand p l e R s m args below meth c T locs cells slots) {pc n : Nat} {ls : Array Slot} {rest : List Value} (eT : T.heap = h) {index yL W : Nat} {ybytes : ByteArray} {yret : Option FieldType} {rm : Room} {Q : Option Value → Heap → List Loc → Prop} {argsL : List Value} {st : List Value} {y : MethodName} (hC : Ctr l Z y ybytes yL yret rm argsL.toArray h Q) (wl : (Cond.methodLink own index y).before a0 Z = true) (ws : (Cond.static y).before a0 Z = true) (wi : (Cond.initialized y.cls).before a0 Z = true) (wc : (Cond.code y ybytes yL yret).before a0 Z = true) (hy : y.cls ≠ "java/lang/invoke/MethodHandle" ∧ y.cls ≠ "java/lang/invoke/VarHandle")
    (hlen : ∀ sig, parseMethodDescriptor y.desc = some sig → argsL.length = sig.parameters.length) (hst : st = argsL.reverse ++ rest) (hd : decode bytes pc = .ok (.invokestatic index, 3)) (hn : pc + 3 = n) (hsz : ls.size = maxL) (hf : rm.frames + 1 ≤ R.frames) (hW : (rest.map fun v => v.category).sum = W) (hl : W + (yL + 11) + rm.locals ≤ R.locals) (hcl : cells + rm.cells ≤ R.cells) (hsl : slots + rm.slots ≤ R.slots) 
    (k : ∀ T' h' v L, Stand p l e R s m args below meth c T' (locs ++ L) (cells + rm.cells) (slots + rm.slots) → T'.heap = h' → Q v h' L → Go p e below K (T'.setTop (mkF m n ls (v.toList ++ rest)))) : Go p e below K (T.setTop (mkF m pc ls st)) := by
  subst hn hst
  obtain ⟨v, _, ⟨T', L', k', n'⟩, -, X', ⟨L1, hQ, l1, y1, z1⟩, stp⟩ := Jvm.LawKit.callS X C.hx (y := y) C.hown (mvT C.hZ wl) (mvT C.hZ ws) (mvT C.hZ wi) (mvT C.hZ wc) hy (backOf (W := W) (hC []) C.hZ wc wi hf hl) (g := mkF m pc ls (argsL.reverse ++ rest)) rfl (hsz.trans C.hml.symm) (argsL := argsL) (rest := rest) hlen rfl (by show 2 * 0 + _ ≤ _; omega) (hb C.hby hd) (fun _ _ => ⟨rfl, eT, hcl, hsl⟩)
  dsimp only [Pt.U, Pt.locs, Pt.cells, Pt.slots] at X' l1 y1 z1 stp hQ
  subst l1 y1 z1
  exact Go.of stp (k T' T'.heap v L1 X' rfl hQ)
theorem Go.spec (C : Cx p s m meth c Z own bytes maxL ret nm) (X : Stand p l e R s m args below meth c T locs cells slots) {pc n : Nat} {ls : Array Slot} {rest : List Value} (eT : T.heap = h) {index yL W : Nat} {ybytes : ByteArray} {yret : Option FieldType} {rm : Room} {Q : Option Value → Heap → List Loc → Prop} {argsL : List Value} {st : List Value} {y : MethodName} {a : Addr} (hC : Ctr l Z y ybytes yL none rm (.ref a :: argsL).toArray h Q) (hy1 : y.name = "<init>") (wl : (Cond.methodLink own index y).before a0 Z = true) (wm : (Cond.instanceMethod y).before a0 Z = true) (wi : (Cond.initialized y.cls).before a0 Z = true) (wc : (Cond.code y ybytes yL none).before a0 Z = true) (hy : y.cls ≠ "java/lang/invoke/MethodHandle" ∧ y.cls ≠ "java/lang/invoke/VarHandle")
    (hlen : ∀ sig, parseMethodDescriptor y.desc = some sig → argsL.length = sig.parameters.length) (hst : st = argsL.reverse ++ .ref a :: rest) (hd : decode bytes pc = .ok (.invokespecial index, 3)) (hn : pc + 3 = n) (hsz : ls.size = maxL) (hf : rm.frames + 1 ≤ R.frames) (hW : (rest.map fun v => v.category).sum = W) (hl : W + (yL + 11) + rm.locals ≤ R.locals) (hcl : cells + rm.cells ≤ R.cells) (hsl : slots + rm.slots ≤ R.slots) 
    (k : ∀ T' h' v L, Stand p l e R s m args below meth c T' (locs ++ L) (cells + rm.cells) (slots + rm.slots) → T'.heap = h' → Q v h' L → Go p e below K (T'.setTop (mkF m n ls (v.toList ++ rest)))) : Go p e below K (T.setTop (mkF m pc ls st)) := by
  subst hn hst
  obtain ⟨v, _, ⟨T', L', k', n'⟩, -, X', ⟨L1, hQ, l1, y1, z1⟩, stp⟩ := X.specialBack C.hx (y := y) hy1 C.hown (mvT C.hZ wl) (mvT C.hZ wm) (mvT C.hZ wc) hy (backOf (W := W) (hC []) C.hZ wc wi hf hl) (g := mkF m pc ls (argsL.reverse ++ .ref a :: rest)) rfl (hsz.trans C.hml.symm) (Steps.refl _) (a := a) (argsL := argsL) (rest := rest) hlen rfl (by show 2 * 0 + _ ≤ _; omega) (hb C.hby hd) (fun _ _ => ⟨rfl, eT, hcl, hsl⟩)
  dsimp only [Pt.U, Pt.locs, Pt.cells, Pt.slots] at X' l1 y1 z1 stp hQ
  subst l1 y1 z1
  exact Go.of (fun t q => stp.trans q) (k T' T'.heap v L1 X' rfl hQ)
theorem Go.virt (C : Cx p s m meth c Z own bytes maxL ret nm) (X : Stand p l e R s m args below meth c T locs cells slots) {pc n : Nat} {ls : Array Slot} {rest : List Value} (eT : T.heap = h) {index yL W : Nat} {ybytes : ByteArray} {yret : Option FieldType} {rm : Room} {Q : Option Value → Heap → List Loc → Prop} {argsL : List Value} {st : List Value} {y z : MethodName} {a : Addr} {C0 : String} (hC : Ctr l Z z ybytes yL yret rm (.ref a :: argsL).toArray h Q) (wl : (Cond.methodLink own index y).before a0 Z = true) (wd : (Cond.declares y).before a0 Z = true) (nf : NotFace s y) (wsel : (Cond.selects C0 y z).before a0 Z = true) (wm : (Cond.instanceMethod z).before a0 Z = true) (wi : (Cond.initialized z.cls).before a0 Z = true) (wc : (Cond.code z ybytes yL yret).before a0 Z = true) (hy : y.cls ≠ "java/lang/invoke/MethodHandle" ∧ y.cls ≠ "java/lang/invoke/VarHandle") (E : Exa Z h a C0)
    (hlen : ∀ sig, parseMethodDescriptor y.desc = some sig → argsL.length = sig.parameters.length) (hst : st = argsL.reverse ++ .ref a :: rest) (hd : decode bytes pc = .ok (.invokevirtual index, 3)) (hn : pc + 3 = n) (hsz : ls.size = maxL) (hf : rm.frames + 1 ≤ R.frames) (hW : (rest.map fun v => v.category).sum = W) (hl : W + (yL + 11) + rm.locals ≤ R.locals) (hcl : cells + rm.cells ≤ R.cells) (hsl : slots + rm.slots ≤ R.slots) 
    (k : ∀ T' h' v L, Stand p l e R s m args below meth c T' (locs ++ L) (cells + rm.cells) (slots + rm.slots) → T'.heap = h' → Q v h' L → Go p e below K (T'.setTop (mkF m n ls (v.toList ++ rest)))) : Go p e below K (T.setTop (mkF m pc ls st)) := by
  subst hn hst
  obtain ⟨cq, kq, q1, q2, q3⟩ := isOf C.hZ eT E
  obtain ⟨v, _, ⟨T', L', k', n'⟩, -, X', ⟨L1, hQ, l1, y1, z1⟩, stp⟩ := X.virtualBack C.hx (y := y) (z := z) C.hown (mvT C.hZ wl) (mvT C.hZ wd) nf (mvT C.hZ wsel) (mvT C.hZ wm) hy (backOf (W := W) (hC []) C.hZ wc wi hf hl) q1 q3 (g := mkF m pc ls (argsL.reverse ++ .ref a :: rest)) rfl (hsz.trans C.hml.symm) (Steps.refl _) (argsL := argsL) (rest := rest) hlen rfl (by show 2 * 0 + _ ≤ _; omega) (hb C.hby hd) (fun _ _ => ⟨rfl, eT, hcl, hsl⟩)
  dsimp only [Pt.U, Pt.locs, Pt.cells, Pt.slots] at X' l1 y1 z1 stp hQ
  subst l1 y1 z1
  exact Go.of (fun t q => stp.trans q) (k T' T'.heap v L1 X' rfl hQ)
theorem Go.priv (C : Cx p s m meth c Z own bytes maxL ret nm) (X : Stand p l e R s m args below meth c T locs cells slots) {pc n : Nat} {ls : Array Slot} {rest : List Value} (eT : T.heap = h) {index yL W : Nat} {ybytes : ByteArray} {yret : Option FieldType} {rm : Room} {Q : Option Value → Heap → List Loc → Prop} {argsL : List Value} {st : List Value} {y : MethodName} {a : Addr} {C0 : String} (hC : Ctr l Z y ybytes yL yret rm (.ref a :: argsL).toArray h Q) (wl : (Cond.methodLink own index y).before a0 Z = true) (wm : (Cond.instanceMethod y).before a0 Z = true) {kk : Nat} (wk : (Cond.instantiable y.cls kk).before a0 Z = true) (wp : (Cond.privateMethod y).before a0 Z = true) (wi : (Cond.initialized y.cls).before a0 Z = true) (wc : (Cond.code y ybytes yL yret).before a0 Z = true) (hy : y.cls ≠ "java/lang/invoke/MethodHandle" ∧ y.cls ≠ "java/lang/invoke/VarHandle") (E : Exa Z h a C0)
    (hlen : ∀ sig, parseMethodDescriptor y.desc = some sig → argsL.length = sig.parameters.length) (hst : st = argsL.reverse ++ .ref a :: rest) (hd : decode bytes pc = .ok (.invokevirtual index, 3)) (hn : pc + 3 = n) (hsz : ls.size = maxL) (hf : rm.frames + 1 ≤ R.frames) (hW : (rest.map fun v => v.category).sum = W) (hl : W + (yL + 11) + rm.locals ≤ R.locals) (hcl : cells + rm.cells ≤ R.cells) (hsl : slots + rm.slots ≤ R.slots) 
    (k : ∀ T' h' v L, Stand p l e R s m args below meth c T' (locs ++ L) (cells + rm.cells) (slots + rm.slots) → T'.heap = h' → Q v h' L → Go p e below K (T'.setTop (mkF m n ls (v.toList ++ rest)))) : Go p e below K (T.setTop (mkF m pc ls st)) := by
  subst hn hst
  obtain ⟨cq, q, q'⟩ := E.cell
  obtain ⟨c0, k0, i1, i2, -, i4, -⟩ := Cond.instantiable_spec (mvT C.hZ wk (args := args) : (Cond.instantiable y.cls kk).before args s = true)
  have hni : k0.isInterface = false := by cases hq : k0.isInterface <;> simp [hq] at i4 ⊢
  have hsel := selects_self_of_private (args := args) i1 i2 hni (Cond.privateMethod_at (mvP C.hZ wp (args := #[]))) (mvT C.hZ wm) hy
  obtain ⟨v, _, ⟨T', L', k', n'⟩, -, X', ⟨L1, hQ, l1, y1, z1⟩, stp⟩ := X.privateBack C.hx (y := y) C.hown (mvT C.hZ wl) (mvT C.hZ wm) hsel (Cond.privateMethod_at (mvP C.hZ wp (args := #[]))) (mvT C.hZ wc) hy (backOf (W := W) (hC []) C.hZ wc wi hf hl) (g := mkF m pc ls (argsL.reverse ++ .ref a :: rest)) rfl (hsz.trans C.hml.symm) (Steps.refl _) (a := a) (by rw [eT]; exact q) q' (argsL := argsL) (rest := rest) hlen rfl (by show 2 * 0 + _ ≤ _; omega) (hb C.hby hd) (fun _ _ => ⟨rfl, eT, hcl, hsl⟩)
  dsimp only [Pt.U, Pt.locs, Pt.cells, Pt.slots] at X' l1 y1 z1 stp hQ
  subst l1 y1 z1
  exact Go.of (fun t q => stp.trans q) (k T' T'.heap v L1 X' rfl hQ)
theorem Go.face (C : Cx p s m meth c Z own bytes maxL ret nm) (X : Stand p l e R s m args below meth c T locs cells slots) {pc n : Nat} {ls : Array Slot} {rest : List Value} (eT : T.heap = h) {index yL W : Nat} {ybytes : ByteArray} {yret : Option FieldType} {rm : Room} {Q : Option Value → Heap → List Loc → Prop} {argsL : List Value} {st : List Value} {count : Nat} {xi y : MethodName} {a : Addr} {C0 : String} (hC : Ctr l Z y ybytes yL yret rm (.ref a :: argsL).toArray h Q) (wl : (Cond.methodLink own index xi).before a0 Z = true) (wd : (Cond.declares xi).before a0 Z = true) (wf : (Cond.interfaceMethod xi.cls xi.cls xi.name xi.desc).before a0 Z = true) (wsel : (Cond.selects C0 xi y).before a0 Z = true) (wm : (Cond.instanceMethod y).before a0 Z = true) (wp : (Cond.publicMethod y).before a0 Z = true) (wu : (Cond.unhidden C0 xi.name xi.desc).before a0 Z = true) (wca : (Cond.castable C0 xi.cls).before a0 Z = true) (wi : (Cond.initialized y.cls).before a0 Z = true) (wc : (Cond.code y ybytes yL yret).before a0 Z = true) (hy : xi.cls ≠ "java/lang/invoke/MethodHandle" ∧ xi.cls ≠ "java/lang/invoke/VarHandle") (E : Exa Z h a C0)
    (hlen : ∀ sig, parseMethodDescriptor xi.desc = some sig → argsL.length = sig.parameters.length) (hst : st = argsL.reverse ++ .ref a :: rest) (hd : decode bytes pc = .ok (.invokeinterface index count, 5)) (hn : pc + 5 = n) (hsz : ls.size = maxL) (hf : rm.frames + 1 ≤ R.frames) (hW : (rest.map fun v => v.category).sum = W) (hl : W + (yL + 11) + rm.locals ≤ R.locals) (hcl : cells + rm.cells ≤ R.cells) (hsl : slots + rm.slots ≤ R.slots) 
    (k : ∀ T' h' v L, Stand p l e R s m args below meth c T' (locs ++ L) (cells + rm.cells) (slots + rm.slots) → T'.heap = h' → Q v h' L → Go p e below K (T'.setTop (mkF m n ls (v.toList ++ rest)))) : Go p e below K (T.setTop (mkF m pc ls st)) := by
  subst hn hst
  obtain ⟨cq, kq, q1, q2, q3⟩ := isOf C.hZ eT E
  obtain ⟨v, _, ⟨T', L', k', n'⟩, -, X', ⟨L1, hQ, l1, y1, z1⟩, stp⟩ := X.interfaceBack C.hx (xi := xi) (y := y) C.hown (mvT C.hZ wl) (mvT C.hZ wd) (mvT C.hZ wf (by simp [Cond.onTables, Cond.keepsFace, Cond.keeps, Cond.faceAtom, Cond.steady, hy.1, hy.2])) (mvT C.hZ wsel) (mvT C.hZ wm) (mvT C.hZ wp) (mvT C.hZ wu) (mvT C.hZ wca) hy (backOf (W := W) (hC []) C.hZ wc wi hf hl) q1 q2 q3 (g := mkF m pc ls (argsL.reverse ++ .ref a :: rest)) rfl (hsz.trans C.hml.symm) (Steps.refl _) (argsL := argsL) (rest := rest) hlen rfl (by show 2 * 0 + _ ≤ _; omega) (hb C.hby hd) (fun _ _ => ⟨rfl, eT, hcl, hsl⟩)
  dsimp only [Pt.U, Pt.locs, Pt.cells, Pt.slots] at X' l1 y1 z1 stp hQ
  subst l1 y1 z1
  exact Go.of (fun t q => stp.trans q) (k T' T'.heap v L1 X' rfl hQ)
end OwnA
end Jvm.RoadKit
namespace Jvm.RoadKit
open Sem ClassFile Op Lib Jvm.Stand Jvm.Free Jvm.LawKit
section OwnB
variable {p : Program} {l : Launch} {e : Env} {R : Room} {s : State} {m : MethodId} {args : Array Value} {below : List Frame} {meth : Method} {c : Code} {T : State} {locs : List Loc} {cells slots : Nat} {Z : State} {a0 : Array Value} {h h' : Heap} {a b : Addr} {sl : Nat} {v : Value} {ty : FieldType} {vs : List Value} {ws : List Addr}
variable {own nm : String} {bytes : ByteArray} {maxL : Nat} {ret : Option FieldType} {K : Outcome → State → Prop}
theorem wd {tab : List Jvm.Cond} {a0 : Array Value} {Z : State} (hw : ∀ d ∈ tab, d.before a0 Z = true) (k : Nat) {d : Jvm.Cond} (q : tab[k]? = some d) : d.before a0 Z = true := hw d (List.mem_of_getElem? q)
theorem Old.le {n0 : Nat} (O : Old Z n0 h) : n0 ≤ h.size := O.1 ▸ O.2.1
theorem Fr.one {k i : Nat} (q : k ≤ a) : Fr k [⟨a, i⟩] := fun y hy => by cases List.mem_singleton.mp hy; exact q
theorem Go.weaken {Q Q' : Option Value → Heap → List Loc → Prop} {k n : Nat} (q : ∀ v h L, Q v h L → Q' v h L) (g : Go p e below (EndQ s Q k n) T) : Go p e below (EndQ s Q' k n) T := by
  obtain ⟨t, o, h1, h2, h3, v, L, h4, h5, h6⟩ := g
  exact ⟨t, o, h1, h2, h3, v, L, h4, q _ _ _ h5, h6⟩
/-- an array and its components -/
def Arl (Z : State) (h : Heap) (a : Addr) (ty : FieldType) (vs : List Value) : Prop := ∃ c : Cell, Arr Z h a c ty ∧ c.slots.toList = vs ∧ vs.length < 2 ^ 31
theorem Arl.lt (F : Arl Z h a ty vs) : a < h.size := by obtain ⟨c, A, -⟩ := F; exact A.lt
theorem Arl.ext (F : Arl Z h a ty vs) (E : Ext h h') : Arl Z h' a ty vs := by obtain ⟨c, A, r⟩ := F; exact ⟨c, A.ext E, r⟩
theorem Arl.other (F : Arl Z h b ty vs) (W : Wr h h' a sl v) (q : b ≠ a) : Arl Z h' b ty vs := by obtain ⟨c, A, r⟩ := F; exact ⟨c, A.other W q, r⟩
theorem Arl.keep (F : Arl Z h a ty vs) (K : Keep h h' ws) (q : a ∉ ws) : Arl Z h' a ty vs := by obtain ⟨c, A, r⟩ := F; exact ⟨c, ⟨K.2.1 a c A.1 q, A.2⟩, r⟩
theorem Arl.set (F : Arl Z h a ty vs) (W : Wr h h' a sl v) : Arl Z h' a ty (vs.set sl v) := by
  obtain ⟨c, A, e1, r⟩ := F
  exact ⟨c.setSlot sl v, A.same W, by simp [Cell.setSlot, e1], by simpa using r⟩
theorem Arl.new {k : ClassId} {z : Int32} {n : Nat} (A : Arr Z h a (newA k ty z) ty) (hz : z.toInt = n) : Arl Z h a ty (List.replicate n (defaultValue ty)) := by
  have h1 : z.toNatClampNeg = n := by simp only [Int32.toNatClampNeg]; omega
  have h2 := Int32.toInt_lt z
  exact ⟨_, A, by simp [newA, h1], by simp; omega⟩
theorem nat_idx {j : Int32} {i : Nat} (hj : j.toInt = i) : j.toNatClampNeg = i ∧ ¬ j < 0 := by
  refine ⟨by simp only [Int32.toNatClampNeg]; omega, fun q => ?_⟩
  rw [Int32.lt_iff_toInt_lt] at q
  simp at q; omega
theorem Arl.at (F : Arl Z h a ty vs) {j : Int32} {i : Nat} (hj : j.toInt = i) (hv : vs[i]? = some v) : ∃ c : Cell, Arr Z h a c ty ∧ ¬ (j < 0 ∨ c.slots.size ≤ j.toNatClampNeg) ∧ c.slots[j.toNatClampNeg]? = some v := by
  obtain ⟨c, A, e1, r⟩ := F
  obtain ⟨q1, q2⟩ := nat_idx hj
  subst e1
  rw [Array.getElem?_toList] at hv
  obtain ⟨hlt, -⟩ := Array.getElem?_eq_some_iff.mp hv
  exact ⟨c, A, fun q => q.elim q2 (fun q => by omega), by rw [q1]; exact hv⟩
theorem Arl.in (F : Arl Z h a ty vs) {j : Int32} {i : Nat} (hj : j.toInt = i) (hi : i < vs.length) : ∃ c : Cell, Arr Z h a c ty ∧ ¬ (j < 0 ∨ c.slots.size ≤ j.toNatClampNeg) ∧ j.toNatClampNeg = i := by
  obtain ⟨c, A, e1, r⟩ := F
  obtain ⟨q1, q2⟩ := nat_idx hj
  subst e1
  rw [Array.length_toList] at hi
  exact ⟨c, A, fun q => q.elim q2 (fun q => by omega), q1⟩
section Cxs
variable (C : Cx p s m meth c Z own bytes maxL ret nm) (X : Stand p l e R s m args below meth c T locs cells slots) {pc n : Nat} {ls : Array Slot} {rest : List Value} (eT : T.heap = h) {j : Int32}
theorem Go.ialoadL (C : Cx p s m meth c Z own bytes maxL ret nm) (X : Stand p l e R s m args below meth c T locs cells slots) (eT : T.heap = h) (F : Arl Z h a .int vs) (i : Nat) (hj : j.toInt = i) (hv : vs[i]? = some v) (hd : decode bytes pc = .ok (.iaload, 1)) (hn : pc + 1 = n) (k : Go p e below K (T.setTop (mkF m n ls (v :: rest)))) : Go p e below K (T.setTop (mkF m pc ls (.int j :: .ref a :: rest))) := by
  obtain ⟨cl, A, q1, q2⟩ := F.at hj hv
  exact Go.iaload C X eT A q1 q2 hd hn k
theorem Go.caloadL (C : Cx p s m meth c Z own bytes maxL ret nm) (X : Stand p l e R s m args below meth c T locs cells slots) (eT : T.heap = h) (F : Arl Z h a .char vs) (i : Nat) (hj : j.toInt = i) (hv : vs[i]? = some v) (hd : decode bytes pc = .ok (.caload, 1)) (hn : pc + 1 = n) (k : Go p e below K (T.setTop (mkF m n ls (v :: rest)))) : Go p e below K (T.setTop (mkF m pc ls (.int j :: .ref a :: rest))) := by
  obtain ⟨cl, A, q1, q2⟩ := F.at hj hv
  exact Go.caload C X eT A q1 q2 hd hn k
theorem Go.aaloadL (C : Cx p s m meth c Z own bytes maxL ret nm) (X : Stand p l e R s m args below meth c T locs cells slots) (eT : T.heap = h) (hty : ty.isReference = true) (F : Arl Z h a ty vs) (i : Nat) (hj : j.toInt = i) (hv : vs[i]? = some v) (hd : decode bytes pc = .ok (.aaload, 1)) (hn : pc + 1 = n) (k : Go p e below K (T.setTop (mkF m n ls (v :: rest)))) : Go p e below K (T.setTop (mkF m pc ls (.int j :: .ref a :: rest))) := by
  obtain ⟨cl, A, q1, q2⟩ := F.at hj hv
  exact Go.aaload C X eT hty A q1 q2 hd hn k
theorem Go.lengthL (C : Cx p s m meth c Z own bytes maxL ret nm) (X : Stand p l e R s m args below meth c T locs cells slots) (eT : T.heap = h) (F : Arl Z h a ty vs) {z : Int32} (hz : z.toInt = vs.length) (hd : decode bytes pc = .ok (.arraylength, 1)) (hn : pc + 1 = n) (k : Go p e below K (T.setTop (mkF m n ls (.int z :: rest)))) : Go p e below K (T.setTop (mkF m pc ls (.ref a :: rest))) := by
  obtain ⟨cl, A, q1, q2⟩ := F
  refine Go.arraylength C X eT A ?_ hd hn k
  subst q1
  rw [Array.length_toList] at q2 hz
  exact Int32.toInt_inj.mp (by rw [len_toInt q2, hz])
theorem Go.iastoreL (C : Cx p s m meth c Z own bytes maxL ret nm) (X : Stand p l e R s m args below meth c T locs cells slots) (eT : T.heap = h) {x : Int32} (F : Arl Z h a .int vs) (i : Nat) (hj : j.toInt = i) (hi : i < vs.length) (hd : decode bytes pc = .ok (.iastore, 1)) (hn : pc + 1 = n)
    (k : ∀ T' h', Stand p l e R s m args below meth c T' (locs ++ [⟨a, i⟩]) cells slots → T'.heap = h' → Wr h h' a i (.int x) → Arl Z h' a .int (vs.set i (.int x)) → Go p e below K (T'.setTop (mkF m n ls rest))) : Go p e below K (T.setTop (mkF m pc ls (.int x :: .int j :: .ref a :: rest))) := by
  obtain ⟨cl, A, q1, q2⟩ := F.in hj hi
  refine Go.iastore C X eT A q1 hd hn fun T' h' X' e' W => ?_
  rw [q2] at X' W
  exact k T' h' X' e' W (F.set W)
theorem Go.castoreL (C : Cx p s m meth c Z own bytes maxL ret nm) (X : Stand p l e R s m args below meth c T locs cells slots) (eT : T.heap = h) {x : Int32} (F : Arl Z h a .char vs) (i : Nat) (hj : j.toInt = i) (hi : i < vs.length) (hd : decode bytes pc = .ok (.castore, 1)) (hn : pc + 1 = n)
    (k : ∀ T' h', Stand p l e R s m args below meth c T' (locs ++ [⟨a, i⟩]) cells slots → T'.heap = h' → Wr h h' a i (.int (nar .char x)) → Arl Z h' a .char (vs.set i (.int (nar .char x))) → Go p e below K (T'.setTop (mkF m n ls rest))) : Go p e below K (T.setTop (mkF m pc ls (.int x :: .int j :: .ref a :: rest))) := by
  obtain ⟨cl, A, q1, q2⟩ := F.in hj hi
  refine Go.castore C X eT A q1 hd hn fun T' h' X' e' W => ?_
  rw [q2] at X' W
  exact k T' h' X' e' W (F.set W)
theorem Go.bastoreL (C : Cx p s m meth c Z own bytes maxL ret nm) (X : Stand p l e R s m args below meth c T locs cells slots) (eT : T.heap = h) {x : Int32} (F : Arl Z h a .byte vs) (i : Nat) (hj : j.toInt = i) (hi : i < vs.length) (hd : decode bytes pc = .ok (.bastore, 1)) (hn : pc + 1 = n)
    (k : ∀ T' h', Stand p l e R s m args below meth c T' (locs ++ [⟨a, i⟩]) cells slots → T'.heap = h' → Wr h h' a i (.int (nar .byte x)) → Arl Z h' a .byte (vs.set i (.int (nar .byte x))) → Go p e below K (T'.setTop (mkF m n ls rest))) : Go p e below K (T.setTop (mkF m pc ls (.int x :: .int j :: .ref a :: rest))) := by
  obtain ⟨cl, A, q1, q2⟩ := F.in hj hi
  refine Go.bastoreB C X eT A q1 hd hn fun T' h' X' e' W => ?_
  rw [q2] at X' W
  exact k T' h' X' e' W (F.set W)
theorem Go.newL (C : Cx p s m meth c Z own bytes maxL ret nm) (X : Stand p l e R s m args below meth c T locs cells slots) (eT : T.heap = h) {aty : ArrayType} (w : (Cond.arrayClass (newarray.typeOf aty)).before a0 Z = true) {z : Int32} (i : Nat) (hz : z.toInt = i) (cap : Nat) (hcap : i ≤ cap) (hd : decode bytes pc = .ok (.newarray aty, 2)) (hn : pc + 2 = n) (hb8 : cap * 8 ≤ 536870912) (hc : cells + 1 ≤ R.cells) (hl : slots + cap ≤ R.slots)
    (k : ∀ T' h' a, a = h.size → Stand p l e R s m args below meth c T' locs (cells + 1) (slots + cap) → T'.heap = h' → Ext h h' → Arl Z h' a (newarray.typeOf aty) (List.replicate i (defaultValue (newarray.typeOf aty))) → Go p e below K (T'.setTop (mkF m n ls (.ref a :: rest)))) : Go p e below K (T.setTop (mkF m pc ls (.int z :: rest))) := by
  obtain ⟨q1, q2⟩ := nat_idx hz
  exact Go.newP C X eT w hd hn q2 cap (by rw [q1]; exact hcap) hb8 hc hl fun T' h' a' cA e1 X' e' E A => k T' h' a' e1 X' e' E (Arl.new A hz)
theorem Go.newLE (C : Cx p s m meth c Z own bytes maxL ret nm) (X : Stand p l e R s m args below meth c T locs cells slots) (eT : T.heap = h) {aty : ArrayType} (w : (Cond.arrayClass (newarray.typeOf aty)).before a0 Z = true) {z : Int32} (i : Nat) (hz : z.toInt = i) (cap : Nat) (hcap : i ≤ cap) (hd : decode bytes pc = .ok (.newarray aty, 2)) (hn : pc + 2 = n) (hb8 : cap * 8 ≤ 536870912) (hc : cells + 1 ≤ R.cells) (hl : slots + cap ≤ R.slots) {ad : String} (had : "[" ++ (newarray.typeOf aty).toString = ad)
    (k : ∀ T' h' a, a = h.size → Stand p l e R s m args below meth c T' locs (cells + 1) (slots + cap) → T'.heap = h' → Ext h h' → Arl Z h' a (newarray.typeOf aty) (List.replicate i (defaultValue (newarray.typeOf aty))) → Exa Z h' a ad → Go p e below K (T'.setTop (mkF m n ls (.ref a :: rest)))) : Go p e below K (T.setTop (mkF m pc ls (.int z :: rest))) := by
  obtain ⟨q1, q2⟩ := nat_idx hz
  exact Go.newPE C X eT w hd hn q2 cap (by rw [q1]; exact hcap) hb8 hc hl had fun T' h' a' cA e1 X' e' E A x' => k T' h' a' e1 X' e' E (Arl.new A hz) x'
theorem Go.cloneL (C : Cx p s m meth c Z own bytes maxL ret nm) (X : Stand p l e R s m args below meth c T locs cells slots) (eT : T.heap = h) {index : Nat} {ad : String} (w1 : (Cond.methodLink own index ⟨ad, "clone", "()Ljava/lang/Object;"⟩).before a0 Z = true) (w2 : (Cond.sameMethod ad "java/lang/Object" "clone" "()Ljava/lang/Object;").before a0 Z = true) (w3 : (Cond.native ⟨"java/lang/Object", "clone", "()Ljava/lang/Object;"⟩).before a0 Z = true) (w4 : (Cond.instanceMethod ⟨"java/lang/Object", "clone", "()Ljava/lang/Object;"⟩).before a0 Z = true) (w5 : (Cond.selects ad ⟨ad, "clone", "()Ljava/lang/Object;"⟩ ⟨"java/lang/Object", "clone", "()Ljava/lang/Object;"⟩).before a0 Z = true) (w6 : (Cond.castable ad "java/lang/Cloneable").before a0 Z = true)
    (F : Arl Z h a ty vs) (E : Exa Z h a ad) (hfit : ∀ v ∈ vs, fits ty v = true) (hd : decode bytes pc = .ok (.invokevirtual index, 3)) (hn : pc + 3 = n) (hsz : ls.size = maxL) (hf : 1 ≤ R.frames) {W : Nat} (hW : (rest.map fun v => v.category).sum = W) (hl : W + 14 ≤ R.locals) (cap : Nat) (hcap : vs.length ≤ cap) (hc : cells + 1 ≤ R.cells) (hsl : slots + cap ≤ R.slots)
    (k : ∀ T' h' b, b = h.size → Stand p l e R s m args below meth c T' locs (cells + 1) (slots + cap) → T'.heap = h' → Ext h h' → Arl Z h' b ty vs → Exa Z h' b ad → Go p e below K (T'.setTop (mkF m n ls (.ref b :: rest)))) : Go p e below K (T.setTop (mkF m pc ls (.ref a :: rest))) := by
  obtain ⟨cl, A, q1, q2⟩ := F
  have FC : FitC Z cl := fitC_of A fun i hi v hv => hfit v (by rw [← q1]; exact Array.mem_toList_iff.mpr (Array.mem_of_getElem? hv))
  exact Go.cloneA C X eT w1 w2 w3 w4 w5 w6 A E FC hd hn hsz hf hW hl cap (by rw [← Array.length_toList, q1]; exact hcap) hc hsl fun T' h' b e1 X' e' E' A' x' => k T' h' b e1 X' e' E' ⟨_, A', q1, q2⟩ x'
end Cxs
/-! from the words of a case -/
theorem fldI {args : Array Value} {t : Term} {C f d : String} {k : Int32} (ev : t.eval args s none [] s = some (.ref a)) (q : (Cond.eq (.field t C f d) (.int k)).value args s none s [] = some true) : Fld s s.heap a C f d (.int k) := by
  obtain ⟨x, y, e1, e2, k1, k2⟩ := cmp_v (Or.inl q)
  cases e2
  obtain ⟨z, rfl⟩ := k2
  have e3 : (Term.int k).eval args s none [] s = some (.int k) := rfl
  have q2 : (Cond.eq (.field t C f d) (.int k)).value args s none s [] = some (decide (z = k)) := by simp [Cond.value, e1, e3]
  have q3 := gotT q2 q
  subst q3
  rw [fld_at ev] at e1
  exact Fld.start e1
theorem staE {args : Array Value} {C n d K : String} (q : (Cond.exactly (.static C n d) K).value args s none s [] = some true) (w1 : (Cond.initialized C).before args s = true) (w2 : (Cond.laysStatic C n d).before args s = true) : ∃ a, (Term.static C n d).eval args s none [] s = some (.ref a) ∧ Sta s s.heap C n d (.ref a) ∧ Exa s s.heap a K := by
  obtain ⟨a, ev⟩ := exa_v q
  exact ⟨a, ev, Sta.start ev (Or.inr ⟨w1, w2⟩), Exa.start ev q⟩
end OwnB
end Jvm.RoadKit
namespace Jvm.Pilot.@@N@@
open Jvm Jvm.ClassFile Sem Op Lib Jvm.Free Jvm.Stand Jvm.LawKit Jvm.RoadKit Bundle Jvm.Pilot.@@N@@.Jvm.D
theorem pn_0 : plainName "com/example/vaxwire/vaxwire/hl7/AcknowledgementConditionAsksPinLaw" = true := by first | (simp [plainName, overriddenIn]; done) | decide +kernel
theorem d1_0 : decode prog_47_method_6_code 0 = .ok (.iload_n 1, 1) := by decide +kernel
theorem d1_1 : decode prog_47_method_6_code 1 = .ok (.ifCond .eq 10, 3) := by decide +kernel
theorem d1_4 : decode prog_47_method_6_code 4 = .ok (.aload_n 0, 1) := by decide +kernel
theorem d1_5 : decode prog_47_method_6_code 5 = .ok (.getfield 39, 3) := by decide +kernel
theorem d1_8 : decode prog_47_method_6_code 8 = .ok (.goto 7, 3) := by decide +kernel
theorem d1_11 : decode prog_47_method_6_code 11 = .ok (.aload_n 0, 1) := by decide +kernel
theorem d1_12 : decode prog_47_method_6_code 12 = .ok (.getfield 43, 3) := by decide +kernel
theorem d1_15 : decode prog_47_method_6_code 15 = .ok (.ireturn, 1) := by decide +kernel
theorem pn_1 : plainName "com/example/vaxwire/vaxwire/hl7/AcknowledgementCondition" = true := by first | (simp [plainName, overriddenIn]; done) | decide +kernel
theorem pd_1 : parseMethodDescriptor "(Z)Z" = some ⟨[.boolean], some .boolean⟩ := by decide +kernel
set_option maxRecDepth 65536 in
set_option maxHeartbeats 40000000 in
theorem rm1 (l : Launch) (Z : State) (a0 : Array Value) (hw : ∀ d ∈ tables_1, d.before a0 Z = true) (a : Addr) (q w1 w2 : Int32) (h : Heap) (F1 : Fld Z h a "com/example/vaxwire/vaxwire/hl7/AcknowledgementCondition" "onSuccess" "Z" (.int w1)) (F2 : Fld Z h a "com/example/vaxwire/vaxwire/hl7/AcknowledgementCondition" "onFailure" "Z" (.int w2)) (k1 : nar .boolean w1 = w1) (k2 : nar .boolean w2 = w2) :
    Ctr l Z (⟨"com/example/vaxwire/vaxwire/hl7/AcknowledgementCondition", "asks", "(Z)Z"⟩ : MethodName) prog_47_method_6_code 2 (some .boolean) { frames := 0, cells := 0, slots := 0, locals := 0 } #[.ref a, .int q] h (fun v h' L => v = some (.int (if q = 0 then w2 else w1)) ∧ L = [] ∧ h' = h) := by
  refine Ctr.mk (plainFor_of_name pn_1) (ls := #[.val (.ref a), .val (.int q)]) (fun m => by first | (simp [entryFrame, mkF, argsToLocals, Value.category]; done) | rfl) ?_
  intro p e s m below meth c T C X eT hs0
  show Go p e below _ (T.setTop (mkF m 0 #[.val (.ref a), .val (.int q)] []))
  refine Go.iloadN C X d1_0 (n := 1) rfl rfl ?_
  refine Go.if0_eq C X d1_1 (n1 := 11) (n2 := 4) (by decide) (by decide) rfl (fun hc1 => ?_) (fun hc1 => ?_)
  · refine Go.aloadN C X d1_11 (n := 12) rfl rfl rfl ?_
    refine Go.getF C X eT (wd hw 12 rfl) Via.refl F2 d1_12 (n := 15) rfl ?_
    clear X eT
    intro T X eT
    refine Go.retN C X eT (Or.inl rfl) (w := w2) k2 d1_15 (by decide) (by decide) ?_
    exact ⟨by simp [hc1], rfl, rfl⟩
  · refine Go.aloadN C X d1_4 (n := 5) rfl rfl rfl ?_
    refine Go.getF C X eT (wd hw 8 rfl) Via.refl F1 d1_5 (n := 8) rfl ?_
    clear X eT
    intro T X eT
    refine Go.goto C X d1_8 (n := 15) (by decide) (by decide) ?_
    refine Go.retN C X eT (Or.inl rfl) (w := w1) k1 d1_15 (by decide) (by decide) ?_
    exact ⟨by simp [hc1], rfl, rfl⟩
set_option maxRecDepth 65536 in
set_option maxHeartbeats 40000000 in
theorem rm0 (l : Launch) (Z : State) (a0 : Array Value) (hw : ∀ d ∈ tables_1, d.before a0 Z = true) (p0 p1 : Int32) (h : Heap) (n0 : Nat) (aA : Addr) (S_aA : Sta Z h "com/example/vaxwire/vaxwire/hl7/AcknowledgementCondition" "ALWAYS" "Lcom/example/vaxwire/vaxwire/hl7/AcknowledgementCondition;" (.ref aA)) (E_aA : Exa Z h aA "com/example/vaxwire/vaxwire/hl7/AcknowledgementCondition") (F1_aA : Fld Z h aA "com/example/vaxwire/vaxwire/hl7/AcknowledgementCondition" "onSuccess" "Z" (.int 1)) (F2_aA : Fld Z h aA "com/example/vaxwire/vaxwire/hl7/AcknowledgementCondition" "onFailure" "Z" (.int 1)) (aN : Addr) (S_aN : Sta Z h "com/example/vaxwire/vaxwire/hl7/AcknowledgementCondition" "NEVER" "Lcom/example/vaxwire/vaxwire/hl7/AcknowledgementCondition;" (.ref aN)) (E_aN : Exa Z h aN "com/example/vaxwire/vaxwire/hl7/AcknowledgementCondition") (F1_aN : Fld Z h aN "com/example/vaxwire/vaxwire/hl7/AcknowledgementCondition" "onSuccess" "Z" (.int 0)) (F2_aN : Fld Z h aN "com/example/vaxwire/vaxwire/hl7/AcknowledgementCondition" "onFailure" "Z" (.int 0)) (aE : Addr) (S_aE : Sta Z h "com/example/vaxwire/vaxwire/hl7/AcknowledgementCondition" "ERROR" "Lcom/example/vaxwire/vaxwire/hl7/AcknowledgementCondition;" (.ref aE)) (E_aE : Exa Z h aE "com/example/vaxwire/vaxwire/hl7/AcknowledgementCondition") (F1_aE : Fld Z h aE "com/example/vaxwire/vaxwire/hl7/AcknowledgementCondition" "onSuccess" "Z" (.int 0)) (F2_aE : Fld Z h aE "com/example/vaxwire/vaxwire/hl7/AcknowledgementCondition" "onFailure" "Z" (.int 1)) (aS : Addr) (S_aS : Sta Z h "com/example/vaxwire/vaxwire/hl7/AcknowledgementCondition" "SUCCESS" "Lcom/example/vaxwire/vaxwire/hl7/AcknowledgementCondition;" (.ref aS)) (E_aS : Exa Z h aS "com/example/vaxwire/vaxwire/hl7/AcknowledgementCondition") (F1_aS : Fld Z h aS "com/example/vaxwire/vaxwire/hl7/AcknowledgementCondition" "onSuccess" "Z" (.int 1)) (F2_aS : Fld Z h aS "com/example/vaxwire/vaxwire/hl7/AcknowledgementCondition" "onFailure" "Z" (.int 0)) :
    Ctr l Z x code maxLocals ret room_1 #[.int p0, .int p1] h (fun v h' L => v = some (.int 1) ∧ Fr n0 L) := by
  refine Ctr.mk (plainFor_of_name pn_0) (ls := #[.val (.int p0), .val (.int p1), .unset, .unset, .unset, .unset]) (fun m => by first | (simp [entryFrame, mkF, argsToLocals, Value.category, maxLocals]; done) | rfl) ?_
  intro p e s m below meth c T C X eT hs0
  show Go p e below _ (T.setTop (mkF m 0 #[.val (.int p0), .val (.int p1), .unset, .unset, .unset, .unset] []))
  refine Go.iloadN C X at_0 (n := 1) rfl rfl ?_
  refine Go.iconst C X at_1 (n := 2) rfl (v := (3 : Int32)) rfl ?_
  refine Go.iand C X at_2 (n := 3) rfl ?_
  refine Go.istoreN C X at_3 (n := 4) rfl (l' := #[.val (.int p0), .val (.int p1), .val (.int (p0 &&& (3 : Int32))), .unset, .unset, .unset]) rfl ?_
  refine Go.iloadN C X at_4 (n := 5) rfl rfl ?_
  refine Go.iconst C X at_5 (n := 6) rfl (v := (1 : Int32)) rfl ?_
  refine Go.iand C X at_6 (n := 7) rfl ?_
  suffices k15 : ∀ b : Int32, (b = 0 ∧ p1 &&& 1 = 0) ∨ (b = 1 ∧ ¬ p1 &&& 1 = 0) → Go p e below _ (T.setTop (mkF m 15 #[.val (.int p0), .val (.int p1), .val (.int (p0 &&& (3 : Int32))), .unset, .unset, .unset] [(.int b)])) by
    refine Go.if0_eq C X at_7 (n1 := 14) (n2 := 10) (by decide) (by decide) rfl (fun hc7 => ?_) (fun hc7 => ?_)
    · refine Go.iconst C X at_14 (n := 15) rfl (v := (0 : Int32)) rfl ?_
      exact k15 _ (Or.inl ⟨rfl, hc7⟩)
    · refine Go.iconst C X at_10 (n := 11) rfl (v := (1 : Int32)) rfl ?_
      refine Go.goto C X at_11 (n := 15) (by decide) (by decide) ?_
      exact k15 _ (Or.inr ⟨rfl, hc7⟩)
  intro b hb
  refine Go.istoreN C X at_15 (n := 16) rfl (l' := #[.val (.int p0), .val (.int p1), .val (.int (p0 &&& (3 : Int32))), .val (.int b), .unset, .unset]) rfl ?_
  refine Go.iloadN C X at_16 (n := 17) rfl rfl ?_
  refine Go.if0_ne C X at_17 (n1 := 31) (n2 := 20) (by decide) (by decide) rfl (fun hc17 => ?_) (fun hc17 => ?_)
  · refine Go.iloadN C X at_31 (n := 32) rfl rfl ?_
    refine Go.iconst C X at_32 (n := 33) rfl (v := (1 : Int32)) rfl ?_
    refine Go.icmp_ne C X at_33 (n1 := 47) (n2 := 36) (by decide) (by decide) rfl (fun hc33 => ?_) (fun hc33 => ?_)
    · refine Go.iloadN C X at_47 (n := 48) rfl rfl ?_
      refine Go.iconst C X at_48 (n := 49) rfl (v := (2 : Int32)) rfl ?_
      refine Go.icmp_ne C X at_49 (n1 := 71) (n2 := 52) (by decide) (by decide) rfl (fun hc49 => ?_) (fun hc49 => ?_)
      · refine Go.getS C X eT (wd hw 16 rfl) Via.refl S_aS at_71 (n := 74) rfl ?_
        clear X eT
        intro T X eT
        refine Go.astore C X at_74 (n := 76) rfl rfl (l' := #[.val (.int p0), .val (.int p1), .val (.int (p0 &&& (3 : Int32))), .val (.int b), .val (.ref aS), .unset]) rfl ?_
        refine Go.iloadN C X at_76 (n := 77) rfl rfl ?_
        refine Go.istore C X at_77 (n := 79) rfl (l' := #[.val (.int p0), .val (.int p1), .val (.int (p0 &&& (3 : Int32))), .val (.int b), .val (.ref aS), .val (.int b)]) rfl ?_
        refine Go.aload C X at_79 (n := 81) rfl rfl rfl ?_
        refine Go.iloadN C X at_81 (n := 82) rfl rfl ?_
        refine Go.virt C X eT (argsL := [.int b]) (rest := []) (rm1 l Z a0 hw aS b 1 0 h F1_aS F2_aS (by decide) (by decide)) (wd hw 3 rfl) (wd hw 4 rfl) (notFace_of_selects (args := #[]) (mvT C.hZ (wd hw 6 rfl))) (wd hw 6 rfl) (wd hw 5 rfl) (wd hw 1 rfl) (wd hw 7 rfl) (by decide) E_aS (lenOf pd_1 rfl) rfl at_82 (n := 85) rfl rfl (by decide) rfl (by decide) (by decide) (by decide) ?_
        clear X eT
        intro T h v L X eT hQ
        obtain ⟨rfl, rfl, rfl⟩ := hQ
        show Go p e below _ (T.setTop (mkF m 85 #[.val (.int p0), .val (.int p1), .val (.int (p0 &&& (3 : Int32))), .val (.int b), .val (.ref aS), .val (.int b)] [(.int (if b = 0 then 0 else 1))]))
        refine Go.iload C X at_85 (n := 87) rfl rfl ?_
        refine Go.icmp_ne C X at_87 (n1 := 94) (n2 := 90) (by decide) (by decide) rfl (fun hc87 => ?_) (fun hc87 => ?_)
        · refine Go.iconst C X at_94 (n := 95) rfl (v := (0 : Int32)) rfl ?_
          refine Go.retN C X eT (Or.inl rfl) (w := (0 : Int32)) (by decide) at_95 (by decide) (by decide) ?_
          exfalso
          rcases hb with ⟨rfl, hb⟩ | ⟨rfl, hb⟩ <;> simp_all
        · refine Go.iconst C X at_90 (n := 91) rfl (v := (1 : Int32)) rfl ?_
          refine Go.goto C X at_91 (n := 95) (by decide) (by decide) ?_
          refine Go.retN C X eT (Or.inl rfl) (w := (1 : Int32)) (by decide) at_95 (by decide) (by decide) ?_
          exact ⟨rfl, Fr.nil _⟩
      · refine Go.getS C X eT (wd hw 10 rfl) Via.refl S_aE at_52 (n := 55) rfl ?_
        clear X eT
        intro T X eT
        refine Go.astore C X at_55 (n := 57) rfl rfl (l' := #[.val (.int p0), .val (.int p1), .val (.int (p0 &&& (3 : Int32))), .val (.int b), .val (.ref aE), .unset]) rfl ?_
        refine Go.iloadN C X at_57 (n := 58) rfl rfl ?_
        refine Go.if0_ne C X at_58 (n1 := 65) (n2 := 61) (by decide) (by decide) rfl (fun hc58 => ?_) (fun hc58 => ?_)
        · refine Go.iconst C X at_65 (n := 66) rfl (v := (0 : Int32)) rfl ?_
          refine Go.istore C X at_66 (n := 68) rfl (l' := #[.val (.int p0), .val (.int p1), .val (.int (p0 &&& (3 : Int32))), .val (.int b), .val (.ref aE), .val (.int (0 : Int32))]) rfl ?_
          refine Go.goto C X at_68 (n := 79) (by decide) (by decide) ?_
          refine Go.aload C X at_79 (n := 81) rfl rfl rfl ?_
          refine Go.iloadN C X at_81 (n := 82) rfl rfl ?_
          refine Go.virt C X eT (argsL := [.int b]) (rest := []) (rm1 l Z a0 hw aE b 0 1 h F1_aE F2_aE (by decide) (by decide)) (wd hw 3 rfl) (wd hw 4 rfl) (notFace_of_selects (args := #[]) (mvT C.hZ (wd hw 6 rfl))) (wd hw 6 rfl) (wd hw 5 rfl) (wd hw 1 rfl) (wd hw 7 rfl) (by decide) E_aE (lenOf pd_1 rfl) rfl at_82 (n := 85) rfl rfl (by decide) rfl (by decide) (by decide) (by decide) ?_
          clear X eT
          intro T h v L X eT hQ
          obtain ⟨rfl, rfl, rfl⟩ := hQ
          show Go p e below _ (T.setTop (mkF m 85 #[.val (.int p0), .val (.int p1), .val (.int (p0 &&& (3 : Int32))), .val (.int b), .val (.ref aE), .val (.int (0 : Int32))] [(.int (if b = 0 then 1 else 0))]))
          refine Go.iload C X at_85 (n := 87) rfl rfl ?_
          refine Go.icmp_ne C X at_87 (n1 := 94) (n2 := 90) (by decide) (by decide) rfl (fun hc87 => ?_) (fun hc87 => ?_)
          · refine Go.iconst C X at_94 (n := 95) rfl (v := (0 : Int32)) rfl ?_
            refine Go.retN C X eT (Or.inl rfl) (w := (0 : Int32)) (by decide) at_95 (by decide) (by decide) ?_
            exfalso
            rcases hb with ⟨rfl, hb⟩ | ⟨rfl, hb⟩ <;> simp_all
          · refine Go.iconst C X at_90 (n := 91) rfl (v := (1 : Int32)) rfl ?_
            refine Go.goto C X at_91 (n := 95) (by decide) (by decide) ?_
            refine Go.retN C X eT (Or.inl rfl) (w := (1 : Int32)) (by decide) at_95 (by decide) (by decide) ?_
            exact ⟨rfl, Fr.nil _⟩
        · refine Go.iconst C X at_61 (n := 62) rfl (v := (1 : Int32)) rfl ?_
          refine Go.goto C X at_62 (n := 66) (by decide) (by decide) ?_
          refine Go.istore C X at_66 (n := 68) rfl (l' := #[.val (.int p0), .val (.int p1), .val (.int (p0 &&& (3 : Int32))), .val (.int b), .val (.ref aE), .val (.int (1 : Int32))]) rfl ?_
          refine Go.goto C X at_68 (n := 79) (by decide) (by decide) ?_
          refine Go.aload C X at_79 (n := 81) rfl rfl rfl ?_
          refine Go.iloadN C X at_81 (n := 82) rfl rfl ?_
          refine Go.virt C X eT (argsL := [.int b]) (rest := []) (rm1 l Z a0 hw aE b 0 1 h F1_aE F2_aE (by decide) (by decide)) (wd hw 3 rfl) (wd hw 4 rfl) (notFace_of_selects (args := #[]) (mvT C.hZ (wd hw 6 rfl))) (wd hw 6 rfl) (wd hw 5 rfl) (wd hw 1 rfl) (wd hw 7 rfl) (by decide) E_aE (lenOf pd_1 rfl) rfl at_82 (n := 85) rfl rfl (by decide) rfl (by decide) (by decide) (by decide) ?_
          clear X eT
          intro T h v L X eT hQ
          obtain ⟨rfl, rfl, rfl⟩ := hQ
          show Go p e below _ (T.setTop (mkF m 85 #[.val (.int p0), .val (.int p1), .val (.int (p0 &&& (3 : Int32))), .val (.int b), .val (.ref aE), .val (.int (1 : Int32))] [(.int (if b = 0 then 1 else 0))]))
          refine Go.iload C X at_85 (n := 87) rfl rfl ?_
          refine Go.icmp_ne C X at_87 (n1 := 94) (n2 := 90) (by decide) (by decide) rfl (fun hc87 => ?_) (fun hc87 => ?_)
          · refine Go.iconst C X at_94 (n := 95) rfl (v := (0 : Int32)) rfl ?_
            refine Go.retN C X eT (Or.inl rfl) (w := (0 : Int32)) (by decide) at_95 (by decide) (by decide) ?_
            exfalso
            rcases hb with ⟨rfl, hb⟩ | ⟨rfl, hb⟩ <;> simp_all
          · refine Go.iconst C X at_90 (n := 91) rfl (v := (1 : Int32)) rfl ?_
            refine Go.goto C X at_91 (n := 95) (by decide) (by decide) ?_
            refine Go.retN C X eT (Or.inl rfl) (w := (1 : Int32)) (by decide) at_95 (by decide) (by decide) ?_
            exact ⟨rfl, Fr.nil _⟩
    · refine Go.getS C X eT (wd hw 14 rfl) Via.refl S_aN at_36 (n := 39) rfl ?_
      clear X eT
      intro T X eT
      refine Go.astore C X at_39 (n := 41) rfl rfl (l' := #[.val (.int p0), .val (.int p1), .val (.int (p0 &&& (3 : Int32))), .val (.int b), .val (.ref aN), .unset]) rfl ?_
      refine Go.iconst C X at_41 (n := 42) rfl (v := (0 : Int32)) rfl ?_
      refine Go.istore C X at_42 (n := 44) rfl (l' := #[.val (.int p0), .val (.int p1), .val (.int (p0 &&& (3 : Int32))), .val (.int b), .val (.ref aN), .val (.int (0 : Int32))]) rfl ?_
      refine Go.goto C X at_44 (n := 79) (by decide) (by decide) ?_
      refine Go.aload C X at_79 (n := 81) rfl rfl rfl ?_
      refine Go.iloadN C X at_81 (n := 82) rfl rfl ?_
      refine Go.virt C X eT (argsL := [.int b]) (rest := []) (rm1 l Z a0 hw aN b 0 0 h F1_aN F2_aN (by decide) (by decide)) (wd hw 3 rfl) (wd hw 4 rfl) (notFace_of_selects (args := #[]) (mvT C.hZ (wd hw 6 rfl))) (wd hw 6 rfl) (wd hw 5 rfl) (wd hw 1 rfl) (wd hw 7 rfl) (by decide) E_aN (lenOf pd_1 rfl) rfl at_82 (n := 85) rfl rfl (by decide) rfl (by decide) (by decide) (by decide) ?_
      clear X eT
      intro T h v L X eT hQ
      obtain ⟨rfl, rfl, rfl⟩ := hQ
      show Go p e below _ (T.setTop (mkF m 85 #[.val (.int p0), .val (.int p1), .val (.int (p0 &&& (3 : Int32))), .val (.int b), .val (.ref aN), .val (.int (0 : Int32))] [(.int (if b = 0 then 0 else 0))]))
      refine Go.iload C X at_85 (n := 87) rfl rfl ?_
      refine Go.icmp_ne C X at_87 (n1 := 94) (n2 := 90) (by decide) (by decide) rfl (fun hc87 => ?_) (fun hc87 => ?_)
      · refine Go.iconst C X at_94 (n := 95) rfl (v := (0 : Int32)) rfl ?_
        refine Go.retN C X eT (Or.inl rfl) (w := (0 : Int32)) (by decide) at_95 (by decide) (by decide) ?_
        exfalso
        rcases hb with ⟨rfl, hb⟩ | ⟨rfl, hb⟩ <;> simp_all
      · refine Go.iconst C X at_90 (n := 91) rfl (v := (1 : Int32)) rfl ?_
        refine Go.goto C X at_91 (n := 95) (by decide) (by decide) ?_
        refine Go.retN C X eT (Or.inl rfl) (w := (1 : Int32)) (by decide) at_95 (by decide) (by decide) ?_
        exact ⟨rfl, Fr.nil _⟩
  · refine Go.getS C X eT (wd hw 0 rfl) Via.refl S_aA at_20 (n := 23) rfl ?_
    clear X eT
    intro T X eT
    refine Go.astore C X at_23 (n := 25) rfl rfl (l' := #[.val (.int p0), .val (.int p1), .val (.int (p0 &&& (3 : Int32))), .val (.int b), .val (.ref aA), .unset]) rfl ?_
    refine Go.iconst C X at_25 (n := 26) rfl (v := (1 : Int32)) rfl ?_
    refine Go.istore C X at_26 (n := 28) rfl (l' := #[.val (.int p0), .val (.int p1), .val (.int (p0 &&& (3 : Int32))), .val (.int b), .val (.ref aA), .val (.int (1 : Int32))]) rfl ?_
    refine Go.goto C X at_28 (n := 79) (by decide) (by decide) ?_
    refine Go.aload C X at_79 (n := 81) rfl rfl rfl ?_
    refine Go.iloadN C X at_81 (n := 82) rfl rfl ?_
    refine Go.virt C X eT (argsL := [.int b]) (rest := []) (rm1 l Z a0 hw aA b 1 1 h F1_aA F2_aA (by decide) (by decide)) (wd hw 3 rfl) (wd hw 4 rfl) (notFace_of_selects (args := #[]) (mvT C.hZ (wd hw 6 rfl))) (wd hw 6 rfl) (wd hw 5 rfl) (wd hw 1 rfl) (wd hw 7 rfl) (by decide) E_aA (lenOf pd_1 rfl) rfl at_82 (n := 85) rfl rfl (by decide) rfl (by decide) (by decide) (by decide) ?_
    clear X eT
    intro T h v L X eT hQ
    obtain ⟨rfl, rfl, rfl⟩ := hQ
    show Go p e below _ (T.setTop (mkF m 85 #[.val (.int p0), .val (.int p1), .val (.int (p0 &&& (3 : Int32))), .val (.int b), .val (.ref aA), .val (.int (1 : Int32))] [(.int (if b = 0 then 1 else 1))]))
    refine Go.iload C X at_85 (n := 87) rfl rfl ?_
    refine Go.icmp_ne C X at_87 (n1 := 94) (n2 := 90) (by decide) (by decide) rfl (fun hc87 => ?_) (fun hc87 => ?_)
    · refine Go.iconst C X at_94 (n := 95) rfl (v := (0 : Int32)) rfl ?_
      refine Go.retN C X eT (Or.inl rfl) (w := (0 : Int32)) (by decide) at_95 (by decide) (by decide) ?_
      exfalso
      rcases hb with ⟨rfl, hb⟩ | ⟨rfl, hb⟩ <;> simp_all
    · refine Go.iconst C X at_90 (n := 91) rfl (v := (1 : Int32)) rfl ?_
      refine Go.goto C X at_91 (n := 95) (by decide) (by decide) ?_
      refine Go.retN C X eT (Or.inl rfl) (w := (1 : Int32)) (by decide) at_95 (by decide) (by decide) ?_
      exact ⟨rfl, Fr.nil _⟩
set_option maxRecDepth 65536 in
set_option maxHeartbeats 40000000 in
theorem comes_1 {Post : Tables → Env → Array Value → State → Outcome → State → Prop} (hpost : ∀ tb e args s v u, (limb_1_1.after args s (.returned v) u = true ∧ limb_1_2.after args s (.returned v) u = true ∧ True) → FrameEnd s (.returned v) u (Jvm.fieldLocs frame_1_writes args s ++ Jvm.arrayLocs frame_1_arrays args s ++ Jvm.staticLocs frame_1_statics s) 0 0 → Post tb e args s (.returned v) u) :
    ArmFor flags0 classFile x code maxLocals ret World_1 tables_1 room_1 Calls_1 rest_1 Pre_1 Post := by
  intro l hfl _ _ p e ha hc hk s m args below hf hA hF happ hP
  obtain ⟨hcalls, hrest, hpre⟩ := hP
  obtain ⟨-, -, -, hnamed, -, -, -, hat⟩ := (Spec.applies_iff hf).mp happ
  obtain ⟨hg, hn⟩ := and_e (Cond.before_iff.mp (show (Jvm.Cond.and given_1 narrow_1).before args s = true from hpre))
  obtain ⟨hcnt, hq0⟩ := and_e hg
  obtain ⟨w0, w1, rfl⟩ : ∃ w0 w1 : Value, args = #[w0, w1] := by
    have hs : args.size = 2 := by simpa [Cond.value, given_1] using hcnt
    obtain ⟨L⟩ := args
    match L, hs with
    | [w0, w1], _ => exact ⟨w0, w1, rfl⟩
  have hw := fun d (hd : d ∈ tables_1) => atoms_spec (ws := Jvm.Cond.code x code maxLocals ret :: tables_1) hat d (List.mem_cons_of_mem _ hd)
  have hfit : Fit s := fun {y c} hc i hi => by
    obtain ⟨ha, rfl⟩ := Array.getElem?_eq_some_iff.mp hc
    have q := List.all_eq_true.mp ((Array.all_eq_true_iff_forall_mem.mp hF) _ (Array.getElem_mem ha)) i (List.mem_range.mpr hi)
    simpa [Array.getElem?_eq_getElem hi] using q
  obtain ⟨ha0, hq1⟩ := and_e hq0
  obtain ⟨i0, e0⟩ := is_v ha0
  obtain rfl : w0 = (.int i0) := Option.some.inj e0
  obtain ⟨i1, e1⟩ := is_v hq1
  obtain rfl : w1 = (.int i1) := Option.some.inj e1
  obtain ⟨n0, hn⟩ := and_e hn
  obtain ⟨n1, hn⟩ := and_e hn
  obtain ⟨n2, hn⟩ := and_e hn
  obtain ⟨n3, hn⟩ := and_e hn
  obtain ⟨n4, hn⟩ := and_e hn
  obtain ⟨n5, hn⟩ := and_e hn
  obtain ⟨n6, hn⟩ := and_e hn
  obtain ⟨n7, hn⟩ := and_e hn
  obtain ⟨n8, hn⟩ := and_e hn
  obtain ⟨n9, hn⟩ := and_e hn
  obtain ⟨n10, hn⟩ := and_e hn
  obtain ⟨aA, ev_aA, S_aA, E_aA⟩ := staE n0 (wd hw 1 rfl) (wd hw 2 rfl)
  obtain ⟨aN, ev_aN, S_aN, E_aN⟩ := staE n5 (wd hw 1 rfl) (wd hw 15 rfl)
  obtain ⟨aE, ev_aE, S_aE, E_aE⟩ := staE n2 (wd hw 1 rfl) (wd hw 11 rfl)
  obtain ⟨aS, ev_aS, S_aS, E_aS⟩ := staE n8 (wd hw 1 rfl) (wd hw 17 rfl)
  obtain ⟨n, o, g1, g2, g3, _, L, rfl, ⟨rfl, N⟩, hq⟩ := rm0 l s _ hw i0 i1 s.heap s.heap.size aA S_aA E_aA (fldI ev_aA n1) (fldI ev_aA n4) aN S_aN E_aN (fldI ev_aN n6) (fldI ev_aN hn) aE S_aE E_aE (fldI ev_aE n3) (fldI ev_aE n7) aS S_aS E_aS (fldI ev_aS n10) (fldI ev_aS n9) tables_1 p e ha hc hk s m _ below hf ((Spec.applies_iff_loose hf).mp happ).1 ⟨rfl, State.Warmed39.refl s, rfl⟩ trivial
  refine ⟨n, _, g1, g2, g3, hpost _ _ _ _ _ _ ⟨Cond.after_iff.mpr rfl, Cond.after_iff.mpr (eq_i res_at (Term.int_eval (1)) rfl), trivial⟩ ⟨hq.1, hq.2.1, (hq.2.2.sift fun y hy => Or.inr (N y hy)).mono (by decide) (by decide)⟩⟩
theorem main_1_1 : Claimed_1_1 := comes_1 fun _ _ _ _ _ _ h hF => ⟨h.1, hF⟩
theorem main_1_2 : Claimed_1_2 := comes_1 fun _ _ _ _ _ _ h hF => ⟨h.2.1, hF⟩

end Jvm.Pilot.@@N@@
namespace Jvm.Pilot.@@N@@
open Jvm Jvm.ClassFile Sem Op Lib Jvm.Free Jvm.Stand Jvm.Pilot.@@N@@.Jvm.D
/-! MADE BY PROGRAM (witnessworld.py) out of the Statement's table words and the real class files: 12 classes; the members and pool entries that the words name. The judged class is class 1, her method 1. -/
namespace start1
open Jvm.ClassFile
def u (s : String) : CpInfo := .utf8 (stringToUtf16 s)
/-- a pool by its gaps: so many unusable entries, then the entry; so many at the end -/
def gap : Nat → List CpInfo → List CpInfo
  | 0, r => r
  | n + 1, r => .unusable :: gap n r
def poolList (es : List (Nat × CpInfo)) (last : Nat) : List CpInfo := es.foldr (fun e r => gap e.1 (e.2 :: r)) (gap last [])
def pool (es : List (Nat × CpInfo)) (last : Nat) : Array CpInfo := ⟨poolList es last⟩
def fileOf (pool : Array CpInfo) (this : Nat) (attrs : Array Attribute := #[]) (ms : Array MethodInfo := #[]) (fl : Nat := 33) (sup : Nat := 0) (ifs : Array Nat := #[]) (fds : Array FieldInfo := #[]) : ClassFile where
  minorVersion := 0
  majorVersion := 65
  constantPool := pool
  accessFlags := fl
  thisClass := this
  superClass := sup
  interfaces := ifs
  fields := fds
  methods := ms
  attributes := attrs
def plain (name : String) (sup : Option ClassId) : Class where
  name := name
  kind := .ordinary
  loader := none
  accessFlags := 33
  super := sup
  interfaces := #[]
  cf := none
  fields := #[]
  methods := #[]
  instanceTypes := #[]
  staticTypes := #[]
  resolved := #[]
  callSites := []
  init := .initialized
  statics := none
  mirror := none

def pool0 : Array CpInfo := pool [(5, u "<init>"), (0, u "()V"), (1, .class_ 10), (1, u "java/lang/Object")] 113

def k0m0 : Method := { name := "<init>", desc := "()V", sig := { parameters := [], returnType := none }, accessFlags := 1, code := none }
/-- java/lang/Object -/
def k0 : Class := { plain "java/lang/Object" none with
  accessFlags := 33
  interfaces := #[]
  cf := some (fileOf pool0 8 #[] #[{ accessFlags := 1, nameIndex := 5, descriptorIndex := 6, attributes := #[] }] 33 0 #[] #[])
  fields := #[]
  methods := #[k0m0]
  instanceTypes := #[]
  staticTypes := #[]
  resolved := Array.replicate 124 none
  statics := none }

def pool1 : Array CpInfo := pool [(2, .class_ 4), (1, u "java/lang/Object"), (0, u "<init>"), (0, u "()V"), (0, .fieldref 8 9), (0, .class_ 10), (0, .nameAndType 11 12), (0, u "com/example/vaxwire/vaxwire/hl7/AcknowledgementCondition"), (0, u "ALWAYS"), (0, u "Lcom/example/vaxwire/vaxwire/hl7/AcknowledgementCondition;"), (0, .fieldref 8 14), (0, .nameAndType 15 12), (0, u "NEVER"), (0, .fieldref 8 17), (0, .nameAndType 18 12), (0, u "ERROR"), (0, .fieldref 8 20), (0, .nameAndType 21 12), (0, u "SUCCESS"), (0, .methodref 8 23), (0, .nameAndType 24 25), (0, u "asks"), (0, u "(Z)Z"), (0, .class_ 27), (0, u "com/example/vaxwire/vaxwire/hl7/AcknowledgementConditionAsksPinLaw"), (2, u "law"), (0, u "(II)Z")] 3

def k1m0 : Method := { name := "<init>", desc := "()V", sig := { parameters := [], returnType := none }, accessFlags := 1, code := none }
def k1c1 : Code := { maxStack := 2, maxLocals := 6, code := code, exceptionTable := #[], attributes := #[] }
def k1m1 : Method := { name := "law", desc := "(II)Z", sig := { parameters := [.int, .int], returnType := some .boolean }, accessFlags := 9, code := some k1c1 }
/-- com/example/vaxwire/vaxwire/hl7/AcknowledgementConditionAsksPinLaw -/
def k1 : Class := { plain "com/example/vaxwire/vaxwire/hl7/AcknowledgementConditionAsksPinLaw" (some 0) with
  accessFlags := 49
  interfaces := #[]
  cf := some (fileOf pool1 26 #[] #[{ accessFlags := 1, nameIndex := 5, descriptorIndex := 6, attributes := #[] }, { accessFlags := 9, nameIndex := 30, descriptorIndex := 31, attributes := #[] }] 49 2 #[] #[])
  fields := #[]
  methods := #[k1m0, k1m1]
  instanceTypes := #[]
  staticTypes := #[]
  resolved := Array.replicate 35 none
  statics := none }

def pool2 : Array CpInfo := pool [(1, .class_ 2), (0, u "java/lang/constant/Constable"), (0, .class_ 4), (0, u "java/lang/Object")] 6

/-- java/lang/constant/Constable -/
def k2 : Class := { plain "java/lang/constant/Constable" (some 0) with
  accessFlags := 1537
  interfaces := #[]
  cf := some (fileOf pool2 1 #[] #[] 1537 3 #[] #[])
  fields := #[]
  methods := #[]
  instanceTypes := #[]
  staticTypes := #[]
  resolved := Array.replicate 11 none
  statics := none }

def pool3 : Array CpInfo := pool [(1, .class_ 2), (0, u "java/lang/Comparable"), (0, .class_ 4), (0, u "java/lang/Object")] 7

/-- java/lang/Comparable -/
def k3 : Class := { plain "java/lang/Comparable" (some 0) with
  accessFlags := 1537
  interfaces := #[]
  cf := some (fileOf pool3 1 #[] #[] 1537 3 #[] #[])
  fields := #[]
  methods := #[]
  instanceTypes := #[]
  staticTypes := #[]
  resolved := Array.replicate 12 none
  statics := none }

def pool4 : Array CpInfo := pool [(1, .class_ 2), (0, u "java/io/Serializable"), (0, .class_ 4), (0, u "java/lang/Object")] 2

/-- java/io/Serializable -/
def k4 : Class := { plain "java/io/Serializable" (some 0) with
  accessFlags := 1537
  interfaces := #[]
  cf := some (fileOf pool4 1 #[] #[] 1537 3 #[] #[])
  fields := #[]
  methods := #[]
  instanceTypes := #[]
  staticTypes := #[]
  resolved := Array.replicate 7 none
  statics := none }

def pool5 : Array CpInfo := pool [(2, .class_ 4), (1, u "java/lang/Enum"), (0, u "name"), (0, u "Ljava/lang/String;"), (2, u "ordinal"), (0, u "I"), (1, .class_ 14), (1, u "java/lang/Object"), (4, u "hash"), (86, .class_ 108), (1, u "java/lang/Enum$EnumDesc"), (2, .class_ 112), (0, u "java/lang/constant/Constable"), (0, .class_ 114), (0, u "java/lang/Comparable"), (0, .class_ 116), (0, u "java/io/Serializable")] 87

/-- java/lang/Enum -/
def k5 : Class := { plain "java/lang/Enum" (some 0) with
  accessFlags := 1057
  interfaces := #[2, 3, 4]
  cf := some (fileOf pool5 2 #[.nestMembers #[106]] #[] 1057 12 #[111, 113, 115] #[{ accessFlags := 18, nameIndex := 5, descriptorIndex := 6, attributes := #[] }, { accessFlags := 18, nameIndex := 9, descriptorIndex := 10, attributes := #[] }, { accessFlags := 2, nameIndex := 19, descriptorIndex := 10, attributes := #[] }])
  fields := #[{ name := "name", type := (.object "java/lang/String"), accessFlags := 18, slot := 0, constantValue := 0 }, { name := "ordinal", type := .int, accessFlags := 18, slot := 1, constantValue := 0 }, { name := "hash", type := .int, accessFlags := 2, slot := 2, constantValue := 0 }]
  methods := #[]
  instanceTypes := #[(.object "java/lang/String"), .int, .int]
  staticTypes := #[]
  resolved := Array.replicate 204 none
  statics := none }

def pool6 : Array CpInfo := pool [(1, .class_ 2), (0, u "com/example/vaxwire/vaxwire/hl7/AcknowledgementCondition"), (2, u "ALWAYS"), (0, u "Lcom/example/vaxwire/vaxwire/hl7/AcknowledgementCondition;"), (2, u "NEVER"), (2, u "ERROR"), (2, u "SUCCESS"), (2, u "$VALUES"), (0, u "[Lcom/example/vaxwire/vaxwire/hl7/AcknowledgementCondition;"), (6, .class_ 28), (1, u "java/lang/Enum"), (8, u "code"), (0, u "Ljava/lang/String;"), (0, .fieldref 1 40), (0, .nameAndType 41 42), (0, u "onSuccess"), (0, u "Z"), (0, .fieldref 1 44), (0, .nameAndType 45 42), (0, u "onFailure"), (49, u "asks"), (0, u "(Z)Z")] 5

def k6c0 : Code := { maxStack := 1, maxLocals := 2, code := prog_47_method_6_code, exceptionTable := #[], attributes := #[] }
def k6m0 : Method := { name := "asks", desc := "(Z)Z", sig := { parameters := [.boolean], returnType := some .boolean }, accessFlags := 1, code := some k6c0 }
/-- com/example/vaxwire/vaxwire/hl7/AcknowledgementCondition -/
def k6 : Class := { plain "com/example/vaxwire/vaxwire/hl7/AcknowledgementCondition" (some 5) with
  accessFlags := 16433
  interfaces := #[]
  cf := some (fileOf pool6 1 #[] #[{ accessFlags := 1, nameIndex := 95, descriptorIndex := 96, attributes := #[] }] 16433 26 #[] #[{ accessFlags := 16409, nameIndex := 5, descriptorIndex := 6, attributes := #[] }, { accessFlags := 16409, nameIndex := 9, descriptorIndex := 6, attributes := #[] }, { accessFlags := 16409, nameIndex := 12, descriptorIndex := 6, attributes := #[] }, { accessFlags := 16409, nameIndex := 15, descriptorIndex := 6, attributes := #[] }, { accessFlags := 18, nameIndex := 37, descriptorIndex := 38, attributes := #[] }, { accessFlags := 18, nameIndex := 41, descriptorIndex := 42, attributes := #[] }, { accessFlags := 18, nameIndex := 45, descriptorIndex := 42, attributes := #[] }, { accessFlags := 4122, nameIndex := 18, descriptorIndex := 19, attributes := #[] }])
  fields := #[{ name := "ALWAYS", type := (.object "com/example/vaxwire/vaxwire/hl7/AcknowledgementCondition"), accessFlags := 16409, slot := 0, constantValue := 0 }, { name := "NEVER", type := (.object "com/example/vaxwire/vaxwire/hl7/AcknowledgementCondition"), accessFlags := 16409, slot := 1, constantValue := 0 }, { name := "ERROR", type := (.object "com/example/vaxwire/vaxwire/hl7/AcknowledgementCondition"), accessFlags := 16409, slot := 2, constantValue := 0 }, { name := "SUCCESS", type := (.object "com/example/vaxwire/vaxwire/hl7/AcknowledgementCondition"), accessFlags := 16409, slot := 3, constantValue := 0 }, { name := "code", type := (.object "java/lang/String"), accessFlags := 18, slot := 3, constantValue := 0 }, { name := "onSuccess", type := .boolean, accessFlags := 18, slot := 4, constantValue := 0 }, { name := "onFailure", type := .boolean, accessFlags := 18, slot := 5, constantValue := 0 }, { name := "$VALUES", type := (.array (.object "com/example/vaxwire/vaxwire/hl7/AcknowledgementCondition")), accessFlags := 4122, slot := 4, constantValue := 0 }]
  methods := #[k6m0]
  instanceTypes := #[(.object "java/lang/String"), .int, .int, (.object "java/lang/String"), .boolean, .boolean]
  staticTypes := #[(.object "com/example/vaxwire/vaxwire/hl7/AcknowledgementCondition"), (.object "com/example/vaxwire/vaxwire/hl7/AcknowledgementCondition"), (.object "com/example/vaxwire/vaxwire/hl7/AcknowledgementCondition"), (.object "com/example/vaxwire/vaxwire/hl7/AcknowledgementCondition"), (.array (.object "com/example/vaxwire/vaxwire/hl7/AcknowledgementCondition"))]
  resolved := Array.replicate 102 none
  statics := some 0 }

def pool7 : Array CpInfo := pool [(1, u "java/lang/Cloneable"), (0, .class_ 1), (0, u "java/lang/Object"), (0, .class_ 3)] 3

/-- java/lang/Cloneable -/
def k7 : Class := { plain "java/lang/Cloneable" (some 0) with
  accessFlags := 1537
  interfaces := #[]
  cf := some (fileOf pool7 2 #[] #[] 1537 4 #[] #[])
  fields := #[]
  methods := #[]
  instanceTypes := #[]
  staticTypes := #[]
  resolved := Array.replicate 8 none
  statics := none }

/-- the primitive byte -/
def k8 : Class := { plain "byte" none with kind := .primitive 'B', accessFlags := 0x411 }
/-- [B -/
def k9 : Class := { plain "[B" (some 0) with kind := .array 8 .byte, interfaces := #[7, 4], accessFlags := 1041 }

/-- the primitive int -/
def k10 : Class := { plain "int" none with kind := .primitive 'I', accessFlags := 0x411 }
/-- [I -/
def k11 : Class := { plain "[I" (some 0) with kind := .array 10 .int, interfaces := #[7, 4], accessFlags := 1041 }

def heap : Heap := #[{ cls := 6, slots := #[.ref 1, .ref 2, .ref 3, .ref 4, .null], vm := .statics 6 },
  { cls := 6, slots := #[.null, .int 0, .int 0, .null, .int 1, .int 1], vm := .none },
  { cls := 6, slots := #[.null, .int 1, .int 0, .null, .int 0, .int 0], vm := .none },
  { cls := 6, slots := #[.null, .int 2, .int 0, .null, .int 0, .int 1], vm := .none },
  { cls := 6, slots := #[.null, .int 3, .int 0, .null, .int 1, .int 0], vm := .none }]
def classes : Array Class := #[k0, k1, k2, k3, k4, k5, k6, k7, k8, k9, k10, k11]
def interned : List (Array UInt16 × Addr) := []
def slotsUsed : Nat := 29
def theMethod : MethodId := ⟨1, 1⟩
def args0 : Array Value := #[.int 5, .int 3]
def aboutOver (below : List Frame) : State where
  vm := { classes := classes, interned := interned.toArray }
  heap := heap
  slotsUsed := slotsUsed
  threads := #[{ frames := .invoking theMethod args0 :: below }]
def below0 : List Frame := [.native { method := ⟨0, 0⟩, args := #[] }]
def about1 : State := aboutOver below0
def p0 : Program := .bare "" "" ""
def e0 : Env := launch0.env 0 0 0
theorem w_frames : about1.frames = Frame.invoking theMethod args0 :: below0 := rfl
set_option maxRecDepth 65536 in
theorem w_args : argsFit about1.vm theMethod args0 = true := by decide +kernel
set_option maxRecDepth 65536 in
theorem w_heap : heapFits about1 = true := by decide +kernel
set_option maxRecDepth 65536 in
theorem w_runnable : about1.curStatus? = some .runnable := by decide +kernel
set_option maxRecDepth 65536 in
theorem w_alone : about1.alone = true := by decide +kernel
set_option maxRecDepth 65536 in
theorem w_named : about1.methodNamed? x = some theMethod := by decide +kernel
set_option maxRecDepth 65536 in
theorem w_hears : about1.hears theMethod below0 = true := by decide +kernel
set_option maxRecDepth 65536 in
theorem w_ripe : about1.ripe theMethod args0 below0 = true := by decide +kernel
theorem w_running : about1.status = .running := rfl
set_option maxRecDepth 65536 in
theorem w_room : about1.hasRoom e0.platform room_1 = true :=
  launch0.hasRoom_least _ room_1 (by decide +kernel) (by decide +kernel) (by decide +kernel) (by decide +kernel) (by decide +kernel) (by decide +kernel)
theorem allAtoms_all (ts : List Jvm.Cond) (a : Array Jvm.Value) (st : Jvm.State) : (allAtoms ts).before a st = ts.all (fun c => c.before a st) := by
  induction ts with
  | nil => rfl
  | cons c t ih =>
    show (Jvm.Cond.and c (allAtoms t)).before a st = _
    rw [Jvm.Cond.before_and, ih, List.all_cons]
def words1 : List Jvm.Cond := Jvm.Cond.code x code maxLocals ret :: tables_1
/-- a 'code' word, met by the world's own term for the bytes: nothing is compared byte by byte -/
theorem code_word {y : MethodName} {bytes : ByteArray} {mx : Nat} {rt : Option FieldType} {a : Array Value} {s : State} {m : MethodId} {meth : Method} {c : Code} (h1 : s.methodNamed? y = some m) (h2 : s.vm.method? m = some meth) (h3 : meth.code = some c) (h4 : c.code = bytes)
    (h5 : (c.maxLocals == mx && c.exceptionTable.isEmpty && decide (c.maxStack ≤ mostOperands) && decide (meth.sig.returnType = rt) && !meth.locks && decide (parseMethodDescriptor y.desc = some meth.sig)) = true) : (Jvm.Cond.code y bytes mx rt).before a s = true := by
  simp only [Bool.and_eq_true, beq_iff_eq, Bool.not_eq_true', decide_eq_true_eq] at h5
  obtain ⟨⟨⟨⟨⟨g1, g2⟩, g3⟩, g4⟩, g5⟩, g6⟩ := h5
  simp [Cond.before, Cond.holds, Cond.value, h1, h2, h3, h4, g1, g2, g3, g4, g5, g6]
def isCode : Jvm.Cond → Bool
  | .code _ _ _ _ => true
  | _ => false
theorem all_split {L : List Jvm.Cond} {P : Jvm.Cond → Bool} (h1 : L.all (fun c => isCode c || P c) = true) (h2 : ∀ c ∈ L.filter isCode, P c = true) : L.all P = true := by
  refine List.all_eq_true.mpr fun c hc => ?_
  have h := List.all_eq_true.mp h1 c hc
  rcases Bool.eq_false_or_eq_true (isCode c) with hi | hi
  · exact h2 c (List.mem_filter.mpr ⟨hc, hi⟩)
  · simpa [hi] using h
set_option maxRecDepth 65536 in
theorem w_c0 : (Jvm.Cond.code x code maxLocals ret).before args0 about1 = true := code_word (m := ⟨1, 1⟩) (meth := k1m1) (c := k1c1) (by decide +kernel) rfl rfl rfl (by decide +kernel)
set_option maxRecDepth 65536 in
theorem w_c1 : (Jvm.Cond.code ({ cls := "com/example/vaxwire/vaxwire/hl7/AcknowledgementCondition", name := "asks", desc := "(Z)Z" } : Jvm.MethodName) prog_47_method_6_code (2 : Nat) (Option.some Jvm.ClassFile.FieldType.boolean)).before args0 about1 = true := code_word (m := ⟨6, 0⟩) (meth := k6m0) (c := k6c0) (by decide +kernel) rfl rfl rfl (by decide +kernel)
def codes1 : List Jvm.Cond := [Jvm.Cond.code x code maxLocals ret, Jvm.Cond.code ({ cls := "com/example/vaxwire/vaxwire/hl7/AcknowledgementCondition", name := "asks", desc := "(Z)Z" } : Jvm.MethodName) prog_47_method_6_code (2 : Nat) (Option.some Jvm.ClassFile.FieldType.boolean)]
set_option maxRecDepth 65536 in
theorem codes_eq : words1.filter isCode = codes1 := rfl
theorem w_codes : ∀ c ∈ words1.filter isCode, c.before args0 about1 = true := by
  rw [codes_eq]
  intro c hc
  simp only [codes1, List.mem_cons, List.not_mem_nil, or_false] at hc
  rcases hc with rfl | rfl
  · exact w_c0
  · exact w_c1
set_option maxRecDepth 65536 in
theorem w_t1 : words1.all (fun c => isCode c || c.before args0 about1) = true := by decide +kernel
theorem w_tables : (allAtoms (Jvm.Cond.code x code maxLocals ret :: tables_1)).before args0 about1 = true := by
  rw [allAtoms_all]
  show words1.all (fun c => c.before args0 about1) = true
  refine all_split ?_ w_codes
  rw [w_t1]
set_option maxRecDepth 65536 in
theorem w_case : (Jvm.Cond.and given_1 narrow_1).before args0 about1 = true := by decide +kernel
theorem w_applies : (headSpec (Jvm.Cond.code x code maxLocals ret :: tables_1) room_1).applies x e0.platform about1 = true :=
  (Spec.applies_iff w_frames).mpr ⟨w_running, w_runnable, w_alone, w_named, w_hears, w_ripe, w_room, w_tables⟩
theorem atStart : AtStart classFile x code maxLocals ret World_1 tables_1 room_1 Calls_1 rest_1 Pre_1 launch0 p0 e0 about1 theMethod args0 below0 :=
  ⟨lists_1, trivial, launch0.admits_env _ _ _, launch0.least_env, fairChoices_fair.cas, fairChoices_fair.clock, w_frames, w_args, w_heap, w_applies, trivial, trivial, w_case⟩
end start1
theorem witness_1 : WitnessClaimed_1 := ⟨start1.p0, start1.e0, start1.about1, start1.theMethod, start1.args0, start1.below0, start1.atStart⟩
end Jvm.Pilot.@@N@@
